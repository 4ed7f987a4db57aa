import JvmDerived
import JvmDerived.Pilot.@@N@@Statement
import JvmDerived.Pilot.@@N@@Code
set_option linter.unusedVariables false
set_option linter.unusedSimpArgs false
namespace Jvm.Pilot.@@N@@.OwnKit
open Jvm Sem ClassFile Op Lib Jvm.Stand Jvm.Free Jvm.LawKit Jvm.RoadKit
section New
variable {p : Program} {l : Launch} {e : Env} {R : Room} {s : State} {m : MethodId} {args : Array Value} {below : List Frame} {meth : Method} {c : Code} {T : State} {locs : List Loc} {cells slots : Nat}
theorem retI (X : Stand p l e R s m args below meth c T locs cells slots) (hx : p.tables.exec = Jvm.exec) {pc : Nat} {Ls : Array Slot} {z : Int32} {rest : List Value} (hret : meth.sig.returnType = some .int) (hd : decode c.code pc = .ok (.ireturn, 1)) {fs : List Frame}
    (hl : ∀ (f : JFrame) (acts : List Action), f.method = m → f.locked = none → f.entered = [] → (doReturn e (T.setTop f) acts (some (.int z))).1 = T.setFrames fs) : Steps p.tables e below (T.setTop (mkF m pc Ls (.int z :: rest))) (T.setFrames fs) :=
  retOut X hx hret rfl (Or.inl ⟨rfl, Or.inl rfl, _, rfl⟩) hd hl
theorem lremM {g : JFrame} {target : State} (X : Stand p l e R s m args below meth c T locs cells slots) (hx : p.tables.exec = Jvm.exec) (hg : g.method = m) {x y : Int64} {rest : List Value} (hd : decode c.code g.pc = .ok (.lrem, 1)) (hs : g.stack = .long y :: .long x :: rest) (hy : y ≠ 0)
    (hr : Steps p.tables e below (T.setTop { g with pc := g.pc + 1, stack := .long (x % y) :: rest }) target) : Steps p.tables e below (T.setTop g) target := by
  have q : x - x / y * y = x % y := by
    have g1 := rng64 (x % y)
    have g2 : (x % y).toInt = x.toInt.tmod y.toInt := Int64.toInt_mod x y
    have g3 := Int.tmod_def x.toInt y.toInt
    have g4 : (x / y).toInt = (x.toInt.tdiv y.toInt).bmod (2 ^ 64) := Int64.toInt_div x y
    apply Int64.toInt_inj.mp
    rw [Int64.toInt_sub, Int64.toInt_mul, g4, Int.bmod_mul_bmod, Int.sub_bmod_bmod, Int.mul_comm (x.toInt.tdiv y.toInt), ← g3, ← g2]
    exact Int.bmod_eq_of_le_mul_two (by omega) (by omega)
  exact XS.lrem X.here hx hg hd hs hy (by rw [q]; exact hr)
end New
/-- from here the run ends, and as G says -/
def Goes (tb : Tables) (e : Env) (below : List Frame) (t : State) (G : State → Outcome → Prop) : Prop := ∃ s₂ o, Steps tb e below t s₂ ∧ s₂.status = .running ∧ Ended s₂ below o ∧ G s₂ o
variable {tb : Tables} {e : Env} {below : List Frame} {t t' : State} {G : State → Outcome → Prop}
theorem Goes.by (k : ∀ u, Steps tb e below t' u → Steps tb e below t u) (h : Goes tb e below t' G) : Goes tb e below t G := by
  obtain ⟨s₂, o, h1, h2⟩ := h; exact ⟨s₂, o, k _ h1, h2⟩
theorem Goes.via (k : Steps tb e below t t') (h : Goes tb e below t' G) : Goes tb e below t G := by
  obtain ⟨s₂, o, h1, h2⟩ := h; exact ⟨s₂, o, k.trans h1, h2⟩
theorem Goes.cut {α : Type} {K : α → State} {C : α → Prop} (h1 : (∀ x, C x → Goes tb e below (K x) G) → Goes tb e below t G) (h2 : ∀ x, C x → Goes tb e below (K x) G) : Goes tb e below t G := h1 h2
theorem Goes.loop {α : Type} (μ : α → Nat) {K : α → State} {C : α → Prop} (step : ∀ x, C x → (∀ y, μ y < μ x → C y → Goes tb e below (K y) G) → Goes tb e below (K x) G) : ∀ x, C x → Goes tb e below (K x) G := by
  intro x
  induction hn : μ x using Nat.strongRecOn generalizing x with
  | _ n ih => intro hC; exact step x hC (fun y hy hCy => ih (μ y) (hn ▸ hy) y rfl hCy)
theorem jl_t {x y : Int64} (h : x < y) : ifCond.holds .lt (lcmpW x y) = true ∧ ifCond.holds .ge (lcmpW x y) = false := ⟨(if0 _ _).trans (tlt ((lw_lt x y).mpr h)).1, (if0 _ _).trans (tlt ((lw_lt x y).mpr h)).2.1⟩
theorem jl_f {x y : Int64} (h : ¬ x < y) : ifCond.holds .lt (lcmpW x y) = false ∧ ifCond.holds .ge (lcmpW x y) = true := ⟨(if0 _ _).trans (flt (fun q => h ((lw_lt x y).mp q))).1, (if0 _ _).trans (flt (fun q => h ((lw_lt x y).mp q))).2.1⟩
theorem jg_t {x y : Int64} (h : y < x) : ifCond.holds .gt (lcmpW x y) = true ∧ ifCond.holds .le (lcmpW x y) = false := ⟨(if0 _ _).trans (tlt ((lw_gt x y).mpr h)).2.2.1, (if0 _ _).trans (tlt ((lw_gt x y).mpr h)).2.2.2⟩
theorem jg_f {x y : Int64} (h : ¬ y < x) : ifCond.holds .gt (lcmpW x y) = false ∧ ifCond.holds .le (lcmpW x y) = true := ⟨(if0 _ _).trans (flt (fun q => h ((lw_gt x y).mp q))).2.2.1, (if0 _ _).trans (flt (fun q => h ((lw_gt x y).mp q))).2.2.2⟩
theorem je_t {x y : Int64} (h : x = y) : ifCond.holds .eq (lcmpW x y) = true ∧ ifCond.holds .ne (lcmpW x y) = false := ⟨(if0 _ _).trans (teq ((lw_eq x y).mpr h)).1, (if0 _ _).trans (teq ((lw_eq x y).mpr h)).2⟩
theorem je_f {x y : Int64} (h : ¬ x = y) : ifCond.holds .eq (lcmpW x y) = false ∧ ifCond.holds .ne (lcmpW x y) = true := ⟨(if0 _ _).trans (feq (fun q => h ((lw_eq x y).mp q))).1, (if0 _ _).trans (feq (fun q => h ((lw_eq x y).mp q))).2⟩
theorem selP {Z s : State} {a0 args : Array Value} {y : MethodName} {n : Nat} (hZ : Z.Warmed39 s.vm) (wi : (Cond.instantiable y.cls n).before a0 Z = true) (wp : (Cond.privateMethod y).before a0 Z = true) (win : (Cond.instanceMethod y).before a0 Z = true) (hy : y.cls ≠ "java/lang/invoke/MethodHandle" ∧ y.cls ≠ "java/lang/invoke/VarHandle") : (Cond.selects y.cls y y).before args s = true := by
  have w1 : (Cond.instantiable y.cls n).before args s = true := mv hZ wi
  obtain ⟨c, k, h1, h2, -, h4, -⟩ := Cond.instantiable_spec w1
  rw [Bool.or_eq_false_iff] at h4
  exact selects_self_of_private h1 h2 h4.1 (Cond.privateMethod_at (mvP hZ wp (args := args))) (mv hZ win) hy
theorem catR {v : Value} (h : v.isRef = true) : v.category = 1 := by cases v <;> first | rfl | (cases h)
theorem narR {t : FieldType} {w : Value} (h : t.isReference = true) : narrow t w = w := by cases t <;> first | (cases h; done) | (cases w <;> rfl)
end Jvm.Pilot.@@N@@.OwnKit
namespace Jvm.Pilot.@@N@@.OwnKit
open Jvm Sem ClassFile Op Lib Jvm.Stand Jvm.Free Jvm.LawKit Jvm.RoadKit
/-- one place of a function turned -/
def up {α : Type} (f : Nat → α) (i : Nat) (v : α) : Nat → α := fun j => if j = i then v else f j
/-- an array of n places; place j holds f j -/
def Ar (Z : State) (h : Heap) (a : Addr) (ty : FieldType) (n : Nat) (f : Nat → Value) : Prop := ∃ c : Cell, Arr Z h a c ty ∧ c.slots.size = n ∧ n < 2 ^ 31 ∧ ∀ j, j < n → c.slots[j]? = some (f j) ∧ fits ty (f j) = true
def AI (Z : State) (h : Heap) (a : Addr) (ty : FieldType) (n : Nat) (f : Nat → Int32) : Prop := Ar Z h a ty n (fun j => .int (f j))
def AJ (Z : State) (h : Heap) (a : Addr) (n : Nat) (f : Nat → Int64) : Prop := Ar Z h a .long n (fun j => .long (f j))
section Facts
variable {Z : State} {h h' : Heap} {a b : Addr} {ty : FieldType} {n sl : Nat} {f : Nat → Value} {g : Nat → Int32} {k : Nat → Int64} {v : Value} {ws : List Addr}
theorem up_at {α : Type} (f : Nat → α) (i : Nat) (v : α) : up f i v i = v := if_pos rfl
theorem up_ne {α : Type} (f : Nat → α) {i j : Nat} (v : α) (q : j ≠ i) : up f i v j = f j := if_neg q
theorem Ar.lt (A : Ar Z h a ty n f) : a < h.size := by obtain ⟨c, A, -⟩ := A; exact A.lt
theorem Ar.ext (A : Ar Z h a ty n f) (E : Ext h h') : Ar Z h' a ty n f := by obtain ⟨c, A, r⟩ := A; exact ⟨c, A.ext E, r⟩
theorem Ar.other (A : Ar Z h b ty n f) (W : Wr h h' a sl v) (q : b ≠ a) : Ar Z h' b ty n f := by obtain ⟨c, A, r⟩ := A; exact ⟨c, A.other W q, r⟩
theorem Ar.keep (A : Ar Z h a ty n f) (K : Keep h h' ws) (q : a ∉ ws) : Ar Z h' a ty n f := by obtain ⟨c, A, r⟩ := A; exact ⟨c, ⟨K.2.1 a c A.1 q, A.2⟩, r⟩
theorem own_setSlot (c : Cell) (i : Nat) (v : Value) : (c.setSlot i v).slots = c.slots.setIfInBounds i v := rfl
theorem Ar.wr (A : Ar Z h a ty n f) (W : Wr h h' a sl v) (hf : fits ty v = true) : Ar Z h' a ty n (up f sl v) := by
  obtain ⟨c, A, S, M, G⟩ := A
  refine ⟨c.setSlot sl v, A.same W, by rw [sz_set]; exact S, M, fun j hj => ?_⟩
  by_cases q : j = sl
  · subst q; rw [up_at, own_setSlot, Array.getElem?_setIfInBounds_self_of_lt (by omega)]; exact ⟨rfl, hf⟩
  · rw [up_ne f v q, own_setSlot, Array.getElem?_setIfInBounds_ne (Ne.symm q)]; exact G j hj
theorem Ar.congr {f' : Nat → Value} (A : Ar Z h a ty n f) (q : ∀ j, j < n → f j = f' j) : Ar Z h a ty n f' := by
  obtain ⟨c, A, S, M, G⟩ := A; exact ⟨c, A, S, M, fun j hj => by rw [← q j hj]; exact G j hj⟩
theorem AI.lt (A : AI Z h a ty n g) : a < h.size := Ar.lt A
theorem AI.ext (A : AI Z h a ty n g) (E : Ext h h') : AI Z h' a ty n g := Ar.ext A E
theorem AI.other (A : AI Z h b ty n g) (W : Wr h h' a sl v) (q : b ≠ a) : AI Z h' b ty n g := Ar.other A W q
theorem AI.keep (A : AI Z h a ty n g) (K : Keep h h' ws) (q : a ∉ ws) : AI Z h' a ty n g := Ar.keep A K q
theorem AI.wr {x : Int32} (A : AI Z h a ty n g) (W : Wr h h' a sl (.int x)) (hf : fits ty (.int x) = true) : AI Z h' a ty n (up g sl x) :=
  (Ar.wr A W hf).congr fun j _ => by simp only [up]; split <;> rfl
theorem AI.congr {g' : Nat → Int32} (A : AI Z h a ty n g) (q : ∀ j, j < n → g j = g' j) : AI Z h a ty n g' := Ar.congr A fun j hj => by rw [q j hj]
theorem AJ.lt (A : AJ Z h a n k) : a < h.size := Ar.lt A
theorem AJ.ext (A : AJ Z h a n k) (E : Ext h h') : AJ Z h' a n k := Ar.ext A E
theorem AJ.other (A : AJ Z h b n k) (W : Wr h h' a sl v) (q : b ≠ a) : AJ Z h' b n k := Ar.other A W q
theorem AJ.keep (A : AJ Z h a n k) (K : Keep h h' ws) (q : a ∉ ws) : AJ Z h' a n k := Ar.keep A K q
theorem AJ.wr {x : Int64} (A : AJ Z h a n k) (W : Wr h h' a sl (.long x)) : AJ Z h' a n (up k sl x) :=
  (Ar.wr A W rfl).congr fun j _ => by simp only [up]; split <;> rfl
theorem AJ.congr {k' : Nat → Int64} (A : AJ Z h a n k) (q : ∀ j, j < n → k j = k' j) : AJ Z h a n k' := Ar.congr A fun j hj => by rw [q j hj]
theorem Ar.bound (A : Ar Z h a ty n f) : n < 2 ^ 31 := by obtain ⟨c, A, S, M, G⟩ := A; exact M
theorem eqv_r {Z : State} {args : Array Value} {X F : Term} {idx : List Nat} {y : Addr} (hF : F.eval args Z none idx Z = some (.ref y)) (h : (Cond.eq X F).value args Z none Z idx = some true) : X.eval args Z none idx Z = some (.ref y) := by
  obtain ⟨x, y', e1, e2, k1, k2⟩ := cmp_v (Or.inl h)
  cases hF.symm.trans e2
  exact e1.trans (congrArg some (gotT (eq_R e1 hF k2.2 rfl) h))
theorem own_lenA (t : Term) (args : Array Value) (first s : State) (o : Option Outcome) (idx : List Nat) : (Term.length t).eval args first o idx s = ((t.eval args first o idx s).bind fun v => match v with | .ref a => ((s.arrayAt? a).bind fun c => if c.slots.size < 2 ^ 31 then some (.int c.slots.size.toInt32) else none) | _ => none) := rfl
theorem own_sized {t : Term} {args : Array Value} {s : State} {a : Addr} {c : Cell} {z : Int32} {n : Nat} (ht : t.eval args s none [] s = some (.ref a)) (ha : s.arrayAt? a = some c) (h : (Term.length t).eval args s none [] s = some (.int z)) (hz : z.toInt = (n : Int)) : c.slots.size = n := by
  rw [own_lenA, ht, Option.bind_some] at h
  dsimp only at h
  rw [ha, Option.bind_some] at h
  by_cases q : c.slots.size < 2 ^ 31
  · rw [if_pos q] at h
    have e5 := Value.int.inj (Option.some.inj h)
    have e6 := len_toInt q
    rw [e5] at e6
    omega
  · rw [if_neg q] at h; cases h
theorem ixo {j : Int32} {i n : Nat} (hj : j.toInt = (i : Int)) (hi : i < n) : ¬ (j < 0 ∨ n ≤ j.toNatClampNeg) ∧ j.toNatClampNeg = i := by
  have e0 : (0 : Int32).toInt = 0 := rfl
  have q : j.toNatClampNeg = i := by rw [Int32.toNatClampNeg, hj]; rfl
  refine ⟨fun z => z.elim (fun u => ?_) fun u => ?_, q⟩
  · rw [Int32.lt_iff_toInt_lt] at u; omega
  · omega
theorem lenI {n : Nat} {z : Int32} (hz : z.toInt = (n : Int)) : n.toInt32 = z := by
  apply Int32.toInt_inj.mp
  have r := rng32 z
  rw [hz]; exact Int32.toInt_ofNat_of_lt (by omega)
theorem Ar.arv (A : Ar Z h a ty n f) : ∃ k, Arv Z h a k ty (Int32.ofNat n) ((List.range n).map f) (f 0) := by
  obtain ⟨c, A, S, M, G⟩ := A
  have e0 : (0 : Int32).toInt = 0 := rfl
  have hz : (Int32.ofNat n).toInt = (n : Int) := Int32.toInt_ofNat_of_lt (by omega)
  have hq : (Int32.ofNat n).toNatClampNeg = n := by rw [Int32.toNatClampNeg, hz]; rfl
  have hg : ∀ i, i < n → ((List.range n).map f).getD i (f 0) = f i := fun i hi => by
    rw [List.getD_eq_getElem?_getD, List.getElem?_map, List.getElem?_range hi]; rfl
  refine ⟨c.cls, c, A, rfl, by rw [hq]; exact S, by rw [Int32.lt_iff_toInt_lt, hz]; omega, fun i hi => ?_, fun i hi => ?_⟩
  · rw [hg i (by omega)]; exact (G i (by omega)).1
  · rw [hg i (by omega)]; exact (G i (by omega)).2
theorem Ar.of_arv {k : ClassId} {z : Int32} {vs : List Value} {d : Value} (A : Arv Z h a k ty z vs d) (hz : z.toInt = (n : Int)) : Ar Z h a ty n (fun j => vs.getD j d) := by
  obtain ⟨c, A, q, S, N, H, G⟩ := A
  have hq : z.toNatClampNeg = n := by rw [Int32.toNatClampNeg, hz]; rfl
  have r := rng32 z
  exact ⟨c, A, by rw [S, hq], by omega, fun j hj => ⟨H j (by omega), G j (by omega)⟩⟩
end Facts
section Steps
variable {p : Program} {l : Launch} {e : Env} {R : Room} {s : State} {m : MethodId} {args : Array Value} {below : List Frame} {meth : Method} {c : Code} {T : State} {locs : List Loc} {cells slots : Nat} {Z : State} {h : Heap} {a : Addr} {n i : Nat} {j : Int32} {rest : List Value} {fr : JFrame} {target : State}
theorem ldI {f : Nat → Int32} {v : Int32} (X : Stand p l e R s m args below meth c T locs cells slots) (hx : p.tables.exec = Jvm.exec) (hZ : Z.Warmed39 s.vm) (eT : T.heap = h) (A : AI Z h a .int n f) (hj : j.toInt = (i : Int)) (hi : i < n) (hv : v = f i) (hg : fr.method = m) (hs : fr.stack = .int j :: .ref a :: rest) (hd : decode c.code fr.pc = .ok (.iaload, 1))
    (hr : Steps p.tables e below (T.setTop { fr with pc := fr.pc + 1, stack := .int v :: rest }) target) : Steps p.tables e below (T.setTop fr) target := by
  obtain ⟨cl, A, S, M, G⟩ := A
  obtain ⟨q1, q2⟩ := ixo hj hi
  exact X.iaload hx (j := j) (v := .int v) (by rw [eT]; exact A.1) (State.isArrayOf_alike hZ.alike A.2.1) A.2.2 (by rw [S]; exact q1) (by rw [q2, hv]; exact (G i hi).1) hg hs hd _ hr
theorem ldB {f : Nat → Int32} {v : Int32} (X : Stand p l e R s m args below meth c T locs cells slots) (hx : p.tables.exec = Jvm.exec) (hZ : Z.Warmed39 s.vm) (eT : T.heap = h) (A : AI Z h a .byte n f) (hj : j.toInt = (i : Int)) (hi : i < n) (hv : v = f i) (hg : fr.method = m) (hs : fr.stack = .int j :: .ref a :: rest) (hd : decode c.code fr.pc = .ok (.baload, 1))
    (hr : Steps p.tables e below (T.setTop { fr with pc := fr.pc + 1, stack := .int v :: rest }) target) : Steps p.tables e below (T.setTop fr) target := by
  obtain ⟨cl, A, S, M, G⟩ := A
  obtain ⟨q1, q2⟩ := ixo hj hi
  exact X.baloadBytes hx (j := j) (v := .int v) (by rw [eT]; exact A.1) (State.isArrayOf_alike hZ.alike A.2.1) A.2.2 (by rw [S]; exact q1) (by rw [q2, hv]; exact (G i hi).1) hg hs hd _ hr
theorem ldJ {f : Nat → Int64} {v : Int64} (X : Stand p l e R s m args below meth c T locs cells slots) (hx : p.tables.exec = Jvm.exec) (hZ : Z.Warmed39 s.vm) (eT : T.heap = h) (A : AJ Z h a n f) (hj : j.toInt = (i : Int)) (hi : i < n) (hv : v = f i) (hg : fr.method = m) (hs : fr.stack = .int j :: .ref a :: rest) (hd : decode c.code fr.pc = .ok (.laload, 1))
    (hr : Steps p.tables e below (T.setTop { fr with pc := fr.pc + 1, stack := .long v :: rest }) target) : Steps p.tables e below (T.setTop fr) target := by
  obtain ⟨cl, A, S, M, G⟩ := A
  obtain ⟨q1, q2⟩ := ixo hj hi
  exact X.laload hx (j := j) (v := .long v) (by rw [eT]; exact A.1) (State.isArrayOf_alike hZ.alike A.2.1) A.2.2 (by rw [S]; exact q1) (by rw [q2, hv]; exact (G i hi).1) hg hs hd _ hr
theorem ldR {ty : FieldType} {f : Nat → Value} {v : Value} (X : Stand p l e R s m args below meth c T locs cells slots) (hx : p.tables.exec = Jvm.exec) (hZ : Z.Warmed39 s.vm) (eT : T.heap = h) (A : Ar Z h a ty n f) (hty : ty.isReference = true) (hj : j.toInt = (i : Int)) (hi : i < n) (hv : v = f i) (hg : fr.method = m) (hs : fr.stack = .int j :: .ref a :: rest) (hd : decode c.code fr.pc = .ok (.aaload, 1))
    (hr : Steps p.tables e below (T.setTop { fr with pc := fr.pc + 1, stack := v :: rest }) target) : Steps p.tables e below (T.setTop fr) target := by
  obtain ⟨cl, A, S, M, G⟩ := A
  obtain ⟨q1, q2⟩ := ixo hj hi
  exact X.aaload hx (j := j) (v := v) (by rw [eT]; exact A.1) (State.isArrayOf_alike hZ.alike A.2.1) hty A.2.2 (by rw [S]; exact q1) (by rw [q2, hv]; exact (G i hi).1) hg hs hd _ hr
/-- an array's clone -/
theorem cloneAr {a0 : Array Value} {own ad : String} {index : Nat} {ty : FieldType} {f : Nat → Value} {W cap : Nat} (X : Stand p l e R s m args below meth c T locs cells slots) (hx : p.tables.exec = Jvm.exec) (hZ : Z.Warmed39 s.vm) (hown : s.vm.findClass own = some m.cls)
    (w1 : (Cond.methodLink own index ⟨ad, "clone", "()Ljava/lang/Object;"⟩).before a0 Z = true) (w2 : (Cond.sameMethod ad "java/lang/Object" "clone" "()Ljava/lang/Object;").before a0 Z = true) (w3 : (Cond.native ⟨"java/lang/Object", "clone", "()Ljava/lang/Object;"⟩).before a0 Z = true)
    (w4 : (Cond.instanceMethod ⟨"java/lang/Object", "clone", "()Ljava/lang/Object;"⟩).before a0 Z = true) (w5 : (Cond.selects ad ⟨ad, "clone", "()Ljava/lang/Object;"⟩ ⟨"java/lang/Object", "clone", "()Ljava/lang/Object;"⟩).before a0 Z = true) (w6 : (Cond.castable ad "java/lang/Cloneable").before a0 Z = true)
    (eT : T.heap = h) (A : Ar Z h a ty n f) (E : Exa Z h a ad) (hg : fr.method = m) (hsize : fr.locals.size = c.maxLocals) (hs : fr.stack = .ref a :: rest) (hd : decode c.code fr.pc = .ok (.invokevirtual index, 3))
    (hf : 1 ≤ R.frames) (hW : 2 * fr.monitorRoom + (rest.map fun v => v.category).sum ≤ W) (hl : W + 14 ≤ R.locals) (hcap : n ≤ cap) (hc : cells + 1 ≤ R.cells) (hsl : slots + cap ≤ R.slots) :
    ∃ T' h', Stand p l e R s m args below meth c T' locs (cells + 1) (slots + cap) ∧ T'.heap = h' ∧ Ext h h' ∧ Ar Z h' h.size ty n f ∧ Exa Z h' h.size ad ∧
      ∀ target, Steps p.tables e below (T'.setTop { fr with pc := fr.pc + 3, stack := .ref h.size :: rest }) target → Steps p.tables e below (T.setTop fr) target := by
  obtain ⟨cl, A, S, M, G⟩ := A
  have FC : FitC Z cl := fitC_of A fun i hi v hv => by
    have q := G i (by omega)
    rw [q.1] at hv; cases hv; exact q.2
  obtain ⟨T', h', X', e', ex, A', E', st⟩ := cloneA X hx hZ hown w1 w2 w3 w4 w5 w6 eT A E FC hg hsize hs hd hf hW hl (by omega) hc hsl
  exact ⟨T', h', X', e', ex, ⟨cloneOf cl, A', S, M, G⟩, E', st⟩
theorem alen {ty : FieldType} {f : Nat → Value} {z : Int32} (X : Stand p l e R s m args below meth c T locs cells slots) (hx : p.tables.exec = Jvm.exec) (hZ : Z.Warmed39 s.vm) (eT : T.heap = h) (A : Ar Z h a ty n f) (hz : z.toInt = (n : Int)) (hg : fr.method = m) (hs : fr.stack = .ref a :: rest) (hd : decode c.code fr.pc = .ok (.arraylength, 1))
    (hr : Steps p.tables e below (T.setTop { fr with pc := fr.pc + 1, stack := .int z :: rest }) target) : Steps p.tables e below (T.setTop fr) target := by
  obtain ⟨cl, A, S, M, G⟩ := A
  exact X.arraylength hx (by rw [eT]; exact A.1) (State.isArrayOf_alike hZ.alike A.2.1) hg hs hd _ (by rw [S, lenI hz]; exact hr)
theorem stAI {f : Nat → Int32} {x : Int32} (X : Stand p l e R s m args below meth c T locs cells slots) (hx : p.tables.exec = Jvm.exec) (hZ : Z.Warmed39 s.vm) (eT : T.heap = h) (A : AI Z h a .int n f) (hj : j.toInt = (i : Int)) (hi : i < n) (hg : fr.method = m) (hs : fr.stack = .int x :: .int j :: .ref a :: rest) (hd : decode c.code fr.pc = .ok (.iastore, 1)) :
    ∃ T' h', Stand p l e R s m args below meth c T' (locs ++ [⟨a, i⟩]) cells slots ∧ T'.heap = h' ∧ Wr h h' a i (.int x) ∧ AI Z h' a .int n (up f i x) ∧ ∀ target, Steps p.tables e below (T'.setTop { fr with pc := fr.pc + 1, stack := rest }) target → Steps p.tables e below (T.setTop fr) target := by
  have A0 := A
  obtain ⟨cl, A, S, M, G⟩ := A
  obtain ⟨q1, q2⟩ := ixo hj hi
  obtain ⟨T', h', X', e', W', st⟩ := stI X hx hZ eT A (j := j) (by rw [S]; exact q1) hg hs hd
  rw [q2] at X' W'
  exact ⟨T', h', X', e', W', A0.wr W' rfl, st⟩
theorem stAB {f : Nat → Int32} {x : Int32} (X : Stand p l e R s m args below meth c T locs cells slots) (hx : p.tables.exec = Jvm.exec) (hZ : Z.Warmed39 s.vm) (eT : T.heap = h) (A : AI Z h a .byte n f) (hj : j.toInt = (i : Int)) (hi : i < n) (hg : fr.method = m) (hs : fr.stack = .int x :: .int j :: .ref a :: rest) (hd : decode c.code fr.pc = .ok (.bastore, 1)) :
    ∃ T' h', Stand p l e R s m args below meth c T' (locs ++ [⟨a, i⟩]) cells slots ∧ T'.heap = h' ∧ Wr h h' a i (.int x.toInt8.toInt32) ∧ AI Z h' a .byte n (up f i x.toInt8.toInt32) ∧ ∀ target, Steps p.tables e below (T'.setTop { fr with pc := fr.pc + 1, stack := rest }) target → Steps p.tables e below (T.setTop fr) target := by
  have A0 := A
  obtain ⟨cl, A, S, M, G⟩ := A
  obtain ⟨q1, q2⟩ := ixo hj hi
  obtain ⟨T', h', X', e', W', st⟩ := stB X hx hZ eT A (j := j) (by rw [S]; exact q1) hg hs hd
  rw [q2] at X' W'
  exact ⟨T', h', X', e', W', A0.wr W' (fits_nar_byte x), st⟩
theorem stAC {f : Nat → Int32} {x : Int32} (X : Stand p l e R s m args below meth c T locs cells slots) (hx : p.tables.exec = Jvm.exec) (hZ : Z.Warmed39 s.vm) (eT : T.heap = h) (A : AI Z h a .char n f) (hj : j.toInt = (i : Int)) (hi : i < n) (hg : fr.method = m) (hs : fr.stack = .int x :: .int j :: .ref a :: rest) (hd : decode c.code fr.pc = .ok (.castore, 1)) :
    ∃ T' h', Stand p l e R s m args below meth c T' (locs ++ [⟨a, i⟩]) cells slots ∧ T'.heap = h' ∧ Wr h h' a i (.int (nar .char x)) ∧ AI Z h' a .char n (up f i (nar .char x)) ∧ ∀ target, Steps p.tables e below (T'.setTop { fr with pc := fr.pc + 1, stack := rest }) target → Steps p.tables e below (T.setTop fr) target := by
  have A0 := A
  obtain ⟨cl, A, S, M, G⟩ := A
  obtain ⟨q1, q2⟩ := ixo hj hi
  obtain ⟨T', h', X', e', W', st⟩ := stC X hx hZ eT A (j := j) (by rw [S]; exact q1) hg hs hd
  rw [q2] at X' W'
  exact ⟨T', h', X', e', W', A0.wr W' (fits_nar_char x), st⟩
theorem stAJ {f : Nat → Int64} {x : Int64} (X : Stand p l e R s m args below meth c T locs cells slots) (hx : p.tables.exec = Jvm.exec) (hZ : Z.Warmed39 s.vm) (eT : T.heap = h) (A : AJ Z h a n f) (hj : j.toInt = (i : Int)) (hi : i < n) (hg : fr.method = m) (hs : fr.stack = .long x :: .int j :: .ref a :: rest) (hd : decode c.code fr.pc = .ok (.lastore, 1)) :
    ∃ T' h', Stand p l e R s m args below meth c T' (locs ++ [⟨a, i⟩]) cells slots ∧ T'.heap = h' ∧ Wr h h' a i (.long x) ∧ AJ Z h' a n (up f i x) ∧ ∀ target, Steps p.tables e below (T'.setTop { fr with pc := fr.pc + 1, stack := rest }) target → Steps p.tables e below (T.setTop fr) target := by
  have A0 := A
  obtain ⟨cl, A, S, M, G⟩ := A
  obtain ⟨q1, q2⟩ := ixo hj hi
  obtain ⟨T', h', X', e', W', st⟩ := stJ X hx hZ eT A (j := j) (by rw [S]; exact q1) hg hs hd
  rw [q2] at X' W'
  exact ⟨T', h', X', e', W', A0.wr W', st⟩
theorem nwA {a0 : Array Value} {aty : ArrayType} {z : Int32} {cap : Nat} (X : Stand p l e R s m args below meth c T locs cells slots) (hx : p.tables.exec = Jvm.exec) (hZ : Z.Warmed39 s.vm) (w : (Cond.arrayClass (newarray.typeOf aty)).before a0 Z = true) (eT : T.heap = h) (hz : z.toInt = (n : Int)) (hcap : n ≤ cap) (hb : cap * 8 ≤ 536870912) (hc : cells + 1 ≤ R.cells) (hl : slots + cap ≤ R.slots) (hg : fr.method = m) (hs : fr.stack = .int z :: rest) (hd : decode c.code fr.pc = .ok (.newarray aty, 2)) :
    ∃ T' h', Stand p l e R s m args below meth c T' locs (cells + 1) (slots + cap) ∧ T'.heap = h' ∧ Ext h h' ∧ Ar Z h' h.size (newarray.typeOf aty) n (fun _ => defaultValue (newarray.typeOf aty)) ∧ ∀ target, Steps p.tables e below (T'.setTop { fr with pc := fr.pc + 2, stack := .ref h.size :: rest }) target → Steps p.tables e below (T.setTop fr) target := by
  have e0 : (0 : Int32).toInt = 0 := rfl
  have q : z.toNatClampNeg = n := by rw [Int32.toNatClampNeg, hz]; rfl
  have qn : ¬ z < 0 := by rw [Int32.lt_iff_toInt_lt]; omega
  have r := rng32 z
  obtain ⟨T', h', cA, X', e', E', A', st⟩ := newP X hx hZ w eT hg hd hs qn (cap := cap) (by omega) hb hc hl
  refine ⟨T', h', X', e', E', ⟨_, A', by rw [sz_new, q], by omega, fun i hi => ⟨?_, by cases aty <;> rfl⟩⟩, st⟩
  simp [newA, q, hi]
/-- System.arraycopy of the first k places -/
theorem cpAr {a0 : Array Value} {own : String} {index : Nat} {b : Addr} {ty : FieldType} {n1 n2 k : Nat} {f1 f2 : Nat → Value} {nn : Int32} {n0 W : Nat} (X : Stand p l e R s m args below meth c T locs cells slots) (hx : p.tables.exec = Jvm.exec) (hZ : Z.Warmed39 s.vm) (hown : s.vm.findClass own = some m.cls)
    (w1 : (Cond.methodLink own index Jvm.Stand.acN).before a0 Z = true) (w2 : (Cond.native Jvm.Stand.acN).before a0 Z = true) (w3 : (Cond.static Jvm.Stand.acN).before a0 Z = true) (w4 : (Cond.initialized "java/lang/System").before a0 Z = true) (eT : T.heap = h)
    (A : Ar Z h a ty n1 f1) (B : Ar Z h b ty n2 f2) (hty : refKind ty = false) (hk : nn.toInt = (k : Int)) (h4 : k ≤ n1) (h5 : k ≤ n2) (N : Fr n0 locs) (ge : n0 ≤ b)
    (hg : fr.method = m) (hsize : fr.locals.size = c.maxLocals) (hs : fr.stack = .int nn :: .int 0 :: .ref b :: .int 0 :: .ref a :: rest) (hd : decode c.code fr.pc = .ok (.invokestatic index, 3))
    (hf : 1 ≤ R.frames) (hW : 2 * fr.monitorRoom + (rest.map fun v => v.category).sum ≤ W) (hlo : W + (nativeFrameWords "java/lang/System" "arraycopy" 5 + 11) ≤ R.locals) :
    ∃ T' h' L, Stand p l e R s m args below meth c T' L cells slots ∧ T'.heap = h' ∧ Fr n0 L ∧ Keep h h' [b] ∧ Ar Z h' b ty n2 (fun j => if j < k then f1 j else f2 j) ∧
      ∀ target, Steps p.tables e below (T'.setTop { fr with pc := fr.pc + 3, stack := rest }) target → Steps p.tables e below (T.setTop fr) target := by
  obtain ⟨ka, A'⟩ := A.arv
  obtain ⟨kb, B'⟩ := B.arv
  have m1 := A.bound
  have m2 := B.bound
  have e0 : (0 : Int32).toInt = 0 := rfl
  have z0 : (0 : Int32).toNatClampNeg = 0 := rfl
  have hkk : nn.toNatClampNeg = k := by rw [Int32.toNatClampNeg, hk]; rfl
  have q1 : (Int32.ofNat n1).toInt = (n1 : Int) := Int32.toInt_ofNat_of_lt (by omega)
  have q2 : (Int32.ofNat n2).toInt = (n2 : Int) := Int32.toInt_ofNat_of_lt (by omega)
  have p1 : (Int32.ofNat n1).toNatClampNeg = n1 := by rw [Int32.toNatClampNeg, q1]; rfl
  have p2 : (Int32.ofNat n2).toNatClampNeg = n2 := by rw [Int32.toNatClampNeg, q2]; rfl
  obtain ⟨T', h', L', X', e', N', K', B2, st⟩ := cpA X hx hZ hown w1 w2 w3 w4 eT A' B' (Or.inl ⟨rfl, hty⟩) (sp := 0) (dp := 0) (nn := nn) (by decide) (by decide) (by rw [Int32.lt_iff_toInt_lt]; omega) (by rw [z0, hkk, p1]; omega) (by rw [z0, hkk, p2]; omega) rfl (by rw [z0, hkk, List.length_map, List.length_range]; omega) N ge hg hsize hs hd hf hW hlo
  refine ⟨T', h', L', X', e', N', K', (Ar.of_arv B2 q2).congr fun j hj => ?_, st⟩
  simp only [z0, hkk, List.take_zero, List.nil_append, Nat.zero_add, List.getD_eq_getElem?_getD]
  by_cases c1 : j < k
  · rw [if_pos c1, List.getElem?_append_left (by simpa using c1)]
    simp [c1, show j < n1 by omega]
  · rw [if_neg c1, List.getElem?_append_right (by simpa using c1)]
    simp [show k + (j - k) = j by omega, hj]
end Steps
end Jvm.Pilot.@@N@@.OwnKit
namespace Jvm.Pilot.@@N@@.OwnKit
open Jvm Sem ClassFile Op Lib Jvm.Stand Jvm.Free Jvm.LawKit Jvm.RoadKit
section Wide
variable {p : Program} {l : Launch} {e : Env} {R : Room} {s : State} {m : MethodId} {args : Array Value} {below : List Frame} {meth : Method} {c : Code} {T : State} {locs : List Loc} {cells slots : Nat} {Z : State} {a0 : Array Value} {h h' : Heap}
theorem rwMono {s t : State} {o : Outcome} {L : List Loc} {k n k' n' : Nat} (q : ReturnedEndW s o t L k n) (hk : k ≤ k') (hn : n ≤ n') : ReturnedEndW s o t L k' n' := ⟨q.1, q.2.1, q.2.2.1, q.2.2.2.mono hk hn⟩
/-- the heap has grown at least to k cells -/
def Kle (k : Nat) (h : Heap) : Prop := k ≤ h.size
theorem Kle.ext {k : Nat} (q : Kle k h) (E : Ext h h') : Kle k h' := Nat.le_trans q E.1
theorem Kle.keep {k : Nat} {ws : List Addr} (q : Kle k h) (K : Keep h h' ws) : Kle k h' := Nat.le_trans q K.1
theorem Kle.wr {k : Nat} {a : Addr} {sl : Nat} {v : Value} (q : Kle k h) (W : Wr h h' a sl v) : Kle k h' := q.keep (Keep.of_wr W)
theorem Kle.at {k : Nat} (q : Kle k h) (e : T.heap = h) : k ≤ T.heap.size := by rw [e]; exact q
/-- a callee that may intern, and that must know that nothing has been interned before it -/
theorem backOfI {y : MethodName} {bytes : ByteArray} {maxL : Nat} {ret : Option FieldType} {rm : Room} {len W : Nat} {as' : Array Value} {Q : Option Value → Heap → List Loc → Prop}
    (hM : MetFree l y (head1 [Cond.code y bytes maxL ret] rm) (fun a U => a = as' ∧ Z.Warmed39 U.vm ∧ U.heap = h ∧ U.vm.interned = Z.vm.interned) (fun _ _ _ _ _ => True) (fun _ U o U' => ∃ v L, o = .returned v ∧ Q v U'.heap L ∧ ReturnedEndW U o U' L rm.cells rm.slots))
    (hZ : Z.Warmed39 s.vm) (hI : s.vm.interned = Z.vm.interned) (wc : (Cond.code y bytes maxL ret).before a0 Z = true) (wz : (Cond.initialized y.cls).before a0 Z = true) (hf : rm.frames + 1 ≤ R.frames) (hl : W + (maxL + 11) + rm.locals ≤ R.locals) :
    BackS l R p e below s args y len W (fun A a => a = as' ∧ A.U.heap = h ∧ A.cells + rm.cells ≤ R.cells ∧ A.slots + rm.slots ≤ R.slots)
      (fun A _ v B => ∃ L, Q v B.U.heap L ∧ B.locs = A.locs ++ L ∧ B.cells = A.cells + rm.cells ∧ B.slots = A.slots + rm.slots) :=
  BackS.of_freeW (bytes := bytes) (maxL := maxL) (ret := ret) (E := fun _ _ o t L k n => k = rm.cells ∧ n = rm.slots ∧ ∃ v, o = .returned v ∧ Q v t.heap L) hM hf hl
    (fun m meth c A a Y hp => have hU : Z.Warmed39 A.U.vm := wtrans hZ Y.warmed
      ⟨by show (Cond.and _ .tt).before a A.U = true; rw [Cond.before_and, mv hU wc]; rfl, mv hU wc, mv hU wz, hp.2.2.1, hp.2.2.2⟩)
    (fun m meth c A a g mk Y hp => ⟨hp.1, wtrans hZ Y.warmed, hp.2.1, Y.warmed.interned_eq.trans hI⟩) (fun _ _ _ _ _ _ _ _ _ => trivial)
    (fun _ _ _ _ ⟨v, L, h1, h2, h3⟩ => ⟨L, _, _, h3, rfl, rfl, v, h1, h2⟩)
    (fun m meth c A a g mk v t L k n Y hp _ _ ⟨e1, e2, v', e3, e4⟩ => by cases e3; subst e1 e2; exact ⟨L, e4, rfl, rfl, rfl⟩)
theorem IB.of_eq {vm : Vm} (q : vm.interned = Z.vm.interned) : IB Z vm [] := ⟨#[], by simp [q], fun q hq => by simp at hq⟩
end Wide
end Jvm.Pilot.@@N@@.OwnKit
namespace Jvm.Pilot.@@N@@
open Jvm Jvm.ClassFile Sem Op Lib Jvm.Free Jvm.Stand Jvm.LawKit Jvm.RoadKit Bundle Jvm.Pilot.@@N@@.Jvm.D Jvm.Pilot.@@N@@.OwnKit
theorem own_wS {Z : State} {a0 : Array Value} (hw : ∀ d ∈ tables_1, d.before a0 Z = true) : ∀ a ∈ Bundle.stringAtoms, a.before a0 Z = true := by
  intro a ha
  simp only [Bundle.stringAtoms, List.mem_cons, List.not_mem_nil, or_false] at ha
  rcases ha with rfl | rfl | rfl | rfl | rfl | rfl | rfl
  · exact (hw _ (List.mem_of_getElem? (i := 6) rfl))
  · exact (hw _ (List.mem_of_getElem? (i := 7) rfl))
  · exact (hw _ (List.mem_of_getElem? (i := 8) rfl))
  · exact (hw _ (List.mem_of_getElem? (i := 9) rfl))
  · exact (hw _ (List.mem_of_getElem? (i := 10) rfl))
  · exact (hw _ (List.mem_of_getElem? (i := 11) rfl))
  · exact (hw _ (List.mem_of_getElem? (i := 12) rfl))
def own_l : List Int32 := [45, 46, 95, 126, 33, 36, 38, 39, 40, 41, 42, 43, 44, 59, 61, 58, 64, 47, 63]
def own_txt (j : Nat) : Int32 := own_l.getD j 0
theorem own_at (j : Nat) : (own_l.map Value.int).getD j (.int 0) = .int (own_txt j) := by
  unfold own_txt
  generalize own_l = q
  induction q generalizing j with
  | nil => rfl
  | cons a q ih => cases j with
    | zero => rfl
    | succ j => exact ih j
theorem own_ht : (∀ c ∈ ("-._~!$&'()*+,;=:@/?" : String).toList, c.toNat < 256) ∧ ("-._~!$&'()*+,;=:@/?" : String).toList.map (fun c => Value.int (Jvm.Lit.byteI c.toNat.toUInt16)) = own_l.map Value.int := by
  constructor
  · first | decide | decide +kernel
  · first | rfl | decide +kernel
theorem d8_0 : decode jdk_43_method_4_code 0 = .ok (.iload_n 0, 1) := by decide +kernel
theorem d8_1 : decode jdk_43_method_4_code 1 = .ok (.ifCond .lt 14, 3) := by decide +kernel
theorem d8_15 : decode jdk_43_method_4_code 15 = .ok (.iconst 0, 1) := by decide +kernel
theorem d8_16 : decode jdk_43_method_4_code 16 = .ok (.ireturn, 1) := by decide +kernel
theorem d8_4 : decode jdk_43_method_4_code 4 = .ok (.iload_n 0, 1) := by decide +kernel
theorem d8_5 : decode jdk_43_method_4_code 5 = .ok (.sipush 255, 3) := by decide +kernel
theorem d8_8 : decode jdk_43_method_4_code 8 = .ok (.if_icmp .gt 7, 3) := by decide +kernel
theorem d8_11 : decode jdk_43_method_4_code 11 = .ok (.iconst 1, 1) := by decide +kernel
theorem d8_12 : decode jdk_43_method_4_code 12 = .ok (.goto 4, 3) := by decide +kernel
def fn8 (pv : Int32) : Int32 := (if pv < (0 : Int32) then (0 : Int32) else (if (255 : Int32) < pv then (0 : Int32) else (1 : Int32)))
theorem pn_0 : plainName "java/lang/StringLatin1" = true := by first | (simp [plainName, overriddenIn]; done) | decide +kernel
theorem ef8 (m : MethodId) (pv : Int32) : entryFrame m #[(.int pv)] 1 = mkF m 0 #[.val (.int pv)] [] := by first | (simp [entryFrame, mkF, argsToLocals, Value.category]; done) | rfl
def Q8 (Z : State) (pv : Int32) (h0 : Heap) (n0 : Nat) (v : Option Value) (h : Heap) (L : List Loc) : Prop := v = some (.int (fn8 pv)) ∧ Fr n0 L ∧ h = h0
set_option maxRecDepth 65536 in
set_option maxHeartbeats 40000000 in
theorem rm8 (l : Launch) (Z : State) (a0 : Array Value) (hw : ∀ d ∈ tables_1, d.before a0 Z = true) (ws : List Jvm.Cond) (pv : Int32) (h0 : Heap) (n0 : Nat) (Z0 : n0 ≤ h0.size) :
    MetFree l (⟨"java/lang/StringLatin1", "canEncode", "(I)Z"⟩ : MethodName) (head1 (Jvm.Cond.code (⟨"java/lang/StringLatin1", "canEncode", "(I)Z"⟩ : MethodName) jdk_43_method_4_code 1 (some .boolean) :: ws) ({ frames := 0, cells := 0, slots := 0, locals := 0 } : Room)) (fun a U => a = #[(.int pv)] ∧ Z.Warmed39 U.vm ∧ U.heap = h0) (fun _ _ _ _ _ => True) (fun _ U o U' => ∃ v L, o = .returned v ∧ Q8 Z pv h0 n0 v U'.heap L ∧ FrameEnd U o U' L ({ frames := 0, cells := 0, slots := 0, locals := 0 } : Room).cells ({ frames := 0, cells := 0, slots := 0, locals := 0 } : Room).slots) := by
  refine MetFree.of_bodySF (plainFor_of_name pn_0) hisR ?_
  intro p e s m args below meth c s₁ Bd hml0 hP hK
  obtain ⟨rfl, hZ, hh⟩ := hP
  have hx := Bd.exec
  have hby := Bd.bytes
  have hml : c.maxLocals = 1 := hml0
  have hown : s.vm.findClass "java/lang/StringLatin1" = some m.cls := findClass_of_methodNamed Bd.named
  have hnm := (name_of_methodNamed Bd.named Bd.method).1
  have X0 : Stand p l e ({ frames := 0, cells := 0, slots := 0, locals := 0 } : Room) s m #[(.int pv)] below meth c s₁ [] 0 0 := Stand.of_body Bd
  have e0 : s₁.heap = h0 := by rw [← hh, Bd.state]; rfl
  have N0 := Fr.nil n0
  refine Goes.by (fun _ k => castTop (ef8 m pv) k) ?_
  show Goes p.tables e below (s₁.setTop (mkF m 0 #[.val (.int pv)] [])) _
  refine Goes.by (fun _ k => XS.iloadN X0.here hx rfl (hb hby d8_0) rfl k) ?_
  show Goes p.tables e below (s₁.setTop (mkF m 1 #[.val (.int pv)] [(.int pv)])) _
  by_cases hc1 : pv < (0 : Int32)
  · refine Goes.by (fun _ k => XS.ifYes X0.here hx rfl (pc0 := 1) (pc' := 15) rfl (hb hby d8_1) rfl ((if0 _ _).trans (tlt hc1).1) (by decide) (by decide) k) ?_
    show Goes p.tables e below (s₁.setTop (mkF m 15 #[.val (.int pv)] [])) _
    refine Goes.by (fun _ k => XS.iconst X0.here hx rfl (hb hby d8_15) k) ?_
    show Goes p.tables e below (s₁.setTop (mkF m 16 #[.val (.int pv)] [(.int (0 : Int32))])) _
    obtain ⟨fs, hr, hrun, hended, hW, hsame⟩ := X0.leave (v := some (.int (0 : Int32))) (fun h => by rw [Bd.returns] at h; cases h)
    refine ⟨_, _, retN X0 hx (t := .boolean) Bd.returns (by simp) (hb hby d8_16) hr, hrun, hended, _, _, rfl, ?_, ⟨_, rfl⟩, hW, hsame.mono (by decide) (by decide)⟩
    show Q8 Z pv h0 n0 _ s₁.heap _
    rw [e0]
    exact ⟨(by rw [fn8, if_pos hc1]), N0, rfl⟩
  · refine Goes.by (fun _ k => XS.ifNo X0.here hx rfl (hb hby d8_1) rfl ((if0 _ _).trans (flt hc1).1) k) ?_
    show Goes p.tables e below (s₁.setTop (mkF m 4 #[.val (.int pv)] [])) _
    refine Goes.by (fun _ k => XS.iloadN X0.here hx rfl (hb hby d8_4) rfl k) ?_
    show Goes p.tables e below (s₁.setTop (mkF m 5 #[.val (.int pv)] [(.int pv)])) _
    refine Goes.by (fun _ k => XS.sipush X0.here hx rfl (hb hby d8_5) k) ?_
    show Goes p.tables e below (s₁.setTop (mkF m 8 #[.val (.int pv)] [(.int (255 : Int32)), (.int pv)])) _
    by_cases hc2 : (255 : Int32) < pv
    · refine Goes.by (fun _ k => XS.icmpYes X0.here hx rfl (pc0 := 8) (pc' := 15) rfl (hb hby d8_8) rfl (tlt hc2).2.2.1 (by decide) (by decide) k) ?_
      show Goes p.tables e below (s₁.setTop (mkF m 15 #[.val (.int pv)] [])) _
      refine Goes.by (fun _ k => XS.iconst X0.here hx rfl (hb hby d8_15) k) ?_
      show Goes p.tables e below (s₁.setTop (mkF m 16 #[.val (.int pv)] [(.int (0 : Int32))])) _
      obtain ⟨fs, hr, hrun, hended, hW, hsame⟩ := X0.leave (v := some (.int (0 : Int32))) (fun h => by rw [Bd.returns] at h; cases h)
      refine ⟨_, _, retN X0 hx (t := .boolean) Bd.returns (by simp) (hb hby d8_16) hr, hrun, hended, _, _, rfl, ?_, ⟨_, rfl⟩, hW, hsame.mono (by decide) (by decide)⟩
      show Q8 Z pv h0 n0 _ s₁.heap _
      rw [e0]
      exact ⟨(by rw [fn8, if_neg hc1, if_pos hc2]), N0, rfl⟩
    · refine Goes.by (fun _ k => XS.icmpNo X0.here hx rfl (hb hby d8_8) rfl (flt hc2).2.2.1 k) ?_
      show Goes p.tables e below (s₁.setTop (mkF m 11 #[.val (.int pv)] [])) _
      refine Goes.by (fun _ k => XS.iconst X0.here hx rfl (hb hby d8_11) k) ?_
      show Goes p.tables e below (s₁.setTop (mkF m 12 #[.val (.int pv)] [(.int (1 : Int32))])) _
      refine Goes.by (fun _ k => XS.goto X0.here hx rfl (pc0 := 12) (pc' := 16) rfl (hb hby d8_12) (by decide) (by decide) k) ?_
      show Goes p.tables e below (s₁.setTop (mkF m 16 #[.val (.int pv)] [(.int (1 : Int32))])) _
      obtain ⟨fs, hr, hrun, hended, hW, hsame⟩ := X0.leave (v := some (.int (1 : Int32))) (fun h => by rw [Bd.returns] at h; cases h)
      refine ⟨_, _, retN X0 hx (t := .boolean) Bd.returns (by simp) (hb hby d8_16) hr, hrun, hended, _, _, rfl, ?_, ⟨_, rfl⟩, hW, hsame.mono (by decide) (by decide)⟩
      show Q8 Z pv h0 n0 _ s₁.heap _
      rw [e0]
      exact ⟨(by rw [fn8, if_neg hc1, if_neg hc2]), N0, rfl⟩
theorem d9_0 : decode jdk_29_method_65_code 0 = .ok (.iload_n 0, 1) := by decide +kernel
theorem d9_1 : decode jdk_29_method_65_code 1 = .ok (.iload_n 1, 1) := by decide +kernel
theorem d9_2 : decode jdk_29_method_65_code 2 = .ok (.if_icmp .lt 7, 3) := by decide +kernel
theorem d9_5 : decode jdk_29_method_65_code 5 = .ok (.iload_n 0, 1) := by decide +kernel
theorem d9_6 : decode jdk_29_method_65_code 6 = .ok (.goto 4, 3) := by decide +kernel
theorem d9_10 : decode jdk_29_method_65_code 10 = .ok (.ireturn, 1) := by decide +kernel
theorem ef9 (m : MethodId)  : entryFrame m #[(.int (0 : Int32)), (.int (0 : Int32))] 2 = mkF m 0 #[.val (.int (0 : Int32)), .val (.int (0 : Int32))] [] := by first | (simp [entryFrame, mkF, argsToLocals, Value.category]; done) | rfl
def Q9 (Z : State)  (h0 : Heap) (n0 : Nat) (v : Option Value) (h : Heap) (L : List Loc) : Prop := v = some (.int (0 : Int32)) ∧ Fr n0 L ∧ h = h0
set_option maxRecDepth 65536 in
set_option maxHeartbeats 40000000 in
theorem rm9 (l : Launch) (Z : State) (a0 : Array Value) (hw : ∀ d ∈ tables_1, d.before a0 Z = true) (ws : List Jvm.Cond)  (h0 : Heap) (n0 : Nat) (Z0 : n0 ≤ h0.size) :
    MetFree l (⟨"java/lang/Math", "max", "(II)I"⟩ : MethodName) (head1 (Jvm.Cond.code (⟨"java/lang/Math", "max", "(II)I"⟩ : MethodName) jdk_29_method_65_code 2 (some .int) :: ws) ({ frames := 0, cells := 0, slots := 0, locals := 0 } : Room)) (fun a U => a = #[(.int (0 : Int32)), (.int (0 : Int32))] ∧ Z.Warmed39 U.vm ∧ U.heap = h0) (fun _ _ _ _ _ => True) (fun _ U o U' => ∃ v L, o = .returned v ∧ Q9 Z  h0 n0 v U'.heap L ∧ FrameEnd U o U' L ({ frames := 0, cells := 0, slots := 0, locals := 0 } : Room).cells ({ frames := 0, cells := 0, slots := 0, locals := 0 } : Room).slots) := by
  refine MetFree.of_bodySF (Jvm.Free.JP.mathPlain rfl (by decide +kernel)) hisR ?_
  intro p e s m args below meth c s₁ Bd hml0 hP hK
  obtain ⟨rfl, hZ, hh⟩ := hP
  have hx := Bd.exec
  have hby := Bd.bytes
  have hml : c.maxLocals = 2 := hml0
  have hown : s.vm.findClass "java/lang/Math" = some m.cls := findClass_of_methodNamed Bd.named
  have hnm := (name_of_methodNamed Bd.named Bd.method).1
  have X0 : Stand p l e ({ frames := 0, cells := 0, slots := 0, locals := 0 } : Room) s m #[(.int (0 : Int32)), (.int (0 : Int32))] below meth c s₁ [] 0 0 := Stand.of_body Bd
  have e0 : s₁.heap = h0 := by rw [← hh, Bd.state]; rfl
  have N0 := Fr.nil n0
  refine Goes.by (fun _ k => castTop (ef9 m) k) ?_
  show Goes p.tables e below (s₁.setTop (mkF m 0 #[.val (.int (0 : Int32)), .val (.int (0 : Int32))] [])) _
  refine Goes.by (fun _ k => XS.iloadN X0.here hx rfl (hb hby d9_0) rfl k) ?_
  show Goes p.tables e below (s₁.setTop (mkF m 1 #[.val (.int (0 : Int32)), .val (.int (0 : Int32))] [(.int (0 : Int32))])) _
  refine Goes.by (fun _ k => XS.iloadN X0.here hx rfl (hb hby d9_1) rfl k) ?_
  show Goes p.tables e below (s₁.setTop (mkF m 2 #[.val (.int (0 : Int32)), .val (.int (0 : Int32))] [(.int (0 : Int32)), (.int (0 : Int32))])) _
  refine Goes.by (fun _ k => XS.icmpNo X0.here hx rfl (hb hby d9_2) rfl (flt (by decide : ¬ ((0 : Int32) < (0 : Int32)))).1 k) ?_
  show Goes p.tables e below (s₁.setTop (mkF m 5 #[.val (.int (0 : Int32)), .val (.int (0 : Int32))] [])) _
  refine Goes.by (fun _ k => XS.iloadN X0.here hx rfl (hb hby d9_5) rfl k) ?_
  show Goes p.tables e below (s₁.setTop (mkF m 6 #[.val (.int (0 : Int32)), .val (.int (0 : Int32))] [(.int (0 : Int32))])) _
  refine Goes.by (fun _ k => XS.goto X0.here hx rfl (pc0 := 6) (pc' := 10) rfl (hb hby d9_6) (by decide) (by decide) k) ?_
  show Goes p.tables e below (s₁.setTop (mkF m 10 #[.val (.int (0 : Int32)), .val (.int (0 : Int32))] [(.int (0 : Int32))])) _
  obtain ⟨fs, hr, hrun, hended, hW, hsame⟩ := X0.leave (v := some (.int (0 : Int32))) (fun h => by rw [Bd.returns] at h; cases h)
  refine ⟨_, _, retI X0 hx Bd.returns (hb hby d9_10) hr, hrun, hended, _, _, rfl, ?_, ⟨_, rfl⟩, hW, hsame.mono (by decide) (by decide)⟩
  show Q9 Z  h0 n0 _ s₁.heap _
  rw [e0]
  exact ⟨rfl, N0, rfl⟩
theorem d10_0 : decode jdk_29_method_69_code 0 = .ok (.iload_n 0, 1) := by decide +kernel
theorem d10_1 : decode jdk_29_method_69_code 1 = .ok (.iload_n 1, 1) := by decide +kernel
theorem d10_2 : decode jdk_29_method_69_code 2 = .ok (.if_icmp .gt 7, 3) := by decide +kernel
theorem d10_5 : decode jdk_29_method_69_code 5 = .ok (.iload_n 0, 1) := by decide +kernel
theorem d10_6 : decode jdk_29_method_69_code 6 = .ok (.goto 4, 3) := by decide +kernel
theorem d10_10 : decode jdk_29_method_69_code 10 = .ok (.ireturn, 1) := by decide +kernel
theorem ef10 (m : MethodId)  : entryFrame m #[(.int (19 : Int32)), (.int (19 : Int32))] 2 = mkF m 0 #[.val (.int (19 : Int32)), .val (.int (19 : Int32))] [] := by first | (simp [entryFrame, mkF, argsToLocals, Value.category]; done) | rfl
def Q10 (Z : State)  (h0 : Heap) (n0 : Nat) (v : Option Value) (h : Heap) (L : List Loc) : Prop := v = some (.int (19 : Int32)) ∧ Fr n0 L ∧ h = h0
set_option maxRecDepth 65536 in
set_option maxHeartbeats 40000000 in
theorem rm10 (l : Launch) (Z : State) (a0 : Array Value) (hw : ∀ d ∈ tables_1, d.before a0 Z = true) (ws : List Jvm.Cond)  (h0 : Heap) (n0 : Nat) (Z0 : n0 ≤ h0.size) :
    MetFree l (⟨"java/lang/Math", "min", "(II)I"⟩ : MethodName) (head1 (Jvm.Cond.code (⟨"java/lang/Math", "min", "(II)I"⟩ : MethodName) jdk_29_method_69_code 2 (some .int) :: ws) ({ frames := 0, cells := 0, slots := 0, locals := 0 } : Room)) (fun a U => a = #[(.int (19 : Int32)), (.int (19 : Int32))] ∧ Z.Warmed39 U.vm ∧ U.heap = h0) (fun _ _ _ _ _ => True) (fun _ U o U' => ∃ v L, o = .returned v ∧ Q10 Z  h0 n0 v U'.heap L ∧ FrameEnd U o U' L ({ frames := 0, cells := 0, slots := 0, locals := 0 } : Room).cells ({ frames := 0, cells := 0, slots := 0, locals := 0 } : Room).slots) := by
  refine MetFree.of_bodySF (Jvm.Free.JP.mathPlain rfl (by decide +kernel)) hisR ?_
  intro p e s m args below meth c s₁ Bd hml0 hP hK
  obtain ⟨rfl, hZ, hh⟩ := hP
  have hx := Bd.exec
  have hby := Bd.bytes
  have hml : c.maxLocals = 2 := hml0
  have hown : s.vm.findClass "java/lang/Math" = some m.cls := findClass_of_methodNamed Bd.named
  have hnm := (name_of_methodNamed Bd.named Bd.method).1
  have X0 : Stand p l e ({ frames := 0, cells := 0, slots := 0, locals := 0 } : Room) s m #[(.int (19 : Int32)), (.int (19 : Int32))] below meth c s₁ [] 0 0 := Stand.of_body Bd
  have e0 : s₁.heap = h0 := by rw [← hh, Bd.state]; rfl
  have N0 := Fr.nil n0
  refine Goes.by (fun _ k => castTop (ef10 m) k) ?_
  show Goes p.tables e below (s₁.setTop (mkF m 0 #[.val (.int (19 : Int32)), .val (.int (19 : Int32))] [])) _
  refine Goes.by (fun _ k => XS.iloadN X0.here hx rfl (hb hby d10_0) rfl k) ?_
  show Goes p.tables e below (s₁.setTop (mkF m 1 #[.val (.int (19 : Int32)), .val (.int (19 : Int32))] [(.int (19 : Int32))])) _
  refine Goes.by (fun _ k => XS.iloadN X0.here hx rfl (hb hby d10_1) rfl k) ?_
  show Goes p.tables e below (s₁.setTop (mkF m 2 #[.val (.int (19 : Int32)), .val (.int (19 : Int32))] [(.int (19 : Int32)), (.int (19 : Int32))])) _
  refine Goes.by (fun _ k => XS.icmpNo X0.here hx rfl (hb hby d10_2) rfl (flt (by decide : ¬ ((19 : Int32) < (19 : Int32)))).2.2.1 k) ?_
  show Goes p.tables e below (s₁.setTop (mkF m 5 #[.val (.int (19 : Int32)), .val (.int (19 : Int32))] [])) _
  refine Goes.by (fun _ k => XS.iloadN X0.here hx rfl (hb hby d10_5) rfl k) ?_
  show Goes p.tables e below (s₁.setTop (mkF m 6 #[.val (.int (19 : Int32)), .val (.int (19 : Int32))] [(.int (19 : Int32))])) _
  refine Goes.by (fun _ k => XS.goto X0.here hx rfl (pc0 := 6) (pc' := 10) rfl (hb hby d10_6) (by decide) (by decide) k) ?_
  show Goes p.tables e below (s₁.setTop (mkF m 10 #[.val (.int (19 : Int32)), .val (.int (19 : Int32))] [(.int (19 : Int32))])) _
  obtain ⟨fs, hr, hrun, hended, hW, hsame⟩ := X0.leave (v := some (.int (19 : Int32))) (fun h => by rw [Bd.returns] at h; cases h)
  refine ⟨_, _, retI X0 hx Bd.returns (hb hby d10_10) hr, hrun, hended, _, _, rfl, ?_, ⟨_, rfl⟩, hW, hsame.mono (by decide) (by decide)⟩
  show Q10 Z  h0 n0 _ s₁.heap _
  rw [e0]
  exact ⟨rfl, N0, rfl⟩
theorem d11_0 : decode jdk_43_method_23_code 0 = .ok (.iload_n 1, 1) := by decide +kernel
theorem d11_1 : decode jdk_43_method_23_code 1 = .ok (.i2b, 1) := by decide +kernel
theorem d11_2 : decode jdk_43_method_23_code 2 = .ok (.istore 4, 2) := by decide +kernel
theorem d11_4 : decode jdk_43_method_23_code 4 = .ok (.iload_n 2, 1) := by decide +kernel
theorem d11_5 : decode jdk_43_method_23_code 5 = .ok (.istore 5, 2) := by decide +kernel
theorem d11_7 : decode jdk_43_method_23_code 7 = .ok (.iload 5, 2) := by decide +kernel
theorem d11_9 : decode jdk_43_method_23_code 9 = .ok (.iload_n 3, 1) := by decide +kernel
theorem d11_10 : decode jdk_43_method_23_code 10 = .ok (.if_icmp .ge 21, 3) := by decide +kernel
theorem d11_13 : decode jdk_43_method_23_code 13 = .ok (.aload_n 0, 1) := by decide +kernel
theorem d11_14 : decode jdk_43_method_23_code 14 = .ok (.iload 5, 2) := by decide +kernel
theorem d11_16 : decode jdk_43_method_23_code 16 = .ok (.baload, 1) := by decide +kernel
theorem d11_17 : decode jdk_43_method_23_code 17 = .ok (.iload 4, 2) := by decide +kernel
theorem d11_19 : decode jdk_43_method_23_code 19 = .ok (.if_icmp .ne 6, 3) := by decide +kernel
theorem d11_22 : decode jdk_43_method_23_code 22 = .ok (.iload 5, 2) := by decide +kernel
theorem d11_24 : decode jdk_43_method_23_code 24 = .ok (.ireturn, 1) := by decide +kernel
theorem d11_25 : decode jdk_43_method_23_code 25 = .ok (.iinc 5 1, 3) := by decide +kernel
theorem d11_28 : decode jdk_43_method_23_code 28 = .ok (.goto (-21), 3) := by decide +kernel
theorem d11_31 : decode jdk_43_method_23_code 31 = .ok (.iconst (-1), 1) := by decide +kernel
theorem d11_32 : decode jdk_43_method_23_code 32 = .ok (.ireturn, 1) := by decide +kernel
def fn11 (pv : Int32) : Int32 := (if (own_txt 0) = (pv.toInt8.toInt32) then (0 : Int32) else (if (own_txt 1) = (pv.toInt8.toInt32) then (1 : Int32) else (if (own_txt 2) = (pv.toInt8.toInt32) then (2 : Int32) else (if (own_txt 3) = (pv.toInt8.toInt32) then (3 : Int32) else (if (own_txt 4) = (pv.toInt8.toInt32) then (4 : Int32) else (if (own_txt 5) = (pv.toInt8.toInt32) then (5 : Int32) else (if (own_txt 6) = (pv.toInt8.toInt32) then (6 : Int32) else (if (own_txt 7) = (pv.toInt8.toInt32) then (7 : Int32) else (if (own_txt 8) = (pv.toInt8.toInt32) then (8 : Int32) else (if (own_txt 9) = (pv.toInt8.toInt32) then (9 : Int32) else (if (own_txt 10) = (pv.toInt8.toInt32) then (10 : Int32) else (if (own_txt 11) = (pv.toInt8.toInt32) then (11 : Int32) else (if (own_txt 12) = (pv.toInt8.toInt32) then (12 : Int32) else (if (own_txt 13) = (pv.toInt8.toInt32) then (13 : Int32) else (if (own_txt 14) = (pv.toInt8.toInt32) then (14 : Int32) else (if (own_txt 15) = (pv.toInt8.toInt32) then (15 : Int32) else (if (own_txt 16) = (pv.toInt8.toInt32) then (16 : Int32) else (if (own_txt 17) = (pv.toInt8.toInt32) then (17 : Int32) else (if (own_txt 18) = (pv.toInt8.toInt32) then (18 : Int32) else (-1 : Int32))))))))))))))))))))
theorem ef11 (m : MethodId) (ab : Addr) (pv : Int32) : entryFrame m #[(.ref ab), (.int pv), (.int (0 : Int32)), (.int (19 : Int32))] 6 = mkF m 0 #[.val (.ref ab), .val (.int pv), .val (.int (0 : Int32)), .val (.int (19 : Int32)), .unset, .unset] [] := by first | (simp [entryFrame, mkF, argsToLocals, Value.category]; done) | rfl
def Q11 (Z : State) (ab : Addr) (pv : Int32) (h0 : Heap) (n0 : Nat) (v : Option Value) (h : Heap) (L : List Loc) : Prop := v = some (.int (fn11 pv)) ∧ Fr n0 L ∧ h = h0
set_option maxRecDepth 65536 in
set_option maxHeartbeats 40000000 in
theorem rm11 (l : Launch) (Z : State) (a0 : Array Value) (hw : ∀ d ∈ tables_1, d.before a0 Z = true) (ws : List Jvm.Cond) (ab : Addr) (pv : Int32) (h0 : Heap) (n0 : Nat) (Z0 : n0 ≤ h0.size) (A_ab : AI Z h0 ab .byte 19 own_txt) :
    MetFree l (⟨"java/lang/StringLatin1", "indexOfChar", "([BIII)I"⟩ : MethodName) (head1 (Jvm.Cond.code (⟨"java/lang/StringLatin1", "indexOfChar", "([BIII)I"⟩ : MethodName) jdk_43_method_23_code 6 (some .int) :: ws) ({ frames := 0, cells := 0, slots := 0, locals := 0 } : Room)) (fun a U => a = #[(.ref ab), (.int pv), (.int (0 : Int32)), (.int (19 : Int32))] ∧ Z.Warmed39 U.vm ∧ U.heap = h0) (fun _ _ _ _ _ => True) (fun _ U o U' => ∃ v L, o = .returned v ∧ Q11 Z ab pv h0 n0 v U'.heap L ∧ FrameEnd U o U' L ({ frames := 0, cells := 0, slots := 0, locals := 0 } : Room).cells ({ frames := 0, cells := 0, slots := 0, locals := 0 } : Room).slots) := by
  refine MetFree.of_bodySF (plainFor_of_name pn_0) hisR ?_
  intro p e s m args below meth c s₁ Bd hml0 hP hK
  obtain ⟨rfl, hZ, hh⟩ := hP
  have hx := Bd.exec
  have hby := Bd.bytes
  have hml : c.maxLocals = 6 := hml0
  have hown : s.vm.findClass "java/lang/StringLatin1" = some m.cls := findClass_of_methodNamed Bd.named
  have hnm := (name_of_methodNamed Bd.named Bd.method).1
  have X0 : Stand p l e ({ frames := 0, cells := 0, slots := 0, locals := 0 } : Room) s m #[(.ref ab), (.int pv), (.int (0 : Int32)), (.int (19 : Int32))] below meth c s₁ [] 0 0 := Stand.of_body Bd
  have e0 : s₁.heap = h0 := by rw [← hh, Bd.state]; rfl
  have N0 := Fr.nil n0
  refine Goes.by (fun _ k => castTop (ef11 m ab pv) k) ?_
  show Goes p.tables e below (s₁.setTop (mkF m 0 #[.val (.ref ab), .val (.int pv), .val (.int (0 : Int32)), .val (.int (19 : Int32)), .unset, .unset] [])) _
  refine Goes.by (fun _ k => XS.iloadN X0.here hx rfl (hb hby d11_0) rfl k) ?_
  show Goes p.tables e below (s₁.setTop (mkF m 1 #[.val (.ref ab), .val (.int pv), .val (.int (0 : Int32)), .val (.int (19 : Int32)), .unset, .unset] [(.int pv)])) _
  refine Goes.by (fun _ k => XS.i2b X0.here hx rfl (hb hby d11_1) rfl k) ?_
  show Goes p.tables e below (s₁.setTop (mkF m 2 #[.val (.ref ab), .val (.int pv), .val (.int (0 : Int32)), .val (.int (19 : Int32)), .unset, .unset] [(.int (pv.toInt8.toInt32))])) _
  refine Goes.by (fun _ k => XS.istore X0.here hx rfl (hb hby d11_2) rfl (l' := #[.val (.ref ab), .val (.int pv), .val (.int (0 : Int32)), .val (.int (19 : Int32)), .val (.int (pv.toInt8.toInt32)), .unset]) rfl k) ?_
  show Goes p.tables e below (s₁.setTop (mkF m 4 #[.val (.ref ab), .val (.int pv), .val (.int (0 : Int32)), .val (.int (19 : Int32)), .val (.int (pv.toInt8.toInt32)), .unset] [])) _
  refine Goes.by (fun _ k => XS.iloadN X0.here hx rfl (hb hby d11_4) rfl k) ?_
  show Goes p.tables e below (s₁.setTop (mkF m 5 #[.val (.ref ab), .val (.int pv), .val (.int (0 : Int32)), .val (.int (19 : Int32)), .val (.int (pv.toInt8.toInt32)), .unset] [(.int (0 : Int32))])) _
  refine Goes.by (fun _ k => XS.istore X0.here hx rfl (hb hby d11_5) rfl (l' := #[.val (.ref ab), .val (.int pv), .val (.int (0 : Int32)), .val (.int (19 : Int32)), .val (.int (pv.toInt8.toInt32)), .val (.int (0 : Int32))]) rfl k) ?_
  show Goes p.tables e below (s₁.setTop (mkF m 7 #[.val (.ref ab), .val (.int pv), .val (.int (0 : Int32)), .val (.int (19 : Int32)), .val (.int (pv.toInt8.toInt32)), .val (.int (0 : Int32))] [])) _
  refine Goes.by (fun _ k => XS.iload X0.here hx rfl (hb hby d11_7) rfl k) ?_
  show Goes p.tables e below (s₁.setTop (mkF m 9 #[.val (.ref ab), .val (.int pv), .val (.int (0 : Int32)), .val (.int (19 : Int32)), .val (.int (pv.toInt8.toInt32)), .val (.int (0 : Int32))] [(.int (0 : Int32))])) _
  refine Goes.by (fun _ k => XS.iloadN X0.here hx rfl (hb hby d11_9) rfl k) ?_
  show Goes p.tables e below (s₁.setTop (mkF m 10 #[.val (.ref ab), .val (.int pv), .val (.int (0 : Int32)), .val (.int (19 : Int32)), .val (.int (pv.toInt8.toInt32)), .val (.int (0 : Int32))] [(.int (19 : Int32)), (.int (0 : Int32))])) _
  refine Goes.by (fun _ k => XS.icmpNo X0.here hx rfl (hb hby d11_10) rfl (tlt (by decide : (0 : Int32) < (19 : Int32))).2.1 k) ?_
  show Goes p.tables e below (s₁.setTop (mkF m 13 #[.val (.ref ab), .val (.int pv), .val (.int (0 : Int32)), .val (.int (19 : Int32)), .val (.int (pv.toInt8.toInt32)), .val (.int (0 : Int32))] [])) _
  refine Goes.by (fun _ k => XS.aloadN X0.here hx rfl (hb hby d11_13) rfl rfl k) ?_
  show Goes p.tables e below (s₁.setTop (mkF m 14 #[.val (.ref ab), .val (.int pv), .val (.int (0 : Int32)), .val (.int (19 : Int32)), .val (.int (pv.toInt8.toInt32)), .val (.int (0 : Int32))] [(.ref ab)])) _
  refine Goes.by (fun _ k => XS.iload X0.here hx rfl (hb hby d11_14) rfl k) ?_
  show Goes p.tables e below (s₁.setTop (mkF m 16 #[.val (.ref ab), .val (.int pv), .val (.int (0 : Int32)), .val (.int (19 : Int32)), .val (.int (pv.toInt8.toInt32)), .val (.int (0 : Int32))] [(.int (0 : Int32)), (.ref ab)])) _
  refine Goes.by (fun _ k => ldB (v := (own_txt 0)) (fr := (mkF m 16 #[.val (.ref ab), .val (.int pv), .val (.int (0 : Int32)), .val (.int (19 : Int32)), .val (.int (pv.toInt8.toInt32)), .val (.int (0 : Int32))] [(.int (0 : Int32)), (.ref ab)])) X0 hx hZ e0 A_ab (i := 0) (by decide) (by decide) rfl rfl rfl (hb hby d11_16) k) ?_
  show Goes p.tables e below (s₁.setTop (mkF m 17 #[.val (.ref ab), .val (.int pv), .val (.int (0 : Int32)), .val (.int (19 : Int32)), .val (.int (pv.toInt8.toInt32)), .val (.int (0 : Int32))] [(.int (own_txt 0))])) _
  refine Goes.by (fun _ k => XS.iload X0.here hx rfl (hb hby d11_17) rfl k) ?_
  show Goes p.tables e below (s₁.setTop (mkF m 19 #[.val (.ref ab), .val (.int pv), .val (.int (0 : Int32)), .val (.int (19 : Int32)), .val (.int (pv.toInt8.toInt32)), .val (.int (0 : Int32))] [(.int (pv.toInt8.toInt32)), (.int (own_txt 0))])) _
  by_cases hc1 : (own_txt 0) = (pv.toInt8.toInt32)
  · refine Goes.by (fun _ k => XS.icmpNo X0.here hx rfl (hb hby d11_19) rfl (teq hc1).2 k) ?_
    show Goes p.tables e below (s₁.setTop (mkF m 22 #[.val (.ref ab), .val (.int pv), .val (.int (0 : Int32)), .val (.int (19 : Int32)), .val (.int (pv.toInt8.toInt32)), .val (.int (0 : Int32))] [])) _
    refine Goes.by (fun _ k => XS.iload X0.here hx rfl (hb hby d11_22) rfl k) ?_
    show Goes p.tables e below (s₁.setTop (mkF m 24 #[.val (.ref ab), .val (.int pv), .val (.int (0 : Int32)), .val (.int (19 : Int32)), .val (.int (pv.toInt8.toInt32)), .val (.int (0 : Int32))] [(.int (0 : Int32))])) _
    obtain ⟨fs, hr, hrun, hended, hW, hsame⟩ := X0.leave (v := some (.int (0 : Int32))) (fun h => by rw [Bd.returns] at h; cases h)
    refine ⟨_, _, retI X0 hx Bd.returns (hb hby d11_24) hr, hrun, hended, _, _, rfl, ?_, ⟨_, rfl⟩, hW, hsame.mono (by decide) (by decide)⟩
    show Q11 Z ab pv h0 n0 _ s₁.heap _
    rw [e0]
    exact ⟨(by rw [fn11, if_pos hc1]), N0, rfl⟩
  · refine Goes.by (fun _ k => XS.icmpYes X0.here hx rfl (pc0 := 19) (pc' := 25) rfl (hb hby d11_19) rfl (feq hc1).2 (by decide) (by decide) k) ?_
    show Goes p.tables e below (s₁.setTop (mkF m 25 #[.val (.ref ab), .val (.int pv), .val (.int (0 : Int32)), .val (.int (19 : Int32)), .val (.int (pv.toInt8.toInt32)), .val (.int (0 : Int32))] [])) _
    refine Goes.by (fun _ k => XS.iinc X0.here hx rfl (hb hby d11_25) rfl (l' := #[.val (.ref ab), .val (.int pv), .val (.int (0 : Int32)), .val (.int (19 : Int32)), .val (.int (pv.toInt8.toInt32)), .val (.int (1 : Int32))]) rfl k) ?_
    show Goes p.tables e below (s₁.setTop (mkF m 28 #[.val (.ref ab), .val (.int pv), .val (.int (0 : Int32)), .val (.int (19 : Int32)), .val (.int (pv.toInt8.toInt32)), .val (.int (1 : Int32))] [])) _
    refine Goes.by (fun _ k => XS.goto X0.here hx rfl (pc0 := 28) (pc' := 7) rfl (hb hby d11_28) (by decide) (by decide) k) ?_
    show Goes p.tables e below (s₁.setTop (mkF m 7 #[.val (.ref ab), .val (.int pv), .val (.int (0 : Int32)), .val (.int (19 : Int32)), .val (.int (pv.toInt8.toInt32)), .val (.int (1 : Int32))] [])) _
    refine Goes.by (fun _ k => XS.iload X0.here hx rfl (hb hby d11_7) rfl k) ?_
    show Goes p.tables e below (s₁.setTop (mkF m 9 #[.val (.ref ab), .val (.int pv), .val (.int (0 : Int32)), .val (.int (19 : Int32)), .val (.int (pv.toInt8.toInt32)), .val (.int (1 : Int32))] [(.int (1 : Int32))])) _
    refine Goes.by (fun _ k => XS.iloadN X0.here hx rfl (hb hby d11_9) rfl k) ?_
    show Goes p.tables e below (s₁.setTop (mkF m 10 #[.val (.ref ab), .val (.int pv), .val (.int (0 : Int32)), .val (.int (19 : Int32)), .val (.int (pv.toInt8.toInt32)), .val (.int (1 : Int32))] [(.int (19 : Int32)), (.int (1 : Int32))])) _
    refine Goes.by (fun _ k => XS.icmpNo X0.here hx rfl (hb hby d11_10) rfl (tlt (by decide : (1 : Int32) < (19 : Int32))).2.1 k) ?_
    show Goes p.tables e below (s₁.setTop (mkF m 13 #[.val (.ref ab), .val (.int pv), .val (.int (0 : Int32)), .val (.int (19 : Int32)), .val (.int (pv.toInt8.toInt32)), .val (.int (1 : Int32))] [])) _
    refine Goes.by (fun _ k => XS.aloadN X0.here hx rfl (hb hby d11_13) rfl rfl k) ?_
    show Goes p.tables e below (s₁.setTop (mkF m 14 #[.val (.ref ab), .val (.int pv), .val (.int (0 : Int32)), .val (.int (19 : Int32)), .val (.int (pv.toInt8.toInt32)), .val (.int (1 : Int32))] [(.ref ab)])) _
    refine Goes.by (fun _ k => XS.iload X0.here hx rfl (hb hby d11_14) rfl k) ?_
    show Goes p.tables e below (s₁.setTop (mkF m 16 #[.val (.ref ab), .val (.int pv), .val (.int (0 : Int32)), .val (.int (19 : Int32)), .val (.int (pv.toInt8.toInt32)), .val (.int (1 : Int32))] [(.int (1 : Int32)), (.ref ab)])) _
    refine Goes.by (fun _ k => ldB (v := (own_txt 1)) (fr := (mkF m 16 #[.val (.ref ab), .val (.int pv), .val (.int (0 : Int32)), .val (.int (19 : Int32)), .val (.int (pv.toInt8.toInt32)), .val (.int (1 : Int32))] [(.int (1 : Int32)), (.ref ab)])) X0 hx hZ e0 A_ab (i := 1) (by decide) (by decide) rfl rfl rfl (hb hby d11_16) k) ?_
    show Goes p.tables e below (s₁.setTop (mkF m 17 #[.val (.ref ab), .val (.int pv), .val (.int (0 : Int32)), .val (.int (19 : Int32)), .val (.int (pv.toInt8.toInt32)), .val (.int (1 : Int32))] [(.int (own_txt 1))])) _
    refine Goes.by (fun _ k => XS.iload X0.here hx rfl (hb hby d11_17) rfl k) ?_
    show Goes p.tables e below (s₁.setTop (mkF m 19 #[.val (.ref ab), .val (.int pv), .val (.int (0 : Int32)), .val (.int (19 : Int32)), .val (.int (pv.toInt8.toInt32)), .val (.int (1 : Int32))] [(.int (pv.toInt8.toInt32)), (.int (own_txt 1))])) _
    by_cases hc2 : (own_txt 1) = (pv.toInt8.toInt32)
    · refine Goes.by (fun _ k => XS.icmpNo X0.here hx rfl (hb hby d11_19) rfl (teq hc2).2 k) ?_
      show Goes p.tables e below (s₁.setTop (mkF m 22 #[.val (.ref ab), .val (.int pv), .val (.int (0 : Int32)), .val (.int (19 : Int32)), .val (.int (pv.toInt8.toInt32)), .val (.int (1 : Int32))] [])) _
      refine Goes.by (fun _ k => XS.iload X0.here hx rfl (hb hby d11_22) rfl k) ?_
      show Goes p.tables e below (s₁.setTop (mkF m 24 #[.val (.ref ab), .val (.int pv), .val (.int (0 : Int32)), .val (.int (19 : Int32)), .val (.int (pv.toInt8.toInt32)), .val (.int (1 : Int32))] [(.int (1 : Int32))])) _
      obtain ⟨fs, hr, hrun, hended, hW, hsame⟩ := X0.leave (v := some (.int (1 : Int32))) (fun h => by rw [Bd.returns] at h; cases h)
      refine ⟨_, _, retI X0 hx Bd.returns (hb hby d11_24) hr, hrun, hended, _, _, rfl, ?_, ⟨_, rfl⟩, hW, hsame.mono (by decide) (by decide)⟩
      show Q11 Z ab pv h0 n0 _ s₁.heap _
      rw [e0]
      exact ⟨(by rw [fn11, if_neg hc1, if_pos hc2]), N0, rfl⟩
    · refine Goes.by (fun _ k => XS.icmpYes X0.here hx rfl (pc0 := 19) (pc' := 25) rfl (hb hby d11_19) rfl (feq hc2).2 (by decide) (by decide) k) ?_
      show Goes p.tables e below (s₁.setTop (mkF m 25 #[.val (.ref ab), .val (.int pv), .val (.int (0 : Int32)), .val (.int (19 : Int32)), .val (.int (pv.toInt8.toInt32)), .val (.int (1 : Int32))] [])) _
      refine Goes.by (fun _ k => XS.iinc X0.here hx rfl (hb hby d11_25) rfl (l' := #[.val (.ref ab), .val (.int pv), .val (.int (0 : Int32)), .val (.int (19 : Int32)), .val (.int (pv.toInt8.toInt32)), .val (.int (2 : Int32))]) rfl k) ?_
      show Goes p.tables e below (s₁.setTop (mkF m 28 #[.val (.ref ab), .val (.int pv), .val (.int (0 : Int32)), .val (.int (19 : Int32)), .val (.int (pv.toInt8.toInt32)), .val (.int (2 : Int32))] [])) _
      refine Goes.by (fun _ k => XS.goto X0.here hx rfl (pc0 := 28) (pc' := 7) rfl (hb hby d11_28) (by decide) (by decide) k) ?_
      show Goes p.tables e below (s₁.setTop (mkF m 7 #[.val (.ref ab), .val (.int pv), .val (.int (0 : Int32)), .val (.int (19 : Int32)), .val (.int (pv.toInt8.toInt32)), .val (.int (2 : Int32))] [])) _
      refine Goes.by (fun _ k => XS.iload X0.here hx rfl (hb hby d11_7) rfl k) ?_
      show Goes p.tables e below (s₁.setTop (mkF m 9 #[.val (.ref ab), .val (.int pv), .val (.int (0 : Int32)), .val (.int (19 : Int32)), .val (.int (pv.toInt8.toInt32)), .val (.int (2 : Int32))] [(.int (2 : Int32))])) _
      refine Goes.by (fun _ k => XS.iloadN X0.here hx rfl (hb hby d11_9) rfl k) ?_
      show Goes p.tables e below (s₁.setTop (mkF m 10 #[.val (.ref ab), .val (.int pv), .val (.int (0 : Int32)), .val (.int (19 : Int32)), .val (.int (pv.toInt8.toInt32)), .val (.int (2 : Int32))] [(.int (19 : Int32)), (.int (2 : Int32))])) _
      refine Goes.by (fun _ k => XS.icmpNo X0.here hx rfl (hb hby d11_10) rfl (tlt (by decide : (2 : Int32) < (19 : Int32))).2.1 k) ?_
      show Goes p.tables e below (s₁.setTop (mkF m 13 #[.val (.ref ab), .val (.int pv), .val (.int (0 : Int32)), .val (.int (19 : Int32)), .val (.int (pv.toInt8.toInt32)), .val (.int (2 : Int32))] [])) _
      refine Goes.by (fun _ k => XS.aloadN X0.here hx rfl (hb hby d11_13) rfl rfl k) ?_
      show Goes p.tables e below (s₁.setTop (mkF m 14 #[.val (.ref ab), .val (.int pv), .val (.int (0 : Int32)), .val (.int (19 : Int32)), .val (.int (pv.toInt8.toInt32)), .val (.int (2 : Int32))] [(.ref ab)])) _
      refine Goes.by (fun _ k => XS.iload X0.here hx rfl (hb hby d11_14) rfl k) ?_
      show Goes p.tables e below (s₁.setTop (mkF m 16 #[.val (.ref ab), .val (.int pv), .val (.int (0 : Int32)), .val (.int (19 : Int32)), .val (.int (pv.toInt8.toInt32)), .val (.int (2 : Int32))] [(.int (2 : Int32)), (.ref ab)])) _
      refine Goes.by (fun _ k => ldB (v := (own_txt 2)) (fr := (mkF m 16 #[.val (.ref ab), .val (.int pv), .val (.int (0 : Int32)), .val (.int (19 : Int32)), .val (.int (pv.toInt8.toInt32)), .val (.int (2 : Int32))] [(.int (2 : Int32)), (.ref ab)])) X0 hx hZ e0 A_ab (i := 2) (by decide) (by decide) rfl rfl rfl (hb hby d11_16) k) ?_
      show Goes p.tables e below (s₁.setTop (mkF m 17 #[.val (.ref ab), .val (.int pv), .val (.int (0 : Int32)), .val (.int (19 : Int32)), .val (.int (pv.toInt8.toInt32)), .val (.int (2 : Int32))] [(.int (own_txt 2))])) _
      refine Goes.by (fun _ k => XS.iload X0.here hx rfl (hb hby d11_17) rfl k) ?_
      show Goes p.tables e below (s₁.setTop (mkF m 19 #[.val (.ref ab), .val (.int pv), .val (.int (0 : Int32)), .val (.int (19 : Int32)), .val (.int (pv.toInt8.toInt32)), .val (.int (2 : Int32))] [(.int (pv.toInt8.toInt32)), (.int (own_txt 2))])) _
      by_cases hc3 : (own_txt 2) = (pv.toInt8.toInt32)
      · refine Goes.by (fun _ k => XS.icmpNo X0.here hx rfl (hb hby d11_19) rfl (teq hc3).2 k) ?_
        show Goes p.tables e below (s₁.setTop (mkF m 22 #[.val (.ref ab), .val (.int pv), .val (.int (0 : Int32)), .val (.int (19 : Int32)), .val (.int (pv.toInt8.toInt32)), .val (.int (2 : Int32))] [])) _
        refine Goes.by (fun _ k => XS.iload X0.here hx rfl (hb hby d11_22) rfl k) ?_
        show Goes p.tables e below (s₁.setTop (mkF m 24 #[.val (.ref ab), .val (.int pv), .val (.int (0 : Int32)), .val (.int (19 : Int32)), .val (.int (pv.toInt8.toInt32)), .val (.int (2 : Int32))] [(.int (2 : Int32))])) _
        obtain ⟨fs, hr, hrun, hended, hW, hsame⟩ := X0.leave (v := some (.int (2 : Int32))) (fun h => by rw [Bd.returns] at h; cases h)
        refine ⟨_, _, retI X0 hx Bd.returns (hb hby d11_24) hr, hrun, hended, _, _, rfl, ?_, ⟨_, rfl⟩, hW, hsame.mono (by decide) (by decide)⟩
        show Q11 Z ab pv h0 n0 _ s₁.heap _
        rw [e0]
        exact ⟨(by rw [fn11, if_neg hc1, if_neg hc2, if_pos hc3]), N0, rfl⟩
      · refine Goes.by (fun _ k => XS.icmpYes X0.here hx rfl (pc0 := 19) (pc' := 25) rfl (hb hby d11_19) rfl (feq hc3).2 (by decide) (by decide) k) ?_
        show Goes p.tables e below (s₁.setTop (mkF m 25 #[.val (.ref ab), .val (.int pv), .val (.int (0 : Int32)), .val (.int (19 : Int32)), .val (.int (pv.toInt8.toInt32)), .val (.int (2 : Int32))] [])) _
        refine Goes.by (fun _ k => XS.iinc X0.here hx rfl (hb hby d11_25) rfl (l' := #[.val (.ref ab), .val (.int pv), .val (.int (0 : Int32)), .val (.int (19 : Int32)), .val (.int (pv.toInt8.toInt32)), .val (.int (3 : Int32))]) rfl k) ?_
        show Goes p.tables e below (s₁.setTop (mkF m 28 #[.val (.ref ab), .val (.int pv), .val (.int (0 : Int32)), .val (.int (19 : Int32)), .val (.int (pv.toInt8.toInt32)), .val (.int (3 : Int32))] [])) _
        refine Goes.by (fun _ k => XS.goto X0.here hx rfl (pc0 := 28) (pc' := 7) rfl (hb hby d11_28) (by decide) (by decide) k) ?_
        show Goes p.tables e below (s₁.setTop (mkF m 7 #[.val (.ref ab), .val (.int pv), .val (.int (0 : Int32)), .val (.int (19 : Int32)), .val (.int (pv.toInt8.toInt32)), .val (.int (3 : Int32))] [])) _
        refine Goes.by (fun _ k => XS.iload X0.here hx rfl (hb hby d11_7) rfl k) ?_
        show Goes p.tables e below (s₁.setTop (mkF m 9 #[.val (.ref ab), .val (.int pv), .val (.int (0 : Int32)), .val (.int (19 : Int32)), .val (.int (pv.toInt8.toInt32)), .val (.int (3 : Int32))] [(.int (3 : Int32))])) _
        refine Goes.by (fun _ k => XS.iloadN X0.here hx rfl (hb hby d11_9) rfl k) ?_
        show Goes p.tables e below (s₁.setTop (mkF m 10 #[.val (.ref ab), .val (.int pv), .val (.int (0 : Int32)), .val (.int (19 : Int32)), .val (.int (pv.toInt8.toInt32)), .val (.int (3 : Int32))] [(.int (19 : Int32)), (.int (3 : Int32))])) _
        refine Goes.by (fun _ k => XS.icmpNo X0.here hx rfl (hb hby d11_10) rfl (tlt (by decide : (3 : Int32) < (19 : Int32))).2.1 k) ?_
        show Goes p.tables e below (s₁.setTop (mkF m 13 #[.val (.ref ab), .val (.int pv), .val (.int (0 : Int32)), .val (.int (19 : Int32)), .val (.int (pv.toInt8.toInt32)), .val (.int (3 : Int32))] [])) _
        refine Goes.by (fun _ k => XS.aloadN X0.here hx rfl (hb hby d11_13) rfl rfl k) ?_
        show Goes p.tables e below (s₁.setTop (mkF m 14 #[.val (.ref ab), .val (.int pv), .val (.int (0 : Int32)), .val (.int (19 : Int32)), .val (.int (pv.toInt8.toInt32)), .val (.int (3 : Int32))] [(.ref ab)])) _
        refine Goes.by (fun _ k => XS.iload X0.here hx rfl (hb hby d11_14) rfl k) ?_
        show Goes p.tables e below (s₁.setTop (mkF m 16 #[.val (.ref ab), .val (.int pv), .val (.int (0 : Int32)), .val (.int (19 : Int32)), .val (.int (pv.toInt8.toInt32)), .val (.int (3 : Int32))] [(.int (3 : Int32)), (.ref ab)])) _
        refine Goes.by (fun _ k => ldB (v := (own_txt 3)) (fr := (mkF m 16 #[.val (.ref ab), .val (.int pv), .val (.int (0 : Int32)), .val (.int (19 : Int32)), .val (.int (pv.toInt8.toInt32)), .val (.int (3 : Int32))] [(.int (3 : Int32)), (.ref ab)])) X0 hx hZ e0 A_ab (i := 3) (by decide) (by decide) rfl rfl rfl (hb hby d11_16) k) ?_
        show Goes p.tables e below (s₁.setTop (mkF m 17 #[.val (.ref ab), .val (.int pv), .val (.int (0 : Int32)), .val (.int (19 : Int32)), .val (.int (pv.toInt8.toInt32)), .val (.int (3 : Int32))] [(.int (own_txt 3))])) _
        refine Goes.by (fun _ k => XS.iload X0.here hx rfl (hb hby d11_17) rfl k) ?_
        show Goes p.tables e below (s₁.setTop (mkF m 19 #[.val (.ref ab), .val (.int pv), .val (.int (0 : Int32)), .val (.int (19 : Int32)), .val (.int (pv.toInt8.toInt32)), .val (.int (3 : Int32))] [(.int (pv.toInt8.toInt32)), (.int (own_txt 3))])) _
        by_cases hc4 : (own_txt 3) = (pv.toInt8.toInt32)
        · refine Goes.by (fun _ k => XS.icmpNo X0.here hx rfl (hb hby d11_19) rfl (teq hc4).2 k) ?_
          show Goes p.tables e below (s₁.setTop (mkF m 22 #[.val (.ref ab), .val (.int pv), .val (.int (0 : Int32)), .val (.int (19 : Int32)), .val (.int (pv.toInt8.toInt32)), .val (.int (3 : Int32))] [])) _
          refine Goes.by (fun _ k => XS.iload X0.here hx rfl (hb hby d11_22) rfl k) ?_
          show Goes p.tables e below (s₁.setTop (mkF m 24 #[.val (.ref ab), .val (.int pv), .val (.int (0 : Int32)), .val (.int (19 : Int32)), .val (.int (pv.toInt8.toInt32)), .val (.int (3 : Int32))] [(.int (3 : Int32))])) _
          obtain ⟨fs, hr, hrun, hended, hW, hsame⟩ := X0.leave (v := some (.int (3 : Int32))) (fun h => by rw [Bd.returns] at h; cases h)
          refine ⟨_, _, retI X0 hx Bd.returns (hb hby d11_24) hr, hrun, hended, _, _, rfl, ?_, ⟨_, rfl⟩, hW, hsame.mono (by decide) (by decide)⟩
          show Q11 Z ab pv h0 n0 _ s₁.heap _
          rw [e0]
          exact ⟨(by rw [fn11, if_neg hc1, if_neg hc2, if_neg hc3, if_pos hc4]), N0, rfl⟩
        · refine Goes.by (fun _ k => XS.icmpYes X0.here hx rfl (pc0 := 19) (pc' := 25) rfl (hb hby d11_19) rfl (feq hc4).2 (by decide) (by decide) k) ?_
          show Goes p.tables e below (s₁.setTop (mkF m 25 #[.val (.ref ab), .val (.int pv), .val (.int (0 : Int32)), .val (.int (19 : Int32)), .val (.int (pv.toInt8.toInt32)), .val (.int (3 : Int32))] [])) _
          refine Goes.by (fun _ k => XS.iinc X0.here hx rfl (hb hby d11_25) rfl (l' := #[.val (.ref ab), .val (.int pv), .val (.int (0 : Int32)), .val (.int (19 : Int32)), .val (.int (pv.toInt8.toInt32)), .val (.int (4 : Int32))]) rfl k) ?_
          show Goes p.tables e below (s₁.setTop (mkF m 28 #[.val (.ref ab), .val (.int pv), .val (.int (0 : Int32)), .val (.int (19 : Int32)), .val (.int (pv.toInt8.toInt32)), .val (.int (4 : Int32))] [])) _
          refine Goes.by (fun _ k => XS.goto X0.here hx rfl (pc0 := 28) (pc' := 7) rfl (hb hby d11_28) (by decide) (by decide) k) ?_
          show Goes p.tables e below (s₁.setTop (mkF m 7 #[.val (.ref ab), .val (.int pv), .val (.int (0 : Int32)), .val (.int (19 : Int32)), .val (.int (pv.toInt8.toInt32)), .val (.int (4 : Int32))] [])) _
          refine Goes.by (fun _ k => XS.iload X0.here hx rfl (hb hby d11_7) rfl k) ?_
          show Goes p.tables e below (s₁.setTop (mkF m 9 #[.val (.ref ab), .val (.int pv), .val (.int (0 : Int32)), .val (.int (19 : Int32)), .val (.int (pv.toInt8.toInt32)), .val (.int (4 : Int32))] [(.int (4 : Int32))])) _
          refine Goes.by (fun _ k => XS.iloadN X0.here hx rfl (hb hby d11_9) rfl k) ?_
          show Goes p.tables e below (s₁.setTop (mkF m 10 #[.val (.ref ab), .val (.int pv), .val (.int (0 : Int32)), .val (.int (19 : Int32)), .val (.int (pv.toInt8.toInt32)), .val (.int (4 : Int32))] [(.int (19 : Int32)), (.int (4 : Int32))])) _
          refine Goes.by (fun _ k => XS.icmpNo X0.here hx rfl (hb hby d11_10) rfl (tlt (by decide : (4 : Int32) < (19 : Int32))).2.1 k) ?_
          show Goes p.tables e below (s₁.setTop (mkF m 13 #[.val (.ref ab), .val (.int pv), .val (.int (0 : Int32)), .val (.int (19 : Int32)), .val (.int (pv.toInt8.toInt32)), .val (.int (4 : Int32))] [])) _
          refine Goes.by (fun _ k => XS.aloadN X0.here hx rfl (hb hby d11_13) rfl rfl k) ?_
          show Goes p.tables e below (s₁.setTop (mkF m 14 #[.val (.ref ab), .val (.int pv), .val (.int (0 : Int32)), .val (.int (19 : Int32)), .val (.int (pv.toInt8.toInt32)), .val (.int (4 : Int32))] [(.ref ab)])) _
          refine Goes.by (fun _ k => XS.iload X0.here hx rfl (hb hby d11_14) rfl k) ?_
          show Goes p.tables e below (s₁.setTop (mkF m 16 #[.val (.ref ab), .val (.int pv), .val (.int (0 : Int32)), .val (.int (19 : Int32)), .val (.int (pv.toInt8.toInt32)), .val (.int (4 : Int32))] [(.int (4 : Int32)), (.ref ab)])) _
          refine Goes.by (fun _ k => ldB (v := (own_txt 4)) (fr := (mkF m 16 #[.val (.ref ab), .val (.int pv), .val (.int (0 : Int32)), .val (.int (19 : Int32)), .val (.int (pv.toInt8.toInt32)), .val (.int (4 : Int32))] [(.int (4 : Int32)), (.ref ab)])) X0 hx hZ e0 A_ab (i := 4) (by decide) (by decide) rfl rfl rfl (hb hby d11_16) k) ?_
          show Goes p.tables e below (s₁.setTop (mkF m 17 #[.val (.ref ab), .val (.int pv), .val (.int (0 : Int32)), .val (.int (19 : Int32)), .val (.int (pv.toInt8.toInt32)), .val (.int (4 : Int32))] [(.int (own_txt 4))])) _
          refine Goes.by (fun _ k => XS.iload X0.here hx rfl (hb hby d11_17) rfl k) ?_
          show Goes p.tables e below (s₁.setTop (mkF m 19 #[.val (.ref ab), .val (.int pv), .val (.int (0 : Int32)), .val (.int (19 : Int32)), .val (.int (pv.toInt8.toInt32)), .val (.int (4 : Int32))] [(.int (pv.toInt8.toInt32)), (.int (own_txt 4))])) _
          by_cases hc5 : (own_txt 4) = (pv.toInt8.toInt32)
          · refine Goes.by (fun _ k => XS.icmpNo X0.here hx rfl (hb hby d11_19) rfl (teq hc5).2 k) ?_
            show Goes p.tables e below (s₁.setTop (mkF m 22 #[.val (.ref ab), .val (.int pv), .val (.int (0 : Int32)), .val (.int (19 : Int32)), .val (.int (pv.toInt8.toInt32)), .val (.int (4 : Int32))] [])) _
            refine Goes.by (fun _ k => XS.iload X0.here hx rfl (hb hby d11_22) rfl k) ?_
            show Goes p.tables e below (s₁.setTop (mkF m 24 #[.val (.ref ab), .val (.int pv), .val (.int (0 : Int32)), .val (.int (19 : Int32)), .val (.int (pv.toInt8.toInt32)), .val (.int (4 : Int32))] [(.int (4 : Int32))])) _
            obtain ⟨fs, hr, hrun, hended, hW, hsame⟩ := X0.leave (v := some (.int (4 : Int32))) (fun h => by rw [Bd.returns] at h; cases h)
            refine ⟨_, _, retI X0 hx Bd.returns (hb hby d11_24) hr, hrun, hended, _, _, rfl, ?_, ⟨_, rfl⟩, hW, hsame.mono (by decide) (by decide)⟩
            show Q11 Z ab pv h0 n0 _ s₁.heap _
            rw [e0]
            exact ⟨(by rw [fn11, if_neg hc1, if_neg hc2, if_neg hc3, if_neg hc4, if_pos hc5]), N0, rfl⟩
          · refine Goes.by (fun _ k => XS.icmpYes X0.here hx rfl (pc0 := 19) (pc' := 25) rfl (hb hby d11_19) rfl (feq hc5).2 (by decide) (by decide) k) ?_
            show Goes p.tables e below (s₁.setTop (mkF m 25 #[.val (.ref ab), .val (.int pv), .val (.int (0 : Int32)), .val (.int (19 : Int32)), .val (.int (pv.toInt8.toInt32)), .val (.int (4 : Int32))] [])) _
            refine Goes.by (fun _ k => XS.iinc X0.here hx rfl (hb hby d11_25) rfl (l' := #[.val (.ref ab), .val (.int pv), .val (.int (0 : Int32)), .val (.int (19 : Int32)), .val (.int (pv.toInt8.toInt32)), .val (.int (5 : Int32))]) rfl k) ?_
            show Goes p.tables e below (s₁.setTop (mkF m 28 #[.val (.ref ab), .val (.int pv), .val (.int (0 : Int32)), .val (.int (19 : Int32)), .val (.int (pv.toInt8.toInt32)), .val (.int (5 : Int32))] [])) _
            refine Goes.by (fun _ k => XS.goto X0.here hx rfl (pc0 := 28) (pc' := 7) rfl (hb hby d11_28) (by decide) (by decide) k) ?_
            show Goes p.tables e below (s₁.setTop (mkF m 7 #[.val (.ref ab), .val (.int pv), .val (.int (0 : Int32)), .val (.int (19 : Int32)), .val (.int (pv.toInt8.toInt32)), .val (.int (5 : Int32))] [])) _
            refine Goes.by (fun _ k => XS.iload X0.here hx rfl (hb hby d11_7) rfl k) ?_
            show Goes p.tables e below (s₁.setTop (mkF m 9 #[.val (.ref ab), .val (.int pv), .val (.int (0 : Int32)), .val (.int (19 : Int32)), .val (.int (pv.toInt8.toInt32)), .val (.int (5 : Int32))] [(.int (5 : Int32))])) _
            refine Goes.by (fun _ k => XS.iloadN X0.here hx rfl (hb hby d11_9) rfl k) ?_
            show Goes p.tables e below (s₁.setTop (mkF m 10 #[.val (.ref ab), .val (.int pv), .val (.int (0 : Int32)), .val (.int (19 : Int32)), .val (.int (pv.toInt8.toInt32)), .val (.int (5 : Int32))] [(.int (19 : Int32)), (.int (5 : Int32))])) _
            refine Goes.by (fun _ k => XS.icmpNo X0.here hx rfl (hb hby d11_10) rfl (tlt (by decide : (5 : Int32) < (19 : Int32))).2.1 k) ?_
            show Goes p.tables e below (s₁.setTop (mkF m 13 #[.val (.ref ab), .val (.int pv), .val (.int (0 : Int32)), .val (.int (19 : Int32)), .val (.int (pv.toInt8.toInt32)), .val (.int (5 : Int32))] [])) _
            refine Goes.by (fun _ k => XS.aloadN X0.here hx rfl (hb hby d11_13) rfl rfl k) ?_
            show Goes p.tables e below (s₁.setTop (mkF m 14 #[.val (.ref ab), .val (.int pv), .val (.int (0 : Int32)), .val (.int (19 : Int32)), .val (.int (pv.toInt8.toInt32)), .val (.int (5 : Int32))] [(.ref ab)])) _
            refine Goes.by (fun _ k => XS.iload X0.here hx rfl (hb hby d11_14) rfl k) ?_
            show Goes p.tables e below (s₁.setTop (mkF m 16 #[.val (.ref ab), .val (.int pv), .val (.int (0 : Int32)), .val (.int (19 : Int32)), .val (.int (pv.toInt8.toInt32)), .val (.int (5 : Int32))] [(.int (5 : Int32)), (.ref ab)])) _
            refine Goes.by (fun _ k => ldB (v := (own_txt 5)) (fr := (mkF m 16 #[.val (.ref ab), .val (.int pv), .val (.int (0 : Int32)), .val (.int (19 : Int32)), .val (.int (pv.toInt8.toInt32)), .val (.int (5 : Int32))] [(.int (5 : Int32)), (.ref ab)])) X0 hx hZ e0 A_ab (i := 5) (by decide) (by decide) rfl rfl rfl (hb hby d11_16) k) ?_
            show Goes p.tables e below (s₁.setTop (mkF m 17 #[.val (.ref ab), .val (.int pv), .val (.int (0 : Int32)), .val (.int (19 : Int32)), .val (.int (pv.toInt8.toInt32)), .val (.int (5 : Int32))] [(.int (own_txt 5))])) _
            refine Goes.by (fun _ k => XS.iload X0.here hx rfl (hb hby d11_17) rfl k) ?_
            show Goes p.tables e below (s₁.setTop (mkF m 19 #[.val (.ref ab), .val (.int pv), .val (.int (0 : Int32)), .val (.int (19 : Int32)), .val (.int (pv.toInt8.toInt32)), .val (.int (5 : Int32))] [(.int (pv.toInt8.toInt32)), (.int (own_txt 5))])) _
            by_cases hc6 : (own_txt 5) = (pv.toInt8.toInt32)
            · refine Goes.by (fun _ k => XS.icmpNo X0.here hx rfl (hb hby d11_19) rfl (teq hc6).2 k) ?_
              show Goes p.tables e below (s₁.setTop (mkF m 22 #[.val (.ref ab), .val (.int pv), .val (.int (0 : Int32)), .val (.int (19 : Int32)), .val (.int (pv.toInt8.toInt32)), .val (.int (5 : Int32))] [])) _
              refine Goes.by (fun _ k => XS.iload X0.here hx rfl (hb hby d11_22) rfl k) ?_
              show Goes p.tables e below (s₁.setTop (mkF m 24 #[.val (.ref ab), .val (.int pv), .val (.int (0 : Int32)), .val (.int (19 : Int32)), .val (.int (pv.toInt8.toInt32)), .val (.int (5 : Int32))] [(.int (5 : Int32))])) _
              obtain ⟨fs, hr, hrun, hended, hW, hsame⟩ := X0.leave (v := some (.int (5 : Int32))) (fun h => by rw [Bd.returns] at h; cases h)
              refine ⟨_, _, retI X0 hx Bd.returns (hb hby d11_24) hr, hrun, hended, _, _, rfl, ?_, ⟨_, rfl⟩, hW, hsame.mono (by decide) (by decide)⟩
              show Q11 Z ab pv h0 n0 _ s₁.heap _
              rw [e0]
              exact ⟨(by rw [fn11, if_neg hc1, if_neg hc2, if_neg hc3, if_neg hc4, if_neg hc5, if_pos hc6]), N0, rfl⟩
            · refine Goes.by (fun _ k => XS.icmpYes X0.here hx rfl (pc0 := 19) (pc' := 25) rfl (hb hby d11_19) rfl (feq hc6).2 (by decide) (by decide) k) ?_
              show Goes p.tables e below (s₁.setTop (mkF m 25 #[.val (.ref ab), .val (.int pv), .val (.int (0 : Int32)), .val (.int (19 : Int32)), .val (.int (pv.toInt8.toInt32)), .val (.int (5 : Int32))] [])) _
              refine Goes.by (fun _ k => XS.iinc X0.here hx rfl (hb hby d11_25) rfl (l' := #[.val (.ref ab), .val (.int pv), .val (.int (0 : Int32)), .val (.int (19 : Int32)), .val (.int (pv.toInt8.toInt32)), .val (.int (6 : Int32))]) rfl k) ?_
              show Goes p.tables e below (s₁.setTop (mkF m 28 #[.val (.ref ab), .val (.int pv), .val (.int (0 : Int32)), .val (.int (19 : Int32)), .val (.int (pv.toInt8.toInt32)), .val (.int (6 : Int32))] [])) _
              refine Goes.by (fun _ k => XS.goto X0.here hx rfl (pc0 := 28) (pc' := 7) rfl (hb hby d11_28) (by decide) (by decide) k) ?_
              show Goes p.tables e below (s₁.setTop (mkF m 7 #[.val (.ref ab), .val (.int pv), .val (.int (0 : Int32)), .val (.int (19 : Int32)), .val (.int (pv.toInt8.toInt32)), .val (.int (6 : Int32))] [])) _
              refine Goes.by (fun _ k => XS.iload X0.here hx rfl (hb hby d11_7) rfl k) ?_
              show Goes p.tables e below (s₁.setTop (mkF m 9 #[.val (.ref ab), .val (.int pv), .val (.int (0 : Int32)), .val (.int (19 : Int32)), .val (.int (pv.toInt8.toInt32)), .val (.int (6 : Int32))] [(.int (6 : Int32))])) _
              refine Goes.by (fun _ k => XS.iloadN X0.here hx rfl (hb hby d11_9) rfl k) ?_
              show Goes p.tables e below (s₁.setTop (mkF m 10 #[.val (.ref ab), .val (.int pv), .val (.int (0 : Int32)), .val (.int (19 : Int32)), .val (.int (pv.toInt8.toInt32)), .val (.int (6 : Int32))] [(.int (19 : Int32)), (.int (6 : Int32))])) _
              refine Goes.by (fun _ k => XS.icmpNo X0.here hx rfl (hb hby d11_10) rfl (tlt (by decide : (6 : Int32) < (19 : Int32))).2.1 k) ?_
              show Goes p.tables e below (s₁.setTop (mkF m 13 #[.val (.ref ab), .val (.int pv), .val (.int (0 : Int32)), .val (.int (19 : Int32)), .val (.int (pv.toInt8.toInt32)), .val (.int (6 : Int32))] [])) _
              refine Goes.by (fun _ k => XS.aloadN X0.here hx rfl (hb hby d11_13) rfl rfl k) ?_
              show Goes p.tables e below (s₁.setTop (mkF m 14 #[.val (.ref ab), .val (.int pv), .val (.int (0 : Int32)), .val (.int (19 : Int32)), .val (.int (pv.toInt8.toInt32)), .val (.int (6 : Int32))] [(.ref ab)])) _
              refine Goes.by (fun _ k => XS.iload X0.here hx rfl (hb hby d11_14) rfl k) ?_
              show Goes p.tables e below (s₁.setTop (mkF m 16 #[.val (.ref ab), .val (.int pv), .val (.int (0 : Int32)), .val (.int (19 : Int32)), .val (.int (pv.toInt8.toInt32)), .val (.int (6 : Int32))] [(.int (6 : Int32)), (.ref ab)])) _
              refine Goes.by (fun _ k => ldB (v := (own_txt 6)) (fr := (mkF m 16 #[.val (.ref ab), .val (.int pv), .val (.int (0 : Int32)), .val (.int (19 : Int32)), .val (.int (pv.toInt8.toInt32)), .val (.int (6 : Int32))] [(.int (6 : Int32)), (.ref ab)])) X0 hx hZ e0 A_ab (i := 6) (by decide) (by decide) rfl rfl rfl (hb hby d11_16) k) ?_
              show Goes p.tables e below (s₁.setTop (mkF m 17 #[.val (.ref ab), .val (.int pv), .val (.int (0 : Int32)), .val (.int (19 : Int32)), .val (.int (pv.toInt8.toInt32)), .val (.int (6 : Int32))] [(.int (own_txt 6))])) _
              refine Goes.by (fun _ k => XS.iload X0.here hx rfl (hb hby d11_17) rfl k) ?_
              show Goes p.tables e below (s₁.setTop (mkF m 19 #[.val (.ref ab), .val (.int pv), .val (.int (0 : Int32)), .val (.int (19 : Int32)), .val (.int (pv.toInt8.toInt32)), .val (.int (6 : Int32))] [(.int (pv.toInt8.toInt32)), (.int (own_txt 6))])) _
              by_cases hc7 : (own_txt 6) = (pv.toInt8.toInt32)
              · refine Goes.by (fun _ k => XS.icmpNo X0.here hx rfl (hb hby d11_19) rfl (teq hc7).2 k) ?_
                show Goes p.tables e below (s₁.setTop (mkF m 22 #[.val (.ref ab), .val (.int pv), .val (.int (0 : Int32)), .val (.int (19 : Int32)), .val (.int (pv.toInt8.toInt32)), .val (.int (6 : Int32))] [])) _
                refine Goes.by (fun _ k => XS.iload X0.here hx rfl (hb hby d11_22) rfl k) ?_
                show Goes p.tables e below (s₁.setTop (mkF m 24 #[.val (.ref ab), .val (.int pv), .val (.int (0 : Int32)), .val (.int (19 : Int32)), .val (.int (pv.toInt8.toInt32)), .val (.int (6 : Int32))] [(.int (6 : Int32))])) _
                obtain ⟨fs, hr, hrun, hended, hW, hsame⟩ := X0.leave (v := some (.int (6 : Int32))) (fun h => by rw [Bd.returns] at h; cases h)
                refine ⟨_, _, retI X0 hx Bd.returns (hb hby d11_24) hr, hrun, hended, _, _, rfl, ?_, ⟨_, rfl⟩, hW, hsame.mono (by decide) (by decide)⟩
                show Q11 Z ab pv h0 n0 _ s₁.heap _
                rw [e0]
                exact ⟨(by rw [fn11, if_neg hc1, if_neg hc2, if_neg hc3, if_neg hc4, if_neg hc5, if_neg hc6, if_pos hc7]), N0, rfl⟩
              · refine Goes.by (fun _ k => XS.icmpYes X0.here hx rfl (pc0 := 19) (pc' := 25) rfl (hb hby d11_19) rfl (feq hc7).2 (by decide) (by decide) k) ?_
                show Goes p.tables e below (s₁.setTop (mkF m 25 #[.val (.ref ab), .val (.int pv), .val (.int (0 : Int32)), .val (.int (19 : Int32)), .val (.int (pv.toInt8.toInt32)), .val (.int (6 : Int32))] [])) _
                refine Goes.by (fun _ k => XS.iinc X0.here hx rfl (hb hby d11_25) rfl (l' := #[.val (.ref ab), .val (.int pv), .val (.int (0 : Int32)), .val (.int (19 : Int32)), .val (.int (pv.toInt8.toInt32)), .val (.int (7 : Int32))]) rfl k) ?_
                show Goes p.tables e below (s₁.setTop (mkF m 28 #[.val (.ref ab), .val (.int pv), .val (.int (0 : Int32)), .val (.int (19 : Int32)), .val (.int (pv.toInt8.toInt32)), .val (.int (7 : Int32))] [])) _
                refine Goes.by (fun _ k => XS.goto X0.here hx rfl (pc0 := 28) (pc' := 7) rfl (hb hby d11_28) (by decide) (by decide) k) ?_
                show Goes p.tables e below (s₁.setTop (mkF m 7 #[.val (.ref ab), .val (.int pv), .val (.int (0 : Int32)), .val (.int (19 : Int32)), .val (.int (pv.toInt8.toInt32)), .val (.int (7 : Int32))] [])) _
                refine Goes.by (fun _ k => XS.iload X0.here hx rfl (hb hby d11_7) rfl k) ?_
                show Goes p.tables e below (s₁.setTop (mkF m 9 #[.val (.ref ab), .val (.int pv), .val (.int (0 : Int32)), .val (.int (19 : Int32)), .val (.int (pv.toInt8.toInt32)), .val (.int (7 : Int32))] [(.int (7 : Int32))])) _
                refine Goes.by (fun _ k => XS.iloadN X0.here hx rfl (hb hby d11_9) rfl k) ?_
                show Goes p.tables e below (s₁.setTop (mkF m 10 #[.val (.ref ab), .val (.int pv), .val (.int (0 : Int32)), .val (.int (19 : Int32)), .val (.int (pv.toInt8.toInt32)), .val (.int (7 : Int32))] [(.int (19 : Int32)), (.int (7 : Int32))])) _
                refine Goes.by (fun _ k => XS.icmpNo X0.here hx rfl (hb hby d11_10) rfl (tlt (by decide : (7 : Int32) < (19 : Int32))).2.1 k) ?_
                show Goes p.tables e below (s₁.setTop (mkF m 13 #[.val (.ref ab), .val (.int pv), .val (.int (0 : Int32)), .val (.int (19 : Int32)), .val (.int (pv.toInt8.toInt32)), .val (.int (7 : Int32))] [])) _
                refine Goes.by (fun _ k => XS.aloadN X0.here hx rfl (hb hby d11_13) rfl rfl k) ?_
                show Goes p.tables e below (s₁.setTop (mkF m 14 #[.val (.ref ab), .val (.int pv), .val (.int (0 : Int32)), .val (.int (19 : Int32)), .val (.int (pv.toInt8.toInt32)), .val (.int (7 : Int32))] [(.ref ab)])) _
                refine Goes.by (fun _ k => XS.iload X0.here hx rfl (hb hby d11_14) rfl k) ?_
                show Goes p.tables e below (s₁.setTop (mkF m 16 #[.val (.ref ab), .val (.int pv), .val (.int (0 : Int32)), .val (.int (19 : Int32)), .val (.int (pv.toInt8.toInt32)), .val (.int (7 : Int32))] [(.int (7 : Int32)), (.ref ab)])) _
                refine Goes.by (fun _ k => ldB (v := (own_txt 7)) (fr := (mkF m 16 #[.val (.ref ab), .val (.int pv), .val (.int (0 : Int32)), .val (.int (19 : Int32)), .val (.int (pv.toInt8.toInt32)), .val (.int (7 : Int32))] [(.int (7 : Int32)), (.ref ab)])) X0 hx hZ e0 A_ab (i := 7) (by decide) (by decide) rfl rfl rfl (hb hby d11_16) k) ?_
                show Goes p.tables e below (s₁.setTop (mkF m 17 #[.val (.ref ab), .val (.int pv), .val (.int (0 : Int32)), .val (.int (19 : Int32)), .val (.int (pv.toInt8.toInt32)), .val (.int (7 : Int32))] [(.int (own_txt 7))])) _
                refine Goes.by (fun _ k => XS.iload X0.here hx rfl (hb hby d11_17) rfl k) ?_
                show Goes p.tables e below (s₁.setTop (mkF m 19 #[.val (.ref ab), .val (.int pv), .val (.int (0 : Int32)), .val (.int (19 : Int32)), .val (.int (pv.toInt8.toInt32)), .val (.int (7 : Int32))] [(.int (pv.toInt8.toInt32)), (.int (own_txt 7))])) _
                by_cases hc8 : (own_txt 7) = (pv.toInt8.toInt32)
                · refine Goes.by (fun _ k => XS.icmpNo X0.here hx rfl (hb hby d11_19) rfl (teq hc8).2 k) ?_
                  show Goes p.tables e below (s₁.setTop (mkF m 22 #[.val (.ref ab), .val (.int pv), .val (.int (0 : Int32)), .val (.int (19 : Int32)), .val (.int (pv.toInt8.toInt32)), .val (.int (7 : Int32))] [])) _
                  refine Goes.by (fun _ k => XS.iload X0.here hx rfl (hb hby d11_22) rfl k) ?_
                  show Goes p.tables e below (s₁.setTop (mkF m 24 #[.val (.ref ab), .val (.int pv), .val (.int (0 : Int32)), .val (.int (19 : Int32)), .val (.int (pv.toInt8.toInt32)), .val (.int (7 : Int32))] [(.int (7 : Int32))])) _
                  obtain ⟨fs, hr, hrun, hended, hW, hsame⟩ := X0.leave (v := some (.int (7 : Int32))) (fun h => by rw [Bd.returns] at h; cases h)
                  refine ⟨_, _, retI X0 hx Bd.returns (hb hby d11_24) hr, hrun, hended, _, _, rfl, ?_, ⟨_, rfl⟩, hW, hsame.mono (by decide) (by decide)⟩
                  show Q11 Z ab pv h0 n0 _ s₁.heap _
                  rw [e0]
                  exact ⟨(by rw [fn11, if_neg hc1, if_neg hc2, if_neg hc3, if_neg hc4, if_neg hc5, if_neg hc6, if_neg hc7, if_pos hc8]), N0, rfl⟩
                · refine Goes.by (fun _ k => XS.icmpYes X0.here hx rfl (pc0 := 19) (pc' := 25) rfl (hb hby d11_19) rfl (feq hc8).2 (by decide) (by decide) k) ?_
                  show Goes p.tables e below (s₁.setTop (mkF m 25 #[.val (.ref ab), .val (.int pv), .val (.int (0 : Int32)), .val (.int (19 : Int32)), .val (.int (pv.toInt8.toInt32)), .val (.int (7 : Int32))] [])) _
                  refine Goes.by (fun _ k => XS.iinc X0.here hx rfl (hb hby d11_25) rfl (l' := #[.val (.ref ab), .val (.int pv), .val (.int (0 : Int32)), .val (.int (19 : Int32)), .val (.int (pv.toInt8.toInt32)), .val (.int (8 : Int32))]) rfl k) ?_
                  show Goes p.tables e below (s₁.setTop (mkF m 28 #[.val (.ref ab), .val (.int pv), .val (.int (0 : Int32)), .val (.int (19 : Int32)), .val (.int (pv.toInt8.toInt32)), .val (.int (8 : Int32))] [])) _
                  refine Goes.by (fun _ k => XS.goto X0.here hx rfl (pc0 := 28) (pc' := 7) rfl (hb hby d11_28) (by decide) (by decide) k) ?_
                  show Goes p.tables e below (s₁.setTop (mkF m 7 #[.val (.ref ab), .val (.int pv), .val (.int (0 : Int32)), .val (.int (19 : Int32)), .val (.int (pv.toInt8.toInt32)), .val (.int (8 : Int32))] [])) _
                  refine Goes.by (fun _ k => XS.iload X0.here hx rfl (hb hby d11_7) rfl k) ?_
                  show Goes p.tables e below (s₁.setTop (mkF m 9 #[.val (.ref ab), .val (.int pv), .val (.int (0 : Int32)), .val (.int (19 : Int32)), .val (.int (pv.toInt8.toInt32)), .val (.int (8 : Int32))] [(.int (8 : Int32))])) _
                  refine Goes.by (fun _ k => XS.iloadN X0.here hx rfl (hb hby d11_9) rfl k) ?_
                  show Goes p.tables e below (s₁.setTop (mkF m 10 #[.val (.ref ab), .val (.int pv), .val (.int (0 : Int32)), .val (.int (19 : Int32)), .val (.int (pv.toInt8.toInt32)), .val (.int (8 : Int32))] [(.int (19 : Int32)), (.int (8 : Int32))])) _
                  refine Goes.by (fun _ k => XS.icmpNo X0.here hx rfl (hb hby d11_10) rfl (tlt (by decide : (8 : Int32) < (19 : Int32))).2.1 k) ?_
                  show Goes p.tables e below (s₁.setTop (mkF m 13 #[.val (.ref ab), .val (.int pv), .val (.int (0 : Int32)), .val (.int (19 : Int32)), .val (.int (pv.toInt8.toInt32)), .val (.int (8 : Int32))] [])) _
                  refine Goes.by (fun _ k => XS.aloadN X0.here hx rfl (hb hby d11_13) rfl rfl k) ?_
                  show Goes p.tables e below (s₁.setTop (mkF m 14 #[.val (.ref ab), .val (.int pv), .val (.int (0 : Int32)), .val (.int (19 : Int32)), .val (.int (pv.toInt8.toInt32)), .val (.int (8 : Int32))] [(.ref ab)])) _
                  refine Goes.by (fun _ k => XS.iload X0.here hx rfl (hb hby d11_14) rfl k) ?_
                  show Goes p.tables e below (s₁.setTop (mkF m 16 #[.val (.ref ab), .val (.int pv), .val (.int (0 : Int32)), .val (.int (19 : Int32)), .val (.int (pv.toInt8.toInt32)), .val (.int (8 : Int32))] [(.int (8 : Int32)), (.ref ab)])) _
                  refine Goes.by (fun _ k => ldB (v := (own_txt 8)) (fr := (mkF m 16 #[.val (.ref ab), .val (.int pv), .val (.int (0 : Int32)), .val (.int (19 : Int32)), .val (.int (pv.toInt8.toInt32)), .val (.int (8 : Int32))] [(.int (8 : Int32)), (.ref ab)])) X0 hx hZ e0 A_ab (i := 8) (by decide) (by decide) rfl rfl rfl (hb hby d11_16) k) ?_
                  show Goes p.tables e below (s₁.setTop (mkF m 17 #[.val (.ref ab), .val (.int pv), .val (.int (0 : Int32)), .val (.int (19 : Int32)), .val (.int (pv.toInt8.toInt32)), .val (.int (8 : Int32))] [(.int (own_txt 8))])) _
                  refine Goes.by (fun _ k => XS.iload X0.here hx rfl (hb hby d11_17) rfl k) ?_
                  show Goes p.tables e below (s₁.setTop (mkF m 19 #[.val (.ref ab), .val (.int pv), .val (.int (0 : Int32)), .val (.int (19 : Int32)), .val (.int (pv.toInt8.toInt32)), .val (.int (8 : Int32))] [(.int (pv.toInt8.toInt32)), (.int (own_txt 8))])) _
                  by_cases hc9 : (own_txt 8) = (pv.toInt8.toInt32)
                  · refine Goes.by (fun _ k => XS.icmpNo X0.here hx rfl (hb hby d11_19) rfl (teq hc9).2 k) ?_
                    show Goes p.tables e below (s₁.setTop (mkF m 22 #[.val (.ref ab), .val (.int pv), .val (.int (0 : Int32)), .val (.int (19 : Int32)), .val (.int (pv.toInt8.toInt32)), .val (.int (8 : Int32))] [])) _
                    refine Goes.by (fun _ k => XS.iload X0.here hx rfl (hb hby d11_22) rfl k) ?_
                    show Goes p.tables e below (s₁.setTop (mkF m 24 #[.val (.ref ab), .val (.int pv), .val (.int (0 : Int32)), .val (.int (19 : Int32)), .val (.int (pv.toInt8.toInt32)), .val (.int (8 : Int32))] [(.int (8 : Int32))])) _
                    obtain ⟨fs, hr, hrun, hended, hW, hsame⟩ := X0.leave (v := some (.int (8 : Int32))) (fun h => by rw [Bd.returns] at h; cases h)
                    refine ⟨_, _, retI X0 hx Bd.returns (hb hby d11_24) hr, hrun, hended, _, _, rfl, ?_, ⟨_, rfl⟩, hW, hsame.mono (by decide) (by decide)⟩
                    show Q11 Z ab pv h0 n0 _ s₁.heap _
                    rw [e0]
                    exact ⟨(by rw [fn11, if_neg hc1, if_neg hc2, if_neg hc3, if_neg hc4, if_neg hc5, if_neg hc6, if_neg hc7, if_neg hc8, if_pos hc9]), N0, rfl⟩
                  · refine Goes.by (fun _ k => XS.icmpYes X0.here hx rfl (pc0 := 19) (pc' := 25) rfl (hb hby d11_19) rfl (feq hc9).2 (by decide) (by decide) k) ?_
                    show Goes p.tables e below (s₁.setTop (mkF m 25 #[.val (.ref ab), .val (.int pv), .val (.int (0 : Int32)), .val (.int (19 : Int32)), .val (.int (pv.toInt8.toInt32)), .val (.int (8 : Int32))] [])) _
                    refine Goes.by (fun _ k => XS.iinc X0.here hx rfl (hb hby d11_25) rfl (l' := #[.val (.ref ab), .val (.int pv), .val (.int (0 : Int32)), .val (.int (19 : Int32)), .val (.int (pv.toInt8.toInt32)), .val (.int (9 : Int32))]) rfl k) ?_
                    show Goes p.tables e below (s₁.setTop (mkF m 28 #[.val (.ref ab), .val (.int pv), .val (.int (0 : Int32)), .val (.int (19 : Int32)), .val (.int (pv.toInt8.toInt32)), .val (.int (9 : Int32))] [])) _
                    refine Goes.by (fun _ k => XS.goto X0.here hx rfl (pc0 := 28) (pc' := 7) rfl (hb hby d11_28) (by decide) (by decide) k) ?_
                    show Goes p.tables e below (s₁.setTop (mkF m 7 #[.val (.ref ab), .val (.int pv), .val (.int (0 : Int32)), .val (.int (19 : Int32)), .val (.int (pv.toInt8.toInt32)), .val (.int (9 : Int32))] [])) _
                    refine Goes.by (fun _ k => XS.iload X0.here hx rfl (hb hby d11_7) rfl k) ?_
                    show Goes p.tables e below (s₁.setTop (mkF m 9 #[.val (.ref ab), .val (.int pv), .val (.int (0 : Int32)), .val (.int (19 : Int32)), .val (.int (pv.toInt8.toInt32)), .val (.int (9 : Int32))] [(.int (9 : Int32))])) _
                    refine Goes.by (fun _ k => XS.iloadN X0.here hx rfl (hb hby d11_9) rfl k) ?_
                    show Goes p.tables e below (s₁.setTop (mkF m 10 #[.val (.ref ab), .val (.int pv), .val (.int (0 : Int32)), .val (.int (19 : Int32)), .val (.int (pv.toInt8.toInt32)), .val (.int (9 : Int32))] [(.int (19 : Int32)), (.int (9 : Int32))])) _
                    refine Goes.by (fun _ k => XS.icmpNo X0.here hx rfl (hb hby d11_10) rfl (tlt (by decide : (9 : Int32) < (19 : Int32))).2.1 k) ?_
                    show Goes p.tables e below (s₁.setTop (mkF m 13 #[.val (.ref ab), .val (.int pv), .val (.int (0 : Int32)), .val (.int (19 : Int32)), .val (.int (pv.toInt8.toInt32)), .val (.int (9 : Int32))] [])) _
                    refine Goes.by (fun _ k => XS.aloadN X0.here hx rfl (hb hby d11_13) rfl rfl k) ?_
                    show Goes p.tables e below (s₁.setTop (mkF m 14 #[.val (.ref ab), .val (.int pv), .val (.int (0 : Int32)), .val (.int (19 : Int32)), .val (.int (pv.toInt8.toInt32)), .val (.int (9 : Int32))] [(.ref ab)])) _
                    refine Goes.by (fun _ k => XS.iload X0.here hx rfl (hb hby d11_14) rfl k) ?_
                    show Goes p.tables e below (s₁.setTop (mkF m 16 #[.val (.ref ab), .val (.int pv), .val (.int (0 : Int32)), .val (.int (19 : Int32)), .val (.int (pv.toInt8.toInt32)), .val (.int (9 : Int32))] [(.int (9 : Int32)), (.ref ab)])) _
                    refine Goes.by (fun _ k => ldB (v := (own_txt 9)) (fr := (mkF m 16 #[.val (.ref ab), .val (.int pv), .val (.int (0 : Int32)), .val (.int (19 : Int32)), .val (.int (pv.toInt8.toInt32)), .val (.int (9 : Int32))] [(.int (9 : Int32)), (.ref ab)])) X0 hx hZ e0 A_ab (i := 9) (by decide) (by decide) rfl rfl rfl (hb hby d11_16) k) ?_
                    show Goes p.tables e below (s₁.setTop (mkF m 17 #[.val (.ref ab), .val (.int pv), .val (.int (0 : Int32)), .val (.int (19 : Int32)), .val (.int (pv.toInt8.toInt32)), .val (.int (9 : Int32))] [(.int (own_txt 9))])) _
                    refine Goes.by (fun _ k => XS.iload X0.here hx rfl (hb hby d11_17) rfl k) ?_
                    show Goes p.tables e below (s₁.setTop (mkF m 19 #[.val (.ref ab), .val (.int pv), .val (.int (0 : Int32)), .val (.int (19 : Int32)), .val (.int (pv.toInt8.toInt32)), .val (.int (9 : Int32))] [(.int (pv.toInt8.toInt32)), (.int (own_txt 9))])) _
                    by_cases hc10 : (own_txt 9) = (pv.toInt8.toInt32)
                    · refine Goes.by (fun _ k => XS.icmpNo X0.here hx rfl (hb hby d11_19) rfl (teq hc10).2 k) ?_
                      show Goes p.tables e below (s₁.setTop (mkF m 22 #[.val (.ref ab), .val (.int pv), .val (.int (0 : Int32)), .val (.int (19 : Int32)), .val (.int (pv.toInt8.toInt32)), .val (.int (9 : Int32))] [])) _
                      refine Goes.by (fun _ k => XS.iload X0.here hx rfl (hb hby d11_22) rfl k) ?_
                      show Goes p.tables e below (s₁.setTop (mkF m 24 #[.val (.ref ab), .val (.int pv), .val (.int (0 : Int32)), .val (.int (19 : Int32)), .val (.int (pv.toInt8.toInt32)), .val (.int (9 : Int32))] [(.int (9 : Int32))])) _
                      obtain ⟨fs, hr, hrun, hended, hW, hsame⟩ := X0.leave (v := some (.int (9 : Int32))) (fun h => by rw [Bd.returns] at h; cases h)
                      refine ⟨_, _, retI X0 hx Bd.returns (hb hby d11_24) hr, hrun, hended, _, _, rfl, ?_, ⟨_, rfl⟩, hW, hsame.mono (by decide) (by decide)⟩
                      show Q11 Z ab pv h0 n0 _ s₁.heap _
                      rw [e0]
                      exact ⟨(by rw [fn11, if_neg hc1, if_neg hc2, if_neg hc3, if_neg hc4, if_neg hc5, if_neg hc6, if_neg hc7, if_neg hc8, if_neg hc9, if_pos hc10]), N0, rfl⟩
                    · refine Goes.by (fun _ k => XS.icmpYes X0.here hx rfl (pc0 := 19) (pc' := 25) rfl (hb hby d11_19) rfl (feq hc10).2 (by decide) (by decide) k) ?_
                      show Goes p.tables e below (s₁.setTop (mkF m 25 #[.val (.ref ab), .val (.int pv), .val (.int (0 : Int32)), .val (.int (19 : Int32)), .val (.int (pv.toInt8.toInt32)), .val (.int (9 : Int32))] [])) _
                      refine Goes.by (fun _ k => XS.iinc X0.here hx rfl (hb hby d11_25) rfl (l' := #[.val (.ref ab), .val (.int pv), .val (.int (0 : Int32)), .val (.int (19 : Int32)), .val (.int (pv.toInt8.toInt32)), .val (.int (10 : Int32))]) rfl k) ?_
                      show Goes p.tables e below (s₁.setTop (mkF m 28 #[.val (.ref ab), .val (.int pv), .val (.int (0 : Int32)), .val (.int (19 : Int32)), .val (.int (pv.toInt8.toInt32)), .val (.int (10 : Int32))] [])) _
                      refine Goes.by (fun _ k => XS.goto X0.here hx rfl (pc0 := 28) (pc' := 7) rfl (hb hby d11_28) (by decide) (by decide) k) ?_
                      show Goes p.tables e below (s₁.setTop (mkF m 7 #[.val (.ref ab), .val (.int pv), .val (.int (0 : Int32)), .val (.int (19 : Int32)), .val (.int (pv.toInt8.toInt32)), .val (.int (10 : Int32))] [])) _
                      refine Goes.by (fun _ k => XS.iload X0.here hx rfl (hb hby d11_7) rfl k) ?_
                      show Goes p.tables e below (s₁.setTop (mkF m 9 #[.val (.ref ab), .val (.int pv), .val (.int (0 : Int32)), .val (.int (19 : Int32)), .val (.int (pv.toInt8.toInt32)), .val (.int (10 : Int32))] [(.int (10 : Int32))])) _
                      refine Goes.by (fun _ k => XS.iloadN X0.here hx rfl (hb hby d11_9) rfl k) ?_
                      show Goes p.tables e below (s₁.setTop (mkF m 10 #[.val (.ref ab), .val (.int pv), .val (.int (0 : Int32)), .val (.int (19 : Int32)), .val (.int (pv.toInt8.toInt32)), .val (.int (10 : Int32))] [(.int (19 : Int32)), (.int (10 : Int32))])) _
                      refine Goes.by (fun _ k => XS.icmpNo X0.here hx rfl (hb hby d11_10) rfl (tlt (by decide : (10 : Int32) < (19 : Int32))).2.1 k) ?_
                      show Goes p.tables e below (s₁.setTop (mkF m 13 #[.val (.ref ab), .val (.int pv), .val (.int (0 : Int32)), .val (.int (19 : Int32)), .val (.int (pv.toInt8.toInt32)), .val (.int (10 : Int32))] [])) _
                      refine Goes.by (fun _ k => XS.aloadN X0.here hx rfl (hb hby d11_13) rfl rfl k) ?_
                      show Goes p.tables e below (s₁.setTop (mkF m 14 #[.val (.ref ab), .val (.int pv), .val (.int (0 : Int32)), .val (.int (19 : Int32)), .val (.int (pv.toInt8.toInt32)), .val (.int (10 : Int32))] [(.ref ab)])) _
                      refine Goes.by (fun _ k => XS.iload X0.here hx rfl (hb hby d11_14) rfl k) ?_
                      show Goes p.tables e below (s₁.setTop (mkF m 16 #[.val (.ref ab), .val (.int pv), .val (.int (0 : Int32)), .val (.int (19 : Int32)), .val (.int (pv.toInt8.toInt32)), .val (.int (10 : Int32))] [(.int (10 : Int32)), (.ref ab)])) _
                      refine Goes.by (fun _ k => ldB (v := (own_txt 10)) (fr := (mkF m 16 #[.val (.ref ab), .val (.int pv), .val (.int (0 : Int32)), .val (.int (19 : Int32)), .val (.int (pv.toInt8.toInt32)), .val (.int (10 : Int32))] [(.int (10 : Int32)), (.ref ab)])) X0 hx hZ e0 A_ab (i := 10) (by decide) (by decide) rfl rfl rfl (hb hby d11_16) k) ?_
                      show Goes p.tables e below (s₁.setTop (mkF m 17 #[.val (.ref ab), .val (.int pv), .val (.int (0 : Int32)), .val (.int (19 : Int32)), .val (.int (pv.toInt8.toInt32)), .val (.int (10 : Int32))] [(.int (own_txt 10))])) _
                      refine Goes.by (fun _ k => XS.iload X0.here hx rfl (hb hby d11_17) rfl k) ?_
                      show Goes p.tables e below (s₁.setTop (mkF m 19 #[.val (.ref ab), .val (.int pv), .val (.int (0 : Int32)), .val (.int (19 : Int32)), .val (.int (pv.toInt8.toInt32)), .val (.int (10 : Int32))] [(.int (pv.toInt8.toInt32)), (.int (own_txt 10))])) _
                      by_cases hc11 : (own_txt 10) = (pv.toInt8.toInt32)
                      · refine Goes.by (fun _ k => XS.icmpNo X0.here hx rfl (hb hby d11_19) rfl (teq hc11).2 k) ?_
                        show Goes p.tables e below (s₁.setTop (mkF m 22 #[.val (.ref ab), .val (.int pv), .val (.int (0 : Int32)), .val (.int (19 : Int32)), .val (.int (pv.toInt8.toInt32)), .val (.int (10 : Int32))] [])) _
                        refine Goes.by (fun _ k => XS.iload X0.here hx rfl (hb hby d11_22) rfl k) ?_
                        show Goes p.tables e below (s₁.setTop (mkF m 24 #[.val (.ref ab), .val (.int pv), .val (.int (0 : Int32)), .val (.int (19 : Int32)), .val (.int (pv.toInt8.toInt32)), .val (.int (10 : Int32))] [(.int (10 : Int32))])) _
                        obtain ⟨fs, hr, hrun, hended, hW, hsame⟩ := X0.leave (v := some (.int (10 : Int32))) (fun h => by rw [Bd.returns] at h; cases h)
                        refine ⟨_, _, retI X0 hx Bd.returns (hb hby d11_24) hr, hrun, hended, _, _, rfl, ?_, ⟨_, rfl⟩, hW, hsame.mono (by decide) (by decide)⟩
                        show Q11 Z ab pv h0 n0 _ s₁.heap _
                        rw [e0]
                        exact ⟨(by rw [fn11, if_neg hc1, if_neg hc2, if_neg hc3, if_neg hc4, if_neg hc5, if_neg hc6, if_neg hc7, if_neg hc8, if_neg hc9, if_neg hc10, if_pos hc11]), N0, rfl⟩
                      · refine Goes.by (fun _ k => XS.icmpYes X0.here hx rfl (pc0 := 19) (pc' := 25) rfl (hb hby d11_19) rfl (feq hc11).2 (by decide) (by decide) k) ?_
                        show Goes p.tables e below (s₁.setTop (mkF m 25 #[.val (.ref ab), .val (.int pv), .val (.int (0 : Int32)), .val (.int (19 : Int32)), .val (.int (pv.toInt8.toInt32)), .val (.int (10 : Int32))] [])) _
                        refine Goes.by (fun _ k => XS.iinc X0.here hx rfl (hb hby d11_25) rfl (l' := #[.val (.ref ab), .val (.int pv), .val (.int (0 : Int32)), .val (.int (19 : Int32)), .val (.int (pv.toInt8.toInt32)), .val (.int (11 : Int32))]) rfl k) ?_
                        show Goes p.tables e below (s₁.setTop (mkF m 28 #[.val (.ref ab), .val (.int pv), .val (.int (0 : Int32)), .val (.int (19 : Int32)), .val (.int (pv.toInt8.toInt32)), .val (.int (11 : Int32))] [])) _
                        refine Goes.by (fun _ k => XS.goto X0.here hx rfl (pc0 := 28) (pc' := 7) rfl (hb hby d11_28) (by decide) (by decide) k) ?_
                        show Goes p.tables e below (s₁.setTop (mkF m 7 #[.val (.ref ab), .val (.int pv), .val (.int (0 : Int32)), .val (.int (19 : Int32)), .val (.int (pv.toInt8.toInt32)), .val (.int (11 : Int32))] [])) _
                        refine Goes.by (fun _ k => XS.iload X0.here hx rfl (hb hby d11_7) rfl k) ?_
                        show Goes p.tables e below (s₁.setTop (mkF m 9 #[.val (.ref ab), .val (.int pv), .val (.int (0 : Int32)), .val (.int (19 : Int32)), .val (.int (pv.toInt8.toInt32)), .val (.int (11 : Int32))] [(.int (11 : Int32))])) _
                        refine Goes.by (fun _ k => XS.iloadN X0.here hx rfl (hb hby d11_9) rfl k) ?_
                        show Goes p.tables e below (s₁.setTop (mkF m 10 #[.val (.ref ab), .val (.int pv), .val (.int (0 : Int32)), .val (.int (19 : Int32)), .val (.int (pv.toInt8.toInt32)), .val (.int (11 : Int32))] [(.int (19 : Int32)), (.int (11 : Int32))])) _
                        refine Goes.by (fun _ k => XS.icmpNo X0.here hx rfl (hb hby d11_10) rfl (tlt (by decide : (11 : Int32) < (19 : Int32))).2.1 k) ?_
                        show Goes p.tables e below (s₁.setTop (mkF m 13 #[.val (.ref ab), .val (.int pv), .val (.int (0 : Int32)), .val (.int (19 : Int32)), .val (.int (pv.toInt8.toInt32)), .val (.int (11 : Int32))] [])) _
                        refine Goes.by (fun _ k => XS.aloadN X0.here hx rfl (hb hby d11_13) rfl rfl k) ?_
                        show Goes p.tables e below (s₁.setTop (mkF m 14 #[.val (.ref ab), .val (.int pv), .val (.int (0 : Int32)), .val (.int (19 : Int32)), .val (.int (pv.toInt8.toInt32)), .val (.int (11 : Int32))] [(.ref ab)])) _
                        refine Goes.by (fun _ k => XS.iload X0.here hx rfl (hb hby d11_14) rfl k) ?_
                        show Goes p.tables e below (s₁.setTop (mkF m 16 #[.val (.ref ab), .val (.int pv), .val (.int (0 : Int32)), .val (.int (19 : Int32)), .val (.int (pv.toInt8.toInt32)), .val (.int (11 : Int32))] [(.int (11 : Int32)), (.ref ab)])) _
                        refine Goes.by (fun _ k => ldB (v := (own_txt 11)) (fr := (mkF m 16 #[.val (.ref ab), .val (.int pv), .val (.int (0 : Int32)), .val (.int (19 : Int32)), .val (.int (pv.toInt8.toInt32)), .val (.int (11 : Int32))] [(.int (11 : Int32)), (.ref ab)])) X0 hx hZ e0 A_ab (i := 11) (by decide) (by decide) rfl rfl rfl (hb hby d11_16) k) ?_
                        show Goes p.tables e below (s₁.setTop (mkF m 17 #[.val (.ref ab), .val (.int pv), .val (.int (0 : Int32)), .val (.int (19 : Int32)), .val (.int (pv.toInt8.toInt32)), .val (.int (11 : Int32))] [(.int (own_txt 11))])) _
                        refine Goes.by (fun _ k => XS.iload X0.here hx rfl (hb hby d11_17) rfl k) ?_
                        show Goes p.tables e below (s₁.setTop (mkF m 19 #[.val (.ref ab), .val (.int pv), .val (.int (0 : Int32)), .val (.int (19 : Int32)), .val (.int (pv.toInt8.toInt32)), .val (.int (11 : Int32))] [(.int (pv.toInt8.toInt32)), (.int (own_txt 11))])) _
                        by_cases hc12 : (own_txt 11) = (pv.toInt8.toInt32)
                        · refine Goes.by (fun _ k => XS.icmpNo X0.here hx rfl (hb hby d11_19) rfl (teq hc12).2 k) ?_
                          show Goes p.tables e below (s₁.setTop (mkF m 22 #[.val (.ref ab), .val (.int pv), .val (.int (0 : Int32)), .val (.int (19 : Int32)), .val (.int (pv.toInt8.toInt32)), .val (.int (11 : Int32))] [])) _
                          refine Goes.by (fun _ k => XS.iload X0.here hx rfl (hb hby d11_22) rfl k) ?_
                          show Goes p.tables e below (s₁.setTop (mkF m 24 #[.val (.ref ab), .val (.int pv), .val (.int (0 : Int32)), .val (.int (19 : Int32)), .val (.int (pv.toInt8.toInt32)), .val (.int (11 : Int32))] [(.int (11 : Int32))])) _
                          obtain ⟨fs, hr, hrun, hended, hW, hsame⟩ := X0.leave (v := some (.int (11 : Int32))) (fun h => by rw [Bd.returns] at h; cases h)
                          refine ⟨_, _, retI X0 hx Bd.returns (hb hby d11_24) hr, hrun, hended, _, _, rfl, ?_, ⟨_, rfl⟩, hW, hsame.mono (by decide) (by decide)⟩
                          show Q11 Z ab pv h0 n0 _ s₁.heap _
                          rw [e0]
                          exact ⟨(by rw [fn11, if_neg hc1, if_neg hc2, if_neg hc3, if_neg hc4, if_neg hc5, if_neg hc6, if_neg hc7, if_neg hc8, if_neg hc9, if_neg hc10, if_neg hc11, if_pos hc12]), N0, rfl⟩
                        · refine Goes.by (fun _ k => XS.icmpYes X0.here hx rfl (pc0 := 19) (pc' := 25) rfl (hb hby d11_19) rfl (feq hc12).2 (by decide) (by decide) k) ?_
                          show Goes p.tables e below (s₁.setTop (mkF m 25 #[.val (.ref ab), .val (.int pv), .val (.int (0 : Int32)), .val (.int (19 : Int32)), .val (.int (pv.toInt8.toInt32)), .val (.int (11 : Int32))] [])) _
                          refine Goes.by (fun _ k => XS.iinc X0.here hx rfl (hb hby d11_25) rfl (l' := #[.val (.ref ab), .val (.int pv), .val (.int (0 : Int32)), .val (.int (19 : Int32)), .val (.int (pv.toInt8.toInt32)), .val (.int (12 : Int32))]) rfl k) ?_
                          show Goes p.tables e below (s₁.setTop (mkF m 28 #[.val (.ref ab), .val (.int pv), .val (.int (0 : Int32)), .val (.int (19 : Int32)), .val (.int (pv.toInt8.toInt32)), .val (.int (12 : Int32))] [])) _
                          refine Goes.by (fun _ k => XS.goto X0.here hx rfl (pc0 := 28) (pc' := 7) rfl (hb hby d11_28) (by decide) (by decide) k) ?_
                          show Goes p.tables e below (s₁.setTop (mkF m 7 #[.val (.ref ab), .val (.int pv), .val (.int (0 : Int32)), .val (.int (19 : Int32)), .val (.int (pv.toInt8.toInt32)), .val (.int (12 : Int32))] [])) _
                          refine Goes.by (fun _ k => XS.iload X0.here hx rfl (hb hby d11_7) rfl k) ?_
                          show Goes p.tables e below (s₁.setTop (mkF m 9 #[.val (.ref ab), .val (.int pv), .val (.int (0 : Int32)), .val (.int (19 : Int32)), .val (.int (pv.toInt8.toInt32)), .val (.int (12 : Int32))] [(.int (12 : Int32))])) _
                          refine Goes.by (fun _ k => XS.iloadN X0.here hx rfl (hb hby d11_9) rfl k) ?_
                          show Goes p.tables e below (s₁.setTop (mkF m 10 #[.val (.ref ab), .val (.int pv), .val (.int (0 : Int32)), .val (.int (19 : Int32)), .val (.int (pv.toInt8.toInt32)), .val (.int (12 : Int32))] [(.int (19 : Int32)), (.int (12 : Int32))])) _
                          refine Goes.by (fun _ k => XS.icmpNo X0.here hx rfl (hb hby d11_10) rfl (tlt (by decide : (12 : Int32) < (19 : Int32))).2.1 k) ?_
                          show Goes p.tables e below (s₁.setTop (mkF m 13 #[.val (.ref ab), .val (.int pv), .val (.int (0 : Int32)), .val (.int (19 : Int32)), .val (.int (pv.toInt8.toInt32)), .val (.int (12 : Int32))] [])) _
                          refine Goes.by (fun _ k => XS.aloadN X0.here hx rfl (hb hby d11_13) rfl rfl k) ?_
                          show Goes p.tables e below (s₁.setTop (mkF m 14 #[.val (.ref ab), .val (.int pv), .val (.int (0 : Int32)), .val (.int (19 : Int32)), .val (.int (pv.toInt8.toInt32)), .val (.int (12 : Int32))] [(.ref ab)])) _
                          refine Goes.by (fun _ k => XS.iload X0.here hx rfl (hb hby d11_14) rfl k) ?_
                          show Goes p.tables e below (s₁.setTop (mkF m 16 #[.val (.ref ab), .val (.int pv), .val (.int (0 : Int32)), .val (.int (19 : Int32)), .val (.int (pv.toInt8.toInt32)), .val (.int (12 : Int32))] [(.int (12 : Int32)), (.ref ab)])) _
                          refine Goes.by (fun _ k => ldB (v := (own_txt 12)) (fr := (mkF m 16 #[.val (.ref ab), .val (.int pv), .val (.int (0 : Int32)), .val (.int (19 : Int32)), .val (.int (pv.toInt8.toInt32)), .val (.int (12 : Int32))] [(.int (12 : Int32)), (.ref ab)])) X0 hx hZ e0 A_ab (i := 12) (by decide) (by decide) rfl rfl rfl (hb hby d11_16) k) ?_
                          show Goes p.tables e below (s₁.setTop (mkF m 17 #[.val (.ref ab), .val (.int pv), .val (.int (0 : Int32)), .val (.int (19 : Int32)), .val (.int (pv.toInt8.toInt32)), .val (.int (12 : Int32))] [(.int (own_txt 12))])) _
                          refine Goes.by (fun _ k => XS.iload X0.here hx rfl (hb hby d11_17) rfl k) ?_
                          show Goes p.tables e below (s₁.setTop (mkF m 19 #[.val (.ref ab), .val (.int pv), .val (.int (0 : Int32)), .val (.int (19 : Int32)), .val (.int (pv.toInt8.toInt32)), .val (.int (12 : Int32))] [(.int (pv.toInt8.toInt32)), (.int (own_txt 12))])) _
                          by_cases hc13 : (own_txt 12) = (pv.toInt8.toInt32)
                          · refine Goes.by (fun _ k => XS.icmpNo X0.here hx rfl (hb hby d11_19) rfl (teq hc13).2 k) ?_
                            show Goes p.tables e below (s₁.setTop (mkF m 22 #[.val (.ref ab), .val (.int pv), .val (.int (0 : Int32)), .val (.int (19 : Int32)), .val (.int (pv.toInt8.toInt32)), .val (.int (12 : Int32))] [])) _
                            refine Goes.by (fun _ k => XS.iload X0.here hx rfl (hb hby d11_22) rfl k) ?_
                            show Goes p.tables e below (s₁.setTop (mkF m 24 #[.val (.ref ab), .val (.int pv), .val (.int (0 : Int32)), .val (.int (19 : Int32)), .val (.int (pv.toInt8.toInt32)), .val (.int (12 : Int32))] [(.int (12 : Int32))])) _
                            obtain ⟨fs, hr, hrun, hended, hW, hsame⟩ := X0.leave (v := some (.int (12 : Int32))) (fun h => by rw [Bd.returns] at h; cases h)
                            refine ⟨_, _, retI X0 hx Bd.returns (hb hby d11_24) hr, hrun, hended, _, _, rfl, ?_, ⟨_, rfl⟩, hW, hsame.mono (by decide) (by decide)⟩
                            show Q11 Z ab pv h0 n0 _ s₁.heap _
                            rw [e0]
                            exact ⟨(by rw [fn11, if_neg hc1, if_neg hc2, if_neg hc3, if_neg hc4, if_neg hc5, if_neg hc6, if_neg hc7, if_neg hc8, if_neg hc9, if_neg hc10, if_neg hc11, if_neg hc12, if_pos hc13]), N0, rfl⟩
                          · refine Goes.by (fun _ k => XS.icmpYes X0.here hx rfl (pc0 := 19) (pc' := 25) rfl (hb hby d11_19) rfl (feq hc13).2 (by decide) (by decide) k) ?_
                            show Goes p.tables e below (s₁.setTop (mkF m 25 #[.val (.ref ab), .val (.int pv), .val (.int (0 : Int32)), .val (.int (19 : Int32)), .val (.int (pv.toInt8.toInt32)), .val (.int (12 : Int32))] [])) _
                            refine Goes.by (fun _ k => XS.iinc X0.here hx rfl (hb hby d11_25) rfl (l' := #[.val (.ref ab), .val (.int pv), .val (.int (0 : Int32)), .val (.int (19 : Int32)), .val (.int (pv.toInt8.toInt32)), .val (.int (13 : Int32))]) rfl k) ?_
                            show Goes p.tables e below (s₁.setTop (mkF m 28 #[.val (.ref ab), .val (.int pv), .val (.int (0 : Int32)), .val (.int (19 : Int32)), .val (.int (pv.toInt8.toInt32)), .val (.int (13 : Int32))] [])) _
                            refine Goes.by (fun _ k => XS.goto X0.here hx rfl (pc0 := 28) (pc' := 7) rfl (hb hby d11_28) (by decide) (by decide) k) ?_
                            show Goes p.tables e below (s₁.setTop (mkF m 7 #[.val (.ref ab), .val (.int pv), .val (.int (0 : Int32)), .val (.int (19 : Int32)), .val (.int (pv.toInt8.toInt32)), .val (.int (13 : Int32))] [])) _
                            refine Goes.by (fun _ k => XS.iload X0.here hx rfl (hb hby d11_7) rfl k) ?_
                            show Goes p.tables e below (s₁.setTop (mkF m 9 #[.val (.ref ab), .val (.int pv), .val (.int (0 : Int32)), .val (.int (19 : Int32)), .val (.int (pv.toInt8.toInt32)), .val (.int (13 : Int32))] [(.int (13 : Int32))])) _
                            refine Goes.by (fun _ k => XS.iloadN X0.here hx rfl (hb hby d11_9) rfl k) ?_
                            show Goes p.tables e below (s₁.setTop (mkF m 10 #[.val (.ref ab), .val (.int pv), .val (.int (0 : Int32)), .val (.int (19 : Int32)), .val (.int (pv.toInt8.toInt32)), .val (.int (13 : Int32))] [(.int (19 : Int32)), (.int (13 : Int32))])) _
                            refine Goes.by (fun _ k => XS.icmpNo X0.here hx rfl (hb hby d11_10) rfl (tlt (by decide : (13 : Int32) < (19 : Int32))).2.1 k) ?_
                            show Goes p.tables e below (s₁.setTop (mkF m 13 #[.val (.ref ab), .val (.int pv), .val (.int (0 : Int32)), .val (.int (19 : Int32)), .val (.int (pv.toInt8.toInt32)), .val (.int (13 : Int32))] [])) _
                            refine Goes.by (fun _ k => XS.aloadN X0.here hx rfl (hb hby d11_13) rfl rfl k) ?_
                            show Goes p.tables e below (s₁.setTop (mkF m 14 #[.val (.ref ab), .val (.int pv), .val (.int (0 : Int32)), .val (.int (19 : Int32)), .val (.int (pv.toInt8.toInt32)), .val (.int (13 : Int32))] [(.ref ab)])) _
                            refine Goes.by (fun _ k => XS.iload X0.here hx rfl (hb hby d11_14) rfl k) ?_
                            show Goes p.tables e below (s₁.setTop (mkF m 16 #[.val (.ref ab), .val (.int pv), .val (.int (0 : Int32)), .val (.int (19 : Int32)), .val (.int (pv.toInt8.toInt32)), .val (.int (13 : Int32))] [(.int (13 : Int32)), (.ref ab)])) _
                            refine Goes.by (fun _ k => ldB (v := (own_txt 13)) (fr := (mkF m 16 #[.val (.ref ab), .val (.int pv), .val (.int (0 : Int32)), .val (.int (19 : Int32)), .val (.int (pv.toInt8.toInt32)), .val (.int (13 : Int32))] [(.int (13 : Int32)), (.ref ab)])) X0 hx hZ e0 A_ab (i := 13) (by decide) (by decide) rfl rfl rfl (hb hby d11_16) k) ?_
                            show Goes p.tables e below (s₁.setTop (mkF m 17 #[.val (.ref ab), .val (.int pv), .val (.int (0 : Int32)), .val (.int (19 : Int32)), .val (.int (pv.toInt8.toInt32)), .val (.int (13 : Int32))] [(.int (own_txt 13))])) _
                            refine Goes.by (fun _ k => XS.iload X0.here hx rfl (hb hby d11_17) rfl k) ?_
                            show Goes p.tables e below (s₁.setTop (mkF m 19 #[.val (.ref ab), .val (.int pv), .val (.int (0 : Int32)), .val (.int (19 : Int32)), .val (.int (pv.toInt8.toInt32)), .val (.int (13 : Int32))] [(.int (pv.toInt8.toInt32)), (.int (own_txt 13))])) _
                            by_cases hc14 : (own_txt 13) = (pv.toInt8.toInt32)
                            · refine Goes.by (fun _ k => XS.icmpNo X0.here hx rfl (hb hby d11_19) rfl (teq hc14).2 k) ?_
                              show Goes p.tables e below (s₁.setTop (mkF m 22 #[.val (.ref ab), .val (.int pv), .val (.int (0 : Int32)), .val (.int (19 : Int32)), .val (.int (pv.toInt8.toInt32)), .val (.int (13 : Int32))] [])) _
                              refine Goes.by (fun _ k => XS.iload X0.here hx rfl (hb hby d11_22) rfl k) ?_
                              show Goes p.tables e below (s₁.setTop (mkF m 24 #[.val (.ref ab), .val (.int pv), .val (.int (0 : Int32)), .val (.int (19 : Int32)), .val (.int (pv.toInt8.toInt32)), .val (.int (13 : Int32))] [(.int (13 : Int32))])) _
                              obtain ⟨fs, hr, hrun, hended, hW, hsame⟩ := X0.leave (v := some (.int (13 : Int32))) (fun h => by rw [Bd.returns] at h; cases h)
                              refine ⟨_, _, retI X0 hx Bd.returns (hb hby d11_24) hr, hrun, hended, _, _, rfl, ?_, ⟨_, rfl⟩, hW, hsame.mono (by decide) (by decide)⟩
                              show Q11 Z ab pv h0 n0 _ s₁.heap _
                              rw [e0]
                              exact ⟨(by rw [fn11, if_neg hc1, if_neg hc2, if_neg hc3, if_neg hc4, if_neg hc5, if_neg hc6, if_neg hc7, if_neg hc8, if_neg hc9, if_neg hc10, if_neg hc11, if_neg hc12, if_neg hc13, if_pos hc14]), N0, rfl⟩
                            · refine Goes.by (fun _ k => XS.icmpYes X0.here hx rfl (pc0 := 19) (pc' := 25) rfl (hb hby d11_19) rfl (feq hc14).2 (by decide) (by decide) k) ?_
                              show Goes p.tables e below (s₁.setTop (mkF m 25 #[.val (.ref ab), .val (.int pv), .val (.int (0 : Int32)), .val (.int (19 : Int32)), .val (.int (pv.toInt8.toInt32)), .val (.int (13 : Int32))] [])) _
                              refine Goes.by (fun _ k => XS.iinc X0.here hx rfl (hb hby d11_25) rfl (l' := #[.val (.ref ab), .val (.int pv), .val (.int (0 : Int32)), .val (.int (19 : Int32)), .val (.int (pv.toInt8.toInt32)), .val (.int (14 : Int32))]) rfl k) ?_
                              show Goes p.tables e below (s₁.setTop (mkF m 28 #[.val (.ref ab), .val (.int pv), .val (.int (0 : Int32)), .val (.int (19 : Int32)), .val (.int (pv.toInt8.toInt32)), .val (.int (14 : Int32))] [])) _
                              refine Goes.by (fun _ k => XS.goto X0.here hx rfl (pc0 := 28) (pc' := 7) rfl (hb hby d11_28) (by decide) (by decide) k) ?_
                              show Goes p.tables e below (s₁.setTop (mkF m 7 #[.val (.ref ab), .val (.int pv), .val (.int (0 : Int32)), .val (.int (19 : Int32)), .val (.int (pv.toInt8.toInt32)), .val (.int (14 : Int32))] [])) _
                              refine Goes.by (fun _ k => XS.iload X0.here hx rfl (hb hby d11_7) rfl k) ?_
                              show Goes p.tables e below (s₁.setTop (mkF m 9 #[.val (.ref ab), .val (.int pv), .val (.int (0 : Int32)), .val (.int (19 : Int32)), .val (.int (pv.toInt8.toInt32)), .val (.int (14 : Int32))] [(.int (14 : Int32))])) _
                              refine Goes.by (fun _ k => XS.iloadN X0.here hx rfl (hb hby d11_9) rfl k) ?_
                              show Goes p.tables e below (s₁.setTop (mkF m 10 #[.val (.ref ab), .val (.int pv), .val (.int (0 : Int32)), .val (.int (19 : Int32)), .val (.int (pv.toInt8.toInt32)), .val (.int (14 : Int32))] [(.int (19 : Int32)), (.int (14 : Int32))])) _
                              refine Goes.by (fun _ k => XS.icmpNo X0.here hx rfl (hb hby d11_10) rfl (tlt (by decide : (14 : Int32) < (19 : Int32))).2.1 k) ?_
                              show Goes p.tables e below (s₁.setTop (mkF m 13 #[.val (.ref ab), .val (.int pv), .val (.int (0 : Int32)), .val (.int (19 : Int32)), .val (.int (pv.toInt8.toInt32)), .val (.int (14 : Int32))] [])) _
                              refine Goes.by (fun _ k => XS.aloadN X0.here hx rfl (hb hby d11_13) rfl rfl k) ?_
                              show Goes p.tables e below (s₁.setTop (mkF m 14 #[.val (.ref ab), .val (.int pv), .val (.int (0 : Int32)), .val (.int (19 : Int32)), .val (.int (pv.toInt8.toInt32)), .val (.int (14 : Int32))] [(.ref ab)])) _
                              refine Goes.by (fun _ k => XS.iload X0.here hx rfl (hb hby d11_14) rfl k) ?_
                              show Goes p.tables e below (s₁.setTop (mkF m 16 #[.val (.ref ab), .val (.int pv), .val (.int (0 : Int32)), .val (.int (19 : Int32)), .val (.int (pv.toInt8.toInt32)), .val (.int (14 : Int32))] [(.int (14 : Int32)), (.ref ab)])) _
                              refine Goes.by (fun _ k => ldB (v := (own_txt 14)) (fr := (mkF m 16 #[.val (.ref ab), .val (.int pv), .val (.int (0 : Int32)), .val (.int (19 : Int32)), .val (.int (pv.toInt8.toInt32)), .val (.int (14 : Int32))] [(.int (14 : Int32)), (.ref ab)])) X0 hx hZ e0 A_ab (i := 14) (by decide) (by decide) rfl rfl rfl (hb hby d11_16) k) ?_
                              show Goes p.tables e below (s₁.setTop (mkF m 17 #[.val (.ref ab), .val (.int pv), .val (.int (0 : Int32)), .val (.int (19 : Int32)), .val (.int (pv.toInt8.toInt32)), .val (.int (14 : Int32))] [(.int (own_txt 14))])) _
                              refine Goes.by (fun _ k => XS.iload X0.here hx rfl (hb hby d11_17) rfl k) ?_
                              show Goes p.tables e below (s₁.setTop (mkF m 19 #[.val (.ref ab), .val (.int pv), .val (.int (0 : Int32)), .val (.int (19 : Int32)), .val (.int (pv.toInt8.toInt32)), .val (.int (14 : Int32))] [(.int (pv.toInt8.toInt32)), (.int (own_txt 14))])) _
                              by_cases hc15 : (own_txt 14) = (pv.toInt8.toInt32)
                              · refine Goes.by (fun _ k => XS.icmpNo X0.here hx rfl (hb hby d11_19) rfl (teq hc15).2 k) ?_
                                show Goes p.tables e below (s₁.setTop (mkF m 22 #[.val (.ref ab), .val (.int pv), .val (.int (0 : Int32)), .val (.int (19 : Int32)), .val (.int (pv.toInt8.toInt32)), .val (.int (14 : Int32))] [])) _
                                refine Goes.by (fun _ k => XS.iload X0.here hx rfl (hb hby d11_22) rfl k) ?_
                                show Goes p.tables e below (s₁.setTop (mkF m 24 #[.val (.ref ab), .val (.int pv), .val (.int (0 : Int32)), .val (.int (19 : Int32)), .val (.int (pv.toInt8.toInt32)), .val (.int (14 : Int32))] [(.int (14 : Int32))])) _
                                obtain ⟨fs, hr, hrun, hended, hW, hsame⟩ := X0.leave (v := some (.int (14 : Int32))) (fun h => by rw [Bd.returns] at h; cases h)
                                refine ⟨_, _, retI X0 hx Bd.returns (hb hby d11_24) hr, hrun, hended, _, _, rfl, ?_, ⟨_, rfl⟩, hW, hsame.mono (by decide) (by decide)⟩
                                show Q11 Z ab pv h0 n0 _ s₁.heap _
                                rw [e0]
                                exact ⟨(by rw [fn11, if_neg hc1, if_neg hc2, if_neg hc3, if_neg hc4, if_neg hc5, if_neg hc6, if_neg hc7, if_neg hc8, if_neg hc9, if_neg hc10, if_neg hc11, if_neg hc12, if_neg hc13, if_neg hc14, if_pos hc15]), N0, rfl⟩
                              · refine Goes.by (fun _ k => XS.icmpYes X0.here hx rfl (pc0 := 19) (pc' := 25) rfl (hb hby d11_19) rfl (feq hc15).2 (by decide) (by decide) k) ?_
                                show Goes p.tables e below (s₁.setTop (mkF m 25 #[.val (.ref ab), .val (.int pv), .val (.int (0 : Int32)), .val (.int (19 : Int32)), .val (.int (pv.toInt8.toInt32)), .val (.int (14 : Int32))] [])) _
                                refine Goes.by (fun _ k => XS.iinc X0.here hx rfl (hb hby d11_25) rfl (l' := #[.val (.ref ab), .val (.int pv), .val (.int (0 : Int32)), .val (.int (19 : Int32)), .val (.int (pv.toInt8.toInt32)), .val (.int (15 : Int32))]) rfl k) ?_
                                show Goes p.tables e below (s₁.setTop (mkF m 28 #[.val (.ref ab), .val (.int pv), .val (.int (0 : Int32)), .val (.int (19 : Int32)), .val (.int (pv.toInt8.toInt32)), .val (.int (15 : Int32))] [])) _
                                refine Goes.by (fun _ k => XS.goto X0.here hx rfl (pc0 := 28) (pc' := 7) rfl (hb hby d11_28) (by decide) (by decide) k) ?_
                                show Goes p.tables e below (s₁.setTop (mkF m 7 #[.val (.ref ab), .val (.int pv), .val (.int (0 : Int32)), .val (.int (19 : Int32)), .val (.int (pv.toInt8.toInt32)), .val (.int (15 : Int32))] [])) _
                                refine Goes.by (fun _ k => XS.iload X0.here hx rfl (hb hby d11_7) rfl k) ?_
                                show Goes p.tables e below (s₁.setTop (mkF m 9 #[.val (.ref ab), .val (.int pv), .val (.int (0 : Int32)), .val (.int (19 : Int32)), .val (.int (pv.toInt8.toInt32)), .val (.int (15 : Int32))] [(.int (15 : Int32))])) _
                                refine Goes.by (fun _ k => XS.iloadN X0.here hx rfl (hb hby d11_9) rfl k) ?_
                                show Goes p.tables e below (s₁.setTop (mkF m 10 #[.val (.ref ab), .val (.int pv), .val (.int (0 : Int32)), .val (.int (19 : Int32)), .val (.int (pv.toInt8.toInt32)), .val (.int (15 : Int32))] [(.int (19 : Int32)), (.int (15 : Int32))])) _
                                refine Goes.by (fun _ k => XS.icmpNo X0.here hx rfl (hb hby d11_10) rfl (tlt (by decide : (15 : Int32) < (19 : Int32))).2.1 k) ?_
                                show Goes p.tables e below (s₁.setTop (mkF m 13 #[.val (.ref ab), .val (.int pv), .val (.int (0 : Int32)), .val (.int (19 : Int32)), .val (.int (pv.toInt8.toInt32)), .val (.int (15 : Int32))] [])) _
                                refine Goes.by (fun _ k => XS.aloadN X0.here hx rfl (hb hby d11_13) rfl rfl k) ?_
                                show Goes p.tables e below (s₁.setTop (mkF m 14 #[.val (.ref ab), .val (.int pv), .val (.int (0 : Int32)), .val (.int (19 : Int32)), .val (.int (pv.toInt8.toInt32)), .val (.int (15 : Int32))] [(.ref ab)])) _
                                refine Goes.by (fun _ k => XS.iload X0.here hx rfl (hb hby d11_14) rfl k) ?_
                                show Goes p.tables e below (s₁.setTop (mkF m 16 #[.val (.ref ab), .val (.int pv), .val (.int (0 : Int32)), .val (.int (19 : Int32)), .val (.int (pv.toInt8.toInt32)), .val (.int (15 : Int32))] [(.int (15 : Int32)), (.ref ab)])) _
                                refine Goes.by (fun _ k => ldB (v := (own_txt 15)) (fr := (mkF m 16 #[.val (.ref ab), .val (.int pv), .val (.int (0 : Int32)), .val (.int (19 : Int32)), .val (.int (pv.toInt8.toInt32)), .val (.int (15 : Int32))] [(.int (15 : Int32)), (.ref ab)])) X0 hx hZ e0 A_ab (i := 15) (by decide) (by decide) rfl rfl rfl (hb hby d11_16) k) ?_
                                show Goes p.tables e below (s₁.setTop (mkF m 17 #[.val (.ref ab), .val (.int pv), .val (.int (0 : Int32)), .val (.int (19 : Int32)), .val (.int (pv.toInt8.toInt32)), .val (.int (15 : Int32))] [(.int (own_txt 15))])) _
                                refine Goes.by (fun _ k => XS.iload X0.here hx rfl (hb hby d11_17) rfl k) ?_
                                show Goes p.tables e below (s₁.setTop (mkF m 19 #[.val (.ref ab), .val (.int pv), .val (.int (0 : Int32)), .val (.int (19 : Int32)), .val (.int (pv.toInt8.toInt32)), .val (.int (15 : Int32))] [(.int (pv.toInt8.toInt32)), (.int (own_txt 15))])) _
                                by_cases hc16 : (own_txt 15) = (pv.toInt8.toInt32)
                                · refine Goes.by (fun _ k => XS.icmpNo X0.here hx rfl (hb hby d11_19) rfl (teq hc16).2 k) ?_
                                  show Goes p.tables e below (s₁.setTop (mkF m 22 #[.val (.ref ab), .val (.int pv), .val (.int (0 : Int32)), .val (.int (19 : Int32)), .val (.int (pv.toInt8.toInt32)), .val (.int (15 : Int32))] [])) _
                                  refine Goes.by (fun _ k => XS.iload X0.here hx rfl (hb hby d11_22) rfl k) ?_
                                  show Goes p.tables e below (s₁.setTop (mkF m 24 #[.val (.ref ab), .val (.int pv), .val (.int (0 : Int32)), .val (.int (19 : Int32)), .val (.int (pv.toInt8.toInt32)), .val (.int (15 : Int32))] [(.int (15 : Int32))])) _
                                  obtain ⟨fs, hr, hrun, hended, hW, hsame⟩ := X0.leave (v := some (.int (15 : Int32))) (fun h => by rw [Bd.returns] at h; cases h)
                                  refine ⟨_, _, retI X0 hx Bd.returns (hb hby d11_24) hr, hrun, hended, _, _, rfl, ?_, ⟨_, rfl⟩, hW, hsame.mono (by decide) (by decide)⟩
                                  show Q11 Z ab pv h0 n0 _ s₁.heap _
                                  rw [e0]
                                  exact ⟨(by rw [fn11, if_neg hc1, if_neg hc2, if_neg hc3, if_neg hc4, if_neg hc5, if_neg hc6, if_neg hc7, if_neg hc8, if_neg hc9, if_neg hc10, if_neg hc11, if_neg hc12, if_neg hc13, if_neg hc14, if_neg hc15, if_pos hc16]), N0, rfl⟩
                                · refine Goes.by (fun _ k => XS.icmpYes X0.here hx rfl (pc0 := 19) (pc' := 25) rfl (hb hby d11_19) rfl (feq hc16).2 (by decide) (by decide) k) ?_
                                  show Goes p.tables e below (s₁.setTop (mkF m 25 #[.val (.ref ab), .val (.int pv), .val (.int (0 : Int32)), .val (.int (19 : Int32)), .val (.int (pv.toInt8.toInt32)), .val (.int (15 : Int32))] [])) _
                                  refine Goes.by (fun _ k => XS.iinc X0.here hx rfl (hb hby d11_25) rfl (l' := #[.val (.ref ab), .val (.int pv), .val (.int (0 : Int32)), .val (.int (19 : Int32)), .val (.int (pv.toInt8.toInt32)), .val (.int (16 : Int32))]) rfl k) ?_
                                  show Goes p.tables e below (s₁.setTop (mkF m 28 #[.val (.ref ab), .val (.int pv), .val (.int (0 : Int32)), .val (.int (19 : Int32)), .val (.int (pv.toInt8.toInt32)), .val (.int (16 : Int32))] [])) _
                                  refine Goes.by (fun _ k => XS.goto X0.here hx rfl (pc0 := 28) (pc' := 7) rfl (hb hby d11_28) (by decide) (by decide) k) ?_
                                  show Goes p.tables e below (s₁.setTop (mkF m 7 #[.val (.ref ab), .val (.int pv), .val (.int (0 : Int32)), .val (.int (19 : Int32)), .val (.int (pv.toInt8.toInt32)), .val (.int (16 : Int32))] [])) _
                                  refine Goes.by (fun _ k => XS.iload X0.here hx rfl (hb hby d11_7) rfl k) ?_
                                  show Goes p.tables e below (s₁.setTop (mkF m 9 #[.val (.ref ab), .val (.int pv), .val (.int (0 : Int32)), .val (.int (19 : Int32)), .val (.int (pv.toInt8.toInt32)), .val (.int (16 : Int32))] [(.int (16 : Int32))])) _
                                  refine Goes.by (fun _ k => XS.iloadN X0.here hx rfl (hb hby d11_9) rfl k) ?_
                                  show Goes p.tables e below (s₁.setTop (mkF m 10 #[.val (.ref ab), .val (.int pv), .val (.int (0 : Int32)), .val (.int (19 : Int32)), .val (.int (pv.toInt8.toInt32)), .val (.int (16 : Int32))] [(.int (19 : Int32)), (.int (16 : Int32))])) _
                                  refine Goes.by (fun _ k => XS.icmpNo X0.here hx rfl (hb hby d11_10) rfl (tlt (by decide : (16 : Int32) < (19 : Int32))).2.1 k) ?_
                                  show Goes p.tables e below (s₁.setTop (mkF m 13 #[.val (.ref ab), .val (.int pv), .val (.int (0 : Int32)), .val (.int (19 : Int32)), .val (.int (pv.toInt8.toInt32)), .val (.int (16 : Int32))] [])) _
                                  refine Goes.by (fun _ k => XS.aloadN X0.here hx rfl (hb hby d11_13) rfl rfl k) ?_
                                  show Goes p.tables e below (s₁.setTop (mkF m 14 #[.val (.ref ab), .val (.int pv), .val (.int (0 : Int32)), .val (.int (19 : Int32)), .val (.int (pv.toInt8.toInt32)), .val (.int (16 : Int32))] [(.ref ab)])) _
                                  refine Goes.by (fun _ k => XS.iload X0.here hx rfl (hb hby d11_14) rfl k) ?_
                                  show Goes p.tables e below (s₁.setTop (mkF m 16 #[.val (.ref ab), .val (.int pv), .val (.int (0 : Int32)), .val (.int (19 : Int32)), .val (.int (pv.toInt8.toInt32)), .val (.int (16 : Int32))] [(.int (16 : Int32)), (.ref ab)])) _
                                  refine Goes.by (fun _ k => ldB (v := (own_txt 16)) (fr := (mkF m 16 #[.val (.ref ab), .val (.int pv), .val (.int (0 : Int32)), .val (.int (19 : Int32)), .val (.int (pv.toInt8.toInt32)), .val (.int (16 : Int32))] [(.int (16 : Int32)), (.ref ab)])) X0 hx hZ e0 A_ab (i := 16) (by decide) (by decide) rfl rfl rfl (hb hby d11_16) k) ?_
                                  show Goes p.tables e below (s₁.setTop (mkF m 17 #[.val (.ref ab), .val (.int pv), .val (.int (0 : Int32)), .val (.int (19 : Int32)), .val (.int (pv.toInt8.toInt32)), .val (.int (16 : Int32))] [(.int (own_txt 16))])) _
                                  refine Goes.by (fun _ k => XS.iload X0.here hx rfl (hb hby d11_17) rfl k) ?_
                                  show Goes p.tables e below (s₁.setTop (mkF m 19 #[.val (.ref ab), .val (.int pv), .val (.int (0 : Int32)), .val (.int (19 : Int32)), .val (.int (pv.toInt8.toInt32)), .val (.int (16 : Int32))] [(.int (pv.toInt8.toInt32)), (.int (own_txt 16))])) _
                                  by_cases hc17 : (own_txt 16) = (pv.toInt8.toInt32)
                                  · refine Goes.by (fun _ k => XS.icmpNo X0.here hx rfl (hb hby d11_19) rfl (teq hc17).2 k) ?_
                                    show Goes p.tables e below (s₁.setTop (mkF m 22 #[.val (.ref ab), .val (.int pv), .val (.int (0 : Int32)), .val (.int (19 : Int32)), .val (.int (pv.toInt8.toInt32)), .val (.int (16 : Int32))] [])) _
                                    refine Goes.by (fun _ k => XS.iload X0.here hx rfl (hb hby d11_22) rfl k) ?_
                                    show Goes p.tables e below (s₁.setTop (mkF m 24 #[.val (.ref ab), .val (.int pv), .val (.int (0 : Int32)), .val (.int (19 : Int32)), .val (.int (pv.toInt8.toInt32)), .val (.int (16 : Int32))] [(.int (16 : Int32))])) _
                                    obtain ⟨fs, hr, hrun, hended, hW, hsame⟩ := X0.leave (v := some (.int (16 : Int32))) (fun h => by rw [Bd.returns] at h; cases h)
                                    refine ⟨_, _, retI X0 hx Bd.returns (hb hby d11_24) hr, hrun, hended, _, _, rfl, ?_, ⟨_, rfl⟩, hW, hsame.mono (by decide) (by decide)⟩
                                    show Q11 Z ab pv h0 n0 _ s₁.heap _
                                    rw [e0]
                                    exact ⟨(by rw [fn11, if_neg hc1, if_neg hc2, if_neg hc3, if_neg hc4, if_neg hc5, if_neg hc6, if_neg hc7, if_neg hc8, if_neg hc9, if_neg hc10, if_neg hc11, if_neg hc12, if_neg hc13, if_neg hc14, if_neg hc15, if_neg hc16, if_pos hc17]), N0, rfl⟩
                                  · refine Goes.by (fun _ k => XS.icmpYes X0.here hx rfl (pc0 := 19) (pc' := 25) rfl (hb hby d11_19) rfl (feq hc17).2 (by decide) (by decide) k) ?_
                                    show Goes p.tables e below (s₁.setTop (mkF m 25 #[.val (.ref ab), .val (.int pv), .val (.int (0 : Int32)), .val (.int (19 : Int32)), .val (.int (pv.toInt8.toInt32)), .val (.int (16 : Int32))] [])) _
                                    refine Goes.by (fun _ k => XS.iinc X0.here hx rfl (hb hby d11_25) rfl (l' := #[.val (.ref ab), .val (.int pv), .val (.int (0 : Int32)), .val (.int (19 : Int32)), .val (.int (pv.toInt8.toInt32)), .val (.int (17 : Int32))]) rfl k) ?_
                                    show Goes p.tables e below (s₁.setTop (mkF m 28 #[.val (.ref ab), .val (.int pv), .val (.int (0 : Int32)), .val (.int (19 : Int32)), .val (.int (pv.toInt8.toInt32)), .val (.int (17 : Int32))] [])) _
                                    refine Goes.by (fun _ k => XS.goto X0.here hx rfl (pc0 := 28) (pc' := 7) rfl (hb hby d11_28) (by decide) (by decide) k) ?_
                                    show Goes p.tables e below (s₁.setTop (mkF m 7 #[.val (.ref ab), .val (.int pv), .val (.int (0 : Int32)), .val (.int (19 : Int32)), .val (.int (pv.toInt8.toInt32)), .val (.int (17 : Int32))] [])) _
                                    refine Goes.by (fun _ k => XS.iload X0.here hx rfl (hb hby d11_7) rfl k) ?_
                                    show Goes p.tables e below (s₁.setTop (mkF m 9 #[.val (.ref ab), .val (.int pv), .val (.int (0 : Int32)), .val (.int (19 : Int32)), .val (.int (pv.toInt8.toInt32)), .val (.int (17 : Int32))] [(.int (17 : Int32))])) _
                                    refine Goes.by (fun _ k => XS.iloadN X0.here hx rfl (hb hby d11_9) rfl k) ?_
                                    show Goes p.tables e below (s₁.setTop (mkF m 10 #[.val (.ref ab), .val (.int pv), .val (.int (0 : Int32)), .val (.int (19 : Int32)), .val (.int (pv.toInt8.toInt32)), .val (.int (17 : Int32))] [(.int (19 : Int32)), (.int (17 : Int32))])) _
                                    refine Goes.by (fun _ k => XS.icmpNo X0.here hx rfl (hb hby d11_10) rfl (tlt (by decide : (17 : Int32) < (19 : Int32))).2.1 k) ?_
                                    show Goes p.tables e below (s₁.setTop (mkF m 13 #[.val (.ref ab), .val (.int pv), .val (.int (0 : Int32)), .val (.int (19 : Int32)), .val (.int (pv.toInt8.toInt32)), .val (.int (17 : Int32))] [])) _
                                    refine Goes.by (fun _ k => XS.aloadN X0.here hx rfl (hb hby d11_13) rfl rfl k) ?_
                                    show Goes p.tables e below (s₁.setTop (mkF m 14 #[.val (.ref ab), .val (.int pv), .val (.int (0 : Int32)), .val (.int (19 : Int32)), .val (.int (pv.toInt8.toInt32)), .val (.int (17 : Int32))] [(.ref ab)])) _
                                    refine Goes.by (fun _ k => XS.iload X0.here hx rfl (hb hby d11_14) rfl k) ?_
                                    show Goes p.tables e below (s₁.setTop (mkF m 16 #[.val (.ref ab), .val (.int pv), .val (.int (0 : Int32)), .val (.int (19 : Int32)), .val (.int (pv.toInt8.toInt32)), .val (.int (17 : Int32))] [(.int (17 : Int32)), (.ref ab)])) _
                                    refine Goes.by (fun _ k => ldB (v := (own_txt 17)) (fr := (mkF m 16 #[.val (.ref ab), .val (.int pv), .val (.int (0 : Int32)), .val (.int (19 : Int32)), .val (.int (pv.toInt8.toInt32)), .val (.int (17 : Int32))] [(.int (17 : Int32)), (.ref ab)])) X0 hx hZ e0 A_ab (i := 17) (by decide) (by decide) rfl rfl rfl (hb hby d11_16) k) ?_
                                    show Goes p.tables e below (s₁.setTop (mkF m 17 #[.val (.ref ab), .val (.int pv), .val (.int (0 : Int32)), .val (.int (19 : Int32)), .val (.int (pv.toInt8.toInt32)), .val (.int (17 : Int32))] [(.int (own_txt 17))])) _
                                    refine Goes.by (fun _ k => XS.iload X0.here hx rfl (hb hby d11_17) rfl k) ?_
                                    show Goes p.tables e below (s₁.setTop (mkF m 19 #[.val (.ref ab), .val (.int pv), .val (.int (0 : Int32)), .val (.int (19 : Int32)), .val (.int (pv.toInt8.toInt32)), .val (.int (17 : Int32))] [(.int (pv.toInt8.toInt32)), (.int (own_txt 17))])) _
                                    by_cases hc18 : (own_txt 17) = (pv.toInt8.toInt32)
                                    · refine Goes.by (fun _ k => XS.icmpNo X0.here hx rfl (hb hby d11_19) rfl (teq hc18).2 k) ?_
                                      show Goes p.tables e below (s₁.setTop (mkF m 22 #[.val (.ref ab), .val (.int pv), .val (.int (0 : Int32)), .val (.int (19 : Int32)), .val (.int (pv.toInt8.toInt32)), .val (.int (17 : Int32))] [])) _
                                      refine Goes.by (fun _ k => XS.iload X0.here hx rfl (hb hby d11_22) rfl k) ?_
                                      show Goes p.tables e below (s₁.setTop (mkF m 24 #[.val (.ref ab), .val (.int pv), .val (.int (0 : Int32)), .val (.int (19 : Int32)), .val (.int (pv.toInt8.toInt32)), .val (.int (17 : Int32))] [(.int (17 : Int32))])) _
                                      obtain ⟨fs, hr, hrun, hended, hW, hsame⟩ := X0.leave (v := some (.int (17 : Int32))) (fun h => by rw [Bd.returns] at h; cases h)
                                      refine ⟨_, _, retI X0 hx Bd.returns (hb hby d11_24) hr, hrun, hended, _, _, rfl, ?_, ⟨_, rfl⟩, hW, hsame.mono (by decide) (by decide)⟩
                                      show Q11 Z ab pv h0 n0 _ s₁.heap _
                                      rw [e0]
                                      exact ⟨(by rw [fn11, if_neg hc1, if_neg hc2, if_neg hc3, if_neg hc4, if_neg hc5, if_neg hc6, if_neg hc7, if_neg hc8, if_neg hc9, if_neg hc10, if_neg hc11, if_neg hc12, if_neg hc13, if_neg hc14, if_neg hc15, if_neg hc16, if_neg hc17, if_pos hc18]), N0, rfl⟩
                                    · refine Goes.by (fun _ k => XS.icmpYes X0.here hx rfl (pc0 := 19) (pc' := 25) rfl (hb hby d11_19) rfl (feq hc18).2 (by decide) (by decide) k) ?_
                                      show Goes p.tables e below (s₁.setTop (mkF m 25 #[.val (.ref ab), .val (.int pv), .val (.int (0 : Int32)), .val (.int (19 : Int32)), .val (.int (pv.toInt8.toInt32)), .val (.int (17 : Int32))] [])) _
                                      refine Goes.by (fun _ k => XS.iinc X0.here hx rfl (hb hby d11_25) rfl (l' := #[.val (.ref ab), .val (.int pv), .val (.int (0 : Int32)), .val (.int (19 : Int32)), .val (.int (pv.toInt8.toInt32)), .val (.int (18 : Int32))]) rfl k) ?_
                                      show Goes p.tables e below (s₁.setTop (mkF m 28 #[.val (.ref ab), .val (.int pv), .val (.int (0 : Int32)), .val (.int (19 : Int32)), .val (.int (pv.toInt8.toInt32)), .val (.int (18 : Int32))] [])) _
                                      refine Goes.by (fun _ k => XS.goto X0.here hx rfl (pc0 := 28) (pc' := 7) rfl (hb hby d11_28) (by decide) (by decide) k) ?_
                                      show Goes p.tables e below (s₁.setTop (mkF m 7 #[.val (.ref ab), .val (.int pv), .val (.int (0 : Int32)), .val (.int (19 : Int32)), .val (.int (pv.toInt8.toInt32)), .val (.int (18 : Int32))] [])) _
                                      refine Goes.by (fun _ k => XS.iload X0.here hx rfl (hb hby d11_7) rfl k) ?_
                                      show Goes p.tables e below (s₁.setTop (mkF m 9 #[.val (.ref ab), .val (.int pv), .val (.int (0 : Int32)), .val (.int (19 : Int32)), .val (.int (pv.toInt8.toInt32)), .val (.int (18 : Int32))] [(.int (18 : Int32))])) _
                                      refine Goes.by (fun _ k => XS.iloadN X0.here hx rfl (hb hby d11_9) rfl k) ?_
                                      show Goes p.tables e below (s₁.setTop (mkF m 10 #[.val (.ref ab), .val (.int pv), .val (.int (0 : Int32)), .val (.int (19 : Int32)), .val (.int (pv.toInt8.toInt32)), .val (.int (18 : Int32))] [(.int (19 : Int32)), (.int (18 : Int32))])) _
                                      refine Goes.by (fun _ k => XS.icmpNo X0.here hx rfl (hb hby d11_10) rfl (tlt (by decide : (18 : Int32) < (19 : Int32))).2.1 k) ?_
                                      show Goes p.tables e below (s₁.setTop (mkF m 13 #[.val (.ref ab), .val (.int pv), .val (.int (0 : Int32)), .val (.int (19 : Int32)), .val (.int (pv.toInt8.toInt32)), .val (.int (18 : Int32))] [])) _
                                      refine Goes.by (fun _ k => XS.aloadN X0.here hx rfl (hb hby d11_13) rfl rfl k) ?_
                                      show Goes p.tables e below (s₁.setTop (mkF m 14 #[.val (.ref ab), .val (.int pv), .val (.int (0 : Int32)), .val (.int (19 : Int32)), .val (.int (pv.toInt8.toInt32)), .val (.int (18 : Int32))] [(.ref ab)])) _
                                      refine Goes.by (fun _ k => XS.iload X0.here hx rfl (hb hby d11_14) rfl k) ?_
                                      show Goes p.tables e below (s₁.setTop (mkF m 16 #[.val (.ref ab), .val (.int pv), .val (.int (0 : Int32)), .val (.int (19 : Int32)), .val (.int (pv.toInt8.toInt32)), .val (.int (18 : Int32))] [(.int (18 : Int32)), (.ref ab)])) _
                                      refine Goes.by (fun _ k => ldB (v := (own_txt 18)) (fr := (mkF m 16 #[.val (.ref ab), .val (.int pv), .val (.int (0 : Int32)), .val (.int (19 : Int32)), .val (.int (pv.toInt8.toInt32)), .val (.int (18 : Int32))] [(.int (18 : Int32)), (.ref ab)])) X0 hx hZ e0 A_ab (i := 18) (by decide) (by decide) rfl rfl rfl (hb hby d11_16) k) ?_
                                      show Goes p.tables e below (s₁.setTop (mkF m 17 #[.val (.ref ab), .val (.int pv), .val (.int (0 : Int32)), .val (.int (19 : Int32)), .val (.int (pv.toInt8.toInt32)), .val (.int (18 : Int32))] [(.int (own_txt 18))])) _
                                      refine Goes.by (fun _ k => XS.iload X0.here hx rfl (hb hby d11_17) rfl k) ?_
                                      show Goes p.tables e below (s₁.setTop (mkF m 19 #[.val (.ref ab), .val (.int pv), .val (.int (0 : Int32)), .val (.int (19 : Int32)), .val (.int (pv.toInt8.toInt32)), .val (.int (18 : Int32))] [(.int (pv.toInt8.toInt32)), (.int (own_txt 18))])) _
                                      by_cases hc19 : (own_txt 18) = (pv.toInt8.toInt32)
                                      · refine Goes.by (fun _ k => XS.icmpNo X0.here hx rfl (hb hby d11_19) rfl (teq hc19).2 k) ?_
                                        show Goes p.tables e below (s₁.setTop (mkF m 22 #[.val (.ref ab), .val (.int pv), .val (.int (0 : Int32)), .val (.int (19 : Int32)), .val (.int (pv.toInt8.toInt32)), .val (.int (18 : Int32))] [])) _
                                        refine Goes.by (fun _ k => XS.iload X0.here hx rfl (hb hby d11_22) rfl k) ?_
                                        show Goes p.tables e below (s₁.setTop (mkF m 24 #[.val (.ref ab), .val (.int pv), .val (.int (0 : Int32)), .val (.int (19 : Int32)), .val (.int (pv.toInt8.toInt32)), .val (.int (18 : Int32))] [(.int (18 : Int32))])) _
                                        obtain ⟨fs, hr, hrun, hended, hW, hsame⟩ := X0.leave (v := some (.int (18 : Int32))) (fun h => by rw [Bd.returns] at h; cases h)
                                        refine ⟨_, _, retI X0 hx Bd.returns (hb hby d11_24) hr, hrun, hended, _, _, rfl, ?_, ⟨_, rfl⟩, hW, hsame.mono (by decide) (by decide)⟩
                                        show Q11 Z ab pv h0 n0 _ s₁.heap _
                                        rw [e0]
                                        exact ⟨(by rw [fn11, if_neg hc1, if_neg hc2, if_neg hc3, if_neg hc4, if_neg hc5, if_neg hc6, if_neg hc7, if_neg hc8, if_neg hc9, if_neg hc10, if_neg hc11, if_neg hc12, if_neg hc13, if_neg hc14, if_neg hc15, if_neg hc16, if_neg hc17, if_neg hc18, if_pos hc19]), N0, rfl⟩
                                      · refine Goes.by (fun _ k => XS.icmpYes X0.here hx rfl (pc0 := 19) (pc' := 25) rfl (hb hby d11_19) rfl (feq hc19).2 (by decide) (by decide) k) ?_
                                        show Goes p.tables e below (s₁.setTop (mkF m 25 #[.val (.ref ab), .val (.int pv), .val (.int (0 : Int32)), .val (.int (19 : Int32)), .val (.int (pv.toInt8.toInt32)), .val (.int (18 : Int32))] [])) _
                                        refine Goes.by (fun _ k => XS.iinc X0.here hx rfl (hb hby d11_25) rfl (l' := #[.val (.ref ab), .val (.int pv), .val (.int (0 : Int32)), .val (.int (19 : Int32)), .val (.int (pv.toInt8.toInt32)), .val (.int (19 : Int32))]) rfl k) ?_
                                        show Goes p.tables e below (s₁.setTop (mkF m 28 #[.val (.ref ab), .val (.int pv), .val (.int (0 : Int32)), .val (.int (19 : Int32)), .val (.int (pv.toInt8.toInt32)), .val (.int (19 : Int32))] [])) _
                                        refine Goes.by (fun _ k => XS.goto X0.here hx rfl (pc0 := 28) (pc' := 7) rfl (hb hby d11_28) (by decide) (by decide) k) ?_
                                        show Goes p.tables e below (s₁.setTop (mkF m 7 #[.val (.ref ab), .val (.int pv), .val (.int (0 : Int32)), .val (.int (19 : Int32)), .val (.int (pv.toInt8.toInt32)), .val (.int (19 : Int32))] [])) _
                                        refine Goes.by (fun _ k => XS.iload X0.here hx rfl (hb hby d11_7) rfl k) ?_
                                        show Goes p.tables e below (s₁.setTop (mkF m 9 #[.val (.ref ab), .val (.int pv), .val (.int (0 : Int32)), .val (.int (19 : Int32)), .val (.int (pv.toInt8.toInt32)), .val (.int (19 : Int32))] [(.int (19 : Int32))])) _
                                        refine Goes.by (fun _ k => XS.iloadN X0.here hx rfl (hb hby d11_9) rfl k) ?_
                                        show Goes p.tables e below (s₁.setTop (mkF m 10 #[.val (.ref ab), .val (.int pv), .val (.int (0 : Int32)), .val (.int (19 : Int32)), .val (.int (pv.toInt8.toInt32)), .val (.int (19 : Int32))] [(.int (19 : Int32)), (.int (19 : Int32))])) _
                                        refine Goes.by (fun _ k => XS.icmpYes X0.here hx rfl (pc0 := 10) (pc' := 31) rfl (hb hby d11_10) rfl (flt (by decide : ¬ ((19 : Int32) < (19 : Int32)))).2.1 (by decide) (by decide) k) ?_
                                        show Goes p.tables e below (s₁.setTop (mkF m 31 #[.val (.ref ab), .val (.int pv), .val (.int (0 : Int32)), .val (.int (19 : Int32)), .val (.int (pv.toInt8.toInt32)), .val (.int (19 : Int32))] [])) _
                                        refine Goes.by (fun _ k => XS.iconst X0.here hx rfl (hb hby d11_31) k) ?_
                                        show Goes p.tables e below (s₁.setTop (mkF m 32 #[.val (.ref ab), .val (.int pv), .val (.int (0 : Int32)), .val (.int (19 : Int32)), .val (.int (pv.toInt8.toInt32)), .val (.int (19 : Int32))] [(.int (-1 : Int32))])) _
                                        obtain ⟨fs, hr, hrun, hended, hW, hsame⟩ := X0.leave (v := some (.int (-1 : Int32))) (fun h => by rw [Bd.returns] at h; cases h)
                                        refine ⟨_, _, retI X0 hx Bd.returns (hb hby d11_32) hr, hrun, hended, _, _, rfl, ?_, ⟨_, rfl⟩, hW, hsame.mono (by decide) (by decide)⟩
                                        show Q11 Z ab pv h0 n0 _ s₁.heap _
                                        rw [e0]
                                        exact ⟨(by rw [fn11, if_neg hc1, if_neg hc2, if_neg hc3, if_neg hc4, if_neg hc5, if_neg hc6, if_neg hc7, if_neg hc8, if_neg hc9, if_neg hc10, if_neg hc11, if_neg hc12, if_neg hc13, if_neg hc14, if_neg hc15, if_neg hc16, if_neg hc17, if_neg hc18, if_neg hc19]), N0, rfl⟩
theorem d7_0 : decode jdk_43_method_22_code 0 = .ok (.iload_n 1, 1) := by decide +kernel
theorem d7_1 : decode jdk_43_method_22_code 1 = .ok (.invokestatic 88, 3) := by decide +kernel
theorem pd_0 : parseMethodDescriptor "(I)Z" = some ⟨[.int], some .boolean⟩ := by decide +kernel
theorem d7_4 : decode jdk_43_method_22_code 4 = .ok (.ifCond .ne 5, 3) := by decide +kernel
theorem d7_7 : decode jdk_43_method_22_code 7 = .ok (.iconst (-1), 1) := by decide +kernel
theorem d7_8 : decode jdk_43_method_22_code 8 = .ok (.ireturn, 1) := by decide +kernel
theorem d7_9 : decode jdk_43_method_22_code 9 = .ok (.iload_n 2, 1) := by decide +kernel
theorem d7_10 : decode jdk_43_method_22_code 10 = .ok (.iconst 0, 1) := by decide +kernel
theorem d7_11 : decode jdk_43_method_22_code 11 = .ok (.invokestatic 92, 3) := by decide +kernel
theorem pd_1 : parseMethodDescriptor "(II)I" = some ⟨[.int, .int], some .int⟩ := by decide +kernel
theorem d7_14 : decode jdk_43_method_22_code 14 = .ok (.istore_n 2, 1) := by decide +kernel
theorem d7_15 : decode jdk_43_method_22_code 15 = .ok (.iload_n 3, 1) := by decide +kernel
theorem d7_16 : decode jdk_43_method_22_code 16 = .ok (.aload_n 0, 1) := by decide +kernel
theorem d7_17 : decode jdk_43_method_22_code 17 = .ok (.arraylength, 1) := by decide +kernel
theorem d7_18 : decode jdk_43_method_22_code 18 = .ok (.invokestatic 38, 3) := by decide +kernel
theorem d7_21 : decode jdk_43_method_22_code 21 = .ok (.istore_n 3, 1) := by decide +kernel
theorem d7_22 : decode jdk_43_method_22_code 22 = .ok (.iload_n 2, 1) := by decide +kernel
theorem d7_23 : decode jdk_43_method_22_code 23 = .ok (.iload_n 3, 1) := by decide +kernel
theorem d7_24 : decode jdk_43_method_22_code 24 = .ok (.if_icmp .lt 5, 3) := by decide +kernel
theorem d7_29 : decode jdk_43_method_22_code 29 = .ok (.aload_n 0, 1) := by decide +kernel
theorem d7_30 : decode jdk_43_method_22_code 30 = .ok (.iload_n 1, 1) := by decide +kernel
theorem d7_31 : decode jdk_43_method_22_code 31 = .ok (.iload_n 2, 1) := by decide +kernel
theorem d7_32 : decode jdk_43_method_22_code 32 = .ok (.iload_n 3, 1) := by decide +kernel
theorem d7_33 : decode jdk_43_method_22_code 33 = .ok (.invokestatic 95, 3) := by decide +kernel
theorem pd_2 : parseMethodDescriptor "([BIII)I" = some ⟨[(.array .byte), .int, .int, .int], some .int⟩ := by decide +kernel
theorem d7_36 : decode jdk_43_method_22_code 36 = .ok (.ireturn, 1) := by decide +kernel
def fn7 (pv : Int32) : Int32 := (if (fn8 pv) = (0 : Int32) then (-1 : Int32) else (fn11 pv))
theorem ef7 (m : MethodId) (ab : Addr) (pv : Int32) : entryFrame m #[(.ref ab), (.int pv), (.int (0 : Int32)), (.int (19 : Int32))] 4 = mkF m 0 #[.val (.ref ab), .val (.int pv), .val (.int (0 : Int32)), .val (.int (19 : Int32))] [] := by first | (simp [entryFrame, mkF, argsToLocals, Value.category]; done) | rfl
def Q7 (Z : State) (ab : Addr) (pv : Int32) (h0 : Heap) (n0 : Nat) (v : Option Value) (h : Heap) (L : List Loc) : Prop := v = some (.int (fn7 pv)) ∧ Fr n0 L ∧ h = h0
set_option maxRecDepth 65536 in
set_option maxHeartbeats 40000000 in
theorem rm7 (l : Launch) (Z : State) (a0 : Array Value) (hw : ∀ d ∈ tables_1, d.before a0 Z = true) (ws : List Jvm.Cond) (ab : Addr) (pv : Int32) (h0 : Heap) (n0 : Nat) (Z0 : n0 ≤ h0.size) (A_ab : AI Z h0 ab .byte 19 own_txt) :
    MetFree l (⟨"java/lang/StringLatin1", "indexOf", "([BIII)I"⟩ : MethodName) (head1 (Jvm.Cond.code (⟨"java/lang/StringLatin1", "indexOf", "([BIII)I"⟩ : MethodName) jdk_43_method_22_code 4 (some .int) :: ws) ({ frames := 1, cells := 0, slots := 0, locals := 17 } : Room)) (fun a U => a = #[(.ref ab), (.int pv), (.int (0 : Int32)), (.int (19 : Int32))] ∧ Z.Warmed39 U.vm ∧ U.heap = h0) (fun _ _ _ _ _ => True) (fun _ U o U' => ∃ v L, o = .returned v ∧ Q7 Z ab pv h0 n0 v U'.heap L ∧ FrameEnd U o U' L ({ frames := 1, cells := 0, slots := 0, locals := 17 } : Room).cells ({ frames := 1, cells := 0, slots := 0, locals := 17 } : Room).slots) := by
  refine MetFree.of_bodySF (plainFor_of_name pn_0) hisR ?_
  intro p e s m args below meth c s₁ Bd hml0 hP hK
  obtain ⟨rfl, hZ, hh⟩ := hP
  have hx := Bd.exec
  have hby := Bd.bytes
  have hml : c.maxLocals = 4 := hml0
  have hown : s.vm.findClass "java/lang/StringLatin1" = some m.cls := findClass_of_methodNamed Bd.named
  have hnm := (name_of_methodNamed Bd.named Bd.method).1
  have X0 : Stand p l e ({ frames := 1, cells := 0, slots := 0, locals := 17 } : Room) s m #[(.ref ab), (.int pv), (.int (0 : Int32)), (.int (19 : Int32))] below meth c s₁ [] 0 0 := Stand.of_body Bd
  have e0 : s₁.heap = h0 := by rw [← hh, Bd.state]; rfl
  have N0 := Fr.nil n0
  refine Goes.by (fun _ k => castTop (ef7 m ab pv) k) ?_
  show Goes p.tables e below (s₁.setTop (mkF m 0 #[.val (.ref ab), .val (.int pv), .val (.int (0 : Int32)), .val (.int (19 : Int32))] [])) _
  refine Goes.by (fun _ k => XS.iloadN X0.here hx rfl (hb hby d7_0) rfl k) ?_
  show Goes p.tables e below (s₁.setTop (mkF m 1 #[.val (.ref ab), .val (.int pv), .val (.int (0 : Int32)), .val (.int (19 : Int32))] [(.int pv)])) _
  obtain ⟨_, _, ⟨T1, L1, k1, n1⟩, -, X1, ⟨Lc1, hQ1, l1, y1, z1⟩, st1⟩ := Jvm.LawKit.callS X0 hx (y := (⟨"java/lang/StringLatin1", "canEncode", "(I)Z"⟩ : MethodName)) hown (mvT hZ (hw _ (List.mem_of_getElem? (i := 45) rfl))) (mvT hZ (hw _ (List.mem_of_getElem? (i := 46) rfl))) (mvT hZ (hw _ (List.mem_of_getElem? (i := 43) rfl))) (mvT hZ (hw _ (List.mem_of_getElem? (i := 47) rfl))) (by decide) (backOf (W := 0) (rm8 l Z a0 hw [] pv h0 n0 Z0) hZ (hw _ (List.mem_of_getElem? (i := 47) rfl)) (hw _ (List.mem_of_getElem? (i := 43) rfl)) (by decide) (by decide)) (g := (mkF m 1 #[.val (.ref ab), .val (.int pv), .val (.int (0 : Int32)), .val (.int (19 : Int32))] [(.int pv)])) rfl (by rw [hml]; rfl) (argsL := [(.int pv)]) (rest := []) (lenOf pd_0 rfl) rfl (by show 2 * 0 + _ ≤ _; exact Nat.le_of_eq rfl) (hb hby d7_1) (fun _ _ => ⟨rfl, e0, (by decide : 0 + 0 ≤ _), (by decide : 0 + 0 ≤ _)⟩)
  dsimp only [Pt.U, Pt.locs, Pt.cells, Pt.slots] at X1 l1 y1 z1 st1 hQ1
  rw [l1, y1, z1] at X1
  obtain ⟨rfl, N1q, e1⟩ := hQ1
  have N1 := Fr.app N0 N1q
  refine Goes.by st1 ?_
  show Goes p.tables e below (T1.setTop (mkF m 4 #[.val (.ref ab), .val (.int pv), .val (.int (0 : Int32)), .val (.int (19 : Int32))] [(.int (fn8 pv))])) _
  by_cases hc2 : (fn8 pv) = (0 : Int32)
  · refine Goes.by (fun _ k => XS.ifNo X1.here hx rfl (hb hby d7_4) rfl ((if0 _ _).trans (teq hc2).2) k) ?_
    show Goes p.tables e below (T1.setTop (mkF m 7 #[.val (.ref ab), .val (.int pv), .val (.int (0 : Int32)), .val (.int (19 : Int32))] [])) _
    refine Goes.by (fun _ k => XS.iconst X1.here hx rfl (hb hby d7_7) k) ?_
    show Goes p.tables e below (T1.setTop (mkF m 8 #[.val (.ref ab), .val (.int pv), .val (.int (0 : Int32)), .val (.int (19 : Int32))] [(.int (-1 : Int32))])) _
    obtain ⟨fs, hr, hrun, hended, hW, hsame⟩ := X1.leave (v := some (.int (-1 : Int32))) (fun h => by rw [Bd.returns] at h; cases h)
    refine ⟨_, _, retI X1 hx Bd.returns (hb hby d7_8) hr, hrun, hended, _, _, rfl, ?_, ⟨_, rfl⟩, hW, hsame.mono (by decide) (by decide)⟩
    show Q7 Z ab pv h0 n0 _ T1.heap _
    rw [e1]
    exact ⟨(by rw [fn7, if_pos hc2]), N1, rfl⟩
  · refine Goes.by (fun _ k => XS.ifYes X1.here hx rfl (pc0 := 4) (pc' := 9) rfl (hb hby d7_4) rfl ((if0 _ _).trans (feq hc2).2) (by decide) (by decide) k) ?_
    show Goes p.tables e below (T1.setTop (mkF m 9 #[.val (.ref ab), .val (.int pv), .val (.int (0 : Int32)), .val (.int (19 : Int32))] [])) _
    refine Goes.by (fun _ k => XS.iloadN X1.here hx rfl (hb hby d7_9) rfl k) ?_
    show Goes p.tables e below (T1.setTop (mkF m 10 #[.val (.ref ab), .val (.int pv), .val (.int (0 : Int32)), .val (.int (19 : Int32))] [(.int (0 : Int32))])) _
    refine Goes.by (fun _ k => XS.iconst X1.here hx rfl (hb hby d7_10) k) ?_
    show Goes p.tables e below (T1.setTop (mkF m 11 #[.val (.ref ab), .val (.int pv), .val (.int (0 : Int32)), .val (.int (19 : Int32))] [(.int (0 : Int32)), (.int (0 : Int32))])) _
    obtain ⟨_, _, ⟨T3, L3, k3, n3⟩, -, X3, ⟨Lc3, hQ3, l3, y3, z3⟩, st3⟩ := Jvm.LawKit.callS X1 hx (y := (⟨"java/lang/Math", "max", "(II)I"⟩ : MethodName)) hown (mvT hZ (hw _ (List.mem_of_getElem? (i := 48) rfl))) (mvT hZ (hw _ (List.mem_of_getElem? (i := 49) rfl))) (mvT hZ (hw _ (List.mem_of_getElem? (i := 50) rfl))) (mvT hZ (hw _ (List.mem_of_getElem? (i := 51) rfl))) (by decide) (backOf (W := 0) (rm9 l Z a0 hw []  h0 n0 Z0) hZ (hw _ (List.mem_of_getElem? (i := 51) rfl)) (hw _ (List.mem_of_getElem? (i := 50) rfl)) (by decide) (by decide)) (g := (mkF m 11 #[.val (.ref ab), .val (.int pv), .val (.int (0 : Int32)), .val (.int (19 : Int32))] [(.int (0 : Int32)), (.int (0 : Int32))])) rfl (by rw [hml]; rfl) (argsL := [(.int (0 : Int32)), (.int (0 : Int32))]) (rest := []) (lenOf pd_1 rfl) rfl (by show 2 * 0 + _ ≤ _; exact Nat.le_of_eq rfl) (hb hby d7_11) (fun _ _ => ⟨rfl, e1, (by decide : 0 + 0 ≤ _), (by decide : 0 + 0 ≤ _)⟩)
    dsimp only [Pt.U, Pt.locs, Pt.cells, Pt.slots] at X3 l3 y3 z3 st3 hQ3
    rw [l3, y3, z3] at X3
    obtain ⟨rfl, N3q, e3⟩ := hQ3
    have N3 := Fr.app N1 N3q
    refine Goes.by st3 ?_
    show Goes p.tables e below (T3.setTop (mkF m 14 #[.val (.ref ab), .val (.int pv), .val (.int (0 : Int32)), .val (.int (19 : Int32))] [(.int (0 : Int32))])) _
    refine Goes.by (fun _ k => XS.istoreN X3.here hx rfl (hb hby d7_14) rfl (l' := #[.val (.ref ab), .val (.int pv), .val (.int (0 : Int32)), .val (.int (19 : Int32))]) rfl k) ?_
    show Goes p.tables e below (T3.setTop (mkF m 15 #[.val (.ref ab), .val (.int pv), .val (.int (0 : Int32)), .val (.int (19 : Int32))] [])) _
    refine Goes.by (fun _ k => XS.iloadN X3.here hx rfl (hb hby d7_15) rfl k) ?_
    show Goes p.tables e below (T3.setTop (mkF m 16 #[.val (.ref ab), .val (.int pv), .val (.int (0 : Int32)), .val (.int (19 : Int32))] [(.int (19 : Int32))])) _
    refine Goes.by (fun _ k => XS.aloadN X3.here hx rfl (hb hby d7_16) rfl rfl k) ?_
    show Goes p.tables e below (T3.setTop (mkF m 17 #[.val (.ref ab), .val (.int pv), .val (.int (0 : Int32)), .val (.int (19 : Int32))] [(.ref ab), (.int (19 : Int32))])) _
    refine Goes.by (fun _ k => alen (z := (19 : Int32)) (fr := (mkF m 17 #[.val (.ref ab), .val (.int pv), .val (.int (0 : Int32)), .val (.int (19 : Int32))] [(.ref ab), (.int (19 : Int32))])) X3 hx hZ e3 A_ab (by decide) rfl rfl (hb hby d7_17) k) ?_
    show Goes p.tables e below (T3.setTop (mkF m 18 #[.val (.ref ab), .val (.int pv), .val (.int (0 : Int32)), .val (.int (19 : Int32))] [(.int (19 : Int32)), (.int (19 : Int32))])) _
    obtain ⟨_, _, ⟨T4, L4, k4, n4⟩, -, X4, ⟨Lc4, hQ4, l4, y4, z4⟩, st4⟩ := Jvm.LawKit.callS X3 hx (y := (⟨"java/lang/Math", "min", "(II)I"⟩ : MethodName)) hown (mvT hZ (hw _ (List.mem_of_getElem? (i := 52) rfl))) (mvT hZ (hw _ (List.mem_of_getElem? (i := 53) rfl))) (mvT hZ (hw _ (List.mem_of_getElem? (i := 50) rfl))) (mvT hZ (hw _ (List.mem_of_getElem? (i := 54) rfl))) (by decide) (backOf (W := 0) (rm10 l Z a0 hw []  h0 n0 Z0) hZ (hw _ (List.mem_of_getElem? (i := 54) rfl)) (hw _ (List.mem_of_getElem? (i := 50) rfl)) (by decide) (by decide)) (g := (mkF m 18 #[.val (.ref ab), .val (.int pv), .val (.int (0 : Int32)), .val (.int (19 : Int32))] [(.int (19 : Int32)), (.int (19 : Int32))])) rfl (by rw [hml]; rfl) (argsL := [(.int (19 : Int32)), (.int (19 : Int32))]) (rest := []) (lenOf pd_1 rfl) rfl (by show 2 * 0 + _ ≤ _; exact Nat.le_of_eq rfl) (hb hby d7_18) (fun _ _ => ⟨rfl, e3, (by decide : 0 + 0 ≤ _), (by decide : 0 + 0 ≤ _)⟩)
    dsimp only [Pt.U, Pt.locs, Pt.cells, Pt.slots] at X4 l4 y4 z4 st4 hQ4
    rw [l4, y4, z4] at X4
    obtain ⟨rfl, N4q, e4⟩ := hQ4
    have N4 := Fr.app N3 N4q
    refine Goes.by st4 ?_
    show Goes p.tables e below (T4.setTop (mkF m 21 #[.val (.ref ab), .val (.int pv), .val (.int (0 : Int32)), .val (.int (19 : Int32))] [(.int (19 : Int32))])) _
    refine Goes.by (fun _ k => XS.istoreN X4.here hx rfl (hb hby d7_21) rfl (l' := #[.val (.ref ab), .val (.int pv), .val (.int (0 : Int32)), .val (.int (19 : Int32))]) rfl k) ?_
    show Goes p.tables e below (T4.setTop (mkF m 22 #[.val (.ref ab), .val (.int pv), .val (.int (0 : Int32)), .val (.int (19 : Int32))] [])) _
    refine Goes.by (fun _ k => XS.iloadN X4.here hx rfl (hb hby d7_22) rfl k) ?_
    show Goes p.tables e below (T4.setTop (mkF m 23 #[.val (.ref ab), .val (.int pv), .val (.int (0 : Int32)), .val (.int (19 : Int32))] [(.int (0 : Int32))])) _
    refine Goes.by (fun _ k => XS.iloadN X4.here hx rfl (hb hby d7_23) rfl k) ?_
    show Goes p.tables e below (T4.setTop (mkF m 24 #[.val (.ref ab), .val (.int pv), .val (.int (0 : Int32)), .val (.int (19 : Int32))] [(.int (19 : Int32)), (.int (0 : Int32))])) _
    refine Goes.by (fun _ k => XS.icmpYes X4.here hx rfl (pc0 := 24) (pc' := 29) rfl (hb hby d7_24) rfl (tlt (by decide : (0 : Int32) < (19 : Int32))).1 (by decide) (by decide) k) ?_
    show Goes p.tables e below (T4.setTop (mkF m 29 #[.val (.ref ab), .val (.int pv), .val (.int (0 : Int32)), .val (.int (19 : Int32))] [])) _
    refine Goes.by (fun _ k => XS.aloadN X4.here hx rfl (hb hby d7_29) rfl rfl k) ?_
    show Goes p.tables e below (T4.setTop (mkF m 30 #[.val (.ref ab), .val (.int pv), .val (.int (0 : Int32)), .val (.int (19 : Int32))] [(.ref ab)])) _
    refine Goes.by (fun _ k => XS.iloadN X4.here hx rfl (hb hby d7_30) rfl k) ?_
    show Goes p.tables e below (T4.setTop (mkF m 31 #[.val (.ref ab), .val (.int pv), .val (.int (0 : Int32)), .val (.int (19 : Int32))] [(.int pv), (.ref ab)])) _
    refine Goes.by (fun _ k => XS.iloadN X4.here hx rfl (hb hby d7_31) rfl k) ?_
    show Goes p.tables e below (T4.setTop (mkF m 32 #[.val (.ref ab), .val (.int pv), .val (.int (0 : Int32)), .val (.int (19 : Int32))] [(.int (0 : Int32)), (.int pv), (.ref ab)])) _
    refine Goes.by (fun _ k => XS.iloadN X4.here hx rfl (hb hby d7_32) rfl k) ?_
    show Goes p.tables e below (T4.setTop (mkF m 33 #[.val (.ref ab), .val (.int pv), .val (.int (0 : Int32)), .val (.int (19 : Int32))] [(.int (19 : Int32)), (.int (0 : Int32)), (.int pv), (.ref ab)])) _
    obtain ⟨_, _, ⟨T5, L5, k5, n5⟩, -, X5, ⟨Lc5, hQ5, l5, y5, z5⟩, st5⟩ := Jvm.LawKit.callS X4 hx (y := (⟨"java/lang/StringLatin1", "indexOfChar", "([BIII)I"⟩ : MethodName)) hown (mvT hZ (hw _ (List.mem_of_getElem? (i := 55) rfl))) (mvT hZ (hw _ (List.mem_of_getElem? (i := 56) rfl))) (mvT hZ (hw _ (List.mem_of_getElem? (i := 43) rfl))) (mvT hZ (hw _ (List.mem_of_getElem? (i := 57) rfl))) (by decide) (backOf (W := 0) (rm11 l Z a0 hw [] ab pv h0 n0 Z0 A_ab) hZ (hw _ (List.mem_of_getElem? (i := 57) rfl)) (hw _ (List.mem_of_getElem? (i := 43) rfl)) (by decide) (by decide)) (g := (mkF m 33 #[.val (.ref ab), .val (.int pv), .val (.int (0 : Int32)), .val (.int (19 : Int32))] [(.int (19 : Int32)), (.int (0 : Int32)), (.int pv), (.ref ab)])) rfl (by rw [hml]; rfl) (argsL := [(.ref ab), (.int pv), (.int (0 : Int32)), (.int (19 : Int32))]) (rest := []) (lenOf pd_2 rfl) rfl (by show 2 * 0 + _ ≤ _; exact Nat.le_of_eq rfl) (hb hby d7_33) (fun _ _ => ⟨rfl, e4, (by decide : 0 + 0 ≤ _), (by decide : 0 + 0 ≤ _)⟩)
    dsimp only [Pt.U, Pt.locs, Pt.cells, Pt.slots] at X5 l5 y5 z5 st5 hQ5
    rw [l5, y5, z5] at X5
    obtain ⟨rfl, N5q, e5⟩ := hQ5
    have N5 := Fr.app N4 N5q
    refine Goes.by st5 ?_
    show Goes p.tables e below (T5.setTop (mkF m 36 #[.val (.ref ab), .val (.int pv), .val (.int (0 : Int32)), .val (.int (19 : Int32))] [(.int (fn11 pv))])) _
    obtain ⟨fs, hr, hrun, hended, hW, hsame⟩ := X5.leave (v := some (.int (fn11 pv))) (fun h => by rw [Bd.returns] at h; cases h)
    refine ⟨_, _, retI X5 hx Bd.returns (hb hby d7_36) hr, hrun, hended, _, _, rfl, ?_, ⟨_, rfl⟩, hW, hsame.mono (by decide) (by decide)⟩
    show Q7 Z ab pv h0 n0 _ T5.heap _
    rw [e5]
    exact ⟨(by rw [fn7, if_neg hc2]), N5, rfl⟩
theorem d6_0 : decode jdk_42_method_152_code 0 = .ok (.getstatic 38, 3) := by decide +kernel
theorem d6_3 : decode jdk_42_method_152_code 3 = .ok (.ifCond .eq 10, 3) := by decide +kernel
theorem d6_6 : decode jdk_42_method_152_code 6 = .ok (.aload_n 0, 1) := by decide +kernel
theorem d6_7 : decode jdk_42_method_152_code 7 = .ok (.getfield 15, 3) := by decide +kernel
theorem d6_10 : decode jdk_42_method_152_code 10 = .ok (.goto 4, 3) := by decide +kernel
theorem d6_14 : decode jdk_42_method_152_code 14 = .ok (.ireturn, 1) := by decide +kernel
theorem pn_1 : plainName "java/lang/String" = true := by first | (simp [plainName, overriddenIn]; done) | decide +kernel
theorem ef6 (m : MethodId) (oa : Addr) : entryFrame m #[(.ref oa)] 1 = mkF m 0 #[.val (.ref oa)] [] := by first | (simp [entryFrame, mkF, argsToLocals, Value.category]; done) | rfl
def Q6 (Z : State) (oa : Addr) (zc : Int32) (h0 : Heap) (n0 : Nat) (v : Option Value) (h : Heap) (L : List Loc) : Prop := v = some (.int (0 : Int32)) ∧ Fr n0 L ∧ h = h0
set_option maxRecDepth 65536 in
set_option maxHeartbeats 40000000 in
theorem rm6 (l : Launch) (Z : State) (a0 : Array Value) (hw : ∀ d ∈ tables_1, d.before a0 Z = true) (ws : List Jvm.Cond) (oa : Addr) (zc : Int32) (h0 : Heap) (n0 : Nat) (Z0 : n0 ≤ h0.size) (O : Old Z n0 h0) (S_cs : Sta Z Z.heap "java/lang/String" "COMPACT_STRINGS" "Z" (.int zc)) (hzc : ¬ zc = 0) (F_oa_coder : Fld Z h0 oa "java/lang/String" "coder" "B" (.int (0 : Int32))) :
    MetFree l (⟨"java/lang/String", "coder", "()B"⟩ : MethodName) (head1 (Jvm.Cond.code (⟨"java/lang/String", "coder", "()B"⟩ : MethodName) jdk_42_method_152_code 1 (some .byte) :: ws) ({ frames := 0, cells := 0, slots := 0, locals := 0 } : Room)) (fun a U => a = #[(.ref oa)] ∧ Z.Warmed39 U.vm ∧ U.heap = h0) (fun _ _ _ _ _ => True) (fun _ U o U' => ∃ v L, o = .returned v ∧ Q6 Z oa zc h0 n0 v U'.heap L ∧ FrameEnd U o U' L ({ frames := 0, cells := 0, slots := 0, locals := 0 } : Room).cells ({ frames := 0, cells := 0, slots := 0, locals := 0 } : Room).slots) := by
  refine MetFree.of_bodySF (plainFor_of_name pn_1) hisR ?_
  intro p e s m args below meth c s₁ Bd hml0 hP hK
  obtain ⟨rfl, hZ, hh⟩ := hP
  have hx := Bd.exec
  have hby := Bd.bytes
  have hml : c.maxLocals = 1 := hml0
  have hown : s.vm.findClass "java/lang/String" = some m.cls := findClass_of_methodNamed Bd.named
  have hnm := (name_of_methodNamed Bd.named Bd.method).1
  have X0 : Stand p l e ({ frames := 0, cells := 0, slots := 0, locals := 0 } : Room) s m #[(.ref oa)] below meth c s₁ [] 0 0 := Stand.of_body Bd
  have e0 : s₁.heap = h0 := by rw [← hh, Bd.state]; rfl
  have N0 := Fr.nil n0
  refine Goes.by (fun _ k => castTop (ef6 m oa) k) ?_
  show Goes p.tables e below (s₁.setTop (mkF m 0 #[.val (.ref oa)] [])) _
  obtain ⟨T1, X1, e1, st1⟩ := getS2 X0 hx hZ hown (host := "") (Or.inl (hw _ (List.mem_of_getElem? (i := 28) rfl))) Via.refl e0 (S_cs.ext O.2) (g := (mkF m 0 #[.val (.ref oa)] [])) rfl (hb hby d6_0)
  refine Goes.by st1 ?_
  show Goes p.tables e below (T1.setTop (mkF m 3 #[.val (.ref oa)] [(.int zc)])) _
  refine Goes.by (fun _ k => XS.ifNo X1.here hx rfl (hb hby d6_3) rfl ((if0 _ _).trans (feq (hzc : ¬ (zc = (0 : Int32)))).1) k) ?_
  show Goes p.tables e below (T1.setTop (mkF m 6 #[.val (.ref oa)] [])) _
  refine Goes.by (fun _ k => XS.aloadN X1.here hx rfl (hb hby d6_6) rfl rfl k) ?_
  show Goes p.tables e below (T1.setTop (mkF m 7 #[.val (.ref oa)] [(.ref oa)])) _
  obtain ⟨T2, X2, e2, st2⟩ := getF X1 hx hZ hown (host := "") (Or.inl (hw _ (List.mem_of_getElem? (i := 29) rfl))) Via.refl e1 F_oa_coder (g := (mkF m 7 #[.val (.ref oa)] [(.ref oa)])) rfl rfl (hb hby d6_7)
  refine Goes.by st2 ?_
  show Goes p.tables e below (T2.setTop (mkF m 10 #[.val (.ref oa)] [(.int (0 : Int32))])) _
  refine Goes.by (fun _ k => XS.goto X2.here hx rfl (pc0 := 10) (pc' := 14) rfl (hb hby d6_10) (by decide) (by decide) k) ?_
  show Goes p.tables e below (T2.setTop (mkF m 14 #[.val (.ref oa)] [(.int (0 : Int32))])) _
  obtain ⟨fs, hr, hrun, hended, hW, hsame⟩ := X2.leave (v := some (.int (0 : Int32))) (fun h => by rw [Bd.returns] at h; cases h)
  refine ⟨_, _, retN X2 hx (t := .byte) Bd.returns (by simp) (hb hby d6_14) hr, hrun, hended, _, _, rfl, ?_, ⟨_, rfl⟩, hW, hsame.mono (by decide) (by decide)⟩
  show Q6 Z oa zc h0 n0 _ T2.heap _
  rw [e2]
  exact ⟨rfl, N0, rfl⟩
theorem d4_0 : decode jdk_42_method_154_code 0 = .ok (.getstatic 38, 3) := by decide +kernel
theorem d4_3 : decode jdk_42_method_154_code 3 = .ok (.ifCond .eq 14, 3) := by decide +kernel
theorem d4_6 : decode jdk_42_method_154_code 6 = .ok (.aload_n 0, 1) := by decide +kernel
theorem d4_7 : decode jdk_42_method_154_code 7 = .ok (.getfield 15, 3) := by decide +kernel
theorem d4_10 : decode jdk_42_method_154_code 10 = .ok (.ifCond .ne 7, 3) := by decide +kernel
theorem d4_13 : decode jdk_42_method_154_code 13 = .ok (.iconst 1, 1) := by decide +kernel
theorem d4_14 : decode jdk_42_method_154_code 14 = .ok (.goto 4, 3) := by decide +kernel
theorem d4_18 : decode jdk_42_method_154_code 18 = .ok (.ireturn, 1) := by decide +kernel
theorem ef4 (m : MethodId) (oa : Addr) : entryFrame m #[(.ref oa)] 1 = mkF m 0 #[.val (.ref oa)] [] := by first | (simp [entryFrame, mkF, argsToLocals, Value.category]; done) | rfl
def Q4 (Z : State) (oa : Addr) (zc : Int32) (h0 : Heap) (n0 : Nat) (v : Option Value) (h : Heap) (L : List Loc) : Prop := v = some (.int (1 : Int32)) ∧ Fr n0 L ∧ h = h0
set_option maxRecDepth 65536 in
set_option maxHeartbeats 40000000 in
theorem rm4 (l : Launch) (Z : State) (a0 : Array Value) (hw : ∀ d ∈ tables_1, d.before a0 Z = true) (ws : List Jvm.Cond) (oa : Addr) (zc : Int32) (h0 : Heap) (n0 : Nat) (Z0 : n0 ≤ h0.size) (O : Old Z n0 h0) (S_cs : Sta Z Z.heap "java/lang/String" "COMPACT_STRINGS" "Z" (.int zc)) (hzc : ¬ zc = 0) (F_oa_coder : Fld Z h0 oa "java/lang/String" "coder" "B" (.int (0 : Int32))) :
    MetFree l (⟨"java/lang/String", "isLatin1", "()Z"⟩ : MethodName) (head1 (Jvm.Cond.code (⟨"java/lang/String", "isLatin1", "()Z"⟩ : MethodName) jdk_42_method_154_code 1 (some .boolean) :: ws) ({ frames := 0, cells := 0, slots := 0, locals := 0 } : Room)) (fun a U => a = #[(.ref oa)] ∧ Z.Warmed39 U.vm ∧ U.heap = h0) (fun _ _ _ _ _ => True) (fun _ U o U' => ∃ v L, o = .returned v ∧ Q4 Z oa zc h0 n0 v U'.heap L ∧ FrameEnd U o U' L ({ frames := 0, cells := 0, slots := 0, locals := 0 } : Room).cells ({ frames := 0, cells := 0, slots := 0, locals := 0 } : Room).slots) := by
  refine MetFree.of_bodySF (plainFor_of_name pn_1) hisR ?_
  intro p e s m args below meth c s₁ Bd hml0 hP hK
  obtain ⟨rfl, hZ, hh⟩ := hP
  have hx := Bd.exec
  have hby := Bd.bytes
  have hml : c.maxLocals = 1 := hml0
  have hown : s.vm.findClass "java/lang/String" = some m.cls := findClass_of_methodNamed Bd.named
  have hnm := (name_of_methodNamed Bd.named Bd.method).1
  have X0 : Stand p l e ({ frames := 0, cells := 0, slots := 0, locals := 0 } : Room) s m #[(.ref oa)] below meth c s₁ [] 0 0 := Stand.of_body Bd
  have e0 : s₁.heap = h0 := by rw [← hh, Bd.state]; rfl
  have N0 := Fr.nil n0
  refine Goes.by (fun _ k => castTop (ef4 m oa) k) ?_
  show Goes p.tables e below (s₁.setTop (mkF m 0 #[.val (.ref oa)] [])) _
  obtain ⟨T1, X1, e1, st1⟩ := getS2 X0 hx hZ hown (host := "") (Or.inl (hw _ (List.mem_of_getElem? (i := 28) rfl))) Via.refl e0 (S_cs.ext O.2) (g := (mkF m 0 #[.val (.ref oa)] [])) rfl (hb hby d4_0)
  refine Goes.by st1 ?_
  show Goes p.tables e below (T1.setTop (mkF m 3 #[.val (.ref oa)] [(.int zc)])) _
  refine Goes.by (fun _ k => XS.ifNo X1.here hx rfl (hb hby d4_3) rfl ((if0 _ _).trans (feq (hzc : ¬ (zc = (0 : Int32)))).1) k) ?_
  show Goes p.tables e below (T1.setTop (mkF m 6 #[.val (.ref oa)] [])) _
  refine Goes.by (fun _ k => XS.aloadN X1.here hx rfl (hb hby d4_6) rfl rfl k) ?_
  show Goes p.tables e below (T1.setTop (mkF m 7 #[.val (.ref oa)] [(.ref oa)])) _
  obtain ⟨T2, X2, e2, st2⟩ := getF X1 hx hZ hown (host := "") (Or.inl (hw _ (List.mem_of_getElem? (i := 29) rfl))) Via.refl e1 F_oa_coder (g := (mkF m 7 #[.val (.ref oa)] [(.ref oa)])) rfl rfl (hb hby d4_7)
  refine Goes.by st2 ?_
  show Goes p.tables e below (T2.setTop (mkF m 10 #[.val (.ref oa)] [(.int (0 : Int32))])) _
  refine Goes.by (fun _ k => XS.ifNo X2.here hx rfl (hb hby d4_10) rfl ((if0 _ _).trans (teq (by decide : (0 : Int32) = (0 : Int32))).2) k) ?_
  show Goes p.tables e below (T2.setTop (mkF m 13 #[.val (.ref oa)] [])) _
  refine Goes.by (fun _ k => XS.iconst X2.here hx rfl (hb hby d4_13) k) ?_
  show Goes p.tables e below (T2.setTop (mkF m 14 #[.val (.ref oa)] [(.int (1 : Int32))])) _
  refine Goes.by (fun _ k => XS.goto X2.here hx rfl (pc0 := 14) (pc' := 18) rfl (hb hby d4_14) (by decide) (by decide) k) ?_
  show Goes p.tables e below (T2.setTop (mkF m 18 #[.val (.ref oa)] [(.int (1 : Int32))])) _
  obtain ⟨fs, hr, hrun, hended, hW, hsame⟩ := X2.leave (v := some (.int (1 : Int32))) (fun h => by rw [Bd.returns] at h; cases h)
  refine ⟨_, _, retN X2 hx (t := .boolean) Bd.returns (by simp) (hb hby d4_18) hr, hrun, hended, _, _, rfl, ?_, ⟨_, rfl⟩, hW, hsame.mono (by decide) (by decide)⟩
  show Q4 Z oa zc h0 n0 _ T2.heap _
  rw [e2]
  exact ⟨rfl, N0, rfl⟩
theorem d5_0 : decode jdk_42_method_54_code 0 = .ok (.aload_n 0, 1) := by decide +kernel
theorem d5_1 : decode jdk_42_method_54_code 1 = .ok (.getfield 9, 3) := by decide +kernel
theorem d5_4 : decode jdk_42_method_54_code 4 = .ok (.arraylength, 1) := by decide +kernel
theorem d5_5 : decode jdk_42_method_54_code 5 = .ok (.aload_n 0, 1) := by decide +kernel
theorem d5_6 : decode jdk_42_method_54_code 6 = .ok (.invokevirtual 335, 3) := by decide +kernel
theorem pd_3 : parseMethodDescriptor "()B" = some ⟨[], some .byte⟩ := by decide +kernel
theorem d5_9 : decode jdk_42_method_54_code 9 = .ok (.ishr, 1) := by decide +kernel
theorem d5_10 : decode jdk_42_method_54_code 10 = .ok (.ireturn, 1) := by decide +kernel
theorem ef5 (m : MethodId) (oa : Addr) : entryFrame m #[(.ref oa)] 1 = mkF m 0 #[.val (.ref oa)] [] := by first | (simp [entryFrame, mkF, argsToLocals, Value.category]; done) | rfl
def Q5 (Z : State) (oa : Addr) (ab : Addr) (zc : Int32) (h0 : Heap) (n0 : Nat) (v : Option Value) (h : Heap) (L : List Loc) : Prop := v = some (.int (19 : Int32)) ∧ Fr n0 L ∧ h = h0
set_option maxRecDepth 65536 in
set_option maxHeartbeats 40000000 in
theorem rm5 (l : Launch) (Z : State) (a0 : Array Value) (hw : ∀ d ∈ tables_1, d.before a0 Z = true) (ws : List Jvm.Cond) (oa : Addr) (ab : Addr) (zc : Int32) (h0 : Heap) (n0 : Nat) (Z0 : n0 ≤ h0.size) (O : Old Z n0 h0) (S_cs : Sta Z Z.heap "java/lang/String" "COMPACT_STRINGS" "Z" (.int zc)) (hzc : ¬ zc = 0) (F_oa_coder : Fld Z h0 oa "java/lang/String" "coder" "B" (.int (0 : Int32))) (F_oa_value : Fld Z h0 oa "java/lang/String" "value" "[B" (.ref ab)) (E_oa : Exa Z h0 oa "java/lang/String") (A_ab : AI Z h0 ab .byte 19 own_txt) :
    MetFree l (⟨"java/lang/String", "length", "()I"⟩ : MethodName) (head1 (Jvm.Cond.code (⟨"java/lang/String", "length", "()I"⟩ : MethodName) jdk_42_method_54_code 1 (some .int) :: ws) ({ frames := 1, cells := 0, slots := 0, locals := 13 } : Room)) (fun a U => a = #[(.ref oa)] ∧ Z.Warmed39 U.vm ∧ U.heap = h0) (fun _ _ _ _ _ => True) (fun _ U o U' => ∃ v L, o = .returned v ∧ Q5 Z oa ab zc h0 n0 v U'.heap L ∧ FrameEnd U o U' L ({ frames := 1, cells := 0, slots := 0, locals := 13 } : Room).cells ({ frames := 1, cells := 0, slots := 0, locals := 13 } : Room).slots) := by
  refine MetFree.of_bodySF (plainFor_of_name pn_1) hisR ?_
  intro p e s m args below meth c s₁ Bd hml0 hP hK
  obtain ⟨rfl, hZ, hh⟩ := hP
  have hx := Bd.exec
  have hby := Bd.bytes
  have hml : c.maxLocals = 1 := hml0
  have hown : s.vm.findClass "java/lang/String" = some m.cls := findClass_of_methodNamed Bd.named
  have hnm := (name_of_methodNamed Bd.named Bd.method).1
  have X0 : Stand p l e ({ frames := 1, cells := 0, slots := 0, locals := 13 } : Room) s m #[(.ref oa)] below meth c s₁ [] 0 0 := Stand.of_body Bd
  have e0 : s₁.heap = h0 := by rw [← hh, Bd.state]; rfl
  have N0 := Fr.nil n0
  refine Goes.by (fun _ k => castTop (ef5 m oa) k) ?_
  show Goes p.tables e below (s₁.setTop (mkF m 0 #[.val (.ref oa)] [])) _
  refine Goes.by (fun _ k => XS.aloadN X0.here hx rfl (hb hby d5_0) rfl rfl k) ?_
  show Goes p.tables e below (s₁.setTop (mkF m 1 #[.val (.ref oa)] [(.ref oa)])) _
  obtain ⟨T1, X1, e1, st1⟩ := getF X0 hx hZ hown (host := "") (Or.inl (hw _ (List.mem_of_getElem? (i := 30) rfl))) Via.refl e0 F_oa_value (g := (mkF m 1 #[.val (.ref oa)] [(.ref oa)])) rfl rfl (hb hby d5_1)
  refine Goes.by st1 ?_
  show Goes p.tables e below (T1.setTop (mkF m 4 #[.val (.ref oa)] [(.ref ab)])) _
  refine Goes.by (fun _ k => alen (z := (19 : Int32)) (fr := (mkF m 4 #[.val (.ref oa)] [(.ref ab)])) X1 hx hZ e1 A_ab (by decide) rfl rfl (hb hby d5_4) k) ?_
  show Goes p.tables e below (T1.setTop (mkF m 5 #[.val (.ref oa)] [(.int (19 : Int32))])) _
  refine Goes.by (fun _ k => XS.aloadN X1.here hx rfl (hb hby d5_5) rfl rfl k) ?_
  show Goes p.tables e below (T1.setTop (mkF m 6 #[.val (.ref oa)] [(.ref oa), (.int (19 : Int32))])) _
  obtain ⟨cq2, kq2, q2a, q2b, q2c⟩ := isOf hZ e1 E_oa
  obtain ⟨_, _, ⟨T2, L2, k2, n2⟩, -, X2, ⟨Lc2, hQ2, l2, y2, z2⟩, st2⟩ := X1.virtualBack hx (y := (⟨"java/lang/String", "coder", "()B"⟩ : MethodName)) (z := (⟨"java/lang/String", "coder", "()B"⟩ : MethodName)) hown (mvT hZ (hw _ (List.mem_of_getElem? (i := 36) rfl))) (mvT hZ (hw _ (List.mem_of_getElem? (i := 37) rfl))) (notFace_of_selects (args := #[]) (mvT hZ (hw _ (List.mem_of_getElem? (i := 39) rfl)))) (mvT hZ (hw _ (List.mem_of_getElem? (i := 39) rfl))) (mvT hZ (hw _ (List.mem_of_getElem? (i := 38) rfl))) (by decide) (backOf (W := 1) (rm6 l Z a0 hw [] oa zc h0 n0 Z0 O S_cs hzc F_oa_coder) hZ (hw _ (List.mem_of_getElem? (i := 40) rfl)) (hw _ (List.mem_of_getElem? (i := 6) rfl)) (by decide) (by decide)) q2a q2c (g := (mkF m 6 #[.val (.ref oa)] [(.ref oa), (.int (19 : Int32))])) rfl (by rw [hml]; rfl) (Steps.refl _) (argsL := []) (rest := [(.int (19 : Int32))]) (lenOf pd_3 rfl) rfl (by show 2 * 0 + (1 + 0) ≤ _; decide) (hb hby d5_6) (fun _ _ => ⟨rfl, e1, (by decide : 0 + 0 ≤ _), (by decide : 0 + 0 ≤ _)⟩)
  dsimp only [Pt.U, Pt.locs, Pt.cells, Pt.slots] at X2 l2 y2 z2 st2 hQ2
  rw [l2, y2, z2] at X2
  obtain ⟨rfl, N2q, e2⟩ := hQ2
  have N2 := Fr.app N0 N2q
  refine Goes.via st2 ?_
  show Goes p.tables e below (T2.setTop (mkF m 9 #[.val (.ref oa)] [(.int (0 : Int32)), (.int (19 : Int32))])) _
  refine Goes.by (fun _ k => XS.ishr X2.here hx rfl (hb hby d5_9) rfl k) ?_
  show Goes p.tables e below (T2.setTop (mkF m 10 #[.val (.ref oa)] [(.int (19 : Int32))])) _
  obtain ⟨fs, hr, hrun, hended, hW, hsame⟩ := X2.leave (v := some (.int (19 : Int32))) (fun h => by rw [Bd.returns] at h; cases h)
  refine ⟨_, _, retI X2 hx Bd.returns (hb hby d5_10) hr, hrun, hended, _, _, rfl, ?_, ⟨_, rfl⟩, hW, hsame.mono (by decide) (by decide)⟩
  show Q5 Z oa ab zc h0 n0 _ T2.heap _
  rw [e2]
  exact ⟨rfl, N2, rfl⟩
theorem d3_0 : decode jdk_42_method_80_code 0 = .ok (.aload_n 0, 1) := by decide +kernel
theorem d3_1 : decode jdk_42_method_80_code 1 = .ok (.invokevirtual 492, 3) := by decide +kernel
theorem pd_4 : parseMethodDescriptor "()Z" = some ⟨[], some .boolean⟩ := by decide +kernel
theorem d3_4 : decode jdk_42_method_80_code 4 = .ok (.ifCond .eq 19, 3) := by decide +kernel
theorem d3_7 : decode jdk_42_method_80_code 7 = .ok (.aload_n 0, 1) := by decide +kernel
theorem d3_8 : decode jdk_42_method_80_code 8 = .ok (.getfield 9, 3) := by decide +kernel
theorem d3_11 : decode jdk_42_method_80_code 11 = .ok (.iload_n 1, 1) := by decide +kernel
theorem d3_12 : decode jdk_42_method_80_code 12 = .ok (.iload_n 2, 1) := by decide +kernel
theorem d3_13 : decode jdk_42_method_80_code 13 = .ok (.aload_n 0, 1) := by decide +kernel
theorem d3_14 : decode jdk_42_method_80_code 14 = .ok (.invokevirtual 505, 3) := by decide +kernel
theorem pd_5 : parseMethodDescriptor "()I" = some ⟨[], some .int⟩ := by decide +kernel
theorem d3_17 : decode jdk_42_method_80_code 17 = .ok (.invokestatic 637, 3) := by decide +kernel
theorem d3_20 : decode jdk_42_method_80_code 20 = .ok (.goto 16, 3) := by decide +kernel
theorem d3_36 : decode jdk_42_method_80_code 36 = .ok (.ireturn, 1) := by decide +kernel
theorem ef3 (m : MethodId) (oa : Addr) (pv : Int32) : entryFrame m #[(.ref oa), (.int pv), (.int (0 : Int32))] 3 = mkF m 0 #[.val (.ref oa), .val (.int pv), .val (.int (0 : Int32))] [] := by first | (simp [entryFrame, mkF, argsToLocals, Value.category]; done) | rfl
def Q3 (Z : State) (oa : Addr) (pv : Int32) (ab : Addr) (zc : Int32) (h0 : Heap) (n0 : Nat) (v : Option Value) (h : Heap) (L : List Loc) : Prop := v = some (.int (fn7 pv)) ∧ Fr n0 L ∧ h = h0
set_option maxRecDepth 65536 in
set_option maxHeartbeats 40000000 in
theorem rm3 (l : Launch) (Z : State) (a0 : Array Value) (hw : ∀ d ∈ tables_1, d.before a0 Z = true) (ws : List Jvm.Cond) (oa : Addr) (pv : Int32) (ab : Addr) (zc : Int32) (h0 : Heap) (n0 : Nat) (Z0 : n0 ≤ h0.size) (O : Old Z n0 h0) (S_cs : Sta Z Z.heap "java/lang/String" "COMPACT_STRINGS" "Z" (.int zc)) (hzc : ¬ zc = 0) (F_oa_coder : Fld Z h0 oa "java/lang/String" "coder" "B" (.int (0 : Int32))) (F_oa_value : Fld Z h0 oa "java/lang/String" "value" "[B" (.ref ab)) (E_oa : Exa Z h0 oa "java/lang/String") (A_ab : AI Z h0 ab .byte 19 own_txt) :
    MetFree l (⟨"java/lang/String", "indexOf", "(II)I"⟩ : MethodName) (head1 (Jvm.Cond.code (⟨"java/lang/String", "indexOf", "(II)I"⟩ : MethodName) jdk_42_method_80_code 3 (some .int) :: ws) ({ frames := 2, cells := 0, slots := 0, locals := 32 } : Room)) (fun a U => a = #[(.ref oa), (.int pv), (.int (0 : Int32))] ∧ Z.Warmed39 U.vm ∧ U.heap = h0) (fun _ _ _ _ _ => True) (fun _ U o U' => ∃ v L, o = .returned v ∧ Q3 Z oa pv ab zc h0 n0 v U'.heap L ∧ FrameEnd U o U' L ({ frames := 2, cells := 0, slots := 0, locals := 32 } : Room).cells ({ frames := 2, cells := 0, slots := 0, locals := 32 } : Room).slots) := by
  refine MetFree.of_bodySF (plainFor_of_name pn_1) hisR ?_
  intro p e s m args below meth c s₁ Bd hml0 hP hK
  obtain ⟨rfl, hZ, hh⟩ := hP
  have hx := Bd.exec
  have hby := Bd.bytes
  have hml : c.maxLocals = 3 := hml0
  have hown : s.vm.findClass "java/lang/String" = some m.cls := findClass_of_methodNamed Bd.named
  have hnm := (name_of_methodNamed Bd.named Bd.method).1
  have X0 : Stand p l e ({ frames := 2, cells := 0, slots := 0, locals := 32 } : Room) s m #[(.ref oa), (.int pv), (.int (0 : Int32))] below meth c s₁ [] 0 0 := Stand.of_body Bd
  have e0 : s₁.heap = h0 := by rw [← hh, Bd.state]; rfl
  have N0 := Fr.nil n0
  refine Goes.by (fun _ k => castTop (ef3 m oa pv) k) ?_
  show Goes p.tables e below (s₁.setTop (mkF m 0 #[.val (.ref oa), .val (.int pv), .val (.int (0 : Int32))] [])) _
  refine Goes.by (fun _ k => XS.aloadN X0.here hx rfl (hb hby d3_0) rfl rfl k) ?_
  show Goes p.tables e below (s₁.setTop (mkF m 1 #[.val (.ref oa), .val (.int pv), .val (.int (0 : Int32))] [(.ref oa)])) _
  obtain ⟨cq1, kq1, q1a, q1b, q1c⟩ := isOf hZ e0 E_oa
  obtain ⟨_, _, ⟨T1, L1, k1, n1⟩, -, X1, ⟨Lc1, hQ1, l1, y1, z1⟩, st1⟩ := X0.virtualBack hx (y := (⟨"java/lang/String", "isLatin1", "()Z"⟩ : MethodName)) (z := (⟨"java/lang/String", "isLatin1", "()Z"⟩ : MethodName)) hown (mvT hZ (hw _ (List.mem_of_getElem? (i := 23) rfl))) (mvT hZ (hw _ (List.mem_of_getElem? (i := 24) rfl))) (notFace_of_selects (args := #[]) (mvT hZ (hw _ (List.mem_of_getElem? (i := 26) rfl)))) (mvT hZ (hw _ (List.mem_of_getElem? (i := 26) rfl))) (mvT hZ (hw _ (List.mem_of_getElem? (i := 25) rfl))) (by decide) (backOf (W := 0) (rm4 l Z a0 hw [] oa zc h0 n0 Z0 O S_cs hzc F_oa_coder) hZ (hw _ (List.mem_of_getElem? (i := 27) rfl)) (hw _ (List.mem_of_getElem? (i := 6) rfl)) (by decide) (by decide)) q1a q1c (g := (mkF m 1 #[.val (.ref oa), .val (.int pv), .val (.int (0 : Int32))] [(.ref oa)])) rfl (by rw [hml]; rfl) (Steps.refl _) (argsL := []) (rest := []) (lenOf pd_4 rfl) rfl (by show 2 * 0 + _ ≤ _; exact Nat.le_of_eq rfl) (hb hby d3_1) (fun _ _ => ⟨rfl, e0, (by decide : 0 + 0 ≤ _), (by decide : 0 + 0 ≤ _)⟩)
  dsimp only [Pt.U, Pt.locs, Pt.cells, Pt.slots] at X1 l1 y1 z1 st1 hQ1
  rw [l1, y1, z1] at X1
  obtain ⟨rfl, N1q, e1⟩ := hQ1
  have N1 := Fr.app N0 N1q
  refine Goes.via st1 ?_
  show Goes p.tables e below (T1.setTop (mkF m 4 #[.val (.ref oa), .val (.int pv), .val (.int (0 : Int32))] [(.int (1 : Int32))])) _
  refine Goes.by (fun _ k => XS.ifNo X1.here hx rfl (hb hby d3_4) rfl ((if0 _ _).trans (feq (by decide : ¬ ((1 : Int32) = (0 : Int32)))).1) k) ?_
  show Goes p.tables e below (T1.setTop (mkF m 7 #[.val (.ref oa), .val (.int pv), .val (.int (0 : Int32))] [])) _
  refine Goes.by (fun _ k => XS.aloadN X1.here hx rfl (hb hby d3_7) rfl rfl k) ?_
  show Goes p.tables e below (T1.setTop (mkF m 8 #[.val (.ref oa), .val (.int pv), .val (.int (0 : Int32))] [(.ref oa)])) _
  obtain ⟨T2, X2, e2, st2⟩ := getF X1 hx hZ hown (host := "") (Or.inl (hw _ (List.mem_of_getElem? (i := 30) rfl))) Via.refl e1 F_oa_value (g := (mkF m 8 #[.val (.ref oa), .val (.int pv), .val (.int (0 : Int32))] [(.ref oa)])) rfl rfl (hb hby d3_8)
  refine Goes.by st2 ?_
  show Goes p.tables e below (T2.setTop (mkF m 11 #[.val (.ref oa), .val (.int pv), .val (.int (0 : Int32))] [(.ref ab)])) _
  refine Goes.by (fun _ k => XS.iloadN X2.here hx rfl (hb hby d3_11) rfl k) ?_
  show Goes p.tables e below (T2.setTop (mkF m 12 #[.val (.ref oa), .val (.int pv), .val (.int (0 : Int32))] [(.int pv), (.ref ab)])) _
  refine Goes.by (fun _ k => XS.iloadN X2.here hx rfl (hb hby d3_12) rfl k) ?_
  show Goes p.tables e below (T2.setTop (mkF m 13 #[.val (.ref oa), .val (.int pv), .val (.int (0 : Int32))] [(.int (0 : Int32)), (.int pv), (.ref ab)])) _
  refine Goes.by (fun _ k => XS.aloadN X2.here hx rfl (hb hby d3_13) rfl rfl k) ?_
  show Goes p.tables e below (T2.setTop (mkF m 14 #[.val (.ref oa), .val (.int pv), .val (.int (0 : Int32))] [(.ref oa), (.int (0 : Int32)), (.int pv), (.ref ab)])) _
  obtain ⟨cq3, kq3, q3a, q3b, q3c⟩ := isOf hZ e2 E_oa
  obtain ⟨_, _, ⟨T3, L3, k3, n3⟩, -, X3, ⟨Lc3, hQ3, l3, y3, z3⟩, st3⟩ := X2.virtualBack hx (y := (⟨"java/lang/String", "length", "()I"⟩ : MethodName)) (z := (⟨"java/lang/String", "length", "()I"⟩ : MethodName)) hown (mvT hZ (hw _ (List.mem_of_getElem? (i := 31) rfl))) (mvT hZ (hw _ (List.mem_of_getElem? (i := 32) rfl))) (notFace_of_selects (args := #[]) (mvT hZ (hw _ (List.mem_of_getElem? (i := 34) rfl)))) (mvT hZ (hw _ (List.mem_of_getElem? (i := 34) rfl))) (mvT hZ (hw _ (List.mem_of_getElem? (i := 33) rfl))) (by decide) (backOf (W := 3) (rm5 l Z a0 hw [] oa ab zc h0 n0 Z0 O S_cs hzc F_oa_coder F_oa_value E_oa A_ab) hZ (hw _ (List.mem_of_getElem? (i := 35) rfl)) (hw _ (List.mem_of_getElem? (i := 6) rfl)) (by decide) (by decide)) q3a q3c (g := (mkF m 14 #[.val (.ref oa), .val (.int pv), .val (.int (0 : Int32))] [(.ref oa), (.int (0 : Int32)), (.int pv), (.ref ab)])) rfl (by rw [hml]; rfl) (Steps.refl _) (argsL := []) (rest := [(.int (0 : Int32)), (.int pv), (.ref ab)]) (lenOf pd_5 rfl) rfl (by show 2 * 0 + (1 + (1 + (1 + 0))) ≤ _; decide) (hb hby d3_14) (fun _ _ => ⟨rfl, e2, (by decide : 0 + 0 ≤ _), (by decide : 0 + 0 ≤ _)⟩)
  dsimp only [Pt.U, Pt.locs, Pt.cells, Pt.slots] at X3 l3 y3 z3 st3 hQ3
  rw [l3, y3, z3] at X3
  obtain ⟨rfl, N3q, e3⟩ := hQ3
  have N3 := Fr.app N1 N3q
  refine Goes.via st3 ?_
  show Goes p.tables e below (T3.setTop (mkF m 17 #[.val (.ref oa), .val (.int pv), .val (.int (0 : Int32))] [(.int (19 : Int32)), (.int (0 : Int32)), (.int pv), (.ref ab)])) _
  obtain ⟨_, _, ⟨T4, L4, k4, n4⟩, -, X4, ⟨Lc4, hQ4, l4, y4, z4⟩, st4⟩ := Jvm.LawKit.callS X3 hx (y := (⟨"java/lang/StringLatin1", "indexOf", "([BIII)I"⟩ : MethodName)) hown (mvT hZ (hw _ (List.mem_of_getElem? (i := 41) rfl))) (mvT hZ (hw _ (List.mem_of_getElem? (i := 42) rfl))) (mvT hZ (hw _ (List.mem_of_getElem? (i := 43) rfl))) (mvT hZ (hw _ (List.mem_of_getElem? (i := 44) rfl))) (by decide) (backOf (W := 0) (rm7 l Z a0 hw [] ab pv h0 n0 Z0 A_ab) hZ (hw _ (List.mem_of_getElem? (i := 44) rfl)) (hw _ (List.mem_of_getElem? (i := 43) rfl)) (by decide) (by decide)) (g := (mkF m 17 #[.val (.ref oa), .val (.int pv), .val (.int (0 : Int32))] [(.int (19 : Int32)), (.int (0 : Int32)), (.int pv), (.ref ab)])) rfl (by rw [hml]; rfl) (argsL := [(.ref ab), (.int pv), (.int (0 : Int32)), (.int (19 : Int32))]) (rest := []) (lenOf pd_2 rfl) rfl (by show 2 * 0 + _ ≤ _; exact Nat.le_of_eq rfl) (hb hby d3_17) (fun _ _ => ⟨rfl, e3, (by decide : 0 + 0 ≤ _), (by decide : 0 + 0 ≤ _)⟩)
  dsimp only [Pt.U, Pt.locs, Pt.cells, Pt.slots] at X4 l4 y4 z4 st4 hQ4
  rw [l4, y4, z4] at X4
  obtain ⟨rfl, N4q, e4⟩ := hQ4
  have N4 := Fr.app N3 N4q
  refine Goes.by st4 ?_
  show Goes p.tables e below (T4.setTop (mkF m 20 #[.val (.ref oa), .val (.int pv), .val (.int (0 : Int32))] [(.int (fn7 pv))])) _
  refine Goes.by (fun _ k => XS.goto X4.here hx rfl (pc0 := 20) (pc' := 36) rfl (hb hby d3_20) (by decide) (by decide) k) ?_
  show Goes p.tables e below (T4.setTop (mkF m 36 #[.val (.ref oa), .val (.int pv), .val (.int (0 : Int32))] [(.int (fn7 pv))])) _
  obtain ⟨fs, hr, hrun, hended, hW, hsame⟩ := X4.leave (v := some (.int (fn7 pv))) (fun h => by rw [Bd.returns] at h; cases h)
  refine ⟨_, _, retI X4 hx Bd.returns (hb hby d3_36) hr, hrun, hended, _, _, rfl, ?_, ⟨_, rfl⟩, hW, hsame.mono (by decide) (by decide)⟩
  show Q3 Z oa pv ab zc h0 n0 _ T4.heap _
  rw [e4]
  exact ⟨rfl, N4, rfl⟩
theorem d2_0 : decode jdk_42_method_79_code 0 = .ok (.aload_n 0, 1) := by decide +kernel
theorem d2_1 : decode jdk_42_method_79_code 1 = .ok (.iload_n 1, 1) := by decide +kernel
theorem d2_2 : decode jdk_42_method_79_code 2 = .ok (.iconst 0, 1) := by decide +kernel
theorem d2_3 : decode jdk_42_method_79_code 3 = .ok (.invokevirtual 633, 3) := by decide +kernel
theorem d2_6 : decode jdk_42_method_79_code 6 = .ok (.ireturn, 1) := by decide +kernel
theorem ef2 (m : MethodId) (oa : Addr) (pv : Int32) : entryFrame m #[(.ref oa), (.int pv)] 2 = mkF m 0 #[.val (.ref oa), .val (.int pv)] [] := by first | (simp [entryFrame, mkF, argsToLocals, Value.category]; done) | rfl
def Q2 (Z : State) (oa : Addr) (pv : Int32) (ab : Addr) (zc : Int32) (h0 : Heap) (n0 : Nat) (v : Option Value) (h : Heap) (L : List Loc) : Prop := v = some (.int (fn7 pv)) ∧ Fr n0 L ∧ h = h0
set_option maxRecDepth 65536 in
set_option maxHeartbeats 40000000 in
theorem rm2 (l : Launch) (Z : State) (a0 : Array Value) (hw : ∀ d ∈ tables_1, d.before a0 Z = true) (ws : List Jvm.Cond) (oa : Addr) (pv : Int32) (ab : Addr) (zc : Int32) (h0 : Heap) (n0 : Nat) (Z0 : n0 ≤ h0.size) (O : Old Z n0 h0) (S_cs : Sta Z Z.heap "java/lang/String" "COMPACT_STRINGS" "Z" (.int zc)) (hzc : ¬ zc = 0) (F_oa_coder : Fld Z h0 oa "java/lang/String" "coder" "B" (.int (0 : Int32))) (F_oa_value : Fld Z h0 oa "java/lang/String" "value" "[B" (.ref ab)) (E_oa : Exa Z h0 oa "java/lang/String") (A_ab : AI Z h0 ab .byte 19 own_txt) :
    MetFree l (⟨"java/lang/String", "indexOf", "(I)I"⟩ : MethodName) (head1 (Jvm.Cond.code (⟨"java/lang/String", "indexOf", "(I)I"⟩ : MethodName) jdk_42_method_79_code 2 (some .int) :: ws) ({ frames := 3, cells := 0, slots := 0, locals := 46 } : Room)) (fun a U => a = #[(.ref oa), (.int pv)] ∧ Z.Warmed39 U.vm ∧ U.heap = h0) (fun _ _ _ _ _ => True) (fun _ U o U' => ∃ v L, o = .returned v ∧ Q2 Z oa pv ab zc h0 n0 v U'.heap L ∧ FrameEnd U o U' L ({ frames := 3, cells := 0, slots := 0, locals := 46 } : Room).cells ({ frames := 3, cells := 0, slots := 0, locals := 46 } : Room).slots) := by
  refine MetFree.of_bodySF (plainFor_of_name pn_1) hisR ?_
  intro p e s m args below meth c s₁ Bd hml0 hP hK
  obtain ⟨rfl, hZ, hh⟩ := hP
  have hx := Bd.exec
  have hby := Bd.bytes
  have hml : c.maxLocals = 2 := hml0
  have hown : s.vm.findClass "java/lang/String" = some m.cls := findClass_of_methodNamed Bd.named
  have hnm := (name_of_methodNamed Bd.named Bd.method).1
  have X0 : Stand p l e ({ frames := 3, cells := 0, slots := 0, locals := 46 } : Room) s m #[(.ref oa), (.int pv)] below meth c s₁ [] 0 0 := Stand.of_body Bd
  have e0 : s₁.heap = h0 := by rw [← hh, Bd.state]; rfl
  have N0 := Fr.nil n0
  refine Goes.by (fun _ k => castTop (ef2 m oa pv) k) ?_
  show Goes p.tables e below (s₁.setTop (mkF m 0 #[.val (.ref oa), .val (.int pv)] [])) _
  refine Goes.by (fun _ k => XS.aloadN X0.here hx rfl (hb hby d2_0) rfl rfl k) ?_
  show Goes p.tables e below (s₁.setTop (mkF m 1 #[.val (.ref oa), .val (.int pv)] [(.ref oa)])) _
  refine Goes.by (fun _ k => XS.iloadN X0.here hx rfl (hb hby d2_1) rfl k) ?_
  show Goes p.tables e below (s₁.setTop (mkF m 2 #[.val (.ref oa), .val (.int pv)] [(.int pv), (.ref oa)])) _
  refine Goes.by (fun _ k => XS.iconst X0.here hx rfl (hb hby d2_2) k) ?_
  show Goes p.tables e below (s₁.setTop (mkF m 3 #[.val (.ref oa), .val (.int pv)] [(.int (0 : Int32)), (.int pv), (.ref oa)])) _
  obtain ⟨cq1, kq1, q1a, q1b, q1c⟩ := isOf hZ e0 E_oa
  obtain ⟨_, _, ⟨T1, L1, k1, n1⟩, -, X1, ⟨Lc1, hQ1, l1, y1, z1⟩, st1⟩ := X0.virtualBack hx (y := (⟨"java/lang/String", "indexOf", "(II)I"⟩ : MethodName)) (z := (⟨"java/lang/String", "indexOf", "(II)I"⟩ : MethodName)) hown (mvT hZ (hw _ (List.mem_of_getElem? (i := 18) rfl))) (mvT hZ (hw _ (List.mem_of_getElem? (i := 19) rfl))) (notFace_of_selects (args := #[]) (mvT hZ (hw _ (List.mem_of_getElem? (i := 21) rfl)))) (mvT hZ (hw _ (List.mem_of_getElem? (i := 21) rfl))) (mvT hZ (hw _ (List.mem_of_getElem? (i := 20) rfl))) (by decide) (backOf (W := 0) (rm3 l Z a0 hw [] oa pv ab zc h0 n0 Z0 O S_cs hzc F_oa_coder F_oa_value E_oa A_ab) hZ (hw _ (List.mem_of_getElem? (i := 22) rfl)) (hw _ (List.mem_of_getElem? (i := 6) rfl)) (by decide) (by decide)) q1a q1c (g := (mkF m 3 #[.val (.ref oa), .val (.int pv)] [(.int (0 : Int32)), (.int pv), (.ref oa)])) rfl (by rw [hml]; rfl) (Steps.refl _) (argsL := [(.int pv), (.int (0 : Int32))]) (rest := []) (lenOf pd_1 rfl) rfl (by show 2 * 0 + _ ≤ _; exact Nat.le_of_eq rfl) (hb hby d2_3) (fun _ _ => ⟨rfl, e0, (by decide : 0 + 0 ≤ _), (by decide : 0 + 0 ≤ _)⟩)
  dsimp only [Pt.U, Pt.locs, Pt.cells, Pt.slots] at X1 l1 y1 z1 st1 hQ1
  rw [l1, y1, z1] at X1
  obtain ⟨rfl, N1q, e1⟩ := hQ1
  have N1 := Fr.app N0 N1q
  refine Goes.via st1 ?_
  show Goes p.tables e below (T1.setTop (mkF m 6 #[.val (.ref oa), .val (.int pv)] [(.int (fn7 pv))])) _
  obtain ⟨fs, hr, hrun, hended, hW, hsame⟩ := X1.leave (v := some (.int (fn7 pv))) (fun h => by rw [Bd.returns] at h; cases h)
  refine ⟨_, _, retI X1 hx Bd.returns (hb hby d2_6) hr, hrun, hended, _, _, rfl, ?_, ⟨_, rfl⟩, hW, hsame.mono (by decide) (by decide)⟩
  show Q2 Z oa pv ab zc h0 n0 _ T1.heap _
  rw [e1]
  exact ⟨rfl, N1, rfl⟩
theorem d1_0 : decode prog_47_method_3_code 0 = .ok (.iload_n 0, 1) := by decide +kernel
theorem d1_1 : decode prog_47_method_3_code 1 = .ok (.bipush 97, 2) := by decide +kernel
theorem d1_3 : decode prog_47_method_3_code 3 = .ok (.if_icmp .lt 9, 3) := by decide +kernel
theorem d1_12 : decode prog_47_method_3_code 12 = .ok (.iload_n 0, 1) := by decide +kernel
theorem d1_13 : decode prog_47_method_3_code 13 = .ok (.bipush 65, 2) := by decide +kernel
theorem d1_15 : decode prog_47_method_3_code 15 = .ok (.if_icmp .lt 9, 3) := by decide +kernel
theorem d1_24 : decode prog_47_method_3_code 24 = .ok (.iload_n 0, 1) := by decide +kernel
theorem d1_25 : decode prog_47_method_3_code 25 = .ok (.bipush 48, 2) := by decide +kernel
theorem d1_27 : decode prog_47_method_3_code 27 = .ok (.if_icmp .lt 9, 3) := by decide +kernel
theorem d1_36 : decode prog_47_method_3_code 36 = .ok (.ldc 37, 2) := by decide +kernel
theorem d1_38 : decode prog_47_method_3_code 38 = .ok (.iload_n 0, 1) := by decide +kernel
theorem d1_39 : decode prog_47_method_3_code 39 = .ok (.invokevirtual 39, 3) := by decide +kernel
theorem pd_6 : parseMethodDescriptor "(I)I" = some ⟨[.int], some .int⟩ := by decide +kernel
theorem d1_42 : decode prog_47_method_3_code 42 = .ok (.ifCond .lt 7, 3) := by decide +kernel
theorem d1_49 : decode prog_47_method_3_code 49 = .ok (.iconst 0, 1) := by decide +kernel
theorem d1_50 : decode prog_47_method_3_code 50 = .ok (.ireturn, 1) := by decide +kernel
theorem d1_45 : decode prog_47_method_3_code 45 = .ok (.iconst 1, 1) := by decide +kernel
theorem d1_46 : decode prog_47_method_3_code 46 = .ok (.goto 4, 3) := by decide +kernel
theorem d1_30 : decode prog_47_method_3_code 30 = .ok (.iload_n 0, 1) := by decide +kernel
theorem d1_31 : decode prog_47_method_3_code 31 = .ok (.bipush 57, 2) := by decide +kernel
theorem d1_33 : decode prog_47_method_3_code 33 = .ok (.if_icmp .le 12, 3) := by decide +kernel
theorem d1_18 : decode prog_47_method_3_code 18 = .ok (.iload_n 0, 1) := by decide +kernel
theorem d1_19 : decode prog_47_method_3_code 19 = .ok (.bipush 90, 2) := by decide +kernel
theorem d1_21 : decode prog_47_method_3_code 21 = .ok (.if_icmp .le 24, 3) := by decide +kernel
theorem d1_6 : decode prog_47_method_3_code 6 = .ok (.iload_n 0, 1) := by decide +kernel
theorem d1_7 : decode prog_47_method_3_code 7 = .ok (.bipush 122, 2) := by decide +kernel
theorem d1_9 : decode prog_47_method_3_code 9 = .ok (.if_icmp .le 36, 3) := by decide +kernel
def fn1 (pv : Int32) : Int32 := (if pv < (97 : Int32) then (if pv < (65 : Int32) then (if pv < (48 : Int32) then (if (fn7 pv) < (0 : Int32) then (0 : Int32) else (1 : Int32)) else (if (57 : Int32) < pv then (if (fn7 pv) < (0 : Int32) then (0 : Int32) else (1 : Int32)) else (1 : Int32))) else (if (90 : Int32) < pv then (if pv < (48 : Int32) then (if (fn7 pv) < (0 : Int32) then (0 : Int32) else (1 : Int32)) else (if (57 : Int32) < pv then (if (fn7 pv) < (0 : Int32) then (0 : Int32) else (1 : Int32)) else (1 : Int32))) else (1 : Int32))) else (if (122 : Int32) < pv then (if pv < (65 : Int32) then (if pv < (48 : Int32) then (if (fn7 pv) < (0 : Int32) then (0 : Int32) else (1 : Int32)) else (if (57 : Int32) < pv then (if (fn7 pv) < (0 : Int32) then (0 : Int32) else (1 : Int32)) else (1 : Int32))) else (if (90 : Int32) < pv then (if pv < (48 : Int32) then (if (fn7 pv) < (0 : Int32) then (0 : Int32) else (1 : Int32)) else (if (57 : Int32) < pv then (if (fn7 pv) < (0 : Int32) then (0 : Int32) else (1 : Int32)) else (1 : Int32))) else (1 : Int32))) else (1 : Int32)))
theorem pn_2 : plainName "com/example/firm_quote/firmquote/server/UriText" = true := by first | (simp [plainName, overriddenIn]; done) | decide +kernel
theorem ef1 (m : MethodId) (pv : Int32) : entryFrame m #[(.int pv)] 1 = mkF m 0 #[.val (.int pv)] [] := by first | (simp [entryFrame, mkF, argsToLocals, Value.category]; done) | rfl
def Q1 (Z : State) (pv : Int32) (zc : Int32) (h0 : Heap) (n0 : Nat) (v : Option Value) (h : Heap) (L : List Loc) : Prop := v = some (.int (fn1 pv)) ∧ Fr n0 L ∧ Keep h0 h []
set_option maxRecDepth 65536 in
set_option maxHeartbeats 40000000 in
theorem rm1 (l : Launch) (Z : State) (a0 : Array Value) (hw : ∀ d ∈ tables_1, d.before a0 Z = true) (ws : List Jvm.Cond) (pv : Int32) (zc : Int32) (h0 : Heap) (n0 : Nat) (Z0 : n0 ≤ h0.size) (O : Old Z n0 h0) (S_cs : Sta Z Z.heap "java/lang/String" "COMPACT_STRINGS" "Z" (.int zc)) (hzc : ¬ zc = 0) (hheld : Jvm.Lit.constHeld Z "com/example/firm_quote/firmquote/server/UriText" 37) (hcw : Jvm.Lit.compactW.before a0 Z = true) :
    MetFree l (⟨"com/example/firm_quote/firmquote/server/UriText", "isUriCharacter", "(C)Z"⟩ : MethodName) (head1 (Jvm.Cond.code (⟨"com/example/firm_quote/firmquote/server/UriText", "isUriCharacter", "(C)Z"⟩ : MethodName) prog_47_method_3_code 1 (some .boolean) :: ws) ({ frames := 4, cells := 2, slots := 80, locals := 59 } : Room)) (fun a U => a = #[(.int pv)] ∧ Z.Warmed39 U.vm ∧ U.heap = h0 ∧ U.vm.interned = Z.vm.interned) (fun _ _ _ _ _ => True) (fun _ U o U' => ∃ v L, o = .returned v ∧ Q1 Z pv zc h0 n0 v U'.heap L ∧ ReturnedEndW U o U' L ({ frames := 4, cells := 2, slots := 80, locals := 59 } : Room).cells ({ frames := 4, cells := 2, slots := 80, locals := 59 } : Room).slots) := by
  refine MetFree.of_bodySF (plainFor_of_name pn_2) hisR ?_
  intro p e s m args below meth c s₁ Bd hml0 hP hK
  obtain ⟨rfl, hZ, hh, hI⟩ := hP
  have hx := Bd.exec
  have hby := Bd.bytes
  have hml : c.maxLocals = 1 := hml0
  have hown : s.vm.findClass "com/example/firm_quote/firmquote/server/UriText" = some m.cls := findClass_of_methodNamed Bd.named
  have hnm := (name_of_methodNamed Bd.named Bd.method).1
  have X0 : Stand p l e ({ frames := 4, cells := 2, slots := 80, locals := 59 } : Room) s m #[(.int pv)] below meth c s₁ [] 0 0 := Stand.of_body Bd
  have e0 : s₁.heap = h0 := by rw [← hh, Bd.state]; rfl
  have N0 := Fr.nil n0
  refine Goes.by (fun _ k => castTop (ef1 m pv) k) ?_
  have hS : s.Since s.vm 0 := (State.WarmedH.refl s).since 0
  have hk : Kle 0 h0 := Nat.zero_le _
  have hkeep : ∀ (b : Addr) (cl : Cell), Z.heap[b]? = some cl → s.heap[b]? = some cl := fun b cl q => by rw [hh]; exact O.2.2 _ _ q
  show Goes p.tables e below (s₁.setTop (mkF m 0 #[.val (.int pv)] [])) _
  refine Goes.by (fun _ k => XS.iloadN X0.here hx rfl (hb hby d1_0) rfl k) ?_
  show Goes p.tables e below (s₁.setTop (mkF m 1 #[.val (.int pv)] [(.int pv)])) _
  refine Goes.by (fun _ k => XS.bipush X0.here hx rfl (hb hby d1_1) k) ?_
  show Goes p.tables e below (s₁.setTop (mkF m 3 #[.val (.int pv)] [(.int (97 : Int32)), (.int pv)])) _
  by_cases hc1 : pv < (97 : Int32)
  · refine Goes.by (fun _ k => XS.icmpYes X0.here hx rfl (pc0 := 3) (pc' := 12) rfl (hb hby d1_3) rfl (tlt hc1).1 (by decide) (by decide) k) ?_
    show Goes p.tables e below (s₁.setTop (mkF m 12 #[.val (.int pv)] [])) _
    refine Goes.by (fun _ k => XS.iloadN X0.here hx rfl (hb hby d1_12) rfl k) ?_
    show Goes p.tables e below (s₁.setTop (mkF m 13 #[.val (.int pv)] [(.int pv)])) _
    refine Goes.by (fun _ k => XS.bipush X0.here hx rfl (hb hby d1_13) k) ?_
    show Goes p.tables e below (s₁.setTop (mkF m 15 #[.val (.int pv)] [(.int (65 : Int32)), (.int pv)])) _
    by_cases hc2 : pv < (65 : Int32)
    · refine Goes.by (fun _ k => XS.icmpYes X0.here hx rfl (pc0 := 15) (pc' := 24) rfl (hb hby d1_15) rfl (tlt hc2).1 (by decide) (by decide) k) ?_
      show Goes p.tables e below (s₁.setTop (mkF m 24 #[.val (.int pv)] [])) _
      refine Goes.by (fun _ k => XS.iloadN X0.here hx rfl (hb hby d1_24) rfl k) ?_
      show Goes p.tables e below (s₁.setTop (mkF m 25 #[.val (.int pv)] [(.int pv)])) _
      refine Goes.by (fun _ k => XS.bipush X0.here hx rfl (hb hby d1_25) k) ?_
      show Goes p.tables e below (s₁.setTop (mkF m 27 #[.val (.int pv)] [(.int (48 : Int32)), (.int pv)])) _
      by_cases hc3 : pv < (48 : Int32)
      · refine Goes.by (fun _ k => XS.icmpYes X0.here hx rfl (pc0 := 27) (pc' := 36) rfl (hb hby d1_27) rfl (tlt hc3).1 (by decide) (by decide) k) ?_
        show Goes p.tables e below (s₁.setTop (mkF m 36 #[.val (.int pv)] [])) _
        obtain ⟨b4, T4, h4, k4, c4, kc4, X4, e4, E4, hS, hkq4, hZ, hown, Eb4, Fc4, Fv4, Av4, -, -, -, st4⟩ := ldcSV (s := s) (vm0 := s.vm) X0 hx hZ hown (hw _ (List.mem_of_getElem? (i := 5) rfl)) (own_wS hw) e0 hS hk (Fr.nil _) hkeep (IB.of_eq hI) List.not_mem_nil hheld hcw (vs := own_l.map Value.int) (z := 19) own_ht (by decide) rfl (g := (mkF m 36 #[.val (.int pv)] [])) rfl (hb hby d1_36) (n := 76) (by decide +kernel) (by decide) (by decide) (by decide)
        have Zs4 : n0 ≤ h4.size := Nat.le_trans Z0 E4.1
        have K4 : Keep h0 h4 [] := (Keep.refl h0 []).ext E4
        refine Goes.by st4 ?_
        have O : Old Z n0 h4 := O.ext E4
        have hk : Kle k4 h4 := hkq4
        have E_b4 : Exa Z h4 b4 "java/lang/String" := Eb4
        have F_b4_coder : Fld Z h4 b4 "java/lang/String" "coder" "B" (.int (0 : Int32)) := Fc4
        have F_b4_value : Fld Z h4 b4 "java/lang/String" "value" "[B" (.ref c4) := Fv4
        have A_c4 : AI Z h4 c4 .byte 19 own_txt := Ar.congr (Ar.of_arv Av4 (n := 19) (by decide)) fun j _ => own_at j
        show Goes p.tables e below (T4.setTop (mkF m 38 #[.val (.int pv)] [(.ref b4)])) _
        refine Goes.by (fun _ k => XS.iloadN X4.here hx rfl (hb hby d1_38) rfl k) ?_
        show Goes p.tables e below (T4.setTop (mkF m 39 #[.val (.int pv)] [(.int pv), (.ref b4)])) _
        obtain ⟨cq5, kq5, q5a, q5b, q5c⟩ := isOf hZ e4 E_b4
        obtain ⟨_, _, ⟨T5, L5, k5, n5⟩, -, X5, ⟨Lc5, hQ5, l5, y5, z5⟩, st5⟩ := X4.virtualBack hx (y := (⟨"java/lang/String", "indexOf", "(I)I"⟩ : MethodName)) (z := (⟨"java/lang/String", "indexOf", "(I)I"⟩ : MethodName)) hown (mvT hZ (hw _ (List.mem_of_getElem? (i := 13) rfl))) (mvT hZ (hw _ (List.mem_of_getElem? (i := 14) rfl))) (notFace_of_selects (args := #[]) (mvT hZ (hw _ (List.mem_of_getElem? (i := 16) rfl)))) (mvT hZ (hw _ (List.mem_of_getElem? (i := 16) rfl))) (mvT hZ (hw _ (List.mem_of_getElem? (i := 15) rfl))) (by decide) (backOf (W := 0) (rm2 l Z a0 hw [] b4 pv c4 zc h4 n0 Zs4 O S_cs hzc F_b4_coder F_b4_value E_b4 A_c4) hZ (hw _ (List.mem_of_getElem? (i := 17) rfl)) (hw _ (List.mem_of_getElem? (i := 6) rfl)) (by decide) (by decide)) q5a q5c (g := (mkF m 39 #[.val (.int pv)] [(.int pv), (.ref b4)])) rfl (by rw [hml]; rfl) (Steps.refl _) (argsL := [(.int pv)]) (rest := []) (lenOf pd_6 rfl) rfl (by show 2 * 0 + _ ≤ _; exact Nat.le_of_eq rfl) (hb hby d1_39) (fun _ _ => ⟨rfl, e4, (by decide : 2 + 0 ≤ _), (by decide : 80 + 0 ≤ _)⟩)
        dsimp only [Pt.U, Pt.locs, Pt.cells, Pt.slots] at X5 l5 y5 z5 st5 hQ5
        rw [l5, y5, z5] at X5
        obtain ⟨rfl, N5q, e5⟩ := hQ5
        have N5 := Fr.app N0 N5q
        refine Goes.via st5 ?_
        show Goes p.tables e below (T5.setTop (mkF m 42 #[.val (.int pv)] [(.int (fn7 pv))])) _
        by_cases hc6 : (fn7 pv) < (0 : Int32)
        · refine Goes.by (fun _ k => XS.ifYes X5.here hx rfl (pc0 := 42) (pc' := 49) rfl (hb hby d1_42) rfl ((if0 _ _).trans (tlt hc6).1) (by decide) (by decide) k) ?_
          show Goes p.tables e below (T5.setTop (mkF m 49 #[.val (.int pv)] [])) _
          refine Goes.by (fun _ k => XS.iconst X5.here hx rfl (hb hby d1_49) k) ?_
          show Goes p.tables e below (T5.setTop (mkF m 50 #[.val (.int pv)] [(.int (0 : Int32))])) _
          obtain ⟨fs, hr, hrun, hended, hRW⟩ := leaveW (s := s) (vm₁ := T4.vm) X5 hS (hk.at e5) (v := some (.int (0 : Int32))) (fun h => by rw [Bd.returns] at h; cases h)
          refine ⟨_, _, retN X5 hx (t := .boolean) Bd.returns (by simp) (hb hby d1_50) hr, hrun, hended, _, _, rfl, ?_, rwMono hRW (by decide) (by decide)⟩
          show Q1 Z pv zc h0 n0 _ T5.heap _
          rw [e5]
          exact ⟨(by rw [fn1, if_pos hc1, if_pos hc2, if_pos hc3, if_pos hc6]), N5, K4⟩
        · refine Goes.by (fun _ k => XS.ifNo X5.here hx rfl (hb hby d1_42) rfl ((if0 _ _).trans (flt hc6).1) k) ?_
          show Goes p.tables e below (T5.setTop (mkF m 45 #[.val (.int pv)] [])) _
          refine Goes.by (fun _ k => XS.iconst X5.here hx rfl (hb hby d1_45) k) ?_
          show Goes p.tables e below (T5.setTop (mkF m 46 #[.val (.int pv)] [(.int (1 : Int32))])) _
          refine Goes.by (fun _ k => XS.goto X5.here hx rfl (pc0 := 46) (pc' := 50) rfl (hb hby d1_46) (by decide) (by decide) k) ?_
          show Goes p.tables e below (T5.setTop (mkF m 50 #[.val (.int pv)] [(.int (1 : Int32))])) _
          obtain ⟨fs, hr, hrun, hended, hRW⟩ := leaveW (s := s) (vm₁ := T4.vm) X5 hS (hk.at e5) (v := some (.int (1 : Int32))) (fun h => by rw [Bd.returns] at h; cases h)
          refine ⟨_, _, retN X5 hx (t := .boolean) Bd.returns (by simp) (hb hby d1_50) hr, hrun, hended, _, _, rfl, ?_, rwMono hRW (by decide) (by decide)⟩
          show Q1 Z pv zc h0 n0 _ T5.heap _
          rw [e5]
          exact ⟨(by rw [fn1, if_pos hc1, if_pos hc2, if_pos hc3, if_neg hc6]), N5, K4⟩
      · refine Goes.by (fun _ k => XS.icmpNo X0.here hx rfl (hb hby d1_27) rfl (flt hc3).1 k) ?_
        show Goes p.tables e below (s₁.setTop (mkF m 30 #[.val (.int pv)] [])) _
        refine Goes.by (fun _ k => XS.iloadN X0.here hx rfl (hb hby d1_30) rfl k) ?_
        show Goes p.tables e below (s₁.setTop (mkF m 31 #[.val (.int pv)] [(.int pv)])) _
        refine Goes.by (fun _ k => XS.bipush X0.here hx rfl (hb hby d1_31) k) ?_
        show Goes p.tables e below (s₁.setTop (mkF m 33 #[.val (.int pv)] [(.int (57 : Int32)), (.int pv)])) _
        by_cases hc7 : (57 : Int32) < pv
        · refine Goes.by (fun _ k => XS.icmpNo X0.here hx rfl (hb hby d1_33) rfl (tlt hc7).2.2.2 k) ?_
          show Goes p.tables e below (s₁.setTop (mkF m 36 #[.val (.int pv)] [])) _
          obtain ⟨b8, T8, h8, k8, c8, kc8, X8, e8, E8, hS, hkq8, hZ, hown, Eb8, Fc8, Fv8, Av8, -, -, -, st8⟩ := ldcSV (s := s) (vm0 := s.vm) X0 hx hZ hown (hw _ (List.mem_of_getElem? (i := 5) rfl)) (own_wS hw) e0 hS hk (Fr.nil _) hkeep (IB.of_eq hI) List.not_mem_nil hheld hcw (vs := own_l.map Value.int) (z := 19) own_ht (by decide) rfl (g := (mkF m 36 #[.val (.int pv)] [])) rfl (hb hby d1_36) (n := 76) (by decide +kernel) (by decide) (by decide) (by decide)
          have Zs8 : n0 ≤ h8.size := Nat.le_trans Z0 E8.1
          have K8 : Keep h0 h8 [] := (Keep.refl h0 []).ext E8
          refine Goes.by st8 ?_
          have O : Old Z n0 h8 := O.ext E8
          have hk : Kle k8 h8 := hkq8
          have E_b8 : Exa Z h8 b8 "java/lang/String" := Eb8
          have F_b8_coder : Fld Z h8 b8 "java/lang/String" "coder" "B" (.int (0 : Int32)) := Fc8
          have F_b8_value : Fld Z h8 b8 "java/lang/String" "value" "[B" (.ref c8) := Fv8
          have A_c8 : AI Z h8 c8 .byte 19 own_txt := Ar.congr (Ar.of_arv Av8 (n := 19) (by decide)) fun j _ => own_at j
          show Goes p.tables e below (T8.setTop (mkF m 38 #[.val (.int pv)] [(.ref b8)])) _
          refine Goes.by (fun _ k => XS.iloadN X8.here hx rfl (hb hby d1_38) rfl k) ?_
          show Goes p.tables e below (T8.setTop (mkF m 39 #[.val (.int pv)] [(.int pv), (.ref b8)])) _
          obtain ⟨cq9, kq9, q9a, q9b, q9c⟩ := isOf hZ e8 E_b8
          obtain ⟨_, _, ⟨T9, L9, k9, n9⟩, -, X9, ⟨Lc9, hQ9, l9, y9, z9⟩, st9⟩ := X8.virtualBack hx (y := (⟨"java/lang/String", "indexOf", "(I)I"⟩ : MethodName)) (z := (⟨"java/lang/String", "indexOf", "(I)I"⟩ : MethodName)) hown (mvT hZ (hw _ (List.mem_of_getElem? (i := 13) rfl))) (mvT hZ (hw _ (List.mem_of_getElem? (i := 14) rfl))) (notFace_of_selects (args := #[]) (mvT hZ (hw _ (List.mem_of_getElem? (i := 16) rfl)))) (mvT hZ (hw _ (List.mem_of_getElem? (i := 16) rfl))) (mvT hZ (hw _ (List.mem_of_getElem? (i := 15) rfl))) (by decide) (backOf (W := 0) (rm2 l Z a0 hw [] b8 pv c8 zc h8 n0 Zs8 O S_cs hzc F_b8_coder F_b8_value E_b8 A_c8) hZ (hw _ (List.mem_of_getElem? (i := 17) rfl)) (hw _ (List.mem_of_getElem? (i := 6) rfl)) (by decide) (by decide)) q9a q9c (g := (mkF m 39 #[.val (.int pv)] [(.int pv), (.ref b8)])) rfl (by rw [hml]; rfl) (Steps.refl _) (argsL := [(.int pv)]) (rest := []) (lenOf pd_6 rfl) rfl (by show 2 * 0 + _ ≤ _; exact Nat.le_of_eq rfl) (hb hby d1_39) (fun _ _ => ⟨rfl, e8, (by decide : 2 + 0 ≤ _), (by decide : 80 + 0 ≤ _)⟩)
          dsimp only [Pt.U, Pt.locs, Pt.cells, Pt.slots] at X9 l9 y9 z9 st9 hQ9
          rw [l9, y9, z9] at X9
          obtain ⟨rfl, N9q, e9⟩ := hQ9
          have N9 := Fr.app N0 N9q
          refine Goes.via st9 ?_
          show Goes p.tables e below (T9.setTop (mkF m 42 #[.val (.int pv)] [(.int (fn7 pv))])) _
          by_cases hc10 : (fn7 pv) < (0 : Int32)
          · refine Goes.by (fun _ k => XS.ifYes X9.here hx rfl (pc0 := 42) (pc' := 49) rfl (hb hby d1_42) rfl ((if0 _ _).trans (tlt hc10).1) (by decide) (by decide) k) ?_
            show Goes p.tables e below (T9.setTop (mkF m 49 #[.val (.int pv)] [])) _
            refine Goes.by (fun _ k => XS.iconst X9.here hx rfl (hb hby d1_49) k) ?_
            show Goes p.tables e below (T9.setTop (mkF m 50 #[.val (.int pv)] [(.int (0 : Int32))])) _
            obtain ⟨fs, hr, hrun, hended, hRW⟩ := leaveW (s := s) (vm₁ := T8.vm) X9 hS (hk.at e9) (v := some (.int (0 : Int32))) (fun h => by rw [Bd.returns] at h; cases h)
            refine ⟨_, _, retN X9 hx (t := .boolean) Bd.returns (by simp) (hb hby d1_50) hr, hrun, hended, _, _, rfl, ?_, rwMono hRW (by decide) (by decide)⟩
            show Q1 Z pv zc h0 n0 _ T9.heap _
            rw [e9]
            exact ⟨(by rw [fn1, if_pos hc1, if_pos hc2, if_neg hc3, if_pos hc7, if_pos hc10]), N9, K8⟩
          · refine Goes.by (fun _ k => XS.ifNo X9.here hx rfl (hb hby d1_42) rfl ((if0 _ _).trans (flt hc10).1) k) ?_
            show Goes p.tables e below (T9.setTop (mkF m 45 #[.val (.int pv)] [])) _
            refine Goes.by (fun _ k => XS.iconst X9.here hx rfl (hb hby d1_45) k) ?_
            show Goes p.tables e below (T9.setTop (mkF m 46 #[.val (.int pv)] [(.int (1 : Int32))])) _
            refine Goes.by (fun _ k => XS.goto X9.here hx rfl (pc0 := 46) (pc' := 50) rfl (hb hby d1_46) (by decide) (by decide) k) ?_
            show Goes p.tables e below (T9.setTop (mkF m 50 #[.val (.int pv)] [(.int (1 : Int32))])) _
            obtain ⟨fs, hr, hrun, hended, hRW⟩ := leaveW (s := s) (vm₁ := T8.vm) X9 hS (hk.at e9) (v := some (.int (1 : Int32))) (fun h => by rw [Bd.returns] at h; cases h)
            refine ⟨_, _, retN X9 hx (t := .boolean) Bd.returns (by simp) (hb hby d1_50) hr, hrun, hended, _, _, rfl, ?_, rwMono hRW (by decide) (by decide)⟩
            show Q1 Z pv zc h0 n0 _ T9.heap _
            rw [e9]
            exact ⟨(by rw [fn1, if_pos hc1, if_pos hc2, if_neg hc3, if_pos hc7, if_neg hc10]), N9, K8⟩
        · refine Goes.by (fun _ k => XS.icmpYes X0.here hx rfl (pc0 := 33) (pc' := 45) rfl (hb hby d1_33) rfl (flt hc7).2.2.2 (by decide) (by decide) k) ?_
          show Goes p.tables e below (s₁.setTop (mkF m 45 #[.val (.int pv)] [])) _
          refine Goes.by (fun _ k => XS.iconst X0.here hx rfl (hb hby d1_45) k) ?_
          show Goes p.tables e below (s₁.setTop (mkF m 46 #[.val (.int pv)] [(.int (1 : Int32))])) _
          refine Goes.by (fun _ k => XS.goto X0.here hx rfl (pc0 := 46) (pc' := 50) rfl (hb hby d1_46) (by decide) (by decide) k) ?_
          show Goes p.tables e below (s₁.setTop (mkF m 50 #[.val (.int pv)] [(.int (1 : Int32))])) _
          obtain ⟨fs, hr, hrun, hended, hRW⟩ := leaveW (s := s) (vm₁ := s.vm) X0 hS (hk.at e0) (v := some (.int (1 : Int32))) (fun h => by rw [Bd.returns] at h; cases h)
          refine ⟨_, _, retN X0 hx (t := .boolean) Bd.returns (by simp) (hb hby d1_50) hr, hrun, hended, _, _, rfl, ?_, rwMono hRW (by decide) (by decide)⟩
          show Q1 Z pv zc h0 n0 _ s₁.heap _
          rw [e0]
          exact ⟨(by rw [fn1, if_pos hc1, if_pos hc2, if_neg hc3, if_neg hc7]), N0, (Keep.refl h0 [])⟩
    · refine Goes.by (fun _ k => XS.icmpNo X0.here hx rfl (hb hby d1_15) rfl (flt hc2).1 k) ?_
      show Goes p.tables e below (s₁.setTop (mkF m 18 #[.val (.int pv)] [])) _
      refine Goes.by (fun _ k => XS.iloadN X0.here hx rfl (hb hby d1_18) rfl k) ?_
      show Goes p.tables e below (s₁.setTop (mkF m 19 #[.val (.int pv)] [(.int pv)])) _
      refine Goes.by (fun _ k => XS.bipush X0.here hx rfl (hb hby d1_19) k) ?_
      show Goes p.tables e below (s₁.setTop (mkF m 21 #[.val (.int pv)] [(.int (90 : Int32)), (.int pv)])) _
      by_cases hc11 : (90 : Int32) < pv
      · refine Goes.by (fun _ k => XS.icmpNo X0.here hx rfl (hb hby d1_21) rfl (tlt hc11).2.2.2 k) ?_
        show Goes p.tables e below (s₁.setTop (mkF m 24 #[.val (.int pv)] [])) _
        refine Goes.by (fun _ k => XS.iloadN X0.here hx rfl (hb hby d1_24) rfl k) ?_
        show Goes p.tables e below (s₁.setTop (mkF m 25 #[.val (.int pv)] [(.int pv)])) _
        refine Goes.by (fun _ k => XS.bipush X0.here hx rfl (hb hby d1_25) k) ?_
        show Goes p.tables e below (s₁.setTop (mkF m 27 #[.val (.int pv)] [(.int (48 : Int32)), (.int pv)])) _
        by_cases hc12 : pv < (48 : Int32)
        · refine Goes.by (fun _ k => XS.icmpYes X0.here hx rfl (pc0 := 27) (pc' := 36) rfl (hb hby d1_27) rfl (tlt hc12).1 (by decide) (by decide) k) ?_
          show Goes p.tables e below (s₁.setTop (mkF m 36 #[.val (.int pv)] [])) _
          obtain ⟨b13, T13, h13, k13, c13, kc13, X13, e13, E13, hS, hkq13, hZ, hown, Eb13, Fc13, Fv13, Av13, -, -, -, st13⟩ := ldcSV (s := s) (vm0 := s.vm) X0 hx hZ hown (hw _ (List.mem_of_getElem? (i := 5) rfl)) (own_wS hw) e0 hS hk (Fr.nil _) hkeep (IB.of_eq hI) List.not_mem_nil hheld hcw (vs := own_l.map Value.int) (z := 19) own_ht (by decide) rfl (g := (mkF m 36 #[.val (.int pv)] [])) rfl (hb hby d1_36) (n := 76) (by decide +kernel) (by decide) (by decide) (by decide)
          have Zs13 : n0 ≤ h13.size := Nat.le_trans Z0 E13.1
          have K13 : Keep h0 h13 [] := (Keep.refl h0 []).ext E13
          refine Goes.by st13 ?_
          have O : Old Z n0 h13 := O.ext E13
          have hk : Kle k13 h13 := hkq13
          have E_b13 : Exa Z h13 b13 "java/lang/String" := Eb13
          have F_b13_coder : Fld Z h13 b13 "java/lang/String" "coder" "B" (.int (0 : Int32)) := Fc13
          have F_b13_value : Fld Z h13 b13 "java/lang/String" "value" "[B" (.ref c13) := Fv13
          have A_c13 : AI Z h13 c13 .byte 19 own_txt := Ar.congr (Ar.of_arv Av13 (n := 19) (by decide)) fun j _ => own_at j
          show Goes p.tables e below (T13.setTop (mkF m 38 #[.val (.int pv)] [(.ref b13)])) _
          refine Goes.by (fun _ k => XS.iloadN X13.here hx rfl (hb hby d1_38) rfl k) ?_
          show Goes p.tables e below (T13.setTop (mkF m 39 #[.val (.int pv)] [(.int pv), (.ref b13)])) _
          obtain ⟨cq14, kq14, q14a, q14b, q14c⟩ := isOf hZ e13 E_b13
          obtain ⟨_, _, ⟨T14, L14, k14, n14⟩, -, X14, ⟨Lc14, hQ14, l14, y14, z14⟩, st14⟩ := X13.virtualBack hx (y := (⟨"java/lang/String", "indexOf", "(I)I"⟩ : MethodName)) (z := (⟨"java/lang/String", "indexOf", "(I)I"⟩ : MethodName)) hown (mvT hZ (hw _ (List.mem_of_getElem? (i := 13) rfl))) (mvT hZ (hw _ (List.mem_of_getElem? (i := 14) rfl))) (notFace_of_selects (args := #[]) (mvT hZ (hw _ (List.mem_of_getElem? (i := 16) rfl)))) (mvT hZ (hw _ (List.mem_of_getElem? (i := 16) rfl))) (mvT hZ (hw _ (List.mem_of_getElem? (i := 15) rfl))) (by decide) (backOf (W := 0) (rm2 l Z a0 hw [] b13 pv c13 zc h13 n0 Zs13 O S_cs hzc F_b13_coder F_b13_value E_b13 A_c13) hZ (hw _ (List.mem_of_getElem? (i := 17) rfl)) (hw _ (List.mem_of_getElem? (i := 6) rfl)) (by decide) (by decide)) q14a q14c (g := (mkF m 39 #[.val (.int pv)] [(.int pv), (.ref b13)])) rfl (by rw [hml]; rfl) (Steps.refl _) (argsL := [(.int pv)]) (rest := []) (lenOf pd_6 rfl) rfl (by show 2 * 0 + _ ≤ _; exact Nat.le_of_eq rfl) (hb hby d1_39) (fun _ _ => ⟨rfl, e13, (by decide : 2 + 0 ≤ _), (by decide : 80 + 0 ≤ _)⟩)
          dsimp only [Pt.U, Pt.locs, Pt.cells, Pt.slots] at X14 l14 y14 z14 st14 hQ14
          rw [l14, y14, z14] at X14
          obtain ⟨rfl, N14q, e14⟩ := hQ14
          have N14 := Fr.app N0 N14q
          refine Goes.via st14 ?_
          show Goes p.tables e below (T14.setTop (mkF m 42 #[.val (.int pv)] [(.int (fn7 pv))])) _
          by_cases hc15 : (fn7 pv) < (0 : Int32)
          · refine Goes.by (fun _ k => XS.ifYes X14.here hx rfl (pc0 := 42) (pc' := 49) rfl (hb hby d1_42) rfl ((if0 _ _).trans (tlt hc15).1) (by decide) (by decide) k) ?_
            show Goes p.tables e below (T14.setTop (mkF m 49 #[.val (.int pv)] [])) _
            refine Goes.by (fun _ k => XS.iconst X14.here hx rfl (hb hby d1_49) k) ?_
            show Goes p.tables e below (T14.setTop (mkF m 50 #[.val (.int pv)] [(.int (0 : Int32))])) _
            obtain ⟨fs, hr, hrun, hended, hRW⟩ := leaveW (s := s) (vm₁ := T13.vm) X14 hS (hk.at e14) (v := some (.int (0 : Int32))) (fun h => by rw [Bd.returns] at h; cases h)
            refine ⟨_, _, retN X14 hx (t := .boolean) Bd.returns (by simp) (hb hby d1_50) hr, hrun, hended, _, _, rfl, ?_, rwMono hRW (by decide) (by decide)⟩
            show Q1 Z pv zc h0 n0 _ T14.heap _
            rw [e14]
            exact ⟨(by rw [fn1, if_pos hc1, if_neg hc2, if_pos hc11, if_pos hc12, if_pos hc15]), N14, K13⟩
          · refine Goes.by (fun _ k => XS.ifNo X14.here hx rfl (hb hby d1_42) rfl ((if0 _ _).trans (flt hc15).1) k) ?_
            show Goes p.tables e below (T14.setTop (mkF m 45 #[.val (.int pv)] [])) _
            refine Goes.by (fun _ k => XS.iconst X14.here hx rfl (hb hby d1_45) k) ?_
            show Goes p.tables e below (T14.setTop (mkF m 46 #[.val (.int pv)] [(.int (1 : Int32))])) _
            refine Goes.by (fun _ k => XS.goto X14.here hx rfl (pc0 := 46) (pc' := 50) rfl (hb hby d1_46) (by decide) (by decide) k) ?_
            show Goes p.tables e below (T14.setTop (mkF m 50 #[.val (.int pv)] [(.int (1 : Int32))])) _
            obtain ⟨fs, hr, hrun, hended, hRW⟩ := leaveW (s := s) (vm₁ := T13.vm) X14 hS (hk.at e14) (v := some (.int (1 : Int32))) (fun h => by rw [Bd.returns] at h; cases h)
            refine ⟨_, _, retN X14 hx (t := .boolean) Bd.returns (by simp) (hb hby d1_50) hr, hrun, hended, _, _, rfl, ?_, rwMono hRW (by decide) (by decide)⟩
            show Q1 Z pv zc h0 n0 _ T14.heap _
            rw [e14]
            exact ⟨(by rw [fn1, if_pos hc1, if_neg hc2, if_pos hc11, if_pos hc12, if_neg hc15]), N14, K13⟩
        · refine Goes.by (fun _ k => XS.icmpNo X0.here hx rfl (hb hby d1_27) rfl (flt hc12).1 k) ?_
          show Goes p.tables e below (s₁.setTop (mkF m 30 #[.val (.int pv)] [])) _
          refine Goes.by (fun _ k => XS.iloadN X0.here hx rfl (hb hby d1_30) rfl k) ?_
          show Goes p.tables e below (s₁.setTop (mkF m 31 #[.val (.int pv)] [(.int pv)])) _
          refine Goes.by (fun _ k => XS.bipush X0.here hx rfl (hb hby d1_31) k) ?_
          show Goes p.tables e below (s₁.setTop (mkF m 33 #[.val (.int pv)] [(.int (57 : Int32)), (.int pv)])) _
          by_cases hc16 : (57 : Int32) < pv
          · refine Goes.by (fun _ k => XS.icmpNo X0.here hx rfl (hb hby d1_33) rfl (tlt hc16).2.2.2 k) ?_
            show Goes p.tables e below (s₁.setTop (mkF m 36 #[.val (.int pv)] [])) _
            obtain ⟨b17, T17, h17, k17, c17, kc17, X17, e17, E17, hS, hkq17, hZ, hown, Eb17, Fc17, Fv17, Av17, -, -, -, st17⟩ := ldcSV (s := s) (vm0 := s.vm) X0 hx hZ hown (hw _ (List.mem_of_getElem? (i := 5) rfl)) (own_wS hw) e0 hS hk (Fr.nil _) hkeep (IB.of_eq hI) List.not_mem_nil hheld hcw (vs := own_l.map Value.int) (z := 19) own_ht (by decide) rfl (g := (mkF m 36 #[.val (.int pv)] [])) rfl (hb hby d1_36) (n := 76) (by decide +kernel) (by decide) (by decide) (by decide)
            have Zs17 : n0 ≤ h17.size := Nat.le_trans Z0 E17.1
            have K17 : Keep h0 h17 [] := (Keep.refl h0 []).ext E17
            refine Goes.by st17 ?_
            have O : Old Z n0 h17 := O.ext E17
            have hk : Kle k17 h17 := hkq17
            have E_b17 : Exa Z h17 b17 "java/lang/String" := Eb17
            have F_b17_coder : Fld Z h17 b17 "java/lang/String" "coder" "B" (.int (0 : Int32)) := Fc17
            have F_b17_value : Fld Z h17 b17 "java/lang/String" "value" "[B" (.ref c17) := Fv17
            have A_c17 : AI Z h17 c17 .byte 19 own_txt := Ar.congr (Ar.of_arv Av17 (n := 19) (by decide)) fun j _ => own_at j
            show Goes p.tables e below (T17.setTop (mkF m 38 #[.val (.int pv)] [(.ref b17)])) _
            refine Goes.by (fun _ k => XS.iloadN X17.here hx rfl (hb hby d1_38) rfl k) ?_
            show Goes p.tables e below (T17.setTop (mkF m 39 #[.val (.int pv)] [(.int pv), (.ref b17)])) _
            obtain ⟨cq18, kq18, q18a, q18b, q18c⟩ := isOf hZ e17 E_b17
            obtain ⟨_, _, ⟨T18, L18, k18, n18⟩, -, X18, ⟨Lc18, hQ18, l18, y18, z18⟩, st18⟩ := X17.virtualBack hx (y := (⟨"java/lang/String", "indexOf", "(I)I"⟩ : MethodName)) (z := (⟨"java/lang/String", "indexOf", "(I)I"⟩ : MethodName)) hown (mvT hZ (hw _ (List.mem_of_getElem? (i := 13) rfl))) (mvT hZ (hw _ (List.mem_of_getElem? (i := 14) rfl))) (notFace_of_selects (args := #[]) (mvT hZ (hw _ (List.mem_of_getElem? (i := 16) rfl)))) (mvT hZ (hw _ (List.mem_of_getElem? (i := 16) rfl))) (mvT hZ (hw _ (List.mem_of_getElem? (i := 15) rfl))) (by decide) (backOf (W := 0) (rm2 l Z a0 hw [] b17 pv c17 zc h17 n0 Zs17 O S_cs hzc F_b17_coder F_b17_value E_b17 A_c17) hZ (hw _ (List.mem_of_getElem? (i := 17) rfl)) (hw _ (List.mem_of_getElem? (i := 6) rfl)) (by decide) (by decide)) q18a q18c (g := (mkF m 39 #[.val (.int pv)] [(.int pv), (.ref b17)])) rfl (by rw [hml]; rfl) (Steps.refl _) (argsL := [(.int pv)]) (rest := []) (lenOf pd_6 rfl) rfl (by show 2 * 0 + _ ≤ _; exact Nat.le_of_eq rfl) (hb hby d1_39) (fun _ _ => ⟨rfl, e17, (by decide : 2 + 0 ≤ _), (by decide : 80 + 0 ≤ _)⟩)
            dsimp only [Pt.U, Pt.locs, Pt.cells, Pt.slots] at X18 l18 y18 z18 st18 hQ18
            rw [l18, y18, z18] at X18
            obtain ⟨rfl, N18q, e18⟩ := hQ18
            have N18 := Fr.app N0 N18q
            refine Goes.via st18 ?_
            show Goes p.tables e below (T18.setTop (mkF m 42 #[.val (.int pv)] [(.int (fn7 pv))])) _
            by_cases hc19 : (fn7 pv) < (0 : Int32)
            · refine Goes.by (fun _ k => XS.ifYes X18.here hx rfl (pc0 := 42) (pc' := 49) rfl (hb hby d1_42) rfl ((if0 _ _).trans (tlt hc19).1) (by decide) (by decide) k) ?_
              show Goes p.tables e below (T18.setTop (mkF m 49 #[.val (.int pv)] [])) _
              refine Goes.by (fun _ k => XS.iconst X18.here hx rfl (hb hby d1_49) k) ?_
              show Goes p.tables e below (T18.setTop (mkF m 50 #[.val (.int pv)] [(.int (0 : Int32))])) _
              obtain ⟨fs, hr, hrun, hended, hRW⟩ := leaveW (s := s) (vm₁ := T17.vm) X18 hS (hk.at e18) (v := some (.int (0 : Int32))) (fun h => by rw [Bd.returns] at h; cases h)
              refine ⟨_, _, retN X18 hx (t := .boolean) Bd.returns (by simp) (hb hby d1_50) hr, hrun, hended, _, _, rfl, ?_, rwMono hRW (by decide) (by decide)⟩
              show Q1 Z pv zc h0 n0 _ T18.heap _
              rw [e18]
              exact ⟨(by rw [fn1, if_pos hc1, if_neg hc2, if_pos hc11, if_neg hc12, if_pos hc16, if_pos hc19]), N18, K17⟩
            · refine Goes.by (fun _ k => XS.ifNo X18.here hx rfl (hb hby d1_42) rfl ((if0 _ _).trans (flt hc19).1) k) ?_
              show Goes p.tables e below (T18.setTop (mkF m 45 #[.val (.int pv)] [])) _
              refine Goes.by (fun _ k => XS.iconst X18.here hx rfl (hb hby d1_45) k) ?_
              show Goes p.tables e below (T18.setTop (mkF m 46 #[.val (.int pv)] [(.int (1 : Int32))])) _
              refine Goes.by (fun _ k => XS.goto X18.here hx rfl (pc0 := 46) (pc' := 50) rfl (hb hby d1_46) (by decide) (by decide) k) ?_
              show Goes p.tables e below (T18.setTop (mkF m 50 #[.val (.int pv)] [(.int (1 : Int32))])) _
              obtain ⟨fs, hr, hrun, hended, hRW⟩ := leaveW (s := s) (vm₁ := T17.vm) X18 hS (hk.at e18) (v := some (.int (1 : Int32))) (fun h => by rw [Bd.returns] at h; cases h)
              refine ⟨_, _, retN X18 hx (t := .boolean) Bd.returns (by simp) (hb hby d1_50) hr, hrun, hended, _, _, rfl, ?_, rwMono hRW (by decide) (by decide)⟩
              show Q1 Z pv zc h0 n0 _ T18.heap _
              rw [e18]
              exact ⟨(by rw [fn1, if_pos hc1, if_neg hc2, if_pos hc11, if_neg hc12, if_pos hc16, if_neg hc19]), N18, K17⟩
          · refine Goes.by (fun _ k => XS.icmpYes X0.here hx rfl (pc0 := 33) (pc' := 45) rfl (hb hby d1_33) rfl (flt hc16).2.2.2 (by decide) (by decide) k) ?_
            show Goes p.tables e below (s₁.setTop (mkF m 45 #[.val (.int pv)] [])) _
            refine Goes.by (fun _ k => XS.iconst X0.here hx rfl (hb hby d1_45) k) ?_
            show Goes p.tables e below (s₁.setTop (mkF m 46 #[.val (.int pv)] [(.int (1 : Int32))])) _
            refine Goes.by (fun _ k => XS.goto X0.here hx rfl (pc0 := 46) (pc' := 50) rfl (hb hby d1_46) (by decide) (by decide) k) ?_
            show Goes p.tables e below (s₁.setTop (mkF m 50 #[.val (.int pv)] [(.int (1 : Int32))])) _
            obtain ⟨fs, hr, hrun, hended, hRW⟩ := leaveW (s := s) (vm₁ := s.vm) X0 hS (hk.at e0) (v := some (.int (1 : Int32))) (fun h => by rw [Bd.returns] at h; cases h)
            refine ⟨_, _, retN X0 hx (t := .boolean) Bd.returns (by simp) (hb hby d1_50) hr, hrun, hended, _, _, rfl, ?_, rwMono hRW (by decide) (by decide)⟩
            show Q1 Z pv zc h0 n0 _ s₁.heap _
            rw [e0]
            exact ⟨(by rw [fn1, if_pos hc1, if_neg hc2, if_pos hc11, if_neg hc12, if_neg hc16]), N0, (Keep.refl h0 [])⟩
      · refine Goes.by (fun _ k => XS.icmpYes X0.here hx rfl (pc0 := 21) (pc' := 45) rfl (hb hby d1_21) rfl (flt hc11).2.2.2 (by decide) (by decide) k) ?_
        show Goes p.tables e below (s₁.setTop (mkF m 45 #[.val (.int pv)] [])) _
        refine Goes.by (fun _ k => XS.iconst X0.here hx rfl (hb hby d1_45) k) ?_
        show Goes p.tables e below (s₁.setTop (mkF m 46 #[.val (.int pv)] [(.int (1 : Int32))])) _
        refine Goes.by (fun _ k => XS.goto X0.here hx rfl (pc0 := 46) (pc' := 50) rfl (hb hby d1_46) (by decide) (by decide) k) ?_
        show Goes p.tables e below (s₁.setTop (mkF m 50 #[.val (.int pv)] [(.int (1 : Int32))])) _
        obtain ⟨fs, hr, hrun, hended, hRW⟩ := leaveW (s := s) (vm₁ := s.vm) X0 hS (hk.at e0) (v := some (.int (1 : Int32))) (fun h => by rw [Bd.returns] at h; cases h)
        refine ⟨_, _, retN X0 hx (t := .boolean) Bd.returns (by simp) (hb hby d1_50) hr, hrun, hended, _, _, rfl, ?_, rwMono hRW (by decide) (by decide)⟩
        show Q1 Z pv zc h0 n0 _ s₁.heap _
        rw [e0]
        exact ⟨(by rw [fn1, if_pos hc1, if_neg hc2, if_neg hc11]), N0, (Keep.refl h0 [])⟩
  · refine Goes.by (fun _ k => XS.icmpNo X0.here hx rfl (hb hby d1_3) rfl (flt hc1).1 k) ?_
    show Goes p.tables e below (s₁.setTop (mkF m 6 #[.val (.int pv)] [])) _
    refine Goes.by (fun _ k => XS.iloadN X0.here hx rfl (hb hby d1_6) rfl k) ?_
    show Goes p.tables e below (s₁.setTop (mkF m 7 #[.val (.int pv)] [(.int pv)])) _
    refine Goes.by (fun _ k => XS.bipush X0.here hx rfl (hb hby d1_7) k) ?_
    show Goes p.tables e below (s₁.setTop (mkF m 9 #[.val (.int pv)] [(.int (122 : Int32)), (.int pv)])) _
    by_cases hc20 : (122 : Int32) < pv
    · refine Goes.by (fun _ k => XS.icmpNo X0.here hx rfl (hb hby d1_9) rfl (tlt hc20).2.2.2 k) ?_
      show Goes p.tables e below (s₁.setTop (mkF m 12 #[.val (.int pv)] [])) _
      refine Goes.by (fun _ k => XS.iloadN X0.here hx rfl (hb hby d1_12) rfl k) ?_
      show Goes p.tables e below (s₁.setTop (mkF m 13 #[.val (.int pv)] [(.int pv)])) _
      refine Goes.by (fun _ k => XS.bipush X0.here hx rfl (hb hby d1_13) k) ?_
      show Goes p.tables e below (s₁.setTop (mkF m 15 #[.val (.int pv)] [(.int (65 : Int32)), (.int pv)])) _
      by_cases hc21 : pv < (65 : Int32)
      · refine Goes.by (fun _ k => XS.icmpYes X0.here hx rfl (pc0 := 15) (pc' := 24) rfl (hb hby d1_15) rfl (tlt hc21).1 (by decide) (by decide) k) ?_
        show Goes p.tables e below (s₁.setTop (mkF m 24 #[.val (.int pv)] [])) _
        refine Goes.by (fun _ k => XS.iloadN X0.here hx rfl (hb hby d1_24) rfl k) ?_
        show Goes p.tables e below (s₁.setTop (mkF m 25 #[.val (.int pv)] [(.int pv)])) _
        refine Goes.by (fun _ k => XS.bipush X0.here hx rfl (hb hby d1_25) k) ?_
        show Goes p.tables e below (s₁.setTop (mkF m 27 #[.val (.int pv)] [(.int (48 : Int32)), (.int pv)])) _
        by_cases hc22 : pv < (48 : Int32)
        · refine Goes.by (fun _ k => XS.icmpYes X0.here hx rfl (pc0 := 27) (pc' := 36) rfl (hb hby d1_27) rfl (tlt hc22).1 (by decide) (by decide) k) ?_
          show Goes p.tables e below (s₁.setTop (mkF m 36 #[.val (.int pv)] [])) _
          obtain ⟨b23, T23, h23, k23, c23, kc23, X23, e23, E23, hS, hkq23, hZ, hown, Eb23, Fc23, Fv23, Av23, -, -, -, st23⟩ := ldcSV (s := s) (vm0 := s.vm) X0 hx hZ hown (hw _ (List.mem_of_getElem? (i := 5) rfl)) (own_wS hw) e0 hS hk (Fr.nil _) hkeep (IB.of_eq hI) List.not_mem_nil hheld hcw (vs := own_l.map Value.int) (z := 19) own_ht (by decide) rfl (g := (mkF m 36 #[.val (.int pv)] [])) rfl (hb hby d1_36) (n := 76) (by decide +kernel) (by decide) (by decide) (by decide)
          have Zs23 : n0 ≤ h23.size := Nat.le_trans Z0 E23.1
          have K23 : Keep h0 h23 [] := (Keep.refl h0 []).ext E23
          refine Goes.by st23 ?_
          have O : Old Z n0 h23 := O.ext E23
          have hk : Kle k23 h23 := hkq23
          have E_b23 : Exa Z h23 b23 "java/lang/String" := Eb23
          have F_b23_coder : Fld Z h23 b23 "java/lang/String" "coder" "B" (.int (0 : Int32)) := Fc23
          have F_b23_value : Fld Z h23 b23 "java/lang/String" "value" "[B" (.ref c23) := Fv23
          have A_c23 : AI Z h23 c23 .byte 19 own_txt := Ar.congr (Ar.of_arv Av23 (n := 19) (by decide)) fun j _ => own_at j
          show Goes p.tables e below (T23.setTop (mkF m 38 #[.val (.int pv)] [(.ref b23)])) _
          refine Goes.by (fun _ k => XS.iloadN X23.here hx rfl (hb hby d1_38) rfl k) ?_
          show Goes p.tables e below (T23.setTop (mkF m 39 #[.val (.int pv)] [(.int pv), (.ref b23)])) _
          obtain ⟨cq24, kq24, q24a, q24b, q24c⟩ := isOf hZ e23 E_b23
          obtain ⟨_, _, ⟨T24, L24, k24, n24⟩, -, X24, ⟨Lc24, hQ24, l24, y24, z24⟩, st24⟩ := X23.virtualBack hx (y := (⟨"java/lang/String", "indexOf", "(I)I"⟩ : MethodName)) (z := (⟨"java/lang/String", "indexOf", "(I)I"⟩ : MethodName)) hown (mvT hZ (hw _ (List.mem_of_getElem? (i := 13) rfl))) (mvT hZ (hw _ (List.mem_of_getElem? (i := 14) rfl))) (notFace_of_selects (args := #[]) (mvT hZ (hw _ (List.mem_of_getElem? (i := 16) rfl)))) (mvT hZ (hw _ (List.mem_of_getElem? (i := 16) rfl))) (mvT hZ (hw _ (List.mem_of_getElem? (i := 15) rfl))) (by decide) (backOf (W := 0) (rm2 l Z a0 hw [] b23 pv c23 zc h23 n0 Zs23 O S_cs hzc F_b23_coder F_b23_value E_b23 A_c23) hZ (hw _ (List.mem_of_getElem? (i := 17) rfl)) (hw _ (List.mem_of_getElem? (i := 6) rfl)) (by decide) (by decide)) q24a q24c (g := (mkF m 39 #[.val (.int pv)] [(.int pv), (.ref b23)])) rfl (by rw [hml]; rfl) (Steps.refl _) (argsL := [(.int pv)]) (rest := []) (lenOf pd_6 rfl) rfl (by show 2 * 0 + _ ≤ _; exact Nat.le_of_eq rfl) (hb hby d1_39) (fun _ _ => ⟨rfl, e23, (by decide : 2 + 0 ≤ _), (by decide : 80 + 0 ≤ _)⟩)
          dsimp only [Pt.U, Pt.locs, Pt.cells, Pt.slots] at X24 l24 y24 z24 st24 hQ24
          rw [l24, y24, z24] at X24
          obtain ⟨rfl, N24q, e24⟩ := hQ24
          have N24 := Fr.app N0 N24q
          refine Goes.via st24 ?_
          show Goes p.tables e below (T24.setTop (mkF m 42 #[.val (.int pv)] [(.int (fn7 pv))])) _
          by_cases hc25 : (fn7 pv) < (0 : Int32)
          · refine Goes.by (fun _ k => XS.ifYes X24.here hx rfl (pc0 := 42) (pc' := 49) rfl (hb hby d1_42) rfl ((if0 _ _).trans (tlt hc25).1) (by decide) (by decide) k) ?_
            show Goes p.tables e below (T24.setTop (mkF m 49 #[.val (.int pv)] [])) _
            refine Goes.by (fun _ k => XS.iconst X24.here hx rfl (hb hby d1_49) k) ?_
            show Goes p.tables e below (T24.setTop (mkF m 50 #[.val (.int pv)] [(.int (0 : Int32))])) _
            obtain ⟨fs, hr, hrun, hended, hRW⟩ := leaveW (s := s) (vm₁ := T23.vm) X24 hS (hk.at e24) (v := some (.int (0 : Int32))) (fun h => by rw [Bd.returns] at h; cases h)
            refine ⟨_, _, retN X24 hx (t := .boolean) Bd.returns (by simp) (hb hby d1_50) hr, hrun, hended, _, _, rfl, ?_, rwMono hRW (by decide) (by decide)⟩
            show Q1 Z pv zc h0 n0 _ T24.heap _
            rw [e24]
            exact ⟨(by rw [fn1, if_neg hc1, if_pos hc20, if_pos hc21, if_pos hc22, if_pos hc25]), N24, K23⟩
          · refine Goes.by (fun _ k => XS.ifNo X24.here hx rfl (hb hby d1_42) rfl ((if0 _ _).trans (flt hc25).1) k) ?_
            show Goes p.tables e below (T24.setTop (mkF m 45 #[.val (.int pv)] [])) _
            refine Goes.by (fun _ k => XS.iconst X24.here hx rfl (hb hby d1_45) k) ?_
            show Goes p.tables e below (T24.setTop (mkF m 46 #[.val (.int pv)] [(.int (1 : Int32))])) _
            refine Goes.by (fun _ k => XS.goto X24.here hx rfl (pc0 := 46) (pc' := 50) rfl (hb hby d1_46) (by decide) (by decide) k) ?_
            show Goes p.tables e below (T24.setTop (mkF m 50 #[.val (.int pv)] [(.int (1 : Int32))])) _
            obtain ⟨fs, hr, hrun, hended, hRW⟩ := leaveW (s := s) (vm₁ := T23.vm) X24 hS (hk.at e24) (v := some (.int (1 : Int32))) (fun h => by rw [Bd.returns] at h; cases h)
            refine ⟨_, _, retN X24 hx (t := .boolean) Bd.returns (by simp) (hb hby d1_50) hr, hrun, hended, _, _, rfl, ?_, rwMono hRW (by decide) (by decide)⟩
            show Q1 Z pv zc h0 n0 _ T24.heap _
            rw [e24]
            exact ⟨(by rw [fn1, if_neg hc1, if_pos hc20, if_pos hc21, if_pos hc22, if_neg hc25]), N24, K23⟩
        · refine Goes.by (fun _ k => XS.icmpNo X0.here hx rfl (hb hby d1_27) rfl (flt hc22).1 k) ?_
          show Goes p.tables e below (s₁.setTop (mkF m 30 #[.val (.int pv)] [])) _
          refine Goes.by (fun _ k => XS.iloadN X0.here hx rfl (hb hby d1_30) rfl k) ?_
          show Goes p.tables e below (s₁.setTop (mkF m 31 #[.val (.int pv)] [(.int pv)])) _
          refine Goes.by (fun _ k => XS.bipush X0.here hx rfl (hb hby d1_31) k) ?_
          show Goes p.tables e below (s₁.setTop (mkF m 33 #[.val (.int pv)] [(.int (57 : Int32)), (.int pv)])) _
          by_cases hc26 : (57 : Int32) < pv
          · refine Goes.by (fun _ k => XS.icmpNo X0.here hx rfl (hb hby d1_33) rfl (tlt hc26).2.2.2 k) ?_
            show Goes p.tables e below (s₁.setTop (mkF m 36 #[.val (.int pv)] [])) _
            obtain ⟨b27, T27, h27, k27, c27, kc27, X27, e27, E27, hS, hkq27, hZ, hown, Eb27, Fc27, Fv27, Av27, -, -, -, st27⟩ := ldcSV (s := s) (vm0 := s.vm) X0 hx hZ hown (hw _ (List.mem_of_getElem? (i := 5) rfl)) (own_wS hw) e0 hS hk (Fr.nil _) hkeep (IB.of_eq hI) List.not_mem_nil hheld hcw (vs := own_l.map Value.int) (z := 19) own_ht (by decide) rfl (g := (mkF m 36 #[.val (.int pv)] [])) rfl (hb hby d1_36) (n := 76) (by decide +kernel) (by decide) (by decide) (by decide)
            have Zs27 : n0 ≤ h27.size := Nat.le_trans Z0 E27.1
            have K27 : Keep h0 h27 [] := (Keep.refl h0 []).ext E27
            refine Goes.by st27 ?_
            have O : Old Z n0 h27 := O.ext E27
            have hk : Kle k27 h27 := hkq27
            have E_b27 : Exa Z h27 b27 "java/lang/String" := Eb27
            have F_b27_coder : Fld Z h27 b27 "java/lang/String" "coder" "B" (.int (0 : Int32)) := Fc27
            have F_b27_value : Fld Z h27 b27 "java/lang/String" "value" "[B" (.ref c27) := Fv27
            have A_c27 : AI Z h27 c27 .byte 19 own_txt := Ar.congr (Ar.of_arv Av27 (n := 19) (by decide)) fun j _ => own_at j
            show Goes p.tables e below (T27.setTop (mkF m 38 #[.val (.int pv)] [(.ref b27)])) _
            refine Goes.by (fun _ k => XS.iloadN X27.here hx rfl (hb hby d1_38) rfl k) ?_
            show Goes p.tables e below (T27.setTop (mkF m 39 #[.val (.int pv)] [(.int pv), (.ref b27)])) _
            obtain ⟨cq28, kq28, q28a, q28b, q28c⟩ := isOf hZ e27 E_b27
            obtain ⟨_, _, ⟨T28, L28, k28, n28⟩, -, X28, ⟨Lc28, hQ28, l28, y28, z28⟩, st28⟩ := X27.virtualBack hx (y := (⟨"java/lang/String", "indexOf", "(I)I"⟩ : MethodName)) (z := (⟨"java/lang/String", "indexOf", "(I)I"⟩ : MethodName)) hown (mvT hZ (hw _ (List.mem_of_getElem? (i := 13) rfl))) (mvT hZ (hw _ (List.mem_of_getElem? (i := 14) rfl))) (notFace_of_selects (args := #[]) (mvT hZ (hw _ (List.mem_of_getElem? (i := 16) rfl)))) (mvT hZ (hw _ (List.mem_of_getElem? (i := 16) rfl))) (mvT hZ (hw _ (List.mem_of_getElem? (i := 15) rfl))) (by decide) (backOf (W := 0) (rm2 l Z a0 hw [] b27 pv c27 zc h27 n0 Zs27 O S_cs hzc F_b27_coder F_b27_value E_b27 A_c27) hZ (hw _ (List.mem_of_getElem? (i := 17) rfl)) (hw _ (List.mem_of_getElem? (i := 6) rfl)) (by decide) (by decide)) q28a q28c (g := (mkF m 39 #[.val (.int pv)] [(.int pv), (.ref b27)])) rfl (by rw [hml]; rfl) (Steps.refl _) (argsL := [(.int pv)]) (rest := []) (lenOf pd_6 rfl) rfl (by show 2 * 0 + _ ≤ _; exact Nat.le_of_eq rfl) (hb hby d1_39) (fun _ _ => ⟨rfl, e27, (by decide : 2 + 0 ≤ _), (by decide : 80 + 0 ≤ _)⟩)
            dsimp only [Pt.U, Pt.locs, Pt.cells, Pt.slots] at X28 l28 y28 z28 st28 hQ28
            rw [l28, y28, z28] at X28
            obtain ⟨rfl, N28q, e28⟩ := hQ28
            have N28 := Fr.app N0 N28q
            refine Goes.via st28 ?_
            show Goes p.tables e below (T28.setTop (mkF m 42 #[.val (.int pv)] [(.int (fn7 pv))])) _
            by_cases hc29 : (fn7 pv) < (0 : Int32)
            · refine Goes.by (fun _ k => XS.ifYes X28.here hx rfl (pc0 := 42) (pc' := 49) rfl (hb hby d1_42) rfl ((if0 _ _).trans (tlt hc29).1) (by decide) (by decide) k) ?_
              show Goes p.tables e below (T28.setTop (mkF m 49 #[.val (.int pv)] [])) _
              refine Goes.by (fun _ k => XS.iconst X28.here hx rfl (hb hby d1_49) k) ?_
              show Goes p.tables e below (T28.setTop (mkF m 50 #[.val (.int pv)] [(.int (0 : Int32))])) _
              obtain ⟨fs, hr, hrun, hended, hRW⟩ := leaveW (s := s) (vm₁ := T27.vm) X28 hS (hk.at e28) (v := some (.int (0 : Int32))) (fun h => by rw [Bd.returns] at h; cases h)
              refine ⟨_, _, retN X28 hx (t := .boolean) Bd.returns (by simp) (hb hby d1_50) hr, hrun, hended, _, _, rfl, ?_, rwMono hRW (by decide) (by decide)⟩
              show Q1 Z pv zc h0 n0 _ T28.heap _
              rw [e28]
              exact ⟨(by rw [fn1, if_neg hc1, if_pos hc20, if_pos hc21, if_neg hc22, if_pos hc26, if_pos hc29]), N28, K27⟩
            · refine Goes.by (fun _ k => XS.ifNo X28.here hx rfl (hb hby d1_42) rfl ((if0 _ _).trans (flt hc29).1) k) ?_
              show Goes p.tables e below (T28.setTop (mkF m 45 #[.val (.int pv)] [])) _
              refine Goes.by (fun _ k => XS.iconst X28.here hx rfl (hb hby d1_45) k) ?_
              show Goes p.tables e below (T28.setTop (mkF m 46 #[.val (.int pv)] [(.int (1 : Int32))])) _
              refine Goes.by (fun _ k => XS.goto X28.here hx rfl (pc0 := 46) (pc' := 50) rfl (hb hby d1_46) (by decide) (by decide) k) ?_
              show Goes p.tables e below (T28.setTop (mkF m 50 #[.val (.int pv)] [(.int (1 : Int32))])) _
              obtain ⟨fs, hr, hrun, hended, hRW⟩ := leaveW (s := s) (vm₁ := T27.vm) X28 hS (hk.at e28) (v := some (.int (1 : Int32))) (fun h => by rw [Bd.returns] at h; cases h)
              refine ⟨_, _, retN X28 hx (t := .boolean) Bd.returns (by simp) (hb hby d1_50) hr, hrun, hended, _, _, rfl, ?_, rwMono hRW (by decide) (by decide)⟩
              show Q1 Z pv zc h0 n0 _ T28.heap _
              rw [e28]
              exact ⟨(by rw [fn1, if_neg hc1, if_pos hc20, if_pos hc21, if_neg hc22, if_pos hc26, if_neg hc29]), N28, K27⟩
          · refine Goes.by (fun _ k => XS.icmpYes X0.here hx rfl (pc0 := 33) (pc' := 45) rfl (hb hby d1_33) rfl (flt hc26).2.2.2 (by decide) (by decide) k) ?_
            show Goes p.tables e below (s₁.setTop (mkF m 45 #[.val (.int pv)] [])) _
            refine Goes.by (fun _ k => XS.iconst X0.here hx rfl (hb hby d1_45) k) ?_
            show Goes p.tables e below (s₁.setTop (mkF m 46 #[.val (.int pv)] [(.int (1 : Int32))])) _
            refine Goes.by (fun _ k => XS.goto X0.here hx rfl (pc0 := 46) (pc' := 50) rfl (hb hby d1_46) (by decide) (by decide) k) ?_
            show Goes p.tables e below (s₁.setTop (mkF m 50 #[.val (.int pv)] [(.int (1 : Int32))])) _
            obtain ⟨fs, hr, hrun, hended, hRW⟩ := leaveW (s := s) (vm₁ := s.vm) X0 hS (hk.at e0) (v := some (.int (1 : Int32))) (fun h => by rw [Bd.returns] at h; cases h)
            refine ⟨_, _, retN X0 hx (t := .boolean) Bd.returns (by simp) (hb hby d1_50) hr, hrun, hended, _, _, rfl, ?_, rwMono hRW (by decide) (by decide)⟩
            show Q1 Z pv zc h0 n0 _ s₁.heap _
            rw [e0]
            exact ⟨(by rw [fn1, if_neg hc1, if_pos hc20, if_pos hc21, if_neg hc22, if_neg hc26]), N0, (Keep.refl h0 [])⟩
      · refine Goes.by (fun _ k => XS.icmpNo X0.here hx rfl (hb hby d1_15) rfl (flt hc21).1 k) ?_
        show Goes p.tables e below (s₁.setTop (mkF m 18 #[.val (.int pv)] [])) _
        refine Goes.by (fun _ k => XS.iloadN X0.here hx rfl (hb hby d1_18) rfl k) ?_
        show Goes p.tables e below (s₁.setTop (mkF m 19 #[.val (.int pv)] [(.int pv)])) _
        refine Goes.by (fun _ k => XS.bipush X0.here hx rfl (hb hby d1_19) k) ?_
        show Goes p.tables e below (s₁.setTop (mkF m 21 #[.val (.int pv)] [(.int (90 : Int32)), (.int pv)])) _
        by_cases hc30 : (90 : Int32) < pv
        · refine Goes.by (fun _ k => XS.icmpNo X0.here hx rfl (hb hby d1_21) rfl (tlt hc30).2.2.2 k) ?_
          show Goes p.tables e below (s₁.setTop (mkF m 24 #[.val (.int pv)] [])) _
          refine Goes.by (fun _ k => XS.iloadN X0.here hx rfl (hb hby d1_24) rfl k) ?_
          show Goes p.tables e below (s₁.setTop (mkF m 25 #[.val (.int pv)] [(.int pv)])) _
          refine Goes.by (fun _ k => XS.bipush X0.here hx rfl (hb hby d1_25) k) ?_
          show Goes p.tables e below (s₁.setTop (mkF m 27 #[.val (.int pv)] [(.int (48 : Int32)), (.int pv)])) _
          by_cases hc31 : pv < (48 : Int32)
          · refine Goes.by (fun _ k => XS.icmpYes X0.here hx rfl (pc0 := 27) (pc' := 36) rfl (hb hby d1_27) rfl (tlt hc31).1 (by decide) (by decide) k) ?_
            show Goes p.tables e below (s₁.setTop (mkF m 36 #[.val (.int pv)] [])) _
            obtain ⟨b32, T32, h32, k32, c32, kc32, X32, e32, E32, hS, hkq32, hZ, hown, Eb32, Fc32, Fv32, Av32, -, -, -, st32⟩ := ldcSV (s := s) (vm0 := s.vm) X0 hx hZ hown (hw _ (List.mem_of_getElem? (i := 5) rfl)) (own_wS hw) e0 hS hk (Fr.nil _) hkeep (IB.of_eq hI) List.not_mem_nil hheld hcw (vs := own_l.map Value.int) (z := 19) own_ht (by decide) rfl (g := (mkF m 36 #[.val (.int pv)] [])) rfl (hb hby d1_36) (n := 76) (by decide +kernel) (by decide) (by decide) (by decide)
            have Zs32 : n0 ≤ h32.size := Nat.le_trans Z0 E32.1
            have K32 : Keep h0 h32 [] := (Keep.refl h0 []).ext E32
            refine Goes.by st32 ?_
            have O : Old Z n0 h32 := O.ext E32
            have hk : Kle k32 h32 := hkq32
            have E_b32 : Exa Z h32 b32 "java/lang/String" := Eb32
            have F_b32_coder : Fld Z h32 b32 "java/lang/String" "coder" "B" (.int (0 : Int32)) := Fc32
            have F_b32_value : Fld Z h32 b32 "java/lang/String" "value" "[B" (.ref c32) := Fv32
            have A_c32 : AI Z h32 c32 .byte 19 own_txt := Ar.congr (Ar.of_arv Av32 (n := 19) (by decide)) fun j _ => own_at j
            show Goes p.tables e below (T32.setTop (mkF m 38 #[.val (.int pv)] [(.ref b32)])) _
            refine Goes.by (fun _ k => XS.iloadN X32.here hx rfl (hb hby d1_38) rfl k) ?_
            show Goes p.tables e below (T32.setTop (mkF m 39 #[.val (.int pv)] [(.int pv), (.ref b32)])) _
            obtain ⟨cq33, kq33, q33a, q33b, q33c⟩ := isOf hZ e32 E_b32
            obtain ⟨_, _, ⟨T33, L33, k33, n33⟩, -, X33, ⟨Lc33, hQ33, l33, y33, z33⟩, st33⟩ := X32.virtualBack hx (y := (⟨"java/lang/String", "indexOf", "(I)I"⟩ : MethodName)) (z := (⟨"java/lang/String", "indexOf", "(I)I"⟩ : MethodName)) hown (mvT hZ (hw _ (List.mem_of_getElem? (i := 13) rfl))) (mvT hZ (hw _ (List.mem_of_getElem? (i := 14) rfl))) (notFace_of_selects (args := #[]) (mvT hZ (hw _ (List.mem_of_getElem? (i := 16) rfl)))) (mvT hZ (hw _ (List.mem_of_getElem? (i := 16) rfl))) (mvT hZ (hw _ (List.mem_of_getElem? (i := 15) rfl))) (by decide) (backOf (W := 0) (rm2 l Z a0 hw [] b32 pv c32 zc h32 n0 Zs32 O S_cs hzc F_b32_coder F_b32_value E_b32 A_c32) hZ (hw _ (List.mem_of_getElem? (i := 17) rfl)) (hw _ (List.mem_of_getElem? (i := 6) rfl)) (by decide) (by decide)) q33a q33c (g := (mkF m 39 #[.val (.int pv)] [(.int pv), (.ref b32)])) rfl (by rw [hml]; rfl) (Steps.refl _) (argsL := [(.int pv)]) (rest := []) (lenOf pd_6 rfl) rfl (by show 2 * 0 + _ ≤ _; exact Nat.le_of_eq rfl) (hb hby d1_39) (fun _ _ => ⟨rfl, e32, (by decide : 2 + 0 ≤ _), (by decide : 80 + 0 ≤ _)⟩)
            dsimp only [Pt.U, Pt.locs, Pt.cells, Pt.slots] at X33 l33 y33 z33 st33 hQ33
            rw [l33, y33, z33] at X33
            obtain ⟨rfl, N33q, e33⟩ := hQ33
            have N33 := Fr.app N0 N33q
            refine Goes.via st33 ?_
            show Goes p.tables e below (T33.setTop (mkF m 42 #[.val (.int pv)] [(.int (fn7 pv))])) _
            by_cases hc34 : (fn7 pv) < (0 : Int32)
            · refine Goes.by (fun _ k => XS.ifYes X33.here hx rfl (pc0 := 42) (pc' := 49) rfl (hb hby d1_42) rfl ((if0 _ _).trans (tlt hc34).1) (by decide) (by decide) k) ?_
              show Goes p.tables e below (T33.setTop (mkF m 49 #[.val (.int pv)] [])) _
              refine Goes.by (fun _ k => XS.iconst X33.here hx rfl (hb hby d1_49) k) ?_
              show Goes p.tables e below (T33.setTop (mkF m 50 #[.val (.int pv)] [(.int (0 : Int32))])) _
              obtain ⟨fs, hr, hrun, hended, hRW⟩ := leaveW (s := s) (vm₁ := T32.vm) X33 hS (hk.at e33) (v := some (.int (0 : Int32))) (fun h => by rw [Bd.returns] at h; cases h)
              refine ⟨_, _, retN X33 hx (t := .boolean) Bd.returns (by simp) (hb hby d1_50) hr, hrun, hended, _, _, rfl, ?_, rwMono hRW (by decide) (by decide)⟩
              show Q1 Z pv zc h0 n0 _ T33.heap _
              rw [e33]
              exact ⟨(by rw [fn1, if_neg hc1, if_pos hc20, if_neg hc21, if_pos hc30, if_pos hc31, if_pos hc34]), N33, K32⟩
            · refine Goes.by (fun _ k => XS.ifNo X33.here hx rfl (hb hby d1_42) rfl ((if0 _ _).trans (flt hc34).1) k) ?_
              show Goes p.tables e below (T33.setTop (mkF m 45 #[.val (.int pv)] [])) _
              refine Goes.by (fun _ k => XS.iconst X33.here hx rfl (hb hby d1_45) k) ?_
              show Goes p.tables e below (T33.setTop (mkF m 46 #[.val (.int pv)] [(.int (1 : Int32))])) _
              refine Goes.by (fun _ k => XS.goto X33.here hx rfl (pc0 := 46) (pc' := 50) rfl (hb hby d1_46) (by decide) (by decide) k) ?_
              show Goes p.tables e below (T33.setTop (mkF m 50 #[.val (.int pv)] [(.int (1 : Int32))])) _
              obtain ⟨fs, hr, hrun, hended, hRW⟩ := leaveW (s := s) (vm₁ := T32.vm) X33 hS (hk.at e33) (v := some (.int (1 : Int32))) (fun h => by rw [Bd.returns] at h; cases h)
              refine ⟨_, _, retN X33 hx (t := .boolean) Bd.returns (by simp) (hb hby d1_50) hr, hrun, hended, _, _, rfl, ?_, rwMono hRW (by decide) (by decide)⟩
              show Q1 Z pv zc h0 n0 _ T33.heap _
              rw [e33]
              exact ⟨(by rw [fn1, if_neg hc1, if_pos hc20, if_neg hc21, if_pos hc30, if_pos hc31, if_neg hc34]), N33, K32⟩
          · refine Goes.by (fun _ k => XS.icmpNo X0.here hx rfl (hb hby d1_27) rfl (flt hc31).1 k) ?_
            show Goes p.tables e below (s₁.setTop (mkF m 30 #[.val (.int pv)] [])) _
            refine Goes.by (fun _ k => XS.iloadN X0.here hx rfl (hb hby d1_30) rfl k) ?_
            show Goes p.tables e below (s₁.setTop (mkF m 31 #[.val (.int pv)] [(.int pv)])) _
            refine Goes.by (fun _ k => XS.bipush X0.here hx rfl (hb hby d1_31) k) ?_
            show Goes p.tables e below (s₁.setTop (mkF m 33 #[.val (.int pv)] [(.int (57 : Int32)), (.int pv)])) _
            by_cases hc35 : (57 : Int32) < pv
            · refine Goes.by (fun _ k => XS.icmpNo X0.here hx rfl (hb hby d1_33) rfl (tlt hc35).2.2.2 k) ?_
              show Goes p.tables e below (s₁.setTop (mkF m 36 #[.val (.int pv)] [])) _
              obtain ⟨b36, T36, h36, k36, c36, kc36, X36, e36, E36, hS, hkq36, hZ, hown, Eb36, Fc36, Fv36, Av36, -, -, -, st36⟩ := ldcSV (s := s) (vm0 := s.vm) X0 hx hZ hown (hw _ (List.mem_of_getElem? (i := 5) rfl)) (own_wS hw) e0 hS hk (Fr.nil _) hkeep (IB.of_eq hI) List.not_mem_nil hheld hcw (vs := own_l.map Value.int) (z := 19) own_ht (by decide) rfl (g := (mkF m 36 #[.val (.int pv)] [])) rfl (hb hby d1_36) (n := 76) (by decide +kernel) (by decide) (by decide) (by decide)
              have Zs36 : n0 ≤ h36.size := Nat.le_trans Z0 E36.1
              have K36 : Keep h0 h36 [] := (Keep.refl h0 []).ext E36
              refine Goes.by st36 ?_
              have O : Old Z n0 h36 := O.ext E36
              have hk : Kle k36 h36 := hkq36
              have E_b36 : Exa Z h36 b36 "java/lang/String" := Eb36
              have F_b36_coder : Fld Z h36 b36 "java/lang/String" "coder" "B" (.int (0 : Int32)) := Fc36
              have F_b36_value : Fld Z h36 b36 "java/lang/String" "value" "[B" (.ref c36) := Fv36
              have A_c36 : AI Z h36 c36 .byte 19 own_txt := Ar.congr (Ar.of_arv Av36 (n := 19) (by decide)) fun j _ => own_at j
              show Goes p.tables e below (T36.setTop (mkF m 38 #[.val (.int pv)] [(.ref b36)])) _
              refine Goes.by (fun _ k => XS.iloadN X36.here hx rfl (hb hby d1_38) rfl k) ?_
              show Goes p.tables e below (T36.setTop (mkF m 39 #[.val (.int pv)] [(.int pv), (.ref b36)])) _
              obtain ⟨cq37, kq37, q37a, q37b, q37c⟩ := isOf hZ e36 E_b36
              obtain ⟨_, _, ⟨T37, L37, k37, n37⟩, -, X37, ⟨Lc37, hQ37, l37, y37, z37⟩, st37⟩ := X36.virtualBack hx (y := (⟨"java/lang/String", "indexOf", "(I)I"⟩ : MethodName)) (z := (⟨"java/lang/String", "indexOf", "(I)I"⟩ : MethodName)) hown (mvT hZ (hw _ (List.mem_of_getElem? (i := 13) rfl))) (mvT hZ (hw _ (List.mem_of_getElem? (i := 14) rfl))) (notFace_of_selects (args := #[]) (mvT hZ (hw _ (List.mem_of_getElem? (i := 16) rfl)))) (mvT hZ (hw _ (List.mem_of_getElem? (i := 16) rfl))) (mvT hZ (hw _ (List.mem_of_getElem? (i := 15) rfl))) (by decide) (backOf (W := 0) (rm2 l Z a0 hw [] b36 pv c36 zc h36 n0 Zs36 O S_cs hzc F_b36_coder F_b36_value E_b36 A_c36) hZ (hw _ (List.mem_of_getElem? (i := 17) rfl)) (hw _ (List.mem_of_getElem? (i := 6) rfl)) (by decide) (by decide)) q37a q37c (g := (mkF m 39 #[.val (.int pv)] [(.int pv), (.ref b36)])) rfl (by rw [hml]; rfl) (Steps.refl _) (argsL := [(.int pv)]) (rest := []) (lenOf pd_6 rfl) rfl (by show 2 * 0 + _ ≤ _; exact Nat.le_of_eq rfl) (hb hby d1_39) (fun _ _ => ⟨rfl, e36, (by decide : 2 + 0 ≤ _), (by decide : 80 + 0 ≤ _)⟩)
              dsimp only [Pt.U, Pt.locs, Pt.cells, Pt.slots] at X37 l37 y37 z37 st37 hQ37
              rw [l37, y37, z37] at X37
              obtain ⟨rfl, N37q, e37⟩ := hQ37
              have N37 := Fr.app N0 N37q
              refine Goes.via st37 ?_
              show Goes p.tables e below (T37.setTop (mkF m 42 #[.val (.int pv)] [(.int (fn7 pv))])) _
              by_cases hc38 : (fn7 pv) < (0 : Int32)
              · refine Goes.by (fun _ k => XS.ifYes X37.here hx rfl (pc0 := 42) (pc' := 49) rfl (hb hby d1_42) rfl ((if0 _ _).trans (tlt hc38).1) (by decide) (by decide) k) ?_
                show Goes p.tables e below (T37.setTop (mkF m 49 #[.val (.int pv)] [])) _
                refine Goes.by (fun _ k => XS.iconst X37.here hx rfl (hb hby d1_49) k) ?_
                show Goes p.tables e below (T37.setTop (mkF m 50 #[.val (.int pv)] [(.int (0 : Int32))])) _
                obtain ⟨fs, hr, hrun, hended, hRW⟩ := leaveW (s := s) (vm₁ := T36.vm) X37 hS (hk.at e37) (v := some (.int (0 : Int32))) (fun h => by rw [Bd.returns] at h; cases h)
                refine ⟨_, _, retN X37 hx (t := .boolean) Bd.returns (by simp) (hb hby d1_50) hr, hrun, hended, _, _, rfl, ?_, rwMono hRW (by decide) (by decide)⟩
                show Q1 Z pv zc h0 n0 _ T37.heap _
                rw [e37]
                exact ⟨(by rw [fn1, if_neg hc1, if_pos hc20, if_neg hc21, if_pos hc30, if_neg hc31, if_pos hc35, if_pos hc38]), N37, K36⟩
              · refine Goes.by (fun _ k => XS.ifNo X37.here hx rfl (hb hby d1_42) rfl ((if0 _ _).trans (flt hc38).1) k) ?_
                show Goes p.tables e below (T37.setTop (mkF m 45 #[.val (.int pv)] [])) _
                refine Goes.by (fun _ k => XS.iconst X37.here hx rfl (hb hby d1_45) k) ?_
                show Goes p.tables e below (T37.setTop (mkF m 46 #[.val (.int pv)] [(.int (1 : Int32))])) _
                refine Goes.by (fun _ k => XS.goto X37.here hx rfl (pc0 := 46) (pc' := 50) rfl (hb hby d1_46) (by decide) (by decide) k) ?_
                show Goes p.tables e below (T37.setTop (mkF m 50 #[.val (.int pv)] [(.int (1 : Int32))])) _
                obtain ⟨fs, hr, hrun, hended, hRW⟩ := leaveW (s := s) (vm₁ := T36.vm) X37 hS (hk.at e37) (v := some (.int (1 : Int32))) (fun h => by rw [Bd.returns] at h; cases h)
                refine ⟨_, _, retN X37 hx (t := .boolean) Bd.returns (by simp) (hb hby d1_50) hr, hrun, hended, _, _, rfl, ?_, rwMono hRW (by decide) (by decide)⟩
                show Q1 Z pv zc h0 n0 _ T37.heap _
                rw [e37]
                exact ⟨(by rw [fn1, if_neg hc1, if_pos hc20, if_neg hc21, if_pos hc30, if_neg hc31, if_pos hc35, if_neg hc38]), N37, K36⟩
            · refine Goes.by (fun _ k => XS.icmpYes X0.here hx rfl (pc0 := 33) (pc' := 45) rfl (hb hby d1_33) rfl (flt hc35).2.2.2 (by decide) (by decide) k) ?_
              show Goes p.tables e below (s₁.setTop (mkF m 45 #[.val (.int pv)] [])) _
              refine Goes.by (fun _ k => XS.iconst X0.here hx rfl (hb hby d1_45) k) ?_
              show Goes p.tables e below (s₁.setTop (mkF m 46 #[.val (.int pv)] [(.int (1 : Int32))])) _
              refine Goes.by (fun _ k => XS.goto X0.here hx rfl (pc0 := 46) (pc' := 50) rfl (hb hby d1_46) (by decide) (by decide) k) ?_
              show Goes p.tables e below (s₁.setTop (mkF m 50 #[.val (.int pv)] [(.int (1 : Int32))])) _
              obtain ⟨fs, hr, hrun, hended, hRW⟩ := leaveW (s := s) (vm₁ := s.vm) X0 hS (hk.at e0) (v := some (.int (1 : Int32))) (fun h => by rw [Bd.returns] at h; cases h)
              refine ⟨_, _, retN X0 hx (t := .boolean) Bd.returns (by simp) (hb hby d1_50) hr, hrun, hended, _, _, rfl, ?_, rwMono hRW (by decide) (by decide)⟩
              show Q1 Z pv zc h0 n0 _ s₁.heap _
              rw [e0]
              exact ⟨(by rw [fn1, if_neg hc1, if_pos hc20, if_neg hc21, if_pos hc30, if_neg hc31, if_neg hc35]), N0, (Keep.refl h0 [])⟩
        · refine Goes.by (fun _ k => XS.icmpYes X0.here hx rfl (pc0 := 21) (pc' := 45) rfl (hb hby d1_21) rfl (flt hc30).2.2.2 (by decide) (by decide) k) ?_
          show Goes p.tables e below (s₁.setTop (mkF m 45 #[.val (.int pv)] [])) _
          refine Goes.by (fun _ k => XS.iconst X0.here hx rfl (hb hby d1_45) k) ?_
          show Goes p.tables e below (s₁.setTop (mkF m 46 #[.val (.int pv)] [(.int (1 : Int32))])) _
          refine Goes.by (fun _ k => XS.goto X0.here hx rfl (pc0 := 46) (pc' := 50) rfl (hb hby d1_46) (by decide) (by decide) k) ?_
          show Goes p.tables e below (s₁.setTop (mkF m 50 #[.val (.int pv)] [(.int (1 : Int32))])) _
          obtain ⟨fs, hr, hrun, hended, hRW⟩ := leaveW (s := s) (vm₁ := s.vm) X0 hS (hk.at e0) (v := some (.int (1 : Int32))) (fun h => by rw [Bd.returns] at h; cases h)
          refine ⟨_, _, retN X0 hx (t := .boolean) Bd.returns (by simp) (hb hby d1_50) hr, hrun, hended, _, _, rfl, ?_, rwMono hRW (by decide) (by decide)⟩
          show Q1 Z pv zc h0 n0 _ s₁.heap _
          rw [e0]
          exact ⟨(by rw [fn1, if_neg hc1, if_pos hc20, if_neg hc21, if_neg hc30]), N0, (Keep.refl h0 [])⟩
    · refine Goes.by (fun _ k => XS.icmpYes X0.here hx rfl (pc0 := 9) (pc' := 45) rfl (hb hby d1_9) rfl (flt hc20).2.2.2 (by decide) (by decide) k) ?_
      show Goes p.tables e below (s₁.setTop (mkF m 45 #[.val (.int pv)] [])) _
      refine Goes.by (fun _ k => XS.iconst X0.here hx rfl (hb hby d1_45) k) ?_
      show Goes p.tables e below (s₁.setTop (mkF m 46 #[.val (.int pv)] [(.int (1 : Int32))])) _
      refine Goes.by (fun _ k => XS.goto X0.here hx rfl (pc0 := 46) (pc' := 50) rfl (hb hby d1_46) (by decide) (by decide) k) ?_
      show Goes p.tables e below (s₁.setTop (mkF m 50 #[.val (.int pv)] [(.int (1 : Int32))])) _
      obtain ⟨fs, hr, hrun, hended, hRW⟩ := leaveW (s := s) (vm₁ := s.vm) X0 hS (hk.at e0) (v := some (.int (1 : Int32))) (fun h => by rw [Bd.returns] at h; cases h)
      refine ⟨_, _, retN X0 hx (t := .boolean) Bd.returns (by simp) (hb hby d1_50) hr, hrun, hended, _, _, rfl, ?_, rwMono hRW (by decide) (by decide)⟩
      show Q1 Z pv zc h0 n0 _ s₁.heap _
      rw [e0]
      exact ⟨(by rw [fn1, if_neg hc1, if_neg hc20]), N0, (Keep.refl h0 [])⟩
theorem pd_7 : parseMethodDescriptor "(C)Z" = some ⟨[.char], some .boolean⟩ := by decide +kernel
def own_ex (x1 : Int32) : Int32 := (if x1 = (33 : Int32) then (1 : Int32) else (if x1 = (36 : Int32) then (1 : Int32) else (if x1 < (38 : Int32) then (if x1 = (61 : Int32) then (1 : Int32) else (if x1 < (63 : Int32) then (if x1 = (95 : Int32) then (1 : Int32) else (if x1 < (97 : Int32) then (if x1 = (126 : Int32) then (1 : Int32) else (0 : Int32)) else (if (122 : Int32) < x1 then (if x1 = (126 : Int32) then (1 : Int32) else (0 : Int32)) else (1 : Int32)))) else (if (90 : Int32) < x1 then (if x1 = (95 : Int32) then (1 : Int32) else (if x1 < (97 : Int32) then (if x1 = (126 : Int32) then (1 : Int32) else (0 : Int32)) else (if (122 : Int32) < x1 then (if x1 = (126 : Int32) then (1 : Int32) else (0 : Int32)) else (1 : Int32)))) else (1 : Int32)))) else (if (59 : Int32) < x1 then (if x1 = (61 : Int32) then (1 : Int32) else (if x1 < (63 : Int32) then (if x1 = (95 : Int32) then (1 : Int32) else (if x1 < (97 : Int32) then (if x1 = (126 : Int32) then (1 : Int32) else (0 : Int32)) else (if (122 : Int32) < x1 then (if x1 = (126 : Int32) then (1 : Int32) else (0 : Int32)) else (1 : Int32)))) else (if (90 : Int32) < x1 then (if x1 = (95 : Int32) then (1 : Int32) else (if x1 < (97 : Int32) then (if x1 = (126 : Int32) then (1 : Int32) else (0 : Int32)) else (if (122 : Int32) < x1 then (if x1 = (126 : Int32) then (1 : Int32) else (0 : Int32)) else (1 : Int32)))) else (1 : Int32)))) else (1 : Int32)))))
theorem own_small : ∀ k : Fin 256, fn1 (Int32.ofNat k.val) = own_ex (Int32.ofNat k.val) := by decide +kernel
theorem own_big (c : Int32) (h : 256 ≤ c.toInt) : fn1 c = 0 ∧ own_ex c = 0 := by
  have ne : ∀ z : Int32, z.toInt < 256 → ¬ c = z := fun z hz q => by rw [q] at h; omega
  have nl : ∀ z : Int32, z.toInt < 256 → ¬ c < z := fun z hz q => by rw [Int32.lt_iff_toInt_lt] at q; omega
  have gl : ∀ z : Int32, z.toInt < 256 → z < c := fun z hz => by rw [Int32.lt_iff_toInt_lt]; omega
  have f8 : fn8 c = 0 := by rw [fn8, if_neg (nl 0 (by decide)), if_pos (gl 255 (by decide))]
  have f7 : fn7 c = -1 := by rw [fn7, if_pos f8]
  constructor
  · simp only [fn1, f7, nl 97 (by decide), gl 122 (by decide), nl 65 (by decide), gl 90 (by decide), nl 48 (by decide), gl 57 (by decide), if_pos, if_neg, if_true, if_false]
    decide
  · simp only [own_ex, ne 33 (by decide), ne 36 (by decide), nl 38 (by decide), gl 59 (by decide), ne 61 (by decide), nl 63 (by decide), gl 90 (by decide), ne 95 (by decide), nl 97 (by decide), gl 122 (by decide), ne 126 (by decide), if_true, if_false]
theorem own_law (c : Int32) (h : 0 ≤ c.toInt) : fn1 c = own_ex c := by
  by_cases hb : c.toInt < 256
  · have q := own_small ⟨c.toInt.toNat, by omega⟩
    have e : Int32.ofNat c.toInt.toNat = c := by
      apply Int32.toInt_inj.mp
      rw [Int32.toInt_ofNat_of_lt (by omega)]
      omega
    rw [show (⟨c.toInt.toNat, _⟩ : Fin 256).val = c.toInt.toNat from rfl, e] at q
    exact q
  · rw [(own_big c (by omega)).1, (own_big c (by omega)).2]
theorem pn_3 : plainName "com/example/firm_quote/firmquote/server/UriTextIsUriCharacterPinLaw" = true := by first | (simp [plainName, overriddenIn]; done) | decide +kernel
theorem ef0 (m : MethodId) (px : Int32) : entryFrame m #[(.int px)] maxLocals = mkF m 0 #[.val (.int px), .unset, .unset, .unset] [] := by first | (simp [entryFrame, mkF, argsToLocals, Value.category, maxLocals]; done) | rfl
def Q0 (Z : State) (px : Int32) (zc : Int32) (h0 : Heap) (n0 : Nat) (v : Option Value) (h : Heap) (L : List Loc) : Prop := v = some (.int (1 : Int32)) ∧ Fr n0 L
set_option maxRecDepth 65536 in
set_option maxHeartbeats 40000000 in
theorem rm0 (l : Launch) (Z : State) (a0 : Array Value) (hw : ∀ d ∈ tables_1, d.before a0 Z = true) (ws : List Jvm.Cond) (px : Int32) (zc : Int32) (h0 : Heap) (n0 : Nat) (Z0 : n0 ≤ h0.size) (O : Old Z n0 h0) (S_cs : Sta Z Z.heap "java/lang/String" "COMPACT_STRINGS" "Z" (.int zc)) (hzc : ¬ zc = 0) (hheld : Jvm.Lit.constHeld Z "com/example/firm_quote/firmquote/server/UriText" 37) (hcw : Jvm.Lit.compactW.before a0 Z = true) :
    MetFree l x (head1 (Jvm.Cond.code x code maxLocals ret :: ws) room_1) (fun a U => a = #[(.int px)] ∧ Z.Warmed39 U.vm ∧ U.heap = h0 ∧ U.vm.interned = Z.vm.interned) (fun _ _ _ _ _ => True) (fun _ U o U' => ∃ v L, o = .returned v ∧ Q0 Z px zc h0 n0 v U'.heap L ∧ ReturnedEndW U o U' L room_1.cells room_1.slots) := by
  refine MetFree.of_bodySF (plainFor_of_name pn_3) hisR ?_
  intro p e s m args below meth c s₁ Bd hml0 hP hK
  obtain ⟨rfl, hZ, hh, hI⟩ := hP
  have hx := Bd.exec
  have hby := Bd.bytes
  have hml : c.maxLocals = 4 := hml0
  have hown : s.vm.findClass "com/example/firm_quote/firmquote/server/UriTextIsUriCharacterPinLaw" = some m.cls := findClass_of_methodNamed Bd.named
  have hnm := (name_of_methodNamed Bd.named Bd.method).1
  have X0 : Stand p l e room_1 s m #[(.int px)] below meth c s₁ [] 0 0 := Stand.of_body Bd
  have e0 : s₁.heap = h0 := by rw [← hh, Bd.state]; rfl
  have N0 := Fr.nil n0
  refine Goes.by (fun _ k => castTop (ef0 m px) k) ?_
  have hS : s.Since s.vm 0 := (State.WarmedH.refl s).since 0
  have hk : Kle 0 h0 := Nat.zero_le _
  show Goes p.tables e below (s₁.setTop (mkF m 0 #[.val (.int px), .unset, .unset, .unset] [])) _
  refine Goes.by (fun _ k => XS.iloadN X0.here hx rfl (hb hby at_0) rfl k) ?_
  show Goes p.tables e below (s₁.setTop (mkF m 1 #[.val (.int px), .unset, .unset, .unset] [(.int px)])) _
  refine Goes.by (fun _ k => X0.ldcI hx hown (mvT hZ (hw _ (List.mem_of_getElem? (i := 0) rfl))) (g := (mkF m 1 #[.val (.int px), .unset, .unset, .unset] [(.int px)])) rfl (hb hby at_1) k) ?_
  show Goes p.tables e below (s₁.setTop (mkF m 3 #[.val (.int px), .unset, .unset, .unset] [(.int (65535 : Int32)), (.int px)])) _
  refine Goes.by (fun _ k => XS.iand X0.here hx rfl (hb hby at_3) rfl k) ?_
  show Goes p.tables e below (s₁.setTop (mkF m 4 #[.val (.int px), .unset, .unset, .unset] [(.int (px &&& (65535 : Int32)))])) _
  refine Goes.by (fun _ k => XS.i2c X0.here hx rfl (hb hby at_4) rfl k) ?_
  show Goes p.tables e below (s₁.setTop (mkF m 5 #[.val (.int px), .unset, .unset, .unset] [(.int ((px &&& (65535 : Int32)).toUInt32.toUInt16.toUInt32.toInt32))])) _
  obtain ⟨x1, hx1⟩ : ∃ z : Int32, z = ((px &&& (65535 : Int32)).toUInt32.toUInt16.toUInt32.toInt32) := ⟨_, rfl⟩
  refine Goes.by (fun _ k => XS.istoreN X0.here hx rfl (hb hby at_5) rfl (l' := #[.val (.int px), .val (.int x1), .unset, .unset]) (by rw [hx1]; rfl) k) ?_
  show Goes p.tables e below (s₁.setTop (mkF m 6 #[.val (.int px), .val (.int x1), .unset, .unset] [])) _
  refine Goes.by (fun _ k => XS.iloadN X0.here hx rfl (hb hby at_6) rfl k) ?_
  show Goes p.tables e below (s₁.setTop (mkF m 7 #[.val (.int px), .val (.int x1), .unset, .unset] [(.int x1)])) _
  refine Goes.by (fun _ k => XS.istoreN X0.here hx rfl (hb hby at_7) rfl (l' := #[.val (.int px), .val (.int x1), .val (.int x1), .unset]) rfl k) ?_
  show Goes p.tables e below (s₁.setTop (mkF m 8 #[.val (.int px), .val (.int x1), .val (.int x1), .unset] [])) _
  refine Goes.by (fun _ k => XS.iloadN X0.here hx rfl (hb hby at_8) rfl k) ?_
  show Goes p.tables e below (s₁.setTop (mkF m 9 #[.val (.int px), .val (.int x1), .val (.int x1), .unset] [(.int x1)])) _
  refine Goes.by (fun _ k => XS.bipush X0.here hx rfl (hb hby at_9) k) ?_
  show Goes p.tables e below (s₁.setTop (mkF m 11 #[.val (.int px), .val (.int x1), .val (.int x1), .unset] [(.int (33 : Int32)), (.int x1)])) _
  obtain ⟨v2, hv2⟩ : ∃ z : Int32, z = (if x1 = (33 : Int32) then (1 : Int32) else (if x1 = (36 : Int32) then (1 : Int32) else (if x1 < (38 : Int32) then (if x1 = (61 : Int32) then (1 : Int32) else (if x1 < (63 : Int32) then (if x1 = (95 : Int32) then (1 : Int32) else (if x1 < (97 : Int32) then (if x1 = (126 : Int32) then (1 : Int32) else (0 : Int32)) else (if (122 : Int32) < x1 then (if x1 = (126 : Int32) then (1 : Int32) else (0 : Int32)) else (1 : Int32)))) else (if (90 : Int32) < x1 then (if x1 = (95 : Int32) then (1 : Int32) else (if x1 < (97 : Int32) then (if x1 = (126 : Int32) then (1 : Int32) else (0 : Int32)) else (if (122 : Int32) < x1 then (if x1 = (126 : Int32) then (1 : Int32) else (0 : Int32)) else (1 : Int32)))) else (1 : Int32)))) else (if (59 : Int32) < x1 then (if x1 = (61 : Int32) then (1 : Int32) else (if x1 < (63 : Int32) then (if x1 = (95 : Int32) then (1 : Int32) else (if x1 < (97 : Int32) then (if x1 = (126 : Int32) then (1 : Int32) else (0 : Int32)) else (if (122 : Int32) < x1 then (if x1 = (126 : Int32) then (1 : Int32) else (0 : Int32)) else (1 : Int32)))) else (if (90 : Int32) < x1 then (if x1 = (95 : Int32) then (1 : Int32) else (if x1 < (97 : Int32) then (if x1 = (126 : Int32) then (1 : Int32) else (0 : Int32)) else (if (122 : Int32) < x1 then (if x1 = (126 : Int32) then (1 : Int32) else (0 : Int32)) else (1 : Int32)))) else (1 : Int32)))) else (1 : Int32))))) := ⟨_, rfl⟩
  refine Goes.by (t' := s₁.setTop (mkF m 79 #[.val (.int px), .val (.int x1), .val (.int x1), .unset] [(.int v2)])) (fun u k => ?_) ?_
  · show Steps p.tables e below (s₁.setTop (mkF m 11 #[.val (.int px), .val (.int x1), .val (.int x1), .unset] [(.int (33 : Int32)), (.int x1)])) _
    by_cases hc3 : x1 = (33 : Int32)
    · refine XS.icmpYes X0.here hx rfl (pc0 := 11) (pc' := 74) rfl (hb hby at_11) rfl (teq hc3).1 (by decide) (by decide) ?_
      show Steps p.tables e below (s₁.setTop (mkF m 74 #[.val (.int px), .val (.int x1), .val (.int x1), .unset] [])) _
      refine XS.iconst X0.here hx rfl (hb hby at_74) ?_
      show Steps p.tables e below (s₁.setTop (mkF m 75 #[.val (.int px), .val (.int x1), .val (.int x1), .unset] [(.int (1 : Int32))])) _
      refine XS.goto X0.here hx rfl (pc0 := 75) (pc' := 79) rfl (hb hby at_75) (by decide) (by decide) ?_
      show Steps p.tables e below (s₁.setTop (mkF m 79 #[.val (.int px), .val (.int x1), .val (.int x1), .unset] [(.int (1 : Int32))])) _
      have qv2 : v2 = (1 : Int32) := by rw [hv2, if_pos hc3]
      subst qv2
      exact k
    · refine XS.icmpNo X0.here hx rfl (hb hby at_11) rfl (feq hc3).1 ?_
      show Steps p.tables e below (s₁.setTop (mkF m 14 #[.val (.int px), .val (.int x1), .val (.int x1), .unset] [])) _
      refine XS.iloadN X0.here hx rfl (hb hby at_14) rfl ?_
      show Steps p.tables e below (s₁.setTop (mkF m 15 #[.val (.int px), .val (.int x1), .val (.int x1), .unset] [(.int x1)])) _
      refine XS.bipush X0.here hx rfl (hb hby at_15) ?_
      show Steps p.tables e below (s₁.setTop (mkF m 17 #[.val (.int px), .val (.int x1), .val (.int x1), .unset] [(.int (36 : Int32)), (.int x1)])) _
      by_cases hc4 : x1 = (36 : Int32)
      · refine XS.icmpYes X0.here hx rfl (pc0 := 17) (pc' := 74) rfl (hb hby at_17) rfl (teq hc4).1 (by decide) (by decide) ?_
        show Steps p.tables e below (s₁.setTop (mkF m 74 #[.val (.int px), .val (.int x1), .val (.int x1), .unset] [])) _
        refine XS.iconst X0.here hx rfl (hb hby at_74) ?_
        show Steps p.tables e below (s₁.setTop (mkF m 75 #[.val (.int px), .val (.int x1), .val (.int x1), .unset] [(.int (1 : Int32))])) _
        refine XS.goto X0.here hx rfl (pc0 := 75) (pc' := 79) rfl (hb hby at_75) (by decide) (by decide) ?_
        show Steps p.tables e below (s₁.setTop (mkF m 79 #[.val (.int px), .val (.int x1), .val (.int x1), .unset] [(.int (1 : Int32))])) _
        have qv2 : v2 = (1 : Int32) := by rw [hv2, if_neg hc3, if_pos hc4]
        subst qv2
        exact k
      · refine XS.icmpNo X0.here hx rfl (hb hby at_17) rfl (feq hc4).1 ?_
        show Steps p.tables e below (s₁.setTop (mkF m 20 #[.val (.int px), .val (.int x1), .val (.int x1), .unset] [])) _
        refine XS.iloadN X0.here hx rfl (hb hby at_20) rfl ?_
        show Steps p.tables e below (s₁.setTop (mkF m 21 #[.val (.int px), .val (.int x1), .val (.int x1), .unset] [(.int x1)])) _
        refine XS.bipush X0.here hx rfl (hb hby at_21) ?_
        show Steps p.tables e below (s₁.setTop (mkF m 23 #[.val (.int px), .val (.int x1), .val (.int x1), .unset] [(.int (38 : Int32)), (.int x1)])) _
        by_cases hc5 : x1 < (38 : Int32)
        · refine XS.icmpYes X0.here hx rfl (pc0 := 23) (pc' := 32) rfl (hb hby at_23) rfl (tlt hc5).1 (by decide) (by decide) ?_
          show Steps p.tables e below (s₁.setTop (mkF m 32 #[.val (.int px), .val (.int x1), .val (.int x1), .unset] [])) _
          refine XS.iloadN X0.here hx rfl (hb hby at_32) rfl ?_
          show Steps p.tables e below (s₁.setTop (mkF m 33 #[.val (.int px), .val (.int x1), .val (.int x1), .unset] [(.int x1)])) _
          refine XS.bipush X0.here hx rfl (hb hby at_33) ?_
          show Steps p.tables e below (s₁.setTop (mkF m 35 #[.val (.int px), .val (.int x1), .val (.int x1), .unset] [(.int (61 : Int32)), (.int x1)])) _
          by_cases hc6 : x1 = (61 : Int32)
          · refine XS.icmpYes X0.here hx rfl (pc0 := 35) (pc' := 74) rfl (hb hby at_35) rfl (teq hc6).1 (by decide) (by decide) ?_
            show Steps p.tables e below (s₁.setTop (mkF m 74 #[.val (.int px), .val (.int x1), .val (.int x1), .unset] [])) _
            refine XS.iconst X0.here hx rfl (hb hby at_74) ?_
            show Steps p.tables e below (s₁.setTop (mkF m 75 #[.val (.int px), .val (.int x1), .val (.int x1), .unset] [(.int (1 : Int32))])) _
            refine XS.goto X0.here hx rfl (pc0 := 75) (pc' := 79) rfl (hb hby at_75) (by decide) (by decide) ?_
            show Steps p.tables e below (s₁.setTop (mkF m 79 #[.val (.int px), .val (.int x1), .val (.int x1), .unset] [(.int (1 : Int32))])) _
            have qv2 : v2 = (1 : Int32) := by rw [hv2, if_neg hc3, if_neg hc4, if_pos hc5, if_pos hc6]
            subst qv2
            exact k
          · refine XS.icmpNo X0.here hx rfl (hb hby at_35) rfl (feq hc6).1 ?_
            show Steps p.tables e below (s₁.setTop (mkF m 38 #[.val (.int px), .val (.int x1), .val (.int x1), .unset] [])) _
            refine XS.iloadN X0.here hx rfl (hb hby at_38) rfl ?_
            show Steps p.tables e below (s₁.setTop (mkF m 39 #[.val (.int px), .val (.int x1), .val (.int x1), .unset] [(.int x1)])) _
            refine XS.bipush X0.here hx rfl (hb hby at_39) ?_
            show Steps p.tables e below (s₁.setTop (mkF m 41 #[.val (.int px), .val (.int x1), .val (.int x1), .unset] [(.int (63 : Int32)), (.int x1)])) _
            by_cases hc7 : x1 < (63 : Int32)
            · refine XS.icmpYes X0.here hx rfl (pc0 := 41) (pc' := 50) rfl (hb hby at_41) rfl (tlt hc7).1 (by decide) (by decide) ?_
              show Steps p.tables e below (s₁.setTop (mkF m 50 #[.val (.int px), .val (.int x1), .val (.int x1), .unset] [])) _
              refine XS.iloadN X0.here hx rfl (hb hby at_50) rfl ?_
              show Steps p.tables e below (s₁.setTop (mkF m 51 #[.val (.int px), .val (.int x1), .val (.int x1), .unset] [(.int x1)])) _
              refine XS.bipush X0.here hx rfl (hb hby at_51) ?_
              show Steps p.tables e below (s₁.setTop (mkF m 53 #[.val (.int px), .val (.int x1), .val (.int x1), .unset] [(.int (95 : Int32)), (.int x1)])) _
              by_cases hc8 : x1 = (95 : Int32)
              · refine XS.icmpYes X0.here hx rfl (pc0 := 53) (pc' := 74) rfl (hb hby at_53) rfl (teq hc8).1 (by decide) (by decide) ?_
                show Steps p.tables e below (s₁.setTop (mkF m 74 #[.val (.int px), .val (.int x1), .val (.int x1), .unset] [])) _
                refine XS.iconst X0.here hx rfl (hb hby at_74) ?_
                show Steps p.tables e below (s₁.setTop (mkF m 75 #[.val (.int px), .val (.int x1), .val (.int x1), .unset] [(.int (1 : Int32))])) _
                refine XS.goto X0.here hx rfl (pc0 := 75) (pc' := 79) rfl (hb hby at_75) (by decide) (by decide) ?_
                show Steps p.tables e below (s₁.setTop (mkF m 79 #[.val (.int px), .val (.int x1), .val (.int x1), .unset] [(.int (1 : Int32))])) _
                have qv2 : v2 = (1 : Int32) := by rw [hv2, if_neg hc3, if_neg hc4, if_pos hc5, if_neg hc6, if_pos hc7, if_pos hc8]
                subst qv2
                exact k
              · refine XS.icmpNo X0.here hx rfl (hb hby at_53) rfl (feq hc8).1 ?_
                show Steps p.tables e below (s₁.setTop (mkF m 56 #[.val (.int px), .val (.int x1), .val (.int x1), .unset] [])) _
                refine XS.iloadN X0.here hx rfl (hb hby at_56) rfl ?_
                show Steps p.tables e below (s₁.setTop (mkF m 57 #[.val (.int px), .val (.int x1), .val (.int x1), .unset] [(.int x1)])) _
                refine XS.bipush X0.here hx rfl (hb hby at_57) ?_
                show Steps p.tables e below (s₁.setTop (mkF m 59 #[.val (.int px), .val (.int x1), .val (.int x1), .unset] [(.int (97 : Int32)), (.int x1)])) _
                by_cases hc9 : x1 < (97 : Int32)
                · refine XS.icmpYes X0.here hx rfl (pc0 := 59) (pc' := 68) rfl (hb hby at_59) rfl (tlt hc9).1 (by decide) (by decide) ?_
                  show Steps p.tables e below (s₁.setTop (mkF m 68 #[.val (.int px), .val (.int x1), .val (.int x1), .unset] [])) _
                  refine XS.iloadN X0.here hx rfl (hb hby at_68) rfl ?_
                  show Steps p.tables e below (s₁.setTop (mkF m 69 #[.val (.int px), .val (.int x1), .val (.int x1), .unset] [(.int x1)])) _
                  refine XS.bipush X0.here hx rfl (hb hby at_69) ?_
                  show Steps p.tables e below (s₁.setTop (mkF m 71 #[.val (.int px), .val (.int x1), .val (.int x1), .unset] [(.int (126 : Int32)), (.int x1)])) _
                  by_cases hc10 : x1 = (126 : Int32)
                  · refine XS.icmpNo X0.here hx rfl (hb hby at_71) rfl (teq hc10).2 ?_
                    show Steps p.tables e below (s₁.setTop (mkF m 74 #[.val (.int px), .val (.int x1), .val (.int x1), .unset] [])) _
                    refine XS.iconst X0.here hx rfl (hb hby at_74) ?_
                    show Steps p.tables e below (s₁.setTop (mkF m 75 #[.val (.int px), .val (.int x1), .val (.int x1), .unset] [(.int (1 : Int32))])) _
                    refine XS.goto X0.here hx rfl (pc0 := 75) (pc' := 79) rfl (hb hby at_75) (by decide) (by decide) ?_
                    show Steps p.tables e below (s₁.setTop (mkF m 79 #[.val (.int px), .val (.int x1), .val (.int x1), .unset] [(.int (1 : Int32))])) _
                    have qv2 : v2 = (1 : Int32) := by rw [hv2, if_neg hc3, if_neg hc4, if_pos hc5, if_neg hc6, if_pos hc7, if_neg hc8, if_pos hc9, if_pos hc10]
                    subst qv2
                    exact k
                  · refine XS.icmpYes X0.here hx rfl (pc0 := 71) (pc' := 78) rfl (hb hby at_71) rfl (feq hc10).2 (by decide) (by decide) ?_
                    show Steps p.tables e below (s₁.setTop (mkF m 78 #[.val (.int px), .val (.int x1), .val (.int x1), .unset] [])) _
                    refine XS.iconst X0.here hx rfl (hb hby at_78) ?_
                    show Steps p.tables e below (s₁.setTop (mkF m 79 #[.val (.int px), .val (.int x1), .val (.int x1), .unset] [(.int (0 : Int32))])) _
                    have qv2 : v2 = (0 : Int32) := by rw [hv2, if_neg hc3, if_neg hc4, if_pos hc5, if_neg hc6, if_pos hc7, if_neg hc8, if_pos hc9, if_neg hc10]
                    subst qv2
                    exact k
                · refine XS.icmpNo X0.here hx rfl (hb hby at_59) rfl (flt hc9).1 ?_
                  show Steps p.tables e below (s₁.setTop (mkF m 62 #[.val (.int px), .val (.int x1), .val (.int x1), .unset] [])) _
                  refine XS.iloadN X0.here hx rfl (hb hby at_62) rfl ?_
                  show Steps p.tables e below (s₁.setTop (mkF m 63 #[.val (.int px), .val (.int x1), .val (.int x1), .unset] [(.int x1)])) _
                  refine XS.bipush X0.here hx rfl (hb hby at_63) ?_
                  show Steps p.tables e below (s₁.setTop (mkF m 65 #[.val (.int px), .val (.int x1), .val (.int x1), .unset] [(.int (122 : Int32)), (.int x1)])) _
                  by_cases hc11 : (122 : Int32) < x1
                  · refine XS.icmpNo X0.here hx rfl (hb hby at_65) rfl (tlt hc11).2.2.2 ?_
                    show Steps p.tables e below (s₁.setTop (mkF m 68 #[.val (.int px), .val (.int x1), .val (.int x1), .unset] [])) _
                    refine XS.iloadN X0.here hx rfl (hb hby at_68) rfl ?_
                    show Steps p.tables e below (s₁.setTop (mkF m 69 #[.val (.int px), .val (.int x1), .val (.int x1), .unset] [(.int x1)])) _
                    refine XS.bipush X0.here hx rfl (hb hby at_69) ?_
                    show Steps p.tables e below (s₁.setTop (mkF m 71 #[.val (.int px), .val (.int x1), .val (.int x1), .unset] [(.int (126 : Int32)), (.int x1)])) _
                    by_cases hc12 : x1 = (126 : Int32)
                    · refine XS.icmpNo X0.here hx rfl (hb hby at_71) rfl (teq hc12).2 ?_
                      show Steps p.tables e below (s₁.setTop (mkF m 74 #[.val (.int px), .val (.int x1), .val (.int x1), .unset] [])) _
                      refine XS.iconst X0.here hx rfl (hb hby at_74) ?_
                      show Steps p.tables e below (s₁.setTop (mkF m 75 #[.val (.int px), .val (.int x1), .val (.int x1), .unset] [(.int (1 : Int32))])) _
                      refine XS.goto X0.here hx rfl (pc0 := 75) (pc' := 79) rfl (hb hby at_75) (by decide) (by decide) ?_
                      show Steps p.tables e below (s₁.setTop (mkF m 79 #[.val (.int px), .val (.int x1), .val (.int x1), .unset] [(.int (1 : Int32))])) _
                      have qv2 : v2 = (1 : Int32) := by rw [hv2, if_neg hc3, if_neg hc4, if_pos hc5, if_neg hc6, if_pos hc7, if_neg hc8, if_neg hc9, if_pos hc11, if_pos hc12]
                      subst qv2
                      exact k
                    · refine XS.icmpYes X0.here hx rfl (pc0 := 71) (pc' := 78) rfl (hb hby at_71) rfl (feq hc12).2 (by decide) (by decide) ?_
                      show Steps p.tables e below (s₁.setTop (mkF m 78 #[.val (.int px), .val (.int x1), .val (.int x1), .unset] [])) _
                      refine XS.iconst X0.here hx rfl (hb hby at_78) ?_
                      show Steps p.tables e below (s₁.setTop (mkF m 79 #[.val (.int px), .val (.int x1), .val (.int x1), .unset] [(.int (0 : Int32))])) _
                      have qv2 : v2 = (0 : Int32) := by rw [hv2, if_neg hc3, if_neg hc4, if_pos hc5, if_neg hc6, if_pos hc7, if_neg hc8, if_neg hc9, if_pos hc11, if_neg hc12]
                      subst qv2
                      exact k
                  · refine XS.icmpYes X0.here hx rfl (pc0 := 65) (pc' := 74) rfl (hb hby at_65) rfl (flt hc11).2.2.2 (by decide) (by decide) ?_
                    show Steps p.tables e below (s₁.setTop (mkF m 74 #[.val (.int px), .val (.int x1), .val (.int x1), .unset] [])) _
                    refine XS.iconst X0.here hx rfl (hb hby at_74) ?_
                    show Steps p.tables e below (s₁.setTop (mkF m 75 #[.val (.int px), .val (.int x1), .val (.int x1), .unset] [(.int (1 : Int32))])) _
                    refine XS.goto X0.here hx rfl (pc0 := 75) (pc' := 79) rfl (hb hby at_75) (by decide) (by decide) ?_
                    show Steps p.tables e below (s₁.setTop (mkF m 79 #[.val (.int px), .val (.int x1), .val (.int x1), .unset] [(.int (1 : Int32))])) _
                    have qv2 : v2 = (1 : Int32) := by rw [hv2, if_neg hc3, if_neg hc4, if_pos hc5, if_neg hc6, if_pos hc7, if_neg hc8, if_neg hc9, if_neg hc11]
                    subst qv2
                    exact k
            · refine XS.icmpNo X0.here hx rfl (hb hby at_41) rfl (flt hc7).1 ?_
              show Steps p.tables e below (s₁.setTop (mkF m 44 #[.val (.int px), .val (.int x1), .val (.int x1), .unset] [])) _
              refine XS.iloadN X0.here hx rfl (hb hby at_44) rfl ?_
              show Steps p.tables e below (s₁.setTop (mkF m 45 #[.val (.int px), .val (.int x1), .val (.int x1), .unset] [(.int x1)])) _
              refine XS.bipush X0.here hx rfl (hb hby at_45) ?_
              show Steps p.tables e below (s₁.setTop (mkF m 47 #[.val (.int px), .val (.int x1), .val (.int x1), .unset] [(.int (90 : Int32)), (.int x1)])) _
              by_cases hc13 : (90 : Int32) < x1
              · refine XS.icmpNo X0.here hx rfl (hb hby at_47) rfl (tlt hc13).2.2.2 ?_
                show Steps p.tables e below (s₁.setTop (mkF m 50 #[.val (.int px), .val (.int x1), .val (.int x1), .unset] [])) _
                refine XS.iloadN X0.here hx rfl (hb hby at_50) rfl ?_
                show Steps p.tables e below (s₁.setTop (mkF m 51 #[.val (.int px), .val (.int x1), .val (.int x1), .unset] [(.int x1)])) _
                refine XS.bipush X0.here hx rfl (hb hby at_51) ?_
                show Steps p.tables e below (s₁.setTop (mkF m 53 #[.val (.int px), .val (.int x1), .val (.int x1), .unset] [(.int (95 : Int32)), (.int x1)])) _
                by_cases hc14 : x1 = (95 : Int32)
                · refine XS.icmpYes X0.here hx rfl (pc0 := 53) (pc' := 74) rfl (hb hby at_53) rfl (teq hc14).1 (by decide) (by decide) ?_
                  show Steps p.tables e below (s₁.setTop (mkF m 74 #[.val (.int px), .val (.int x1), .val (.int x1), .unset] [])) _
                  refine XS.iconst X0.here hx rfl (hb hby at_74) ?_
                  show Steps p.tables e below (s₁.setTop (mkF m 75 #[.val (.int px), .val (.int x1), .val (.int x1), .unset] [(.int (1 : Int32))])) _
                  refine XS.goto X0.here hx rfl (pc0 := 75) (pc' := 79) rfl (hb hby at_75) (by decide) (by decide) ?_
                  show Steps p.tables e below (s₁.setTop (mkF m 79 #[.val (.int px), .val (.int x1), .val (.int x1), .unset] [(.int (1 : Int32))])) _
                  have qv2 : v2 = (1 : Int32) := by rw [hv2, if_neg hc3, if_neg hc4, if_pos hc5, if_neg hc6, if_neg hc7, if_pos hc13, if_pos hc14]
                  subst qv2
                  exact k
                · refine XS.icmpNo X0.here hx rfl (hb hby at_53) rfl (feq hc14).1 ?_
                  show Steps p.tables e below (s₁.setTop (mkF m 56 #[.val (.int px), .val (.int x1), .val (.int x1), .unset] [])) _
                  refine XS.iloadN X0.here hx rfl (hb hby at_56) rfl ?_
                  show Steps p.tables e below (s₁.setTop (mkF m 57 #[.val (.int px), .val (.int x1), .val (.int x1), .unset] [(.int x1)])) _
                  refine XS.bipush X0.here hx rfl (hb hby at_57) ?_
                  show Steps p.tables e below (s₁.setTop (mkF m 59 #[.val (.int px), .val (.int x1), .val (.int x1), .unset] [(.int (97 : Int32)), (.int x1)])) _
                  by_cases hc15 : x1 < (97 : Int32)
                  · refine XS.icmpYes X0.here hx rfl (pc0 := 59) (pc' := 68) rfl (hb hby at_59) rfl (tlt hc15).1 (by decide) (by decide) ?_
                    show Steps p.tables e below (s₁.setTop (mkF m 68 #[.val (.int px), .val (.int x1), .val (.int x1), .unset] [])) _
                    refine XS.iloadN X0.here hx rfl (hb hby at_68) rfl ?_
                    show Steps p.tables e below (s₁.setTop (mkF m 69 #[.val (.int px), .val (.int x1), .val (.int x1), .unset] [(.int x1)])) _
                    refine XS.bipush X0.here hx rfl (hb hby at_69) ?_
                    show Steps p.tables e below (s₁.setTop (mkF m 71 #[.val (.int px), .val (.int x1), .val (.int x1), .unset] [(.int (126 : Int32)), (.int x1)])) _
                    by_cases hc16 : x1 = (126 : Int32)
                    · refine XS.icmpNo X0.here hx rfl (hb hby at_71) rfl (teq hc16).2 ?_
                      show Steps p.tables e below (s₁.setTop (mkF m 74 #[.val (.int px), .val (.int x1), .val (.int x1), .unset] [])) _
                      refine XS.iconst X0.here hx rfl (hb hby at_74) ?_
                      show Steps p.tables e below (s₁.setTop (mkF m 75 #[.val (.int px), .val (.int x1), .val (.int x1), .unset] [(.int (1 : Int32))])) _
                      refine XS.goto X0.here hx rfl (pc0 := 75) (pc' := 79) rfl (hb hby at_75) (by decide) (by decide) ?_
                      show Steps p.tables e below (s₁.setTop (mkF m 79 #[.val (.int px), .val (.int x1), .val (.int x1), .unset] [(.int (1 : Int32))])) _
                      have qv2 : v2 = (1 : Int32) := by rw [hv2, if_neg hc3, if_neg hc4, if_pos hc5, if_neg hc6, if_neg hc7, if_pos hc13, if_neg hc14, if_pos hc15, if_pos hc16]
                      subst qv2
                      exact k
                    · refine XS.icmpYes X0.here hx rfl (pc0 := 71) (pc' := 78) rfl (hb hby at_71) rfl (feq hc16).2 (by decide) (by decide) ?_
                      show Steps p.tables e below (s₁.setTop (mkF m 78 #[.val (.int px), .val (.int x1), .val (.int x1), .unset] [])) _
                      refine XS.iconst X0.here hx rfl (hb hby at_78) ?_
                      show Steps p.tables e below (s₁.setTop (mkF m 79 #[.val (.int px), .val (.int x1), .val (.int x1), .unset] [(.int (0 : Int32))])) _
                      have qv2 : v2 = (0 : Int32) := by rw [hv2, if_neg hc3, if_neg hc4, if_pos hc5, if_neg hc6, if_neg hc7, if_pos hc13, if_neg hc14, if_pos hc15, if_neg hc16]
                      subst qv2
                      exact k
                  · refine XS.icmpNo X0.here hx rfl (hb hby at_59) rfl (flt hc15).1 ?_
                    show Steps p.tables e below (s₁.setTop (mkF m 62 #[.val (.int px), .val (.int x1), .val (.int x1), .unset] [])) _
                    refine XS.iloadN X0.here hx rfl (hb hby at_62) rfl ?_
                    show Steps p.tables e below (s₁.setTop (mkF m 63 #[.val (.int px), .val (.int x1), .val (.int x1), .unset] [(.int x1)])) _
                    refine XS.bipush X0.here hx rfl (hb hby at_63) ?_
                    show Steps p.tables e below (s₁.setTop (mkF m 65 #[.val (.int px), .val (.int x1), .val (.int x1), .unset] [(.int (122 : Int32)), (.int x1)])) _
                    by_cases hc17 : (122 : Int32) < x1
                    · refine XS.icmpNo X0.here hx rfl (hb hby at_65) rfl (tlt hc17).2.2.2 ?_
                      show Steps p.tables e below (s₁.setTop (mkF m 68 #[.val (.int px), .val (.int x1), .val (.int x1), .unset] [])) _
                      refine XS.iloadN X0.here hx rfl (hb hby at_68) rfl ?_
                      show Steps p.tables e below (s₁.setTop (mkF m 69 #[.val (.int px), .val (.int x1), .val (.int x1), .unset] [(.int x1)])) _
                      refine XS.bipush X0.here hx rfl (hb hby at_69) ?_
                      show Steps p.tables e below (s₁.setTop (mkF m 71 #[.val (.int px), .val (.int x1), .val (.int x1), .unset] [(.int (126 : Int32)), (.int x1)])) _
                      by_cases hc18 : x1 = (126 : Int32)
                      · refine XS.icmpNo X0.here hx rfl (hb hby at_71) rfl (teq hc18).2 ?_
                        show Steps p.tables e below (s₁.setTop (mkF m 74 #[.val (.int px), .val (.int x1), .val (.int x1), .unset] [])) _
                        refine XS.iconst X0.here hx rfl (hb hby at_74) ?_
                        show Steps p.tables e below (s₁.setTop (mkF m 75 #[.val (.int px), .val (.int x1), .val (.int x1), .unset] [(.int (1 : Int32))])) _
                        refine XS.goto X0.here hx rfl (pc0 := 75) (pc' := 79) rfl (hb hby at_75) (by decide) (by decide) ?_
                        show Steps p.tables e below (s₁.setTop (mkF m 79 #[.val (.int px), .val (.int x1), .val (.int x1), .unset] [(.int (1 : Int32))])) _
                        have qv2 : v2 = (1 : Int32) := by rw [hv2, if_neg hc3, if_neg hc4, if_pos hc5, if_neg hc6, if_neg hc7, if_pos hc13, if_neg hc14, if_neg hc15, if_pos hc17, if_pos hc18]
                        subst qv2
                        exact k
                      · refine XS.icmpYes X0.here hx rfl (pc0 := 71) (pc' := 78) rfl (hb hby at_71) rfl (feq hc18).2 (by decide) (by decide) ?_
                        show Steps p.tables e below (s₁.setTop (mkF m 78 #[.val (.int px), .val (.int x1), .val (.int x1), .unset] [])) _
                        refine XS.iconst X0.here hx rfl (hb hby at_78) ?_
                        show Steps p.tables e below (s₁.setTop (mkF m 79 #[.val (.int px), .val (.int x1), .val (.int x1), .unset] [(.int (0 : Int32))])) _
                        have qv2 : v2 = (0 : Int32) := by rw [hv2, if_neg hc3, if_neg hc4, if_pos hc5, if_neg hc6, if_neg hc7, if_pos hc13, if_neg hc14, if_neg hc15, if_pos hc17, if_neg hc18]
                        subst qv2
                        exact k
                    · refine XS.icmpYes X0.here hx rfl (pc0 := 65) (pc' := 74) rfl (hb hby at_65) rfl (flt hc17).2.2.2 (by decide) (by decide) ?_
                      show Steps p.tables e below (s₁.setTop (mkF m 74 #[.val (.int px), .val (.int x1), .val (.int x1), .unset] [])) _
                      refine XS.iconst X0.here hx rfl (hb hby at_74) ?_
                      show Steps p.tables e below (s₁.setTop (mkF m 75 #[.val (.int px), .val (.int x1), .val (.int x1), .unset] [(.int (1 : Int32))])) _
                      refine XS.goto X0.here hx rfl (pc0 := 75) (pc' := 79) rfl (hb hby at_75) (by decide) (by decide) ?_
                      show Steps p.tables e below (s₁.setTop (mkF m 79 #[.val (.int px), .val (.int x1), .val (.int x1), .unset] [(.int (1 : Int32))])) _
                      have qv2 : v2 = (1 : Int32) := by rw [hv2, if_neg hc3, if_neg hc4, if_pos hc5, if_neg hc6, if_neg hc7, if_pos hc13, if_neg hc14, if_neg hc15, if_neg hc17]
                      subst qv2
                      exact k
              · refine XS.icmpYes X0.here hx rfl (pc0 := 47) (pc' := 74) rfl (hb hby at_47) rfl (flt hc13).2.2.2 (by decide) (by decide) ?_
                show Steps p.tables e below (s₁.setTop (mkF m 74 #[.val (.int px), .val (.int x1), .val (.int x1), .unset] [])) _
                refine XS.iconst X0.here hx rfl (hb hby at_74) ?_
                show Steps p.tables e below (s₁.setTop (mkF m 75 #[.val (.int px), .val (.int x1), .val (.int x1), .unset] [(.int (1 : Int32))])) _
                refine XS.goto X0.here hx rfl (pc0 := 75) (pc' := 79) rfl (hb hby at_75) (by decide) (by decide) ?_
                show Steps p.tables e below (s₁.setTop (mkF m 79 #[.val (.int px), .val (.int x1), .val (.int x1), .unset] [(.int (1 : Int32))])) _
                have qv2 : v2 = (1 : Int32) := by rw [hv2, if_neg hc3, if_neg hc4, if_pos hc5, if_neg hc6, if_neg hc7, if_neg hc13]
                subst qv2
                exact k
        · refine XS.icmpNo X0.here hx rfl (hb hby at_23) rfl (flt hc5).1 ?_
          show Steps p.tables e below (s₁.setTop (mkF m 26 #[.val (.int px), .val (.int x1), .val (.int x1), .unset] [])) _
          refine XS.iloadN X0.here hx rfl (hb hby at_26) rfl ?_
          show Steps p.tables e below (s₁.setTop (mkF m 27 #[.val (.int px), .val (.int x1), .val (.int x1), .unset] [(.int x1)])) _
          refine XS.bipush X0.here hx rfl (hb hby at_27) ?_
          show Steps p.tables e below (s₁.setTop (mkF m 29 #[.val (.int px), .val (.int x1), .val (.int x1), .unset] [(.int (59 : Int32)), (.int x1)])) _
          by_cases hc19 : (59 : Int32) < x1
          · refine XS.icmpNo X0.here hx rfl (hb hby at_29) rfl (tlt hc19).2.2.2 ?_
            show Steps p.tables e below (s₁.setTop (mkF m 32 #[.val (.int px), .val (.int x1), .val (.int x1), .unset] [])) _
            refine XS.iloadN X0.here hx rfl (hb hby at_32) rfl ?_
            show Steps p.tables e below (s₁.setTop (mkF m 33 #[.val (.int px), .val (.int x1), .val (.int x1), .unset] [(.int x1)])) _
            refine XS.bipush X0.here hx rfl (hb hby at_33) ?_
            show Steps p.tables e below (s₁.setTop (mkF m 35 #[.val (.int px), .val (.int x1), .val (.int x1), .unset] [(.int (61 : Int32)), (.int x1)])) _
            by_cases hc20 : x1 = (61 : Int32)
            · refine XS.icmpYes X0.here hx rfl (pc0 := 35) (pc' := 74) rfl (hb hby at_35) rfl (teq hc20).1 (by decide) (by decide) ?_
              show Steps p.tables e below (s₁.setTop (mkF m 74 #[.val (.int px), .val (.int x1), .val (.int x1), .unset] [])) _
              refine XS.iconst X0.here hx rfl (hb hby at_74) ?_
              show Steps p.tables e below (s₁.setTop (mkF m 75 #[.val (.int px), .val (.int x1), .val (.int x1), .unset] [(.int (1 : Int32))])) _
              refine XS.goto X0.here hx rfl (pc0 := 75) (pc' := 79) rfl (hb hby at_75) (by decide) (by decide) ?_
              show Steps p.tables e below (s₁.setTop (mkF m 79 #[.val (.int px), .val (.int x1), .val (.int x1), .unset] [(.int (1 : Int32))])) _
              have qv2 : v2 = (1 : Int32) := by rw [hv2, if_neg hc3, if_neg hc4, if_neg hc5, if_pos hc19, if_pos hc20]
              subst qv2
              exact k
            · refine XS.icmpNo X0.here hx rfl (hb hby at_35) rfl (feq hc20).1 ?_
              show Steps p.tables e below (s₁.setTop (mkF m 38 #[.val (.int px), .val (.int x1), .val (.int x1), .unset] [])) _
              refine XS.iloadN X0.here hx rfl (hb hby at_38) rfl ?_
              show Steps p.tables e below (s₁.setTop (mkF m 39 #[.val (.int px), .val (.int x1), .val (.int x1), .unset] [(.int x1)])) _
              refine XS.bipush X0.here hx rfl (hb hby at_39) ?_
              show Steps p.tables e below (s₁.setTop (mkF m 41 #[.val (.int px), .val (.int x1), .val (.int x1), .unset] [(.int (63 : Int32)), (.int x1)])) _
              by_cases hc21 : x1 < (63 : Int32)
              · refine XS.icmpYes X0.here hx rfl (pc0 := 41) (pc' := 50) rfl (hb hby at_41) rfl (tlt hc21).1 (by decide) (by decide) ?_
                show Steps p.tables e below (s₁.setTop (mkF m 50 #[.val (.int px), .val (.int x1), .val (.int x1), .unset] [])) _
                refine XS.iloadN X0.here hx rfl (hb hby at_50) rfl ?_
                show Steps p.tables e below (s₁.setTop (mkF m 51 #[.val (.int px), .val (.int x1), .val (.int x1), .unset] [(.int x1)])) _
                refine XS.bipush X0.here hx rfl (hb hby at_51) ?_
                show Steps p.tables e below (s₁.setTop (mkF m 53 #[.val (.int px), .val (.int x1), .val (.int x1), .unset] [(.int (95 : Int32)), (.int x1)])) _
                by_cases hc22 : x1 = (95 : Int32)
                · refine XS.icmpYes X0.here hx rfl (pc0 := 53) (pc' := 74) rfl (hb hby at_53) rfl (teq hc22).1 (by decide) (by decide) ?_
                  show Steps p.tables e below (s₁.setTop (mkF m 74 #[.val (.int px), .val (.int x1), .val (.int x1), .unset] [])) _
                  refine XS.iconst X0.here hx rfl (hb hby at_74) ?_
                  show Steps p.tables e below (s₁.setTop (mkF m 75 #[.val (.int px), .val (.int x1), .val (.int x1), .unset] [(.int (1 : Int32))])) _
                  refine XS.goto X0.here hx rfl (pc0 := 75) (pc' := 79) rfl (hb hby at_75) (by decide) (by decide) ?_
                  show Steps p.tables e below (s₁.setTop (mkF m 79 #[.val (.int px), .val (.int x1), .val (.int x1), .unset] [(.int (1 : Int32))])) _
                  have qv2 : v2 = (1 : Int32) := by rw [hv2, if_neg hc3, if_neg hc4, if_neg hc5, if_pos hc19, if_neg hc20, if_pos hc21, if_pos hc22]
                  subst qv2
                  exact k
                · refine XS.icmpNo X0.here hx rfl (hb hby at_53) rfl (feq hc22).1 ?_
                  show Steps p.tables e below (s₁.setTop (mkF m 56 #[.val (.int px), .val (.int x1), .val (.int x1), .unset] [])) _
                  refine XS.iloadN X0.here hx rfl (hb hby at_56) rfl ?_
                  show Steps p.tables e below (s₁.setTop (mkF m 57 #[.val (.int px), .val (.int x1), .val (.int x1), .unset] [(.int x1)])) _
                  refine XS.bipush X0.here hx rfl (hb hby at_57) ?_
                  show Steps p.tables e below (s₁.setTop (mkF m 59 #[.val (.int px), .val (.int x1), .val (.int x1), .unset] [(.int (97 : Int32)), (.int x1)])) _
                  by_cases hc23 : x1 < (97 : Int32)
                  · refine XS.icmpYes X0.here hx rfl (pc0 := 59) (pc' := 68) rfl (hb hby at_59) rfl (tlt hc23).1 (by decide) (by decide) ?_
                    show Steps p.tables e below (s₁.setTop (mkF m 68 #[.val (.int px), .val (.int x1), .val (.int x1), .unset] [])) _
                    refine XS.iloadN X0.here hx rfl (hb hby at_68) rfl ?_
                    show Steps p.tables e below (s₁.setTop (mkF m 69 #[.val (.int px), .val (.int x1), .val (.int x1), .unset] [(.int x1)])) _
                    refine XS.bipush X0.here hx rfl (hb hby at_69) ?_
                    show Steps p.tables e below (s₁.setTop (mkF m 71 #[.val (.int px), .val (.int x1), .val (.int x1), .unset] [(.int (126 : Int32)), (.int x1)])) _
                    by_cases hc24 : x1 = (126 : Int32)
                    · refine XS.icmpNo X0.here hx rfl (hb hby at_71) rfl (teq hc24).2 ?_
                      show Steps p.tables e below (s₁.setTop (mkF m 74 #[.val (.int px), .val (.int x1), .val (.int x1), .unset] [])) _
                      refine XS.iconst X0.here hx rfl (hb hby at_74) ?_
                      show Steps p.tables e below (s₁.setTop (mkF m 75 #[.val (.int px), .val (.int x1), .val (.int x1), .unset] [(.int (1 : Int32))])) _
                      refine XS.goto X0.here hx rfl (pc0 := 75) (pc' := 79) rfl (hb hby at_75) (by decide) (by decide) ?_
                      show Steps p.tables e below (s₁.setTop (mkF m 79 #[.val (.int px), .val (.int x1), .val (.int x1), .unset] [(.int (1 : Int32))])) _
                      have qv2 : v2 = (1 : Int32) := by rw [hv2, if_neg hc3, if_neg hc4, if_neg hc5, if_pos hc19, if_neg hc20, if_pos hc21, if_neg hc22, if_pos hc23, if_pos hc24]
                      subst qv2
                      exact k
                    · refine XS.icmpYes X0.here hx rfl (pc0 := 71) (pc' := 78) rfl (hb hby at_71) rfl (feq hc24).2 (by decide) (by decide) ?_
                      show Steps p.tables e below (s₁.setTop (mkF m 78 #[.val (.int px), .val (.int x1), .val (.int x1), .unset] [])) _
                      refine XS.iconst X0.here hx rfl (hb hby at_78) ?_
                      show Steps p.tables e below (s₁.setTop (mkF m 79 #[.val (.int px), .val (.int x1), .val (.int x1), .unset] [(.int (0 : Int32))])) _
                      have qv2 : v2 = (0 : Int32) := by rw [hv2, if_neg hc3, if_neg hc4, if_neg hc5, if_pos hc19, if_neg hc20, if_pos hc21, if_neg hc22, if_pos hc23, if_neg hc24]
                      subst qv2
                      exact k
                  · refine XS.icmpNo X0.here hx rfl (hb hby at_59) rfl (flt hc23).1 ?_
                    show Steps p.tables e below (s₁.setTop (mkF m 62 #[.val (.int px), .val (.int x1), .val (.int x1), .unset] [])) _
                    refine XS.iloadN X0.here hx rfl (hb hby at_62) rfl ?_
                    show Steps p.tables e below (s₁.setTop (mkF m 63 #[.val (.int px), .val (.int x1), .val (.int x1), .unset] [(.int x1)])) _
                    refine XS.bipush X0.here hx rfl (hb hby at_63) ?_
                    show Steps p.tables e below (s₁.setTop (mkF m 65 #[.val (.int px), .val (.int x1), .val (.int x1), .unset] [(.int (122 : Int32)), (.int x1)])) _
                    by_cases hc25 : (122 : Int32) < x1
                    · refine XS.icmpNo X0.here hx rfl (hb hby at_65) rfl (tlt hc25).2.2.2 ?_
                      show Steps p.tables e below (s₁.setTop (mkF m 68 #[.val (.int px), .val (.int x1), .val (.int x1), .unset] [])) _
                      refine XS.iloadN X0.here hx rfl (hb hby at_68) rfl ?_
                      show Steps p.tables e below (s₁.setTop (mkF m 69 #[.val (.int px), .val (.int x1), .val (.int x1), .unset] [(.int x1)])) _
                      refine XS.bipush X0.here hx rfl (hb hby at_69) ?_
                      show Steps p.tables e below (s₁.setTop (mkF m 71 #[.val (.int px), .val (.int x1), .val (.int x1), .unset] [(.int (126 : Int32)), (.int x1)])) _
                      by_cases hc26 : x1 = (126 : Int32)
                      · refine XS.icmpNo X0.here hx rfl (hb hby at_71) rfl (teq hc26).2 ?_
                        show Steps p.tables e below (s₁.setTop (mkF m 74 #[.val (.int px), .val (.int x1), .val (.int x1), .unset] [])) _
                        refine XS.iconst X0.here hx rfl (hb hby at_74) ?_
                        show Steps p.tables e below (s₁.setTop (mkF m 75 #[.val (.int px), .val (.int x1), .val (.int x1), .unset] [(.int (1 : Int32))])) _
                        refine XS.goto X0.here hx rfl (pc0 := 75) (pc' := 79) rfl (hb hby at_75) (by decide) (by decide) ?_
                        show Steps p.tables e below (s₁.setTop (mkF m 79 #[.val (.int px), .val (.int x1), .val (.int x1), .unset] [(.int (1 : Int32))])) _
                        have qv2 : v2 = (1 : Int32) := by rw [hv2, if_neg hc3, if_neg hc4, if_neg hc5, if_pos hc19, if_neg hc20, if_pos hc21, if_neg hc22, if_neg hc23, if_pos hc25, if_pos hc26]
                        subst qv2
                        exact k
                      · refine XS.icmpYes X0.here hx rfl (pc0 := 71) (pc' := 78) rfl (hb hby at_71) rfl (feq hc26).2 (by decide) (by decide) ?_
                        show Steps p.tables e below (s₁.setTop (mkF m 78 #[.val (.int px), .val (.int x1), .val (.int x1), .unset] [])) _
                        refine XS.iconst X0.here hx rfl (hb hby at_78) ?_
                        show Steps p.tables e below (s₁.setTop (mkF m 79 #[.val (.int px), .val (.int x1), .val (.int x1), .unset] [(.int (0 : Int32))])) _
                        have qv2 : v2 = (0 : Int32) := by rw [hv2, if_neg hc3, if_neg hc4, if_neg hc5, if_pos hc19, if_neg hc20, if_pos hc21, if_neg hc22, if_neg hc23, if_pos hc25, if_neg hc26]
                        subst qv2
                        exact k
                    · refine XS.icmpYes X0.here hx rfl (pc0 := 65) (pc' := 74) rfl (hb hby at_65) rfl (flt hc25).2.2.2 (by decide) (by decide) ?_
                      show Steps p.tables e below (s₁.setTop (mkF m 74 #[.val (.int px), .val (.int x1), .val (.int x1), .unset] [])) _
                      refine XS.iconst X0.here hx rfl (hb hby at_74) ?_
                      show Steps p.tables e below (s₁.setTop (mkF m 75 #[.val (.int px), .val (.int x1), .val (.int x1), .unset] [(.int (1 : Int32))])) _
                      refine XS.goto X0.here hx rfl (pc0 := 75) (pc' := 79) rfl (hb hby at_75) (by decide) (by decide) ?_
                      show Steps p.tables e below (s₁.setTop (mkF m 79 #[.val (.int px), .val (.int x1), .val (.int x1), .unset] [(.int (1 : Int32))])) _
                      have qv2 : v2 = (1 : Int32) := by rw [hv2, if_neg hc3, if_neg hc4, if_neg hc5, if_pos hc19, if_neg hc20, if_pos hc21, if_neg hc22, if_neg hc23, if_neg hc25]
                      subst qv2
                      exact k
              · refine XS.icmpNo X0.here hx rfl (hb hby at_41) rfl (flt hc21).1 ?_
                show Steps p.tables e below (s₁.setTop (mkF m 44 #[.val (.int px), .val (.int x1), .val (.int x1), .unset] [])) _
                refine XS.iloadN X0.here hx rfl (hb hby at_44) rfl ?_
                show Steps p.tables e below (s₁.setTop (mkF m 45 #[.val (.int px), .val (.int x1), .val (.int x1), .unset] [(.int x1)])) _
                refine XS.bipush X0.here hx rfl (hb hby at_45) ?_
                show Steps p.tables e below (s₁.setTop (mkF m 47 #[.val (.int px), .val (.int x1), .val (.int x1), .unset] [(.int (90 : Int32)), (.int x1)])) _
                by_cases hc27 : (90 : Int32) < x1
                · refine XS.icmpNo X0.here hx rfl (hb hby at_47) rfl (tlt hc27).2.2.2 ?_
                  show Steps p.tables e below (s₁.setTop (mkF m 50 #[.val (.int px), .val (.int x1), .val (.int x1), .unset] [])) _
                  refine XS.iloadN X0.here hx rfl (hb hby at_50) rfl ?_
                  show Steps p.tables e below (s₁.setTop (mkF m 51 #[.val (.int px), .val (.int x1), .val (.int x1), .unset] [(.int x1)])) _
                  refine XS.bipush X0.here hx rfl (hb hby at_51) ?_
                  show Steps p.tables e below (s₁.setTop (mkF m 53 #[.val (.int px), .val (.int x1), .val (.int x1), .unset] [(.int (95 : Int32)), (.int x1)])) _
                  by_cases hc28 : x1 = (95 : Int32)
                  · refine XS.icmpYes X0.here hx rfl (pc0 := 53) (pc' := 74) rfl (hb hby at_53) rfl (teq hc28).1 (by decide) (by decide) ?_
                    show Steps p.tables e below (s₁.setTop (mkF m 74 #[.val (.int px), .val (.int x1), .val (.int x1), .unset] [])) _
                    refine XS.iconst X0.here hx rfl (hb hby at_74) ?_
                    show Steps p.tables e below (s₁.setTop (mkF m 75 #[.val (.int px), .val (.int x1), .val (.int x1), .unset] [(.int (1 : Int32))])) _
                    refine XS.goto X0.here hx rfl (pc0 := 75) (pc' := 79) rfl (hb hby at_75) (by decide) (by decide) ?_
                    show Steps p.tables e below (s₁.setTop (mkF m 79 #[.val (.int px), .val (.int x1), .val (.int x1), .unset] [(.int (1 : Int32))])) _
                    have qv2 : v2 = (1 : Int32) := by rw [hv2, if_neg hc3, if_neg hc4, if_neg hc5, if_pos hc19, if_neg hc20, if_neg hc21, if_pos hc27, if_pos hc28]
                    subst qv2
                    exact k
                  · refine XS.icmpNo X0.here hx rfl (hb hby at_53) rfl (feq hc28).1 ?_
                    show Steps p.tables e below (s₁.setTop (mkF m 56 #[.val (.int px), .val (.int x1), .val (.int x1), .unset] [])) _
                    refine XS.iloadN X0.here hx rfl (hb hby at_56) rfl ?_
                    show Steps p.tables e below (s₁.setTop (mkF m 57 #[.val (.int px), .val (.int x1), .val (.int x1), .unset] [(.int x1)])) _
                    refine XS.bipush X0.here hx rfl (hb hby at_57) ?_
                    show Steps p.tables e below (s₁.setTop (mkF m 59 #[.val (.int px), .val (.int x1), .val (.int x1), .unset] [(.int (97 : Int32)), (.int x1)])) _
                    by_cases hc29 : x1 < (97 : Int32)
                    · refine XS.icmpYes X0.here hx rfl (pc0 := 59) (pc' := 68) rfl (hb hby at_59) rfl (tlt hc29).1 (by decide) (by decide) ?_
                      show Steps p.tables e below (s₁.setTop (mkF m 68 #[.val (.int px), .val (.int x1), .val (.int x1), .unset] [])) _
                      refine XS.iloadN X0.here hx rfl (hb hby at_68) rfl ?_
                      show Steps p.tables e below (s₁.setTop (mkF m 69 #[.val (.int px), .val (.int x1), .val (.int x1), .unset] [(.int x1)])) _
                      refine XS.bipush X0.here hx rfl (hb hby at_69) ?_
                      show Steps p.tables e below (s₁.setTop (mkF m 71 #[.val (.int px), .val (.int x1), .val (.int x1), .unset] [(.int (126 : Int32)), (.int x1)])) _
                      by_cases hc30 : x1 = (126 : Int32)
                      · refine XS.icmpNo X0.here hx rfl (hb hby at_71) rfl (teq hc30).2 ?_
                        show Steps p.tables e below (s₁.setTop (mkF m 74 #[.val (.int px), .val (.int x1), .val (.int x1), .unset] [])) _
                        refine XS.iconst X0.here hx rfl (hb hby at_74) ?_
                        show Steps p.tables e below (s₁.setTop (mkF m 75 #[.val (.int px), .val (.int x1), .val (.int x1), .unset] [(.int (1 : Int32))])) _
                        refine XS.goto X0.here hx rfl (pc0 := 75) (pc' := 79) rfl (hb hby at_75) (by decide) (by decide) ?_
                        show Steps p.tables e below (s₁.setTop (mkF m 79 #[.val (.int px), .val (.int x1), .val (.int x1), .unset] [(.int (1 : Int32))])) _
                        have qv2 : v2 = (1 : Int32) := by rw [hv2, if_neg hc3, if_neg hc4, if_neg hc5, if_pos hc19, if_neg hc20, if_neg hc21, if_pos hc27, if_neg hc28, if_pos hc29, if_pos hc30]
                        subst qv2
                        exact k
                      · refine XS.icmpYes X0.here hx rfl (pc0 := 71) (pc' := 78) rfl (hb hby at_71) rfl (feq hc30).2 (by decide) (by decide) ?_
                        show Steps p.tables e below (s₁.setTop (mkF m 78 #[.val (.int px), .val (.int x1), .val (.int x1), .unset] [])) _
                        refine XS.iconst X0.here hx rfl (hb hby at_78) ?_
                        show Steps p.tables e below (s₁.setTop (mkF m 79 #[.val (.int px), .val (.int x1), .val (.int x1), .unset] [(.int (0 : Int32))])) _
                        have qv2 : v2 = (0 : Int32) := by rw [hv2, if_neg hc3, if_neg hc4, if_neg hc5, if_pos hc19, if_neg hc20, if_neg hc21, if_pos hc27, if_neg hc28, if_pos hc29, if_neg hc30]
                        subst qv2
                        exact k
                    · refine XS.icmpNo X0.here hx rfl (hb hby at_59) rfl (flt hc29).1 ?_
                      show Steps p.tables e below (s₁.setTop (mkF m 62 #[.val (.int px), .val (.int x1), .val (.int x1), .unset] [])) _
                      refine XS.iloadN X0.here hx rfl (hb hby at_62) rfl ?_
                      show Steps p.tables e below (s₁.setTop (mkF m 63 #[.val (.int px), .val (.int x1), .val (.int x1), .unset] [(.int x1)])) _
                      refine XS.bipush X0.here hx rfl (hb hby at_63) ?_
                      show Steps p.tables e below (s₁.setTop (mkF m 65 #[.val (.int px), .val (.int x1), .val (.int x1), .unset] [(.int (122 : Int32)), (.int x1)])) _
                      by_cases hc31 : (122 : Int32) < x1
                      · refine XS.icmpNo X0.here hx rfl (hb hby at_65) rfl (tlt hc31).2.2.2 ?_
                        show Steps p.tables e below (s₁.setTop (mkF m 68 #[.val (.int px), .val (.int x1), .val (.int x1), .unset] [])) _
                        refine XS.iloadN X0.here hx rfl (hb hby at_68) rfl ?_
                        show Steps p.tables e below (s₁.setTop (mkF m 69 #[.val (.int px), .val (.int x1), .val (.int x1), .unset] [(.int x1)])) _
                        refine XS.bipush X0.here hx rfl (hb hby at_69) ?_
                        show Steps p.tables e below (s₁.setTop (mkF m 71 #[.val (.int px), .val (.int x1), .val (.int x1), .unset] [(.int (126 : Int32)), (.int x1)])) _
                        by_cases hc32 : x1 = (126 : Int32)
                        · refine XS.icmpNo X0.here hx rfl (hb hby at_71) rfl (teq hc32).2 ?_
                          show Steps p.tables e below (s₁.setTop (mkF m 74 #[.val (.int px), .val (.int x1), .val (.int x1), .unset] [])) _
                          refine XS.iconst X0.here hx rfl (hb hby at_74) ?_
                          show Steps p.tables e below (s₁.setTop (mkF m 75 #[.val (.int px), .val (.int x1), .val (.int x1), .unset] [(.int (1 : Int32))])) _
                          refine XS.goto X0.here hx rfl (pc0 := 75) (pc' := 79) rfl (hb hby at_75) (by decide) (by decide) ?_
                          show Steps p.tables e below (s₁.setTop (mkF m 79 #[.val (.int px), .val (.int x1), .val (.int x1), .unset] [(.int (1 : Int32))])) _
                          have qv2 : v2 = (1 : Int32) := by rw [hv2, if_neg hc3, if_neg hc4, if_neg hc5, if_pos hc19, if_neg hc20, if_neg hc21, if_pos hc27, if_neg hc28, if_neg hc29, if_pos hc31, if_pos hc32]
                          subst qv2
                          exact k
                        · refine XS.icmpYes X0.here hx rfl (pc0 := 71) (pc' := 78) rfl (hb hby at_71) rfl (feq hc32).2 (by decide) (by decide) ?_
                          show Steps p.tables e below (s₁.setTop (mkF m 78 #[.val (.int px), .val (.int x1), .val (.int x1), .unset] [])) _
                          refine XS.iconst X0.here hx rfl (hb hby at_78) ?_
                          show Steps p.tables e below (s₁.setTop (mkF m 79 #[.val (.int px), .val (.int x1), .val (.int x1), .unset] [(.int (0 : Int32))])) _
                          have qv2 : v2 = (0 : Int32) := by rw [hv2, if_neg hc3, if_neg hc4, if_neg hc5, if_pos hc19, if_neg hc20, if_neg hc21, if_pos hc27, if_neg hc28, if_neg hc29, if_pos hc31, if_neg hc32]
                          subst qv2
                          exact k
                      · refine XS.icmpYes X0.here hx rfl (pc0 := 65) (pc' := 74) rfl (hb hby at_65) rfl (flt hc31).2.2.2 (by decide) (by decide) ?_
                        show Steps p.tables e below (s₁.setTop (mkF m 74 #[.val (.int px), .val (.int x1), .val (.int x1), .unset] [])) _
                        refine XS.iconst X0.here hx rfl (hb hby at_74) ?_
                        show Steps p.tables e below (s₁.setTop (mkF m 75 #[.val (.int px), .val (.int x1), .val (.int x1), .unset] [(.int (1 : Int32))])) _
                        refine XS.goto X0.here hx rfl (pc0 := 75) (pc' := 79) rfl (hb hby at_75) (by decide) (by decide) ?_
                        show Steps p.tables e below (s₁.setTop (mkF m 79 #[.val (.int px), .val (.int x1), .val (.int x1), .unset] [(.int (1 : Int32))])) _
                        have qv2 : v2 = (1 : Int32) := by rw [hv2, if_neg hc3, if_neg hc4, if_neg hc5, if_pos hc19, if_neg hc20, if_neg hc21, if_pos hc27, if_neg hc28, if_neg hc29, if_neg hc31]
                        subst qv2
                        exact k
                · refine XS.icmpYes X0.here hx rfl (pc0 := 47) (pc' := 74) rfl (hb hby at_47) rfl (flt hc27).2.2.2 (by decide) (by decide) ?_
                  show Steps p.tables e below (s₁.setTop (mkF m 74 #[.val (.int px), .val (.int x1), .val (.int x1), .unset] [])) _
                  refine XS.iconst X0.here hx rfl (hb hby at_74) ?_
                  show Steps p.tables e below (s₁.setTop (mkF m 75 #[.val (.int px), .val (.int x1), .val (.int x1), .unset] [(.int (1 : Int32))])) _
                  refine XS.goto X0.here hx rfl (pc0 := 75) (pc' := 79) rfl (hb hby at_75) (by decide) (by decide) ?_
                  show Steps p.tables e below (s₁.setTop (mkF m 79 #[.val (.int px), .val (.int x1), .val (.int x1), .unset] [(.int (1 : Int32))])) _
                  have qv2 : v2 = (1 : Int32) := by rw [hv2, if_neg hc3, if_neg hc4, if_neg hc5, if_pos hc19, if_neg hc20, if_neg hc21, if_neg hc27]
                  subst qv2
                  exact k
          · refine XS.icmpYes X0.here hx rfl (pc0 := 29) (pc' := 74) rfl (hb hby at_29) rfl (flt hc19).2.2.2 (by decide) (by decide) ?_
            show Steps p.tables e below (s₁.setTop (mkF m 74 #[.val (.int px), .val (.int x1), .val (.int x1), .unset] [])) _
            refine XS.iconst X0.here hx rfl (hb hby at_74) ?_
            show Steps p.tables e below (s₁.setTop (mkF m 75 #[.val (.int px), .val (.int x1), .val (.int x1), .unset] [(.int (1 : Int32))])) _
            refine XS.goto X0.here hx rfl (pc0 := 75) (pc' := 79) rfl (hb hby at_75) (by decide) (by decide) ?_
            show Steps p.tables e below (s₁.setTop (mkF m 79 #[.val (.int px), .val (.int x1), .val (.int x1), .unset] [(.int (1 : Int32))])) _
            have qv2 : v2 = (1 : Int32) := by rw [hv2, if_neg hc3, if_neg hc4, if_neg hc5, if_neg hc19]
            subst qv2
            exact k
  show Goes p.tables e below (s₁.setTop (mkF m 79 #[.val (.int px), .val (.int x1), .val (.int x1), .unset] [(.int v2)])) _
  refine Goes.by (fun _ k => XS.istoreN X0.here hx rfl (hb hby at_79) rfl (l' := #[.val (.int px), .val (.int x1), .val (.int x1), .val (.int v2)]) rfl k) ?_
  show Goes p.tables e below (s₁.setTop (mkF m 80 #[.val (.int px), .val (.int x1), .val (.int x1), .val (.int v2)] [])) _
  refine Goes.by (fun _ k => XS.iloadN X0.here hx rfl (hb hby at_80) rfl k) ?_
  show Goes p.tables e below (s₁.setTop (mkF m 81 #[.val (.int px), .val (.int x1), .val (.int x1), .val (.int v2)] [(.int x1)])) _
  obtain ⟨_, _, ⟨T33, L33, k33, n33⟩, -, X33, hSq33, hgq33, ⟨Lc33, hQ33, l33, y33, z33⟩, st33⟩ := callSS X0 hx (y := (⟨"com/example/firm_quote/firmquote/server/UriText", "isUriCharacter", "(C)Z"⟩ : MethodName)) hown (mvT hZ (hw _ (List.mem_of_getElem? (i := 1) rfl))) (mvT hZ (hw _ (List.mem_of_getElem? (i := 2) rfl))) (mvT hZ (hw _ (List.mem_of_getElem? (i := 3) rfl))) (mvT hZ (hw _ (List.mem_of_getElem? (i := 4) rfl))) (by decide) (backOfI (W := 0) (rm1 l Z a0 hw [] x1 zc h0 n0 Z0 O S_cs hzc hheld hcw) hZ hI (hw _ (List.mem_of_getElem? (i := 4) rfl)) (hw _ (List.mem_of_getElem? (i := 3) rfl)) (by decide) (by decide)) (g := (mkF m 81 #[.val (.int px), .val (.int x1), .val (.int x1), .val (.int v2)] [(.int x1)])) rfl (by rw [hml]; rfl) (argsL := [(.int x1)]) (rest := []) (lenOf pd_7 rfl) rfl (by show 2 * 0 + _ ≤ _; exact Nat.le_of_eq rfl) (hb hby at_81) (fun _ _ => ⟨rfl, e0, (by decide : 0 + 2 ≤ _), (by decide : 0 + 80 ≤ _)⟩)
  dsimp only [Pt.U, Pt.locs, Pt.cells, Pt.slots] at X33 l33 y33 z33 st33 hQ33
  rw [l33, y33, z33] at X33
  dsimp only [Pt.U, Pt.locs, Pt.cells, Pt.slots] at hSq33 hgq33
  obtain ⟨X33, hS, hZ, hown⟩ := rebS (s := s) (vm0 := s.vm) hS (hk.at e0) X33 hSq33 hgq33 hZ hown
  obtain ⟨rfl, N33q, Kq33⟩ := hQ33
  have N33 := Fr.app N0 N33q
  refine Goes.via st33 ?_
  have Zs33 : n0 ≤ T33.heap.size := Nat.le_trans Z0 Kq33.1
  have K33 : Keep h0 T33.heap [] := (Keep.refl h0 []).trans Kq33 all0
  have O : Old Z n0 T33.heap := O.keep Kq33 all0
  have hk : Kle T33.heap.size T33.heap := Nat.le_refl _
  show Goes p.tables e below (T33.setTop (mkF m 84 #[.val (.int px), .val (.int x1), .val (.int x1), .val (.int v2)] [(.int (fn1 x1))])) _
  refine Goes.by (fun _ k => XS.iloadN X33.here hx rfl (hb hby at_84) rfl k) ?_
  show Goes p.tables e below (T33.setTop (mkF m 85 #[.val (.int px), .val (.int x1), .val (.int x1), .val (.int v2)] [(.int v2), (.int (fn1 x1))])) _
  refine Goes.by (fun _ k => XS.icmpNo X33.here hx rfl (hb hby at_85) rfl (teq (by rw [hv2]; exact own_law x1 (by rw [hx1]; exact (c_i2c _).2.1) : (fn1 x1) = v2)).2 k) ?_
  show Goes p.tables e below (T33.setTop (mkF m 88 #[.val (.int px), .val (.int x1), .val (.int x1), .val (.int v2)] [])) _
  refine Goes.by (fun _ k => XS.iconst X33.here hx rfl (hb hby at_88) k) ?_
  show Goes p.tables e below (T33.setTop (mkF m 89 #[.val (.int px), .val (.int x1), .val (.int x1), .val (.int v2)] [(.int (1 : Int32))])) _
  refine Goes.by (fun _ k => XS.goto X33.here hx rfl (pc0 := 89) (pc' := 93) rfl (hb hby at_89) (by decide) (by decide) k) ?_
  show Goes p.tables e below (T33.setTop (mkF m 93 #[.val (.int px), .val (.int x1), .val (.int x1), .val (.int v2)] [(.int (1 : Int32))])) _
  obtain ⟨fs, hr, hrun, hended, hRW⟩ := leaveW (s := s) (vm₁ := T33.vm) X33 hS (hk.at rfl) (v := some (.int (1 : Int32))) (fun h => by rw [Bd.returns] at h; cases h)
  refine ⟨_, _, retN X33 hx (t := .boolean) Bd.returns (by simp) (hb hby at_93) hr, hrun, hended, _, _, rfl, ?_, rwMono hRW (by decide) (by decide)⟩
  show Q0 Z px zc h0 n0 _ T33.heap _
  exact ⟨rfl, N33⟩
set_option maxRecDepth 65536 in
set_option maxHeartbeats 40000000 in
theorem comes_1 {Post : Tables → Env → Array Value → State → Outcome → State → Prop} (hpost : ∀ tb e args s v u, (limb_1_1.after args s (.returned v) u = true ∧ limb_1_2.after args s (.returned v) u = true ∧ True) → ReturnedEndW s (.returned v) u (Jvm.fieldLocs frame_1_writes args s ++ Jvm.arrayLocs frame_1_arrays args s ++ Jvm.staticLocs frame_1_statics s) 8 1088 → Post tb e args s (.returned v) u) :
    ArmFor flags0 classFile x code maxLocals ret World_1 tables_1 room_1 Calls_1 rest_1 Pre_1 Post := by
  intro l hfl _ _ p e ha hc hk s m args below hf hA hF happ hP
  obtain ⟨hcalls, hrest, hpre⟩ := hP
  obtain ⟨-, -, -, hnamed, -, -, -, hat⟩ := (Spec.applies_iff hf).mp happ
  obtain ⟨hg, hn⟩ := and_e (Cond.before_iff.mp (show (Jvm.Cond.and given_1 narrow_1).before args s = true from hpre))
  obtain ⟨g1, g2⟩ := and_e hg
  obtain ⟨w0, rfl⟩ : ∃ w0 : Value, args = #[w0] := by
    have hs : args.size = 1 := by simpa [Cond.value, given_1] using g1
    obtain ⟨L⟩ := args
    match L, hs with
    | [w0], _ => exact ⟨w0, rfl⟩
  have hw := fun d (hd : d ∈ tables_1) => atoms_spec (ws := Jvm.Cond.code x code maxLocals ret :: tables_1) hat d (List.mem_cons_of_mem _ hd)
  have hfit : Fit s := fun {y c} hc i hi => by
    obtain ⟨ha, rfl⟩ := Array.getElem?_eq_some_iff.mp hc
    have q := List.all_eq_true.mp ((Array.all_eq_true_iff_forall_mem.mp hF) _ (Array.getElem_mem ha)) i (List.mem_range.mpr hi)
    simpa [Array.getElem?_eq_getElem hi] using q
  obtain ⟨hsets, hown0⟩ := atoms_of _ (rest_1_c_eq ▸ (show rest_1_c.before _ s = true from hrest))
  have hr0 := Cond.before_iff.mp hown0
  obtain ⟨i0, ei0⟩ := is_v g2
  obtain rfl : w0 = (.int i0) := Option.some.inj ei0
  have n5 := not_v (Cond.before_iff.mp (hsets _ (List.mem_of_getElem? (i := 2) rfl)))
  obtain ⟨zc, ezc⟩ := is_v (Cond.before_iff.mp (hsets _ (List.mem_of_getElem? (i := 1) rfl)))
  have S_cs : Sta s s.heap "java/lang/String" "COMPACT_STRINGS" "Z" (.int zc) := Sta.start ezc (Or.inl (hsets _ (List.mem_of_getElem? (i := 0) rfl)))
  have hzc : ¬ zc = 0 := gotF (Cond.eq_ints ezc (Term.int_eval (0))) n5
  obtain ⟨n, o, h1, h2, h3, _, L, rfl, ⟨hv0, N⟩, hq⟩ := rm0 l s _ hw tables_1 i0 zc s.heap s.heap.size (Nat.le_refl _) (Old.start s) S_cs hzc (hcalls.1 ("com/example/firm_quote/firmquote/server/UriText", 37) (List.mem_of_getElem? (i := 0) rfl)) (hsets _ (List.mem_of_getElem? (i := 2) rfl)) p e ha hc hk s m _ below hf ((Spec.applies_iff_loose hf).mp happ).1 ⟨rfl, State.Warmed39.refl s, rfl, rfl⟩ trivial
  subst hv0
  refine ⟨n, _, h1, h2, h3, hpost _ _ _ _ _ _ ⟨Cond.after_iff.mpr rfl, Cond.after_iff.mpr (eq_i res_at (Term.int_eval (1)) rfl), trivial⟩ ⟨hq.1, hq.2.1, hq.2.2.1, (hq.2.2.2.sift fun y hy => Or.inr (N y hy)).mono (by decide) (by decide)⟩⟩
theorem main_1_1 : Claimed_1_1 := comes_1 fun _ _ _ _ _ _ h hF => ⟨h.1, hF⟩
theorem main_1_2 : Claimed_1_2 := comes_1 fun _ _ _ _ _ _ h hF => ⟨h.2.1, hF⟩
end Jvm.Pilot.@@N@@
namespace Jvm.Pilot.@@N@@
open Jvm Jvm.ClassFile Sem Op Lib Jvm.Free Jvm.Stand Jvm.Pilot.@@N@@.Jvm.D
/-! MADE BY PROGRAM (witnessworld.py) out of the Statement's table words and the real class files: 16 classes; the members and pool entries that the words name. The judged class is class 1, her method 1. -/
namespace start1
open Jvm.ClassFile
def u (s : String) : CpInfo := .utf8 (stringToUtf16 s)
/-- a pool by its gaps: so many unusable entries, then the entry; so many at the end -/
def gap : Nat → List CpInfo → List CpInfo
  | 0, r => r
  | n + 1, r => .unusable :: gap n r
def poolList (es : List (Nat × CpInfo)) (last : Nat) : List CpInfo := es.foldr (fun e r => gap e.1 (e.2 :: r)) (gap last [])
def pool (es : List (Nat × CpInfo)) (last : Nat) : Array CpInfo := ⟨poolList es last⟩
def fileOf (pool : Array CpInfo) (this : Nat) (attrs : Array Attribute := #[]) (ms : Array MethodInfo := #[]) (fl : Nat := 33) (sup : Nat := 0) (ifs : Array Nat := #[]) (fds : Array FieldInfo := #[]) : ClassFile where
  minorVersion := 0
  majorVersion := 65
  constantPool := pool
  accessFlags := fl
  thisClass := this
  superClass := sup
  interfaces := ifs
  fields := fds
  methods := ms
  attributes := attrs
def plain (name : String) (sup : Option ClassId) : Class where
  name := name
  kind := .ordinary
  loader := none
  accessFlags := 33
  super := sup
  interfaces := #[]
  cf := none
  fields := #[]
  methods := #[]
  instanceTypes := #[]
  staticTypes := #[]
  resolved := #[]
  callSites := []
  init := .initialized
  statics := none
  mirror := none

def pool0 : Array CpInfo := pool [(5, u "<init>"), (0, u "()V"), (1, .class_ 10), (1, u "java/lang/Object")] 113

def k0m0 : Method := { name := "<init>", desc := "()V", sig := { parameters := [], returnType := none }, accessFlags := 1, code := none }
/-- java/lang/Object -/
def k0 : Class := { plain "java/lang/Object" none with
  accessFlags := 33
  interfaces := #[]
  cf := some (fileOf pool0 8 #[] #[{ accessFlags := 1, nameIndex := 5, descriptorIndex := 6, attributes := #[] }] 33 0 #[] #[])
  fields := #[]
  methods := #[k0m0]
  instanceTypes := #[]
  staticTypes := #[]
  resolved := Array.replicate 124 none
  statics := none }

def pool1 : Array CpInfo := pool [(2, .class_ 4), (1, u "java/lang/Object"), (0, u "<init>"), (0, u "()V"), (0, .integer 65535), (0, .methodref 9 10), (0, .class_ 11), (0, .nameAndType 12 13), (0, u "com/example/firm_quote/firmquote/server/UriText"), (0, u "isUriCharacter"), (0, u "(C)Z"), (0, .class_ 15), (0, u "com/example/firm_quote/firmquote/server/UriTextIsUriCharacterPinLaw"), (2, u "law"), (0, u "(I)Z")] 3

def k1m0 : Method := { name := "<init>", desc := "()V", sig := { parameters := [], returnType := none }, accessFlags := 1, code := none }
def k1c1 : Code := { maxStack := 2, maxLocals := 4, code := code, exceptionTable := #[], attributes := #[] }
def k1m1 : Method := { name := "law", desc := "(I)Z", sig := { parameters := [.int], returnType := some .boolean }, accessFlags := 9, code := some k1c1 }
/-- com/example/firm_quote/firmquote/server/UriTextIsUriCharacterPinLaw -/
def k1 : Class := { plain "com/example/firm_quote/firmquote/server/UriTextIsUriCharacterPinLaw" (some 0) with
  accessFlags := 49
  interfaces := #[]
  cf := some (fileOf pool1 14 #[] #[{ accessFlags := 1, nameIndex := 5, descriptorIndex := 6, attributes := #[] }, { accessFlags := 9, nameIndex := 18, descriptorIndex := 19, attributes := #[] }] 49 2 #[] #[])
  fields := #[]
  methods := #[k1m0, k1m1]
  instanceTypes := #[]
  staticTypes := #[]
  resolved := Array.replicate 23 none
  statics := none }

def pool2 : Array CpInfo := pool [(2, .class_ 4), (1, u "java/lang/Object"), (0, u "<init>"), (0, u "()V"), (1, .class_ 10), (1, u "java/lang/String"), (7, .class_ 20), (1, u "com/example/firm_quote/firmquote/server/UriText"), (12, u "isUriCharacter"), (0, u "(C)Z"), (2, .string 38), (0, u "-._~!$&'()*+,;=:@/?"), (0, .methodref 8 40), (0, .nameAndType 41 42), (0, u "indexOf"), (0, u "(I)I"), (6, u "MARKS"), (0, u "Ljava/lang/String;")] 9

def k2m0 : Method := { name := "<init>", desc := "()V", sig := { parameters := [], returnType := none }, accessFlags := 2, code := none }
def k2c1 : Code := { maxStack := 2, maxLocals := 1, code := prog_47_method_3_code, exceptionTable := #[], attributes := #[] }
def k2m1 : Method := { name := "isUriCharacter", desc := "(C)Z", sig := { parameters := [.char], returnType := some .boolean }, accessFlags := 8, code := some k2c1 }
/-- com/example/firm_quote/firmquote/server/UriText -/
def k2 : Class := { plain "com/example/firm_quote/firmquote/server/UriText" (some 0) with
  accessFlags := 32
  interfaces := #[]
  cf := some (fileOf pool2 18 #[] #[{ accessFlags := 2, nameIndex := 5, descriptorIndex := 6, attributes := #[] }, { accessFlags := 8, nameIndex := 33, descriptorIndex := 34, attributes := #[] }] 32 2 #[] #[{ accessFlags := 26, nameIndex := 49, descriptorIndex := 50, attributes := #[] }])
  fields := #[{ name := "MARKS", type := (.object "java/lang/String"), accessFlags := 26, slot := 0, constantValue := 0 }]
  methods := #[k2m0, k2m1]
  instanceTypes := #[]
  staticTypes := #[(.object "java/lang/String")]
  resolved := Array.replicate 60 none
  statics := none }

def pool3 : Array CpInfo := pool [(1, .class_ 2), (0, u "java/io/Serializable"), (0, .class_ 4), (0, u "java/lang/Object")] 2

/-- java/io/Serializable -/
def k3 : Class := { plain "java/io/Serializable" (some 0) with
  accessFlags := 1537
  interfaces := #[]
  cf := some (fileOf pool3 1 #[] #[] 1537 3 #[] #[])
  fields := #[]
  methods := #[]
  instanceTypes := #[]
  staticTypes := #[]
  resolved := Array.replicate 7 none
  statics := none }

def pool4 : Array CpInfo := pool [(1, .class_ 2), (0, u "java/lang/Comparable"), (0, .class_ 4), (0, u "java/lang/Object")] 7

/-- java/lang/Comparable -/
def k4 : Class := { plain "java/lang/Comparable" (some 0) with
  accessFlags := 1537
  interfaces := #[]
  cf := some (fileOf pool4 1 #[] #[] 1537 3 #[] #[])
  fields := #[]
  methods := #[]
  instanceTypes := #[]
  staticTypes := #[]
  resolved := Array.replicate 12 none
  statics := none }

def pool5 : Array CpInfo := pool [(2, .class_ 4), (1, u "java/lang/CharSequence"), (42, .class_ 48), (0, u "java/lang/CharSequence$1CodePointIterator"), (10, .class_ 60), (0, u "java/lang/CharSequence$1CharIterator"), (5, .class_ 67), (0, u "java/lang/Object")] 63

/-- java/lang/CharSequence -/
def k5 : Class := { plain "java/lang/CharSequence" (some 0) with
  accessFlags := 1537
  interfaces := #[]
  cf := some (fileOf pool5 2 #[.nestMembers #[47, 59]] #[] 1537 66 #[] #[])
  fields := #[]
  methods := #[]
  instanceTypes := #[]
  staticTypes := #[]
  resolved := Array.replicate 131 none
  statics := none }

def pool6 : Array CpInfo := pool [(1, .class_ 2), (0, u "java/lang/constant/Constable"), (0, .class_ 4), (0, u "java/lang/Object")] 6

/-- java/lang/constant/Constable -/
def k6 : Class := { plain "java/lang/constant/Constable" (some 0) with
  accessFlags := 1537
  interfaces := #[]
  cf := some (fileOf pool6 1 #[] #[] 1537 3 #[] #[])
  fields := #[]
  methods := #[]
  instanceTypes := #[]
  staticTypes := #[]
  resolved := Array.replicate 11 none
  statics := none }

def pool7 : Array CpInfo := pool [(1, .class_ 2), (0, u "java/lang/constant/ConstantDesc"), (0, .class_ 4), (0, u "java/lang/Object")] 32

/-- java/lang/constant/ConstantDesc -/
def k7 : Class := { plain "java/lang/constant/ConstantDesc" (some 0) with
  accessFlags := 1537
  interfaces := #[]
  cf := some (fileOf pool7 1 #[] #[] 1537 3 #[] #[])
  fields := #[]
  methods := #[]
  instanceTypes := #[]
  staticTypes := #[]
  resolved := Array.replicate 37 none
  statics := none }

def pool8 : Array CpInfo := pool [(2, .class_ 4), (1, u "java/lang/Object"), (0, u "<init>"), (0, u "()V"), (2, .fieldref 10 11), (0, .class_ 12), (0, .nameAndType 13 14), (0, u "java/lang/String"), (0, u "value"), (0, u "[B"), (0, .fieldref 10 16), (0, .nameAndType 17 18), (0, u "coder"), (0, u "B"), (2, u "hash"), (0, u "I"), (2, u "hashIsZero"), (0, u "Z"), (11, .fieldref 10 39), (0, .nameAndType 40 26), (0, u "COMPACT_STRINGS"), (66, .class_ 109), (1, u "java/lang/StringLatin1"), (32, u "()Z"), (191, u "()I"), (0, .methodref 10 336), (0, .nameAndType 17 337), (0, u "()B"), (154, .methodref 10 493), (0, .nameAndType 494 142), (0, u "isLatin1"), (10, .methodref 10 506), (0, .nameAndType 507 334), (0, u "length"), (67, .class_ 576), (0, u "java/lang/CharSequence"), (22, u "CASE_INSENSITIVE_ORDER"), (0, u "Ljava/util/Comparator;"), (32, .methodref 10 634), (0, .nameAndType 635 636), (0, u "indexOf"), (0, u "(II)I"), (0, .methodref 107 638), (0, .nameAndType 635 639), (0, u "([BIII)I"), (125, u "(I)I"), (335, u "serialPersistentFields"), (0, u "[Ljava/io/ObjectStreamField;"), (0, .class_ 1104), (0, u "java/lang/String$CaseInsensitiveComparator"), (1, .class_ 1107), (0, u "java/io/Serializable"), (0, .class_ 1109), (0, u "java/lang/Comparable"), (0, .class_ 1111), (0, u "java/lang/constant/Constable"), (0, .class_ 1113), (0, u "java/lang/constant/ConstantDesc"), (2, u "serialVersionUID"), (0, u "J"), (3, u "REPL"), (0, u "C"), (2, u "LATIN1"), (1, u "UTF16")] 323

def k8m0 : Method := { name := "<init>", desc := "()V", sig := { parameters := [], returnType := none }, accessFlags := 1, code := none }
def k8c1 : Code := { maxStack := 2, maxLocals := 1, code := jdk_42_method_54_code, exceptionTable := #[], attributes := #[] }
def k8m1 : Method := { name := "length", desc := "()I", sig := { parameters := [], returnType := some .int }, accessFlags := 1, code := some k8c1 }
def k8c2 : Code := { maxStack := 3, maxLocals := 2, code := jdk_42_method_79_code, exceptionTable := #[], attributes := #[] }
def k8m2 : Method := { name := "indexOf", desc := "(I)I", sig := { parameters := [.int], returnType := some .int }, accessFlags := 1, code := some k8c2 }
def k8c3 : Code := { maxStack := 4, maxLocals := 3, code := jdk_42_method_80_code, exceptionTable := #[], attributes := #[] }
def k8m3 : Method := { name := "indexOf", desc := "(II)I", sig := { parameters := [.int, .int], returnType := some .int }, accessFlags := 1, code := some k8c3 }
def k8c4 : Code := { maxStack := 1, maxLocals := 1, code := jdk_42_method_152_code, exceptionTable := #[], attributes := #[] }
def k8m4 : Method := { name := "coder", desc := "()B", sig := { parameters := [], returnType := some .byte }, accessFlags := 0, code := some k8c4 }
def k8c5 : Code := { maxStack := 1, maxLocals := 1, code := jdk_42_method_154_code, exceptionTable := #[], attributes := #[] }
def k8m5 : Method := { name := "isLatin1", desc := "()Z", sig := { parameters := [], returnType := some .boolean }, accessFlags := 0, code := some k8c5 }
/-- java/lang/String -/
def k8 : Class := { plain "java/lang/String" (some 0) with
  accessFlags := 49
  interfaces := #[3, 4, 5, 6, 7]
  cf := some (fileOf pool8 10 #[.nestMembers #[1103]] #[{ accessFlags := 1, nameIndex := 5, descriptorIndex := 6, attributes := #[] }, { accessFlags := 1, nameIndex := 507, descriptorIndex := 334, attributes := #[] }, { accessFlags := 1, nameIndex := 635, descriptorIndex := 765, attributes := #[] }, { accessFlags := 1, nameIndex := 635, descriptorIndex := 636, attributes := #[] }, { accessFlags := 0, nameIndex := 17, descriptorIndex := 337, attributes := #[] }, { accessFlags := 0, nameIndex := 494, descriptorIndex := 142, attributes := #[] }] 49 2 #[1106, 1108, 575, 1110, 1112] #[{ accessFlags := 18, nameIndex := 13, descriptorIndex := 14, attributes := #[] }, { accessFlags := 18, nameIndex := 17, descriptorIndex := 18, attributes := #[] }, { accessFlags := 2, nameIndex := 21, descriptorIndex := 22, attributes := #[] }, { accessFlags := 2, nameIndex := 25, descriptorIndex := 26, attributes := #[] }, { accessFlags := 26, nameIndex := 1116, descriptorIndex := 1117, attributes := #[] }, { accessFlags := 24, nameIndex := 40, descriptorIndex := 26, attributes := #[] }, { accessFlags := 26, nameIndex := 1101, descriptorIndex := 1102, attributes := #[] }, { accessFlags := 26, nameIndex := 1121, descriptorIndex := 1122, attributes := #[] }, { accessFlags := 25, nameIndex := 599, descriptorIndex := 600, attributes := #[] }, { accessFlags := 24, nameIndex := 1125, descriptorIndex := 18, attributes := #[] }, { accessFlags := 24, nameIndex := 1127, descriptorIndex := 18, attributes := #[] }])
  fields := #[{ name := "value", type := (.array .byte), accessFlags := 18, slot := 0, constantValue := 0 }, { name := "coder", type := .byte, accessFlags := 18, slot := 1, constantValue := 0 }, { name := "hash", type := .int, accessFlags := 2, slot := 2, constantValue := 0 }, { name := "hashIsZero", type := .boolean, accessFlags := 2, slot := 3, constantValue := 0 }, { name := "serialVersionUID", type := .long, accessFlags := 26, slot := 0, constantValue := 0 }, { name := "COMPACT_STRINGS", type := .boolean, accessFlags := 24, slot := 1, constantValue := 0 }, { name := "serialPersistentFields", type := (.array (.object "java/io/ObjectStreamField")), accessFlags := 26, slot := 2, constantValue := 0 }, { name := "REPL", type := .char, accessFlags := 26, slot := 3, constantValue := 0 }, { name := "CASE_INSENSITIVE_ORDER", type := (.object "java/util/Comparator"), accessFlags := 25, slot := 4, constantValue := 0 }, { name := "LATIN1", type := .byte, accessFlags := 24, slot := 5, constantValue := 0 }, { name := "UTF16", type := .byte, accessFlags := 24, slot := 6, constantValue := 0 }]
  methods := #[k8m0, k8m1, k8m2, k8m3, k8m4, k8m5]
  instanceTypes := #[(.array .byte), .byte, .int, .boolean]
  staticTypes := #[.long, .boolean, (.array (.object "java/io/ObjectStreamField")), .char, (.object "java/util/Comparator"), .byte, .byte]
  resolved := Array.replicate 1451 none
  statics := some 0 }

def pool9 : Array CpInfo := pool [(4, .class_ 6), (1, u "java/lang/Object"), (0, u "<init>"), (0, u "()V"), (5, .class_ 16), (1, u "java/lang/StringLatin1"), (21, .methodref 39 40), (0, .class_ 41), (0, .nameAndType 42 43), (0, u "java/lang/Math"), (0, u "min"), (0, u "(II)I"), (44, .methodref 14 89), (0, .nameAndType 90 91), (0, u "canEncode"), (0, u "(I)Z"), (0, .methodref 39 93), (0, .nameAndType 94 43), (0, u "max"), (0, .methodref 14 96), (0, .nameAndType 97 98), (0, u "indexOfChar"), (0, u "([BIII)I"), (2, u "indexOf"), (19, u "$assertionsDisabled"), (0, u "Z"), (98, .class_ 223), (1, u "java/lang/StringLatin1$LinesSpliterator"), (166, .class_ 391), (0, u "java/lang/StringLatin1$CharsSpliterator")] 3

def k9m0 : Method := { name := "<init>", desc := "()V", sig := { parameters := [], returnType := none }, accessFlags := 0, code := none }
def k9c1 : Code := { maxStack := 2, maxLocals := 1, code := jdk_43_method_4_code, exceptionTable := #[], attributes := #[] }
def k9m1 : Method := { name := "canEncode", desc := "(I)Z", sig := { parameters := [.int], returnType := some .boolean }, accessFlags := 9, code := some k9c1 }
def k9c2 : Code := { maxStack := 4, maxLocals := 4, code := jdk_43_method_22_code, exceptionTable := #[], attributes := #[] }
def k9m2 : Method := { name := "indexOf", desc := "([BIII)I", sig := { parameters := [(.array .byte), .int, .int, .int], returnType := some .int }, accessFlags := 9, code := some k9c2 }
def k9c3 : Code := { maxStack := 2, maxLocals := 6, code := jdk_43_method_23_code, exceptionTable := #[], attributes := #[] }
def k9m3 : Method := { name := "indexOfChar", desc := "([BIII)I", sig := { parameters := [(.array .byte), .int, .int, .int], returnType := some .int }, accessFlags := 10, code := some k9c3 }
/-- java/lang/StringLatin1 -/
def k9 : Class := { plain "java/lang/StringLatin1" (some 0) with
  accessFlags := 48
  interfaces := #[]
  cf := some (fileOf pool9 14 #[.nestMembers #[390, 221]] #[{ accessFlags := 0, nameIndex := 7, descriptorIndex := 8, attributes := #[] }, { accessFlags := 9, nameIndex := 90, descriptorIndex := 91, attributes := #[] }, { accessFlags := 9, nameIndex := 101, descriptorIndex := 98, attributes := #[] }, { accessFlags := 10, nameIndex := 97, descriptorIndex := 98, attributes := #[] }] 48 4 #[] #[{ accessFlags := 4120, nameIndex := 121, descriptorIndex := 122, attributes := #[] }])
  fields := #[{ name := "$assertionsDisabled", type := .boolean, accessFlags := 4120, slot := 0, constantValue := 0 }]
  methods := #[k9m0, k9m1, k9m2, k9m3]
  instanceTypes := #[]
  staticTypes := #[.boolean]
  resolved := Array.replicate 395 none
  statics := none }

def pool10 : Array CpInfo := pool [(1, .class_ 2), (0, u "java/lang/Math"), (1, .class_ 6), (1, u "java/lang/Object"), (0, u "<init>"), (0, u "()V"), (89, .class_ 100), (1, u "java/lang/Math$RandomNumberGeneratorHolder"), (71, u "negativeZeroFloatBits"), (0, u "J"), (2, u "negativeZeroDoubleBits"), (21, u "max"), (2, u "min"), (43, u "$assertionsDisabled"), (0, u "Z"), (88, u "(II)I"), (2, u "twoToTheDoubleScaleDown"), (0, u "D"), (4, u "twoToTheDoubleScaleUp"), (9, u "E"), (3, u "PI"), (2, u "TAU"), (2, u "DEGREES_TO_RADIANS"), (0, u "RADIANS_TO_DEGREES")] 94

def k10m0 : Method := { name := "<init>", desc := "()V", sig := { parameters := [], returnType := none }, accessFlags := 2, code := none }
def k10c1 : Code := { maxStack := 2, maxLocals := 2, code := jdk_29_method_65_code, exceptionTable := #[], attributes := #[] }
def k10m1 : Method := { name := "max", desc := "(II)I", sig := { parameters := [.int, .int], returnType := some .int }, accessFlags := 9, code := some k10c1 }
def k10c2 : Code := { maxStack := 2, maxLocals := 2, code := jdk_29_method_69_code, exceptionTable := #[], attributes := #[] }
def k10m2 : Method := { name := "min", desc := "(II)I", sig := { parameters := [.int, .int], returnType := some .int }, accessFlags := 9, code := some k10c2 }
/-- java/lang/Math -/
def k10 : Class := { plain "java/lang/Math" (some 0) with
  accessFlags := 49
  interfaces := #[]
  cf := some (fileOf pool10 1 #[.nestMembers #[98]] #[{ accessFlags := 2, nameIndex := 7, descriptorIndex := 8, attributes := #[] }, { accessFlags := 9, nameIndex := 198, descriptorIndex := 335, attributes := #[] }, { accessFlags := 9, nameIndex := 201, descriptorIndex := 335, attributes := #[] }] 49 4 #[] #[{ accessFlags := 25, nameIndex := 354, descriptorIndex := 339, attributes := #[] }, { accessFlags := 25, nameIndex := 358, descriptorIndex := 339, attributes := #[] }, { accessFlags := 25, nameIndex := 361, descriptorIndex := 339, attributes := #[] }, { accessFlags := 26, nameIndex := 364, descriptorIndex := 339, attributes := #[] }, { accessFlags := 26, nameIndex := 365, descriptorIndex := 339, attributes := #[] }, { accessFlags := 26, nameIndex := 172, descriptorIndex := 173, attributes := #[] }, { accessFlags := 26, nameIndex := 176, descriptorIndex := 173, attributes := #[] }, { accessFlags := 8, nameIndex := 344, descriptorIndex := 339, attributes := #[] }, { accessFlags := 8, nameIndex := 338, descriptorIndex := 339, attributes := #[] }, { accessFlags := 4120, nameIndex := 245, descriptorIndex := 246, attributes := #[] }])
  fields := #[{ name := "E", type := .double, accessFlags := 25, slot := 0, constantValue := 0 }, { name := "PI", type := .double, accessFlags := 25, slot := 1, constantValue := 0 }, { name := "TAU", type := .double, accessFlags := 25, slot := 2, constantValue := 0 }, { name := "DEGREES_TO_RADIANS", type := .double, accessFlags := 26, slot := 3, constantValue := 0 }, { name := "RADIANS_TO_DEGREES", type := .double, accessFlags := 26, slot := 4, constantValue := 0 }, { name := "negativeZeroFloatBits", type := .long, accessFlags := 26, slot := 5, constantValue := 0 }, { name := "negativeZeroDoubleBits", type := .long, accessFlags := 26, slot := 6, constantValue := 0 }, { name := "twoToTheDoubleScaleUp", type := .double, accessFlags := 8, slot := 7, constantValue := 0 }, { name := "twoToTheDoubleScaleDown", type := .double, accessFlags := 8, slot := 8, constantValue := 0 }, { name := "$assertionsDisabled", type := .boolean, accessFlags := 4120, slot := 9, constantValue := 0 }]
  methods := #[k10m0, k10m1, k10m2]
  instanceTypes := #[]
  staticTypes := #[.double, .double, .double, .double, .double, .long, .long, .double, .double, .boolean]
  resolved := Array.replicate 460 none
  statics := none }

def pool11 : Array CpInfo := pool [(2, .class_ 4), (1, u "java/lang/Object"), (0, u "<init>"), (0, u "()V"), (17, .class_ 26), (1, u "jdk/internal/util/Preconditions"), (28, .class_ 56), (0, u "jdk/internal/util/Preconditions$4"), (57, .class_ 115), (0, u "jdk/internal/util/Preconditions$1"), (7, u "SIOOBE_FORMATTER"), (0, u "Ljava/util/function/BiFunction;"), (0, .class_ 126), (0, u "jdk/internal/util/Preconditions$2"), (3, u "AIOOBE_FORMATTER"), (0, .class_ 132), (0, u "jdk/internal/util/Preconditions$3"), (3, u "IOOBE_FORMATTER")] 57

def k11m0 : Method := { name := "<init>", desc := "()V", sig := { parameters := [], returnType := none }, accessFlags := 1, code := none }
/-- jdk/internal/util/Preconditions -/
def k11 : Class := { plain "jdk/internal/util/Preconditions" (some 0) with
  accessFlags := 33
  interfaces := #[]
  cf := some (fileOf pool11 24 #[.nestMembers #[55, 131, 125, 114]] #[{ accessFlags := 1, nameIndex := 5, descriptorIndex := 6, attributes := #[] }] 33 2 #[] #[{ accessFlags := 25, nameIndex := 123, descriptorIndex := 124, attributes := #[] }, { accessFlags := 25, nameIndex := 130, descriptorIndex := 124, attributes := #[] }, { accessFlags := 25, nameIndex := 136, descriptorIndex := 124, attributes := #[] }])
  fields := #[{ name := "SIOOBE_FORMATTER", type := (.object "java/util/function/BiFunction"), accessFlags := 25, slot := 0, constantValue := 0 }, { name := "AIOOBE_FORMATTER", type := (.object "java/util/function/BiFunction"), accessFlags := 25, slot := 1, constantValue := 0 }, { name := "IOOBE_FORMATTER", type := (.object "java/util/function/BiFunction"), accessFlags := 25, slot := 2, constantValue := 0 }]
  methods := #[k11m0]
  instanceTypes := #[]
  staticTypes := #[(.object "java/util/function/BiFunction"), (.object "java/util/function/BiFunction"), (.object "java/util/function/BiFunction")]
  resolved := Array.replicate 194 none
  statics := some 1 }

def pool12 : Array CpInfo := pool [(9, u "<init>"), (6, .class_ 18), (1, u "java/lang/Object"), (0, u "()V"), (1, .class_ 23), (1, u "jdk/internal/util/ArraysSupport"), (0, u "LOG2_ARRAY_LONG_INDEX_SCALE"), (0, u "I"), (2, u "U"), (0, u "Ljdk/internal/misc/Unsafe;"), (8, u "BIG_ENDIAN"), (0, u "Z"), (8, u "LOG2_BYTE_BIT_SIZE"), (4, u "LOG2_ARRAY_INT_INDEX_SCALE"), (54, u "JLA"), (0, u "Ljdk/internal/access/JavaLangAccess;"), (11, u "LOG2_ARRAY_BOOLEAN_INDEX_SCALE"), (9, u "LOG2_ARRAY_BYTE_INDEX_SCALE"), (5, u "LOG2_ARRAY_CHAR_INDEX_SCALE"), (5, u "LOG2_ARRAY_SHORT_INDEX_SCALE"), (18, u "LOG2_ARRAY_FLOAT_INDEX_SCALE"), (24, u "LOG2_ARRAY_DOUBLE_INDEX_SCALE"), (89, u "T_BOOLEAN"), (2, u "T_CHAR"), (1, u "T_FLOAT"), (1, u "T_DOUBLE"), (1, u "T_BYTE"), (1, u "T_SHORT"), (1, u "T_INT"), (1, u "T_LONG"), (1, u "SOFT_MAX_ARRAY_LENGTH")] 83

def k12m0 : Method := { name := "<init>", desc := "()V", sig := { parameters := [], returnType := none }, accessFlags := 2, code := none }
/-- jdk/internal/util/ArraysSupport -/
def k12 : Class := { plain "jdk/internal/util/ArraysSupport" (some 0) with
  accessFlags := 33
  interfaces := #[]
  cf := some (fileOf pool12 21 #[] #[{ accessFlags := 2, nameIndex := 9, descriptorIndex := 19, attributes := #[] }] 33 16 #[] #[{ accessFlags := 24, nameIndex := 28, descriptorIndex := 29, attributes := #[] }, { accessFlags := 26, nameIndex := 38, descriptorIndex := 39, attributes := #[] }, { accessFlags := 25, nameIndex := 121, descriptorIndex := 25, attributes := #[] }, { accessFlags := 25, nameIndex := 131, descriptorIndex := 25, attributes := #[] }, { accessFlags := 25, nameIndex := 137, descriptorIndex := 25, attributes := #[] }, { accessFlags := 25, nameIndex := 143, descriptorIndex := 25, attributes := #[] }, { accessFlags := 25, nameIndex := 53, descriptorIndex := 25, attributes := #[] }, { accessFlags := 25, nameIndex := 24, descriptorIndex := 25, attributes := #[] }, { accessFlags := 25, nameIndex := 162, descriptorIndex := 25, attributes := #[] }, { accessFlags := 25, nameIndex := 187, descriptorIndex := 25, attributes := #[] }, { accessFlags := 26, nameIndex := 48, descriptorIndex := 25, attributes := #[] }, { accessFlags := 25, nameIndex := 277, descriptorIndex := 25, attributes := #[] }, { accessFlags := 25, nameIndex := 280, descriptorIndex := 25, attributes := #[] }, { accessFlags := 25, nameIndex := 282, descriptorIndex := 25, attributes := #[] }, { accessFlags := 25, nameIndex := 284, descriptorIndex := 25, attributes := #[] }, { accessFlags := 25, nameIndex := 286, descriptorIndex := 25, attributes := #[] }, { accessFlags := 25, nameIndex := 288, descriptorIndex := 25, attributes := #[] }, { accessFlags := 25, nameIndex := 290, descriptorIndex := 25, attributes := #[] }, { accessFlags := 25, nameIndex := 292, descriptorIndex := 25, attributes := #[] }, { accessFlags := 26, nameIndex := 108, descriptorIndex := 109, attributes := #[] }, { accessFlags := 25, nameIndex := 294, descriptorIndex := 25, attributes := #[] }])
  fields := #[{ name := "U", type := (.object "jdk/internal/misc/Unsafe"), accessFlags := 24, slot := 0, constantValue := 0 }, { name := "BIG_ENDIAN", type := .boolean, accessFlags := 26, slot := 1, constantValue := 0 }, { name := "LOG2_ARRAY_BOOLEAN_INDEX_SCALE", type := .int, accessFlags := 25, slot := 2, constantValue := 0 }, { name := "LOG2_ARRAY_BYTE_INDEX_SCALE", type := .int, accessFlags := 25, slot := 3, constantValue := 0 }, { name := "LOG2_ARRAY_CHAR_INDEX_SCALE", type := .int, accessFlags := 25, slot := 4, constantValue := 0 }, { name := "LOG2_ARRAY_SHORT_INDEX_SCALE", type := .int, accessFlags := 25, slot := 5, constantValue := 0 }, { name := "LOG2_ARRAY_INT_INDEX_SCALE", type := .int, accessFlags := 25, slot := 6, constantValue := 0 }, { name := "LOG2_ARRAY_LONG_INDEX_SCALE", type := .int, accessFlags := 25, slot := 7, constantValue := 0 }, { name := "LOG2_ARRAY_FLOAT_INDEX_SCALE", type := .int, accessFlags := 25, slot := 8, constantValue := 0 }, { name := "LOG2_ARRAY_DOUBLE_INDEX_SCALE", type := .int, accessFlags := 25, slot := 9, constantValue := 0 }, { name := "LOG2_BYTE_BIT_SIZE", type := .int, accessFlags := 26, slot := 10, constantValue := 0 }, { name := "T_BOOLEAN", type := .int, accessFlags := 25, slot := 11, constantValue := 0 }, { name := "T_CHAR", type := .int, accessFlags := 25, slot := 12, constantValue := 0 }, { name := "T_FLOAT", type := .int, accessFlags := 25, slot := 13, constantValue := 0 }, { name := "T_DOUBLE", type := .int, accessFlags := 25, slot := 14, constantValue := 0 }, { name := "T_BYTE", type := .int, accessFlags := 25, slot := 15, constantValue := 0 }, { name := "T_SHORT", type := .int, accessFlags := 25, slot := 16, constantValue := 0 }, { name := "T_INT", type := .int, accessFlags := 25, slot := 17, constantValue := 0 }, { name := "T_LONG", type := .int, accessFlags := 25, slot := 18, constantValue := 0 }, { name := "JLA", type := (.object "jdk/internal/access/JavaLangAccess"), accessFlags := 26, slot := 19, constantValue := 0 }, { name := "SOFT_MAX_ARRAY_LENGTH", type := .int, accessFlags := 25, slot := 20, constantValue := 0 }]
  methods := #[k12m0]
  instanceTypes := #[]
  staticTypes := #[(.object "jdk/internal/misc/Unsafe"), .boolean, .int, .int, .int, .int, .int, .int, .int, .int, .int, .int, .int, .int, .int, .int, .int, .int, .int, (.object "jdk/internal/access/JavaLangAccess"), .int]
  resolved := Array.replicate 378 none
  statics := none }

def pool13 : Array CpInfo := pool [(1, u "java/lang/Cloneable"), (0, .class_ 1), (0, u "java/lang/Object"), (0, .class_ 3)] 3

/-- java/lang/Cloneable -/
def k13 : Class := { plain "java/lang/Cloneable" (some 0) with
  accessFlags := 1537
  interfaces := #[]
  cf := some (fileOf pool13 2 #[] #[] 1537 4 #[] #[])
  fields := #[]
  methods := #[]
  instanceTypes := #[]
  staticTypes := #[]
  resolved := Array.replicate 8 none
  statics := none }

/-- the primitive byte -/
def k14 : Class := { plain "byte" none with kind := .primitive 'B', accessFlags := 0x411 }
/-- [B -/
def k15 : Class := { plain "[B" (some 0) with kind := .array 14 .byte, interfaces := #[13, 3], accessFlags := 1041 }

def heap : Heap := #[{ cls := 8, slots := #[.long 0, .int 1, .null, .int 0, .null, .int 0, .int 0], vm := .statics 8 },
  { cls := 11, slots := #[.null, .null, .null], vm := .statics 11 },
  { cls := 8, slots := #[.ref 3, .int 0, .int 0, .int 0], vm := .none },
  { cls := 15, slots := #[.int 45, .int 46, .int 95, .int 126, .int 33, .int 36, .int 38, .int 39, .int 40, .int 41, .int 42, .int 43, .int 44, .int 59, .int 61, .int 58, .int 64, .int 47, .int 63], vm := .none }]
def classes : Array Class := #[k0, k1, k2, k3, k4, k5, k6, k7, k8, k9, k10, k11, k12, k13, k14, k15]
def interned : List (Array UInt16 × Addr) := [(#[45, 46, 95, 126, 33, 36, 38, 39, 40, 41, 42, 43, 44, 59, 61, 58, 64, 47, 63], 2)]
def slotsUsed : Nat := 33
def theMethod : MethodId := ⟨1, 1⟩
def args0 : Array Value := #[.int 65]
def aboutOver (below : List Frame) : State where
  vm := { classes := classes, interned := interned.toArray }
  heap := heap
  slotsUsed := slotsUsed
  threads := #[{ frames := .invoking theMethod args0 :: below }]
def below0 : List Frame := [.native { method := ⟨0, 0⟩, args := #[] }]
def about1 : State := aboutOver below0
def p0 : Program := .bare "" "" ""
def e0 : Env := launch0.env 0 0 0
theorem w_frames : about1.frames = Frame.invoking theMethod args0 :: below0 := rfl
set_option maxRecDepth 65536 in
theorem w_args : argsFit about1.vm theMethod args0 = true := by decide +kernel
set_option maxRecDepth 65536 in
theorem w_heap : heapFits about1 = true := by decide +kernel
set_option maxRecDepth 65536 in
theorem w_runnable : about1.curStatus? = some .runnable := by decide +kernel
set_option maxRecDepth 65536 in
theorem w_alone : about1.alone = true := by decide +kernel
set_option maxRecDepth 65536 in
theorem w_named : about1.methodNamed? x = some theMethod := by decide +kernel
set_option maxRecDepth 65536 in
theorem w_hears : about1.hears theMethod below0 = true := by decide +kernel
set_option maxRecDepth 65536 in
theorem w_ripe : about1.ripe theMethod args0 below0 = true := by decide +kernel
theorem w_running : about1.status = .running := rfl
set_option maxRecDepth 65536 in
theorem w_room : about1.hasRoom e0.platform room_1 = true :=
  launch0.hasRoom_least _ room_1 (by decide +kernel) (by decide +kernel) (by decide +kernel) (by decide +kernel) (by decide +kernel) (by decide +kernel)
theorem allAtoms_all (ts : List Jvm.Cond) (a : Array Jvm.Value) (st : Jvm.State) : (allAtoms ts).before a st = ts.all (fun c => c.before a st) := by
  induction ts with
  | nil => rfl
  | cons c t ih =>
    show (Jvm.Cond.and c (allAtoms t)).before a st = _
    rw [Jvm.Cond.before_and, ih, List.all_cons]
def words1 : List Jvm.Cond := Jvm.Cond.code x code maxLocals ret :: tables_1
/-- a 'code' word, met by the world's own term for the bytes: nothing is compared byte by byte -/
theorem code_word {y : MethodName} {bytes : ByteArray} {mx : Nat} {rt : Option FieldType} {a : Array Value} {s : State} {m : MethodId} {meth : Method} {c : Code} (h1 : s.methodNamed? y = some m) (h2 : s.vm.method? m = some meth) (h3 : meth.code = some c) (h4 : c.code = bytes)
    (h5 : (c.maxLocals == mx && c.exceptionTable.isEmpty && decide (c.maxStack ≤ mostOperands) && decide (meth.sig.returnType = rt) && !meth.locks && decide (parseMethodDescriptor y.desc = some meth.sig)) = true) : (Jvm.Cond.code y bytes mx rt).before a s = true := by
  simp only [Bool.and_eq_true, beq_iff_eq, Bool.not_eq_true', decide_eq_true_eq] at h5
  obtain ⟨⟨⟨⟨⟨g1, g2⟩, g3⟩, g4⟩, g5⟩, g6⟩ := h5
  simp [Cond.before, Cond.holds, Cond.value, h1, h2, h3, h4, g1, g2, g3, g4, g5, g6]
def isCode : Jvm.Cond → Bool
  | .code _ _ _ _ => true
  | _ => false
theorem all_split {L : List Jvm.Cond} {P : Jvm.Cond → Bool} (h1 : L.all (fun c => isCode c || P c) = true) (h2 : ∀ c ∈ L.filter isCode, P c = true) : L.all P = true := by
  refine List.all_eq_true.mpr fun c hc => ?_
  have h := List.all_eq_true.mp h1 c hc
  rcases Bool.eq_false_or_eq_true (isCode c) with hi | hi
  · exact h2 c (List.mem_filter.mpr ⟨hc, hi⟩)
  · simpa [hi] using h
set_option maxRecDepth 65536 in
theorem w_c0 : (Jvm.Cond.code x code maxLocals ret).before args0 about1 = true := code_word (m := ⟨1, 1⟩) (meth := k1m1) (c := k1c1) (by decide +kernel) rfl rfl rfl (by decide +kernel)
set_option maxRecDepth 65536 in
theorem w_c1 : (Jvm.Cond.code ({ cls := "com/example/firm_quote/firmquote/server/UriText", name := "isUriCharacter", desc := "(C)Z" } : Jvm.MethodName) prog_47_method_3_code (1 : Nat) (Option.some Jvm.ClassFile.FieldType.boolean)).before args0 about1 = true := code_word (m := ⟨2, 1⟩) (meth := k2m1) (c := k2c1) (by decide +kernel) rfl rfl rfl (by decide +kernel)
set_option maxRecDepth 65536 in
theorem w_c2 : (Jvm.Cond.code ({ cls := "java/lang/String", name := "indexOf", desc := "(I)I" } : Jvm.MethodName) jdk_42_method_79_code (2 : Nat) (Option.some Jvm.ClassFile.FieldType.int)).before args0 about1 = true := code_word (m := ⟨8, 2⟩) (meth := k8m2) (c := k8c2) (by decide +kernel) rfl rfl rfl (by decide +kernel)
set_option maxRecDepth 65536 in
theorem w_c3 : (Jvm.Cond.code ({ cls := "java/lang/String", name := "indexOf", desc := "(II)I" } : Jvm.MethodName) jdk_42_method_80_code (3 : Nat) (Option.some Jvm.ClassFile.FieldType.int)).before args0 about1 = true := code_word (m := ⟨8, 3⟩) (meth := k8m3) (c := k8c3) (by decide +kernel) rfl rfl rfl (by decide +kernel)
set_option maxRecDepth 65536 in
theorem w_c4 : (Jvm.Cond.code ({ cls := "java/lang/String", name := "isLatin1", desc := "()Z" } : Jvm.MethodName) jdk_42_method_154_code (1 : Nat) (Option.some Jvm.ClassFile.FieldType.boolean)).before args0 about1 = true := code_word (m := ⟨8, 5⟩) (meth := k8m5) (c := k8c5) (by decide +kernel) rfl rfl rfl (by decide +kernel)
set_option maxRecDepth 65536 in
theorem w_c5 : (Jvm.Cond.code ({ cls := "java/lang/String", name := "length", desc := "()I" } : Jvm.MethodName) jdk_42_method_54_code (1 : Nat) (Option.some Jvm.ClassFile.FieldType.int)).before args0 about1 = true := code_word (m := ⟨8, 1⟩) (meth := k8m1) (c := k8c1) (by decide +kernel) rfl rfl rfl (by decide +kernel)
set_option maxRecDepth 65536 in
theorem w_c6 : (Jvm.Cond.code ({ cls := "java/lang/String", name := "coder", desc := "()B" } : Jvm.MethodName) jdk_42_method_152_code (1 : Nat) (Option.some Jvm.ClassFile.FieldType.byte)).before args0 about1 = true := code_word (m := ⟨8, 4⟩) (meth := k8m4) (c := k8c4) (by decide +kernel) rfl rfl rfl (by decide +kernel)
set_option maxRecDepth 65536 in
theorem w_c7 : (Jvm.Cond.code ({ cls := "java/lang/StringLatin1", name := "indexOf", desc := "([BIII)I" } : Jvm.MethodName) jdk_43_method_22_code (4 : Nat) (Option.some Jvm.ClassFile.FieldType.int)).before args0 about1 = true := code_word (m := ⟨9, 2⟩) (meth := k9m2) (c := k9c2) (by decide +kernel) rfl rfl rfl (by decide +kernel)
set_option maxRecDepth 65536 in
theorem w_c8 : (Jvm.Cond.code ({ cls := "java/lang/StringLatin1", name := "canEncode", desc := "(I)Z" } : Jvm.MethodName) jdk_43_method_4_code (1 : Nat) (Option.some Jvm.ClassFile.FieldType.boolean)).before args0 about1 = true := code_word (m := ⟨9, 1⟩) (meth := k9m1) (c := k9c1) (by decide +kernel) rfl rfl rfl (by decide +kernel)
set_option maxRecDepth 65536 in
theorem w_c9 : (Jvm.Cond.code ({ cls := "java/lang/Math", name := "max", desc := "(II)I" } : Jvm.MethodName) jdk_29_method_65_code (2 : Nat) (Option.some Jvm.ClassFile.FieldType.int)).before args0 about1 = true := code_word (m := ⟨10, 1⟩) (meth := k10m1) (c := k10c1) (by decide +kernel) rfl rfl rfl (by decide +kernel)
set_option maxRecDepth 65536 in
theorem w_c10 : (Jvm.Cond.code ({ cls := "java/lang/Math", name := "min", desc := "(II)I" } : Jvm.MethodName) jdk_29_method_69_code (2 : Nat) (Option.some Jvm.ClassFile.FieldType.int)).before args0 about1 = true := code_word (m := ⟨10, 2⟩) (meth := k10m2) (c := k10c2) (by decide +kernel) rfl rfl rfl (by decide +kernel)
set_option maxRecDepth 65536 in
theorem w_c11 : (Jvm.Cond.code ({ cls := "java/lang/StringLatin1", name := "indexOfChar", desc := "([BIII)I" } : Jvm.MethodName) jdk_43_method_23_code (6 : Nat) (Option.some Jvm.ClassFile.FieldType.int)).before args0 about1 = true := code_word (m := ⟨9, 3⟩) (meth := k9m3) (c := k9c3) (by decide +kernel) rfl rfl rfl (by decide +kernel)
def codes1 : List Jvm.Cond := [Jvm.Cond.code x code maxLocals ret, Jvm.Cond.code ({ cls := "com/example/firm_quote/firmquote/server/UriText", name := "isUriCharacter", desc := "(C)Z" } : Jvm.MethodName) prog_47_method_3_code (1 : Nat) (Option.some Jvm.ClassFile.FieldType.boolean), Jvm.Cond.code ({ cls := "java/lang/String", name := "indexOf", desc := "(I)I" } : Jvm.MethodName) jdk_42_method_79_code (2 : Nat) (Option.some Jvm.ClassFile.FieldType.int), Jvm.Cond.code ({ cls := "java/lang/String", name := "indexOf", desc := "(II)I" } : Jvm.MethodName) jdk_42_method_80_code (3 : Nat) (Option.some Jvm.ClassFile.FieldType.int), Jvm.Cond.code ({ cls := "java/lang/String", name := "isLatin1", desc := "()Z" } : Jvm.MethodName) jdk_42_method_154_code (1 : Nat) (Option.some Jvm.ClassFile.FieldType.boolean), Jvm.Cond.code ({ cls := "java/lang/String", name := "length", desc := "()I" } : Jvm.MethodName) jdk_42_method_54_code (1 : Nat) (Option.some Jvm.ClassFile.FieldType.int), Jvm.Cond.code ({ cls := "java/lang/String", name := "coder", desc := "()B" } : Jvm.MethodName) jdk_42_method_152_code (1 : Nat) (Option.some Jvm.ClassFile.FieldType.byte), Jvm.Cond.code ({ cls := "java/lang/StringLatin1", name := "indexOf", desc := "([BIII)I" } : Jvm.MethodName) jdk_43_method_22_code (4 : Nat) (Option.some Jvm.ClassFile.FieldType.int), Jvm.Cond.code ({ cls := "java/lang/StringLatin1", name := "canEncode", desc := "(I)Z" } : Jvm.MethodName) jdk_43_method_4_code (1 : Nat) (Option.some Jvm.ClassFile.FieldType.boolean), Jvm.Cond.code ({ cls := "java/lang/Math", name := "max", desc := "(II)I" } : Jvm.MethodName) jdk_29_method_65_code (2 : Nat) (Option.some Jvm.ClassFile.FieldType.int), Jvm.Cond.code ({ cls := "java/lang/Math", name := "min", desc := "(II)I" } : Jvm.MethodName) jdk_29_method_69_code (2 : Nat) (Option.some Jvm.ClassFile.FieldType.int), Jvm.Cond.code ({ cls := "java/lang/StringLatin1", name := "indexOfChar", desc := "([BIII)I" } : Jvm.MethodName) jdk_43_method_23_code (6 : Nat) (Option.some Jvm.ClassFile.FieldType.int)]
set_option maxRecDepth 65536 in
theorem codes_eq : words1.filter isCode = codes1 := rfl
theorem w_codes : ∀ c ∈ words1.filter isCode, c.before args0 about1 = true := by
  rw [codes_eq]
  intro c hc
  simp only [codes1, List.mem_cons, List.not_mem_nil, or_false] at hc
  rcases hc with rfl | rfl | rfl | rfl | rfl | rfl | rfl | rfl | rfl | rfl | rfl | rfl
  · exact w_c0
  · exact w_c1
  · exact w_c2
  · exact w_c3
  · exact w_c4
  · exact w_c5
  · exact w_c6
  · exact w_c7
  · exact w_c8
  · exact w_c9
  · exact w_c10
  · exact w_c11
set_option maxRecDepth 65536 in
theorem w_t1 : (words1.take 24).all (fun c => isCode c || c.before args0 about1) = true := by decide +kernel
set_option maxRecDepth 65536 in
theorem w_t2 : ((words1.drop 24).take 24).all (fun c => isCode c || c.before args0 about1) = true := by decide +kernel
set_option maxRecDepth 65536 in
theorem w_t3 : ((words1.drop 24).drop 24).all (fun c => isCode c || c.before args0 about1) = true := by decide +kernel
theorem w_tables : (allAtoms (Jvm.Cond.code x code maxLocals ret :: tables_1)).before args0 about1 = true := by
  rw [allAtoms_all]
  show words1.all (fun c => c.before args0 about1) = true
  refine all_split ?_ w_codes
  rw [← List.take_append_drop 24 words1, List.all_append, w_t1, ← List.take_append_drop 24 (words1.drop 24), List.all_append, w_t2, w_t3]
  rfl
set_option maxRecDepth 65536 in
theorem w_rest : rest_1_c.before args0 about1 = true := by decide +kernel
set_option maxRecDepth 65536 in
theorem w_case : (Jvm.Cond.and given_1 narrow_1).before args0 about1 = true := by decide +kernel
set_option maxRecDepth 65536 in
theorem w_consts : constsHeld consts_1 about1 := Jvm.Lit.constsHeldB_iff.mp (by decide +kernel)
theorem w_applies : (headSpec (Jvm.Cond.code x code maxLocals ret :: tables_1) room_1).applies x e0.platform about1 = true :=
  (Spec.applies_iff w_frames).mpr ⟨w_running, w_runnable, w_alone, w_named, w_hears, w_ripe, w_room, w_tables⟩
theorem atStart : AtStart classFile x code maxLocals ret World_1 tables_1 room_1 Calls_1 rest_1 Pre_1 launch0 p0 e0 about1 theMethod args0 below0 :=
  ⟨lists_1, trivial, launch0.admits_env _ _ _, launch0.least_env, fairChoices_fair.cas, fairChoices_fair.clock, w_frames, w_args, w_heap, w_applies, ⟨w_consts, trivial⟩, w_rest, w_case⟩
end start1
theorem witness_1 : WitnessClaimed_1 := ⟨start1.p0, start1.e0, start1.about1, start1.theMethod, start1.args0, start1.below0, start1.atStart⟩
end Jvm.Pilot.@@N@@

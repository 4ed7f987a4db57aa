import JvmDerived
import JvmDerived.Pilot.@@N@@Statement
import JvmDerived.Pilot.@@N@@Code
set_option linter.unusedVariables false
set_option linter.unusedSimpArgs false
namespace Jvm.Pilot.@@N@@.OwnKit
open Jvm Sem ClassFile Op Lib Jvm.Stand Jvm.Free Jvm.LawKit Jvm.RoadKit
section New
variable {p : Program} {l : Launch} {e : Env} {R : Room} {s : State} {m : MethodId} {args : Array Value} {below : List Frame} {meth : Method} {c : Code} {T : State} {locs : List Loc} {cells slots : Nat}
theorem retI (X : Stand p l e R s m args below meth c T locs cells slots) (hx : p.tables.exec = Jvm.exec) {pc : Nat} {Ls : Array Slot} {z : Int32} {rest : List Value} (hret : meth.sig.returnType = some .int) (hd : decode c.code pc = .ok (.ireturn, 1)) {fs : List Frame}
    (hl : ∀ (f : JFrame) (acts : List Action), f.method = m → f.locked = none → f.entered = [] → (doReturn e (T.setTop f) acts (some (.int z))).1 = T.setFrames fs) : Steps p.tables e below (T.setTop (mkF m pc Ls (.int z :: rest))) (T.setFrames fs) :=
  retOut X hx hret rfl (Or.inl ⟨rfl, Or.inl rfl, _, rfl⟩) hd hl
theorem lremM {g : JFrame} {target : State} (X : Stand p l e R s m args below meth c T locs cells slots) (hx : p.tables.exec = Jvm.exec) (hg : g.method = m) {x y : Int64} {rest : List Value} (hd : decode c.code g.pc = .ok (.lrem, 1)) (hs : g.stack = .long y :: .long x :: rest) (hy : y ≠ 0)
    (hr : Steps p.tables e below (T.setTop { g with pc := g.pc + 1, stack := .long (x % y) :: rest }) target) : Steps p.tables e below (T.setTop g) target := by
  have q : x - x / y * y = x % y := by
    have g1 := rng64 (x % y)
    have g2 : (x % y).toInt = x.toInt.tmod y.toInt := Int64.toInt_mod x y
    have g3 := Int.tmod_def x.toInt y.toInt
    have g4 : (x / y).toInt = (x.toInt.tdiv y.toInt).bmod (2 ^ 64) := Int64.toInt_div x y
    apply Int64.toInt_inj.mp
    rw [Int64.toInt_sub, Int64.toInt_mul, g4, Int.bmod_mul_bmod, Int.sub_bmod_bmod, Int.mul_comm (x.toInt.tdiv y.toInt), ← g3, ← g2]
    exact Int.bmod_eq_of_le_mul_two (by omega) (by omega)
  exact XS.lrem X.here hx hg hd hs hy (by rw [q]; exact hr)
end New
/-- from here the run ends, and as G says -/
def Goes (tb : Tables) (e : Env) (below : List Frame) (t : State) (G : State → Outcome → Prop) : Prop := ∃ s₂ o, Steps tb e below t s₂ ∧ s₂.status = .running ∧ Ended s₂ below o ∧ G s₂ o
variable {tb : Tables} {e : Env} {below : List Frame} {t t' : State} {G : State → Outcome → Prop}
theorem Goes.by (k : ∀ u, Steps tb e below t' u → Steps tb e below t u) (h : Goes tb e below t' G) : Goes tb e below t G := by
  obtain ⟨s₂, o, h1, h2⟩ := h; exact ⟨s₂, o, k _ h1, h2⟩
theorem Goes.via (k : Steps tb e below t t') (h : Goes tb e below t' G) : Goes tb e below t G := by
  obtain ⟨s₂, o, h1, h2⟩ := h; exact ⟨s₂, o, k.trans h1, h2⟩
theorem Goes.cut {α : Type} {K : α → State} {C : α → Prop} (h1 : (∀ x, C x → Goes tb e below (K x) G) → Goes tb e below t G) (h2 : ∀ x, C x → Goes tb e below (K x) G) : Goes tb e below t G := h1 h2
theorem Goes.loop {α : Type} (μ : α → Nat) {K : α → State} {C : α → Prop} (step : ∀ x, C x → (∀ y, μ y < μ x → C y → Goes tb e below (K y) G) → Goes tb e below (K x) G) : ∀ x, C x → Goes tb e below (K x) G := by
  intro x
  induction hn : μ x using Nat.strongRecOn generalizing x with
  | _ n ih => intro hC; exact step x hC (fun y hy hCy => ih (μ y) (hn ▸ hy) y rfl hCy)
theorem jl_t {x y : Int64} (h : x < y) : ifCond.holds .lt (lcmpW x y) = true ∧ ifCond.holds .ge (lcmpW x y) = false := ⟨(if0 _ _).trans (tlt ((lw_lt x y).mpr h)).1, (if0 _ _).trans (tlt ((lw_lt x y).mpr h)).2.1⟩
theorem jl_f {x y : Int64} (h : ¬ x < y) : ifCond.holds .lt (lcmpW x y) = false ∧ ifCond.holds .ge (lcmpW x y) = true := ⟨(if0 _ _).trans (flt (fun q => h ((lw_lt x y).mp q))).1, (if0 _ _).trans (flt (fun q => h ((lw_lt x y).mp q))).2.1⟩
theorem jg_t {x y : Int64} (h : y < x) : ifCond.holds .gt (lcmpW x y) = true ∧ ifCond.holds .le (lcmpW x y) = false := ⟨(if0 _ _).trans (tlt ((lw_gt x y).mpr h)).2.2.1, (if0 _ _).trans (tlt ((lw_gt x y).mpr h)).2.2.2⟩
theorem jg_f {x y : Int64} (h : ¬ y < x) : ifCond.holds .gt (lcmpW x y) = false ∧ ifCond.holds .le (lcmpW x y) = true := ⟨(if0 _ _).trans (flt (fun q => h ((lw_gt x y).mp q))).2.2.1, (if0 _ _).trans (flt (fun q => h ((lw_gt x y).mp q))).2.2.2⟩
theorem je_t {x y : Int64} (h : x = y) : ifCond.holds .eq (lcmpW x y) = true ∧ ifCond.holds .ne (lcmpW x y) = false := ⟨(if0 _ _).trans (teq ((lw_eq x y).mpr h)).1, (if0 _ _).trans (teq ((lw_eq x y).mpr h)).2⟩
theorem je_f {x y : Int64} (h : ¬ x = y) : ifCond.holds .eq (lcmpW x y) = false ∧ ifCond.holds .ne (lcmpW x y) = true := ⟨(if0 _ _).trans (feq (fun q => h ((lw_eq x y).mp q))).1, (if0 _ _).trans (feq (fun q => h ((lw_eq x y).mp q))).2⟩
theorem selP {Z s : State} {a0 args : Array Value} {y : MethodName} {n : Nat} (hZ : Z.Warmed39 s.vm) (wi : (Cond.instantiable y.cls n).before a0 Z = true) (wp : (Cond.privateMethod y).before a0 Z = true) (win : (Cond.instanceMethod y).before a0 Z = true) (hy : y.cls ≠ "java/lang/invoke/MethodHandle" ∧ y.cls ≠ "java/lang/invoke/VarHandle") : (Cond.selects y.cls y y).before args s = true := by
  have w1 : (Cond.instantiable y.cls n).before args s = true := mv hZ wi
  obtain ⟨c, k, h1, h2, -, h4, -⟩ := Cond.instantiable_spec w1
  rw [Bool.or_eq_false_iff] at h4
  exact selects_self_of_private h1 h2 h4.1 (Cond.privateMethod_at (mvP hZ wp (args := args))) (mv hZ win) hy
theorem catR {v : Value} (h : v.isRef = true) : v.category = 1 := by cases v <;> first | rfl | (cases h)
theorem narR {t : FieldType} {w : Value} (h : t.isReference = true) : narrow t w = w := by cases t <;> first | (cases h; done) | (cases w <;> rfl)
end Jvm.Pilot.@@N@@.OwnKit
namespace Jvm.Pilot.@@N@@.OwnKit
open Jvm Sem ClassFile Op Lib Jvm.Stand Jvm.Free Jvm.LawKit Jvm.RoadKit
/-- one place of a function turned -/
def up {α : Type} (f : Nat → α) (i : Nat) (v : α) : Nat → α := fun j => if j = i then v else f j
/-- an array of n places; place j holds f j -/
def Ar (Z : State) (h : Heap) (a : Addr) (ty : FieldType) (n : Nat) (f : Nat → Value) : Prop := ∃ c : Cell, Arr Z h a c ty ∧ c.slots.size = n ∧ n < 2 ^ 31 ∧ ∀ j, j < n → c.slots[j]? = some (f j) ∧ fits ty (f j) = true
def AI (Z : State) (h : Heap) (a : Addr) (ty : FieldType) (n : Nat) (f : Nat → Int32) : Prop := Ar Z h a ty n (fun j => .int (f j))
def AJ (Z : State) (h : Heap) (a : Addr) (n : Nat) (f : Nat → Int64) : Prop := Ar Z h a .long n (fun j => .long (f j))
section Facts
variable {Z : State} {h h' : Heap} {a b : Addr} {ty : FieldType} {n sl : Nat} {f : Nat → Value} {g : Nat → Int32} {k : Nat → Int64} {v : Value} {ws : List Addr}
theorem up_at {α : Type} (f : Nat → α) (i : Nat) (v : α) : up f i v i = v := if_pos rfl
theorem up_ne {α : Type} (f : Nat → α) {i j : Nat} (v : α) (q : j ≠ i) : up f i v j = f j := if_neg q
theorem Ar.lt (A : Ar Z h a ty n f) : a < h.size := by obtain ⟨c, A, -⟩ := A; exact A.lt
theorem Ar.ext (A : Ar Z h a ty n f) (E : Ext h h') : Ar Z h' a ty n f := by obtain ⟨c, A, r⟩ := A; exact ⟨c, A.ext E, r⟩
theorem Ar.other (A : Ar Z h b ty n f) (W : Wr h h' a sl v) (q : b ≠ a) : Ar Z h' b ty n f := by obtain ⟨c, A, r⟩ := A; exact ⟨c, A.other W q, r⟩
theorem Ar.keep (A : Ar Z h a ty n f) (K : Keep h h' ws) (q : a ∉ ws) : Ar Z h' a ty n f := by obtain ⟨c, A, r⟩ := A; exact ⟨c, ⟨K.2.1 a c A.1 q, A.2⟩, r⟩
theorem own_setSlot (c : Cell) (i : Nat) (v : Value) : (c.setSlot i v).slots = c.slots.setIfInBounds i v := rfl
theorem Ar.wr (A : Ar Z h a ty n f) (W : Wr h h' a sl v) (hf : fits ty v = true) : Ar Z h' a ty n (up f sl v) := by
  obtain ⟨c, A, S, M, G⟩ := A
  refine ⟨c.setSlot sl v, A.same W, by rw [sz_set]; exact S, M, fun j hj => ?_⟩
  by_cases q : j = sl
  · subst q; rw [up_at, own_setSlot, Array.getElem?_setIfInBounds_self_of_lt (by omega)]; exact ⟨rfl, hf⟩
  · rw [up_ne f v q, own_setSlot, Array.getElem?_setIfInBounds_ne (Ne.symm q)]; exact G j hj
theorem Ar.congr {f' : Nat → Value} (A : Ar Z h a ty n f) (q : ∀ j, j < n → f j = f' j) : Ar Z h a ty n f' := by
  obtain ⟨c, A, S, M, G⟩ := A; exact ⟨c, A, S, M, fun j hj => by rw [← q j hj]; exact G j hj⟩
theorem AI.lt (A : AI Z h a ty n g) : a < h.size := Ar.lt A
theorem AI.ext (A : AI Z h a ty n g) (E : Ext h h') : AI Z h' a ty n g := Ar.ext A E
theorem AI.other (A : AI Z h b ty n g) (W : Wr h h' a sl v) (q : b ≠ a) : AI Z h' b ty n g := Ar.other A W q
theorem AI.keep (A : AI Z h a ty n g) (K : Keep h h' ws) (q : a ∉ ws) : AI Z h' a ty n g := Ar.keep A K q
theorem AI.wr {x : Int32} (A : AI Z h a ty n g) (W : Wr h h' a sl (.int x)) (hf : fits ty (.int x) = true) : AI Z h' a ty n (up g sl x) :=
  (Ar.wr A W hf).congr fun j _ => by simp only [up]; split <;> rfl
theorem AI.congr {g' : Nat → Int32} (A : AI Z h a ty n g) (q : ∀ j, j < n → g j = g' j) : AI Z h a ty n g' := Ar.congr A fun j hj => by rw [q j hj]
theorem AJ.lt (A : AJ Z h a n k) : a < h.size := Ar.lt A
theorem AJ.ext (A : AJ Z h a n k) (E : Ext h h') : AJ Z h' a n k := Ar.ext A E
theorem AJ.other (A : AJ Z h b n k) (W : Wr h h' a sl v) (q : b ≠ a) : AJ Z h' b n k := Ar.other A W q
theorem AJ.keep (A : AJ Z h a n k) (K : Keep h h' ws) (q : a ∉ ws) : AJ Z h' a n k := Ar.keep A K q
theorem AJ.wr {x : Int64} (A : AJ Z h a n k) (W : Wr h h' a sl (.long x)) : AJ Z h' a n (up k sl x) :=
  (Ar.wr A W rfl).congr fun j _ => by simp only [up]; split <;> rfl
theorem AJ.congr {k' : Nat → Int64} (A : AJ Z h a n k) (q : ∀ j, j < n → k j = k' j) : AJ Z h a n k' := Ar.congr A fun j hj => by rw [q j hj]
theorem Ar.bound (A : Ar Z h a ty n f) : n < 2 ^ 31 := by obtain ⟨c, A, S, M, G⟩ := A; exact M
theorem eqv_r {Z : State} {args : Array Value} {X F : Term} {idx : List Nat} {y : Addr} (hF : F.eval args Z none idx Z = some (.ref y)) (h : (Cond.eq X F).value args Z none Z idx = some true) : X.eval args Z none idx Z = some (.ref y) := by
  obtain ⟨x, y', e1, e2, k1, k2⟩ := cmp_v (Or.inl h)
  cases hF.symm.trans e2
  exact e1.trans (congrArg some (gotT (eq_R e1 hF k2.2 rfl) h))
theorem own_lenA (t : Term) (args : Array Value) (first s : State) (o : Option Outcome) (idx : List Nat) : (Term.length t).eval args first o idx s = ((t.eval args first o idx s).bind fun v => match v with | .ref a => ((s.arrayAt? a).bind fun c => if c.slots.size < 2 ^ 31 then some (.int c.slots.size.toInt32) else none) | _ => none) := rfl
theorem own_sized {t : Term} {args : Array Value} {s : State} {a : Addr} {c : Cell} {z : Int32} {n : Nat} (ht : t.eval args s none [] s = some (.ref a)) (ha : s.arrayAt? a = some c) (h : (Term.length t).eval args s none [] s = some (.int z)) (hz : z.toInt = (n : Int)) : c.slots.size = n := by
  rw [own_lenA, ht, Option.bind_some] at h
  dsimp only at h
  rw [ha, Option.bind_some] at h
  by_cases q : c.slots.size < 2 ^ 31
  · rw [if_pos q] at h
    have e5 := Value.int.inj (Option.some.inj h)
    have e6 := len_toInt q
    rw [e5] at e6
    omega
  · rw [if_neg q] at h; cases h
theorem ixo {j : Int32} {i n : Nat} (hj : j.toInt = (i : Int)) (hi : i < n) : ¬ (j < 0 ∨ n ≤ j.toNatClampNeg) ∧ j.toNatClampNeg = i := by
  have e0 : (0 : Int32).toInt = 0 := rfl
  have q : j.toNatClampNeg = i := by rw [Int32.toNatClampNeg, hj]; rfl
  refine ⟨fun z => z.elim (fun u => ?_) fun u => ?_, q⟩
  · rw [Int32.lt_iff_toInt_lt] at u; omega
  · omega
theorem lenI {n : Nat} {z : Int32} (hz : z.toInt = (n : Int)) : n.toInt32 = z := by
  apply Int32.toInt_inj.mp
  have r := rng32 z
  rw [hz]; exact Int32.toInt_ofNat_of_lt (by omega)
theorem Ar.arv (A : Ar Z h a ty n f) : ∃ k, Arv Z h a k ty (Int32.ofNat n) ((List.range n).map f) (f 0) := by
  obtain ⟨c, A, S, M, G⟩ := A
  have e0 : (0 : Int32).toInt = 0 := rfl
  have hz : (Int32.ofNat n).toInt = (n : Int) := Int32.toInt_ofNat_of_lt (by omega)
  have hq : (Int32.ofNat n).toNatClampNeg = n := by rw [Int32.toNatClampNeg, hz]; rfl
  have hg : ∀ i, i < n → ((List.range n).map f).getD i (f 0) = f i := fun i hi => by
    rw [List.getD_eq_getElem?_getD, List.getElem?_map, List.getElem?_range hi]; rfl
  refine ⟨c.cls, c, A, rfl, by rw [hq]; exact S, by rw [Int32.lt_iff_toInt_lt, hz]; omega, fun i hi => ?_, fun i hi => ?_⟩
  · rw [hg i (by omega)]; exact (G i (by omega)).1
  · rw [hg i (by omega)]; exact (G i (by omega)).2
theorem Ar.of_arv {k : ClassId} {z : Int32} {vs : List Value} {d : Value} (A : Arv Z h a k ty z vs d) (hz : z.toInt = (n : Int)) : Ar Z h a ty n (fun j => vs.getD j d) := by
  obtain ⟨c, A, q, S, N, H, G⟩ := A
  have hq : z.toNatClampNeg = n := by rw [Int32.toNatClampNeg, hz]; rfl
  have r := rng32 z
  exact ⟨c, A, by rw [S, hq], by omega, fun j hj => ⟨H j (by omega), G j (by omega)⟩⟩
end Facts
section Steps
variable {p : Program} {l : Launch} {e : Env} {R : Room} {s : State} {m : MethodId} {args : Array Value} {below : List Frame} {meth : Method} {c : Code} {T : State} {locs : List Loc} {cells slots : Nat} {Z : State} {h : Heap} {a : Addr} {n i : Nat} {j : Int32} {rest : List Value} {fr : JFrame} {target : State}
theorem ldI {f : Nat → Int32} {v : Int32} (X : Stand p l e R s m args below meth c T locs cells slots) (hx : p.tables.exec = Jvm.exec) (hZ : Z.Warmed39 s.vm) (eT : T.heap = h) (A : AI Z h a .int n f) (hj : j.toInt = (i : Int)) (hi : i < n) (hv : v = f i) (hg : fr.method = m) (hs : fr.stack = .int j :: .ref a :: rest) (hd : decode c.code fr.pc = .ok (.iaload, 1))
    (hr : Steps p.tables e below (T.setTop { fr with pc := fr.pc + 1, stack := .int v :: rest }) target) : Steps p.tables e below (T.setTop fr) target := by
  obtain ⟨cl, A, S, M, G⟩ := A
  obtain ⟨q1, q2⟩ := ixo hj hi
  exact X.iaload hx (j := j) (v := .int v) (by rw [eT]; exact A.1) (State.isArrayOf_alike hZ.alike A.2.1) A.2.2 (by rw [S]; exact q1) (by rw [q2, hv]; exact (G i hi).1) hg hs hd _ hr
theorem ldB {f : Nat → Int32} {v : Int32} (X : Stand p l e R s m args below meth c T locs cells slots) (hx : p.tables.exec = Jvm.exec) (hZ : Z.Warmed39 s.vm) (eT : T.heap = h) (A : AI Z h a .byte n f) (hj : j.toInt = (i : Int)) (hi : i < n) (hv : v = f i) (hg : fr.method = m) (hs : fr.stack = .int j :: .ref a :: rest) (hd : decode c.code fr.pc = .ok (.baload, 1))
    (hr : Steps p.tables e below (T.setTop { fr with pc := fr.pc + 1, stack := .int v :: rest }) target) : Steps p.tables e below (T.setTop fr) target := by
  obtain ⟨cl, A, S, M, G⟩ := A
  obtain ⟨q1, q2⟩ := ixo hj hi
  exact X.baloadBytes hx (j := j) (v := .int v) (by rw [eT]; exact A.1) (State.isArrayOf_alike hZ.alike A.2.1) A.2.2 (by rw [S]; exact q1) (by rw [q2, hv]; exact (G i hi).1) hg hs hd _ hr
theorem ldJ {f : Nat → Int64} {v : Int64} (X : Stand p l e R s m args below meth c T locs cells slots) (hx : p.tables.exec = Jvm.exec) (hZ : Z.Warmed39 s.vm) (eT : T.heap = h) (A : AJ Z h a n f) (hj : j.toInt = (i : Int)) (hi : i < n) (hv : v = f i) (hg : fr.method = m) (hs : fr.stack = .int j :: .ref a :: rest) (hd : decode c.code fr.pc = .ok (.laload, 1))
    (hr : Steps p.tables e below (T.setTop { fr with pc := fr.pc + 1, stack := .long v :: rest }) target) : Steps p.tables e below (T.setTop fr) target := by
  obtain ⟨cl, A, S, M, G⟩ := A
  obtain ⟨q1, q2⟩ := ixo hj hi
  exact X.laload hx (j := j) (v := .long v) (by rw [eT]; exact A.1) (State.isArrayOf_alike hZ.alike A.2.1) A.2.2 (by rw [S]; exact q1) (by rw [q2, hv]; exact (G i hi).1) hg hs hd _ hr
theorem ldR {ty : FieldType} {f : Nat → Value} {v : Value} (X : Stand p l e R s m args below meth c T locs cells slots) (hx : p.tables.exec = Jvm.exec) (hZ : Z.Warmed39 s.vm) (eT : T.heap = h) (A : Ar Z h a ty n f) (hty : ty.isReference = true) (hj : j.toInt = (i : Int)) (hi : i < n) (hv : v = f i) (hg : fr.method = m) (hs : fr.stack = .int j :: .ref a :: rest) (hd : decode c.code fr.pc = .ok (.aaload, 1))
    (hr : Steps p.tables e below (T.setTop { fr with pc := fr.pc + 1, stack := v :: rest }) target) : Steps p.tables e below (T.setTop fr) target := by
  obtain ⟨cl, A, S, M, G⟩ := A
  obtain ⟨q1, q2⟩ := ixo hj hi
  exact X.aaload hx (j := j) (v := v) (by rw [eT]; exact A.1) (State.isArrayOf_alike hZ.alike A.2.1) hty A.2.2 (by rw [S]; exact q1) (by rw [q2, hv]; exact (G i hi).1) hg hs hd _ hr
/-- an array's clone -/
theorem cloneAr {a0 : Array Value} {own ad : String} {index : Nat} {ty : FieldType} {f : Nat → Value} {W cap : Nat} (X : Stand p l e R s m args below meth c T locs cells slots) (hx : p.tables.exec = Jvm.exec) (hZ : Z.Warmed39 s.vm) (hown : s.vm.findClass own = some m.cls)
    (w1 : (Cond.methodLink own index ⟨ad, "clone", "()Ljava/lang/Object;"⟩).before a0 Z = true) (w2 : (Cond.sameMethod ad "java/lang/Object" "clone" "()Ljava/lang/Object;").before a0 Z = true) (w3 : (Cond.native ⟨"java/lang/Object", "clone", "()Ljava/lang/Object;"⟩).before a0 Z = true)
    (w4 : (Cond.instanceMethod ⟨"java/lang/Object", "clone", "()Ljava/lang/Object;"⟩).before a0 Z = true) (w5 : (Cond.selects ad ⟨ad, "clone", "()Ljava/lang/Object;"⟩ ⟨"java/lang/Object", "clone", "()Ljava/lang/Object;"⟩).before a0 Z = true) (w6 : (Cond.castable ad "java/lang/Cloneable").before a0 Z = true)
    (eT : T.heap = h) (A : Ar Z h a ty n f) (E : Exa Z h a ad) (hg : fr.method = m) (hsize : fr.locals.size = c.maxLocals) (hs : fr.stack = .ref a :: rest) (hd : decode c.code fr.pc = .ok (.invokevirtual index, 3))
    (hf : 1 ≤ R.frames) (hW : 2 * fr.monitorRoom + (rest.map fun v => v.category).sum ≤ W) (hl : W + 14 ≤ R.locals) (hcap : n ≤ cap) (hc : cells + 1 ≤ R.cells) (hsl : slots + cap ≤ R.slots) :
    ∃ T' h', Stand p l e R s m args below meth c T' locs (cells + 1) (slots + cap) ∧ T'.heap = h' ∧ Ext h h' ∧ Ar Z h' h.size ty n f ∧ Exa Z h' h.size ad ∧
      ∀ target, Steps p.tables e below (T'.setTop { fr with pc := fr.pc + 3, stack := .ref h.size :: rest }) target → Steps p.tables e below (T.setTop fr) target := by
  obtain ⟨cl, A, S, M, G⟩ := A
  have FC : FitC Z cl := fitC_of A fun i hi v hv => by
    have q := G i (by omega)
    rw [q.1] at hv; cases hv; exact q.2
  obtain ⟨T', h', X', e', ex, A', E', st⟩ := cloneA X hx hZ hown w1 w2 w3 w4 w5 w6 eT A E FC hg hsize hs hd hf hW hl (by omega) hc hsl
  exact ⟨T', h', X', e', ex, ⟨cloneOf cl, A', S, M, G⟩, E', st⟩
theorem alen {ty : FieldType} {f : Nat → Value} {z : Int32} (X : Stand p l e R s m args below meth c T locs cells slots) (hx : p.tables.exec = Jvm.exec) (hZ : Z.Warmed39 s.vm) (eT : T.heap = h) (A : Ar Z h a ty n f) (hz : z.toInt = (n : Int)) (hg : fr.method = m) (hs : fr.stack = .ref a :: rest) (hd : decode c.code fr.pc = .ok (.arraylength, 1))
    (hr : Steps p.tables e below (T.setTop { fr with pc := fr.pc + 1, stack := .int z :: rest }) target) : Steps p.tables e below (T.setTop fr) target := by
  obtain ⟨cl, A, S, M, G⟩ := A
  exact X.arraylength hx (by rw [eT]; exact A.1) (State.isArrayOf_alike hZ.alike A.2.1) hg hs hd _ (by rw [S, lenI hz]; exact hr)
theorem stAI {f : Nat → Int32} {x : Int32} (X : Stand p l e R s m args below meth c T locs cells slots) (hx : p.tables.exec = Jvm.exec) (hZ : Z.Warmed39 s.vm) (eT : T.heap = h) (A : AI Z h a .int n f) (hj : j.toInt = (i : Int)) (hi : i < n) (hg : fr.method = m) (hs : fr.stack = .int x :: .int j :: .ref a :: rest) (hd : decode c.code fr.pc = .ok (.iastore, 1)) :
    ∃ T' h', Stand p l e R s m args below meth c T' (locs ++ [⟨a, i⟩]) cells slots ∧ T'.heap = h' ∧ Wr h h' a i (.int x) ∧ AI Z h' a .int n (up f i x) ∧ ∀ target, Steps p.tables e below (T'.setTop { fr with pc := fr.pc + 1, stack := rest }) target → Steps p.tables e below (T.setTop fr) target := by
  have A0 := A
  obtain ⟨cl, A, S, M, G⟩ := A
  obtain ⟨q1, q2⟩ := ixo hj hi
  obtain ⟨T', h', X', e', W', st⟩ := stI X hx hZ eT A (j := j) (by rw [S]; exact q1) hg hs hd
  rw [q2] at X' W'
  exact ⟨T', h', X', e', W', A0.wr W' rfl, st⟩
theorem stAB {f : Nat → Int32} {x : Int32} (X : Stand p l e R s m args below meth c T locs cells slots) (hx : p.tables.exec = Jvm.exec) (hZ : Z.Warmed39 s.vm) (eT : T.heap = h) (A : AI Z h a .byte n f) (hj : j.toInt = (i : Int)) (hi : i < n) (hg : fr.method = m) (hs : fr.stack = .int x :: .int j :: .ref a :: rest) (hd : decode c.code fr.pc = .ok (.bastore, 1)) :
    ∃ T' h', Stand p l e R s m args below meth c T' (locs ++ [⟨a, i⟩]) cells slots ∧ T'.heap = h' ∧ Wr h h' a i (.int x.toInt8.toInt32) ∧ AI Z h' a .byte n (up f i x.toInt8.toInt32) ∧ ∀ target, Steps p.tables e below (T'.setTop { fr with pc := fr.pc + 1, stack := rest }) target → Steps p.tables e below (T.setTop fr) target := by
  have A0 := A
  obtain ⟨cl, A, S, M, G⟩ := A
  obtain ⟨q1, q2⟩ := ixo hj hi
  obtain ⟨T', h', X', e', W', st⟩ := stB X hx hZ eT A (j := j) (by rw [S]; exact q1) hg hs hd
  rw [q2] at X' W'
  exact ⟨T', h', X', e', W', A0.wr W' (fits_nar_byte x), st⟩
theorem stAC {f : Nat → Int32} {x : Int32} (X : Stand p l e R s m args below meth c T locs cells slots) (hx : p.tables.exec = Jvm.exec) (hZ : Z.Warmed39 s.vm) (eT : T.heap = h) (A : AI Z h a .char n f) (hj : j.toInt = (i : Int)) (hi : i < n) (hg : fr.method = m) (hs : fr.stack = .int x :: .int j :: .ref a :: rest) (hd : decode c.code fr.pc = .ok (.castore, 1)) :
    ∃ T' h', Stand p l e R s m args below meth c T' (locs ++ [⟨a, i⟩]) cells slots ∧ T'.heap = h' ∧ Wr h h' a i (.int (nar .char x)) ∧ AI Z h' a .char n (up f i (nar .char x)) ∧ ∀ target, Steps p.tables e below (T'.setTop { fr with pc := fr.pc + 1, stack := rest }) target → Steps p.tables e below (T.setTop fr) target := by
  have A0 := A
  obtain ⟨cl, A, S, M, G⟩ := A
  obtain ⟨q1, q2⟩ := ixo hj hi
  obtain ⟨T', h', X', e', W', st⟩ := stC X hx hZ eT A (j := j) (by rw [S]; exact q1) hg hs hd
  rw [q2] at X' W'
  exact ⟨T', h', X', e', W', A0.wr W' (fits_nar_char x), st⟩
theorem stAJ {f : Nat → Int64} {x : Int64} (X : Stand p l e R s m args below meth c T locs cells slots) (hx : p.tables.exec = Jvm.exec) (hZ : Z.Warmed39 s.vm) (eT : T.heap = h) (A : AJ Z h a n f) (hj : j.toInt = (i : Int)) (hi : i < n) (hg : fr.method = m) (hs : fr.stack = .long x :: .int j :: .ref a :: rest) (hd : decode c.code fr.pc = .ok (.lastore, 1)) :
    ∃ T' h', Stand p l e R s m args below meth c T' (locs ++ [⟨a, i⟩]) cells slots ∧ T'.heap = h' ∧ Wr h h' a i (.long x) ∧ AJ Z h' a n (up f i x) ∧ ∀ target, Steps p.tables e below (T'.setTop { fr with pc := fr.pc + 1, stack := rest }) target → Steps p.tables e below (T.setTop fr) target := by
  have A0 := A
  obtain ⟨cl, A, S, M, G⟩ := A
  obtain ⟨q1, q2⟩ := ixo hj hi
  obtain ⟨T', h', X', e', W', st⟩ := stJ X hx hZ eT A (j := j) (by rw [S]; exact q1) hg hs hd
  rw [q2] at X' W'
  exact ⟨T', h', X', e', W', A0.wr W', st⟩
theorem nwA {a0 : Array Value} {aty : ArrayType} {z : Int32} {cap : Nat} (X : Stand p l e R s m args below meth c T locs cells slots) (hx : p.tables.exec = Jvm.exec) (hZ : Z.Warmed39 s.vm) (w : (Cond.arrayClass (newarray.typeOf aty)).before a0 Z = true) (eT : T.heap = h) (hz : z.toInt = (n : Int)) (hcap : n ≤ cap) (hb : cap * 8 ≤ 536870912) (hc : cells + 1 ≤ R.cells) (hl : slots + cap ≤ R.slots) (hg : fr.method = m) (hs : fr.stack = .int z :: rest) (hd : decode c.code fr.pc = .ok (.newarray aty, 2)) :
    ∃ T' h', Stand p l e R s m args below meth c T' locs (cells + 1) (slots + cap) ∧ T'.heap = h' ∧ Ext h h' ∧ Ar Z h' h.size (newarray.typeOf aty) n (fun _ => defaultValue (newarray.typeOf aty)) ∧ ∀ target, Steps p.tables e below (T'.setTop { fr with pc := fr.pc + 2, stack := .ref h.size :: rest }) target → Steps p.tables e below (T.setTop fr) target := by
  have e0 : (0 : Int32).toInt = 0 := rfl
  have q : z.toNatClampNeg = n := by rw [Int32.toNatClampNeg, hz]; rfl
  have qn : ¬ z < 0 := by rw [Int32.lt_iff_toInt_lt]; omega
  have r := rng32 z
  obtain ⟨T', h', cA, X', e', E', A', st⟩ := newP X hx hZ w eT hg hd hs qn (cap := cap) (by omega) hb hc hl
  refine ⟨T', h', X', e', E', ⟨_, A', by rw [sz_new, q], by omega, fun i hi => ⟨?_, by cases aty <;> rfl⟩⟩, st⟩
  simp [newA, q, hi]
/-- System.arraycopy of the first k places -/
theorem cpAr {a0 : Array Value} {own : String} {index : Nat} {b : Addr} {ty : FieldType} {n1 n2 k : Nat} {f1 f2 : Nat → Value} {nn : Int32} {n0 W : Nat} (X : Stand p l e R s m args below meth c T locs cells slots) (hx : p.tables.exec = Jvm.exec) (hZ : Z.Warmed39 s.vm) (hown : s.vm.findClass own = some m.cls)
    (w1 : (Cond.methodLink own index Jvm.Stand.acN).before a0 Z = true) (w2 : (Cond.native Jvm.Stand.acN).before a0 Z = true) (w3 : (Cond.static Jvm.Stand.acN).before a0 Z = true) (w4 : (Cond.initialized "java/lang/System").before a0 Z = true) (eT : T.heap = h)
    (A : Ar Z h a ty n1 f1) (B : Ar Z h b ty n2 f2) (hty : refKind ty = false) (hk : nn.toInt = (k : Int)) (h4 : k ≤ n1) (h5 : k ≤ n2) (N : Fr n0 locs) (ge : n0 ≤ b)
    (hg : fr.method = m) (hsize : fr.locals.size = c.maxLocals) (hs : fr.stack = .int nn :: .int 0 :: .ref b :: .int 0 :: .ref a :: rest) (hd : decode c.code fr.pc = .ok (.invokestatic index, 3))
    (hf : 1 ≤ R.frames) (hW : 2 * fr.monitorRoom + (rest.map fun v => v.category).sum ≤ W) (hlo : W + (nativeFrameWords "java/lang/System" "arraycopy" 5 + 11) ≤ R.locals) :
    ∃ T' h' L, Stand p l e R s m args below meth c T' L cells slots ∧ T'.heap = h' ∧ Fr n0 L ∧ Keep h h' [b] ∧ Ar Z h' b ty n2 (fun j => if j < k then f1 j else f2 j) ∧
      ∀ target, Steps p.tables e below (T'.setTop { fr with pc := fr.pc + 3, stack := rest }) target → Steps p.tables e below (T.setTop fr) target := by
  obtain ⟨ka, A'⟩ := A.arv
  obtain ⟨kb, B'⟩ := B.arv
  have m1 := A.bound
  have m2 := B.bound
  have e0 : (0 : Int32).toInt = 0 := rfl
  have z0 : (0 : Int32).toNatClampNeg = 0 := rfl
  have hkk : nn.toNatClampNeg = k := by rw [Int32.toNatClampNeg, hk]; rfl
  have q1 : (Int32.ofNat n1).toInt = (n1 : Int) := Int32.toInt_ofNat_of_lt (by omega)
  have q2 : (Int32.ofNat n2).toInt = (n2 : Int) := Int32.toInt_ofNat_of_lt (by omega)
  have p1 : (Int32.ofNat n1).toNatClampNeg = n1 := by rw [Int32.toNatClampNeg, q1]; rfl
  have p2 : (Int32.ofNat n2).toNatClampNeg = n2 := by rw [Int32.toNatClampNeg, q2]; rfl
  obtain ⟨T', h', L', X', e', N', K', B2, st⟩ := cpA X hx hZ hown w1 w2 w3 w4 eT A' B' (Or.inl ⟨rfl, hty⟩) (sp := 0) (dp := 0) (nn := nn) (by decide) (by decide) (by rw [Int32.lt_iff_toInt_lt]; omega) (by rw [z0, hkk, p1]; omega) (by rw [z0, hkk, p2]; omega) rfl (by rw [z0, hkk, List.length_map, List.length_range]; omega) N ge hg hsize hs hd hf hW hlo
  refine ⟨T', h', L', X', e', N', K', (Ar.of_arv B2 q2).congr fun j hj => ?_, st⟩
  simp only [z0, hkk, List.take_zero, List.nil_append, Nat.zero_add, List.getD_eq_getElem?_getD]
  by_cases c1 : j < k
  · rw [if_pos c1, List.getElem?_append_left (by simpa using c1)]
    simp [c1, show j < n1 by omega]
  · rw [if_neg c1, List.getElem?_append_right (by simpa using c1)]
    simp [show k + (j - k) = j by omega, hj]
end Steps
end Jvm.Pilot.@@N@@.OwnKit
namespace Jvm.Pilot.@@N@@
namespace StrChars
open Jvm Sem ClassFile Op Lib Jvm.Stand Jvm.Free.XT Jvm.Free.ALB Jvm.Free.JM Jvm.Free
open Jvm.Lib.Cold (StaticIs)
/-- a char array whose places are chars -/
def Ch (a : Addr) (A : Cell) (U : State) : Prop := Arr .char a A U ∧ Typed .char A
theorem Ch.mv {a : Addr} {A : Cell} {U U' : State} (h : Ch a A U) (hal : U.vm.Alike U'.vm) (hh : U'.heap = U.heap) : Ch a A U' := ⟨h.1.mv hal hh, h.2⟩
theorem Ch.keep {a : Addr} {A : Cell} {U U' : State} (h : Ch a A U) (hal : U.vm.Alike U'.vm) (hk : U'.heap[a]? = some A) : Ch a A U' := ⟨h.1.keep hal hk, h.2⟩
/-- what place i of a char[]'s cell holds -/
def cv (A : Cell) (i : Nat) : Int32 := match A.slots[i]? with | some (.int x) => x | _ => 0
theorem Ch.get {a : Addr} {A : Cell} {U : State} (h : Ch a A U) {i : Nat} (hi : i < A.slots.size) : A.slots[i]? = some (.int (cv A i)) := by
  have e := Array.getElem?_eq_getElem hi
  have f := h.2 i _ e
  unfold cv; rw [e]
  generalize A.slots[i] = v at f
  cases v <;> simp [fits] at f ⊢
/-- the byte that i2b leaves of a char -/
def lo8 (x : Int32) : Int32 := x.toInt8.toInt32
theorem fits_lo8 (y : Int32) : fits .byte (.int (lo8 y)) = true := by
  have h1 := y.toInt8.le_toInt
  have h2 := y.toInt8.toInt_lt
  simp only [lo8, fits, Bool.and_eq_true, decide_eq_true_eq, Int32.le_iff_toInt_le, Int8.toInt_toInt32, show (-128 : Int32).toInt = -128 from by decide, show (127 : Int32).toInt = 127 from by decide]
  omega
/-- A' is A but that each place j of lo .. hi - 1 holds f j -/
def Laid (A A' : Cell) (lo hi : Nat) (f : Nat → Value) : Prop := A'.cls = A.cls ∧ A'.vm = A.vm ∧ A'.slots.size = A.slots.size ∧ ∀ i, A'.slots[i]? = if lo ≤ i ∧ i < hi then some (f i) else A.slots[i]?
theorem Laid.zero (A : Cell) (lo : Nat) (f : Nat → Value) : Laid A A lo (lo + 0) f := ⟨rfl, rfl, rfl, fun i => by rw [if_neg (by omega)]⟩
theorem Laid.step {A Ak : Cell} {lo k : Nat} {f : Nat → Value} {v : Value} (h : Laid A Ak lo k f) (hlo : lo ≤ k) (hk : k < Ak.slots.size) (hv : v = f k) : Laid A (Ak.setSlot k v) lo (k + 1) f := by
  refine ⟨h.1, h.2.1, by simpa [Cell.setSlot] using h.2.2.1, fun i => ?_⟩
  by_cases e : k = i
  · subst e; rw [Cell.slots_setSlot_self v hk, if_pos (by omega), hv]
  · rw [Cell.slots_setSlot_ne v e, h.2.2.2 i]
    by_cases q : lo ≤ i ∧ i < k
    · rw [if_pos q, if_pos (by omega)]
    · rw [if_neg q, if_neg (by omega)]
def U16 : String := "java/lang/StringUTF16"
namespace Cmp5
def yN : MethodName := ⟨"java/lang/StringUTF16", "compress", "([CI[BII)I"⟩
abbrev yB : ByteArray := jdk_52_method_21_code
theorem d0 : decode yB 0 = .ok (.iconst 0, 1) := by decide +kernel
theorem d1 : decode yB 1 = .ok (.istore 5, 2) := by decide +kernel
theorem d3 : decode yB 3 = .ok (.iload 5, 2) := by decide +kernel
theorem d5 : decode yB 5 = .ok (.iload 4, 2) := by decide +kernel
theorem d7 : decode yB 7 = .ok (.if_icmp (.ge) 37, 3) := by decide +kernel
theorem d10 : decode yB 10 = .ok (.aload_n 0, 1) := by decide +kernel
theorem d11 : decode yB 11 = .ok (.iload_n 1, 1) := by decide +kernel
theorem d12 : decode yB 12 = .ok (.caload, 1) := by decide +kernel
theorem d13 : decode yB 13 = .ok (.istore 6, 2) := by decide +kernel
theorem d15 : decode yB 15 = .ok (.iload 6, 2) := by decide +kernel
theorem d17 : decode yB 17 = .ok (.sipush 255, 3) := by decide +kernel
theorem d20 : decode yB 20 = .ok (.if_icmp (.le) 6, 3) := by decide +kernel
theorem d26 : decode yB 26 = .ok (.aload_n 2, 1) := by decide +kernel
theorem d27 : decode yB 27 = .ok (.iload_n 3, 1) := by decide +kernel
theorem d28 : decode yB 28 = .ok (.iload 6, 2) := by decide +kernel
theorem d30 : decode yB 30 = .ok (.i2b, 1) := by decide +kernel
theorem d31 : decode yB 31 = .ok (.bastore, 1) := by decide +kernel
theorem d32 : decode yB 32 = .ok (.iinc 1 1, 3) := by decide +kernel
theorem d35 : decode yB 35 = .ok (.iinc 3 1, 3) := by decide +kernel
theorem d38 : decode yB 38 = .ok (.iinc 5 1, 3) := by decide +kernel
theorem d41 : decode yB 41 = .ok (.goto (-38), 3) := by decide +kernel
theorem d44 : decode yB 44 = .ok (.iload 4, 2) := by decide +kernel
theorem d46 : decode yB 46 = .ok (.ireturn, 1) := by decide +kernel
def site : List Cond := []
def tab : Cond := tabOf yN yB 7 (some .int) site
def P (b : Addr) (A : Cell) (d : Addr) (B : Cell) (o q len : Nat) (args : Array Value) (s : State) : Prop := args = #[.ref b, .int (Int32.ofNat o), .ref d, .int (Int32.ofNat q), .int (Int32.ofNat len)] ∧ Ch b A s ∧ Arr .byte d B s ∧ b ≠ d ∧ o + len ≤ A.slots.size ∧ q + len ≤ B.slots.size ∧ ∀ i, i < len → ¬ 255 < cv A (o + i)
def E (b : Addr) (A : Cell) (d : Addr) (B : Cell) (o q len : Nat) (r : Option Value) (s u : State) : Prop := r = some (.int (Int32.ofNat len)) ∧ ∃ B', Put d B' s u ∧ Laid B B' q (q + len) (fun j => Value.int (lo8 (cv A (o + (j - q)))))
/-- no char of the range above 255: len; the places written hold each char's low byte -/
theorem law (l : Launch) (b : Addr) (A : Cell) (d : Addr) (B : Cell) (o q len : Nat) : Law l yN 5 5 0 0 yB 7 (some .int) site (P b A d B o q len) (E b A d B o q len) (copyLocs d q len) 0 0 := by
  refine Law.of_walk (plainFor_of_name (by decide +kernel)) (by decide +kernel) (by decide +kernel) (by decide) (fun _ _ h => by rw [h.1]; rfl) (fun _ U U' hal hh h => ⟨h.1, h.2.1.mv hal hh, h.2.2.1.mv hal hh, h.2.2.2⟩) (fun r U U' V V' h1 hal h2 h => ⟨h.1, h.2.elim fun B' q => ⟨B', q.1.mv h1 h2, q.2⟩⟩) ?_
  intro p e s m args below meth c s₁ X0 hexec hbytes hml hret hlk hnm hown hh0 W hP
  obtain ⟨rfl, hA, hB, hne, l1, l2, hp⟩ := hP
  have c1 : Steps p.tables e below (s₁.setTop (entryFrame m #[.ref b, .int (Int32.ofNat o), .ref d, .int (Int32.ofNat q), .int (Int32.ofNat len)] 7)) (s₁.setTop (mkF m 0 #[.val (.ref b), .val (.int (Int32.ofNat o)), .val (.ref d), .val (.int (Int32.ofNat q)), .val (.int (Int32.ofNat len)), .unset, .unset] [])) := entry rfl
  have hA0 := hA.1.mv X0.warmed.alike hh0
  have hB0 := hB.mv X0.warmed.alike hh0
  have a31 := hA.1.2.2.2
  have c2 : Steps p.tables e below (s₁.setTop (entryFrame m #[.ref b, .int (Int32.ofNat o), .ref d, .int (Int32.ofNat q), .int (Int32.ofNat len)] 7)) (s₁.setTop (mkF m 3 #[.val (.ref b), .val (.int (Int32.ofNat o)), .val (.ref d), .val (.int (Int32.ofNat q)), .val (.int (Int32.ofNat len)), .val (.int 0), .unset] [])) := c1.trans (by
    refine iconstV X0.here hexec rfl 0 (hb hbytes d0) (by decide) ?_
    refine XS.istore X0.here hexec rfl (hb hbytes d1) rfl rfl ?_
    exact Steps.refl _)
  have loop : ∀ (r i : Nat), i + r = len → ∀ (z : Slot), (z = .unset ∨ ∃ w, z = .val w ∧ w.category = 1) → ∀ (Tl : State) (Bk : Cell), Stand p l e { frames := 0, locals := 0, cells := 0, slots := 0 } s m #[.ref b, .int (Int32.ofNat o), .ref d, .int (Int32.ofNat q), .int (Int32.ofNat len)] below meth c Tl ([] ++ copyLocs d q i) 0 0 → Put d Bk s₁ Tl → Laid B Bk q (q + i) (fun j => Value.int (lo8 (cv A (o + (j - q))))) →
      Steps p.tables e below (s₁.setTop (entryFrame m #[.ref b, .int (Int32.ofNat o), .ref d, .int (Int32.ofNat q), .int (Int32.ofNat len)] 7)) (Tl.setTop (mkF m 3 #[.val (.ref b), .val (.int (Int32.ofNat (o + i))), .val (.ref d), .val (.int (Int32.ofNat (q + i))), .val (.int (Int32.ofNat len)), .val (.int (Int32.ofNat i)), z] [])) → ∃ (T' : State) (B' : Cell) (z' : Slot), Stand p l e { frames := 0, locals := 0, cells := 0, slots := 0 } s m #[.ref b, .int (Int32.ofNat o), .ref d, .int (Int32.ofNat q), .int (Int32.ofNat len)] below meth c T' ([] ++ copyLocs d q len) 0 0 ∧ Put d B' s₁ T' ∧ Laid B B' q (q + len) (fun j => Value.int (lo8 (cv A (o + (j - q))))) ∧
      Steps p.tables e below (s₁.setTop (entryFrame m #[.ref b, .int (Int32.ofNat o), .ref d, .int (Int32.ofNat q), .int (Int32.ofNat len)] 7)) (T'.setTop (mkF m 3 #[.val (.ref b), .val (.int (Int32.ofNat (o + len))), .val (.ref d), .val (.int (Int32.ofNat (q + len))), .val (.int (Int32.ofNat len)), .val (.int (Int32.ofNat len)), z'] [])) := by
    intro r
    induction r with
    | zero =>
      intro i hi z hz Tl Bk Xl pl fl cl
      have hil : i = len := by omega
      rw [hil] at Xl fl cl
      exact ⟨Tl, Bk, z, Xl, pl, fl, cl⟩
    | succ r ih =>
      intro i hi z hz Tl Bk Xl pl fl cl
      have all := X0.warmed.alike.symm.trans Xl.warmed.alike
      have hAl := hA0.keep all (pl.other hne hA0.1)
      have hBk := hB0.like all pl.1 fl.1 fl.2.1 fl.2.2.1
      have hlt : q + i < Bk.slots.size := by rw [fl.2.2.1]; omega
      have c3 : Steps p.tables e below (s₁.setTop (entryFrame m #[.ref b, .int (Int32.ofNat o), .ref d, .int (Int32.ofNat q), .int (Int32.ofNat len)] 7)) (Tl.setTop (mkF m 12 #[.val (.ref b), .val (.int (Int32.ofNat (o + i))), .val (.ref d), .val (.int (Int32.ofNat (q + i))), .val (.int (Int32.ofNat len)), .val (.int (Int32.ofNat i)), z] [.int (Int32.ofNat (o + i)), .ref b])) := cl.trans (by
        refine XS.iload Xl.here hexec rfl (hb hbytes d3) rfl ?_
        refine XS.iload Xl.here hexec rfl (hb hbytes d5) rfl ?_
        refine XS.icmpNo Xl.here hexec rfl (hb hbytes d7) rfl (ii_ge_f (lt32 (by omega) (by omega))) ?_
        refine XS.aloadN Xl.here hexec rfl (hb hbytes d10) rfl rfl ?_
        refine XS.iloadN Xl.here hexec rfl (hb hbytes d11) rfl ?_
        exact Steps.refl _)
      have c4 : Steps p.tables e below (s₁.setTop (entryFrame m #[.ref b, .int (Int32.ofNat o), .ref d, .int (Int32.ofNat q), .int (Int32.ofNat len)] 7)) (Tl.setTop (mkF m 13 #[.val (.ref b), .val (.int (Int32.ofNat (o + i))), .val (.ref d), .val (.int (Int32.ofNat (q + i))), .val (.int (Int32.ofNat len)), .val (.int (Int32.ofNat i)), z] [.int (cv A (o + i))])) := c3.trans (by
        refine Xl.aget hexec hAl rfl (hA.get (i := o + i) (by omega)) rfl rfl (hb hbytes d12) ?_
        exact Steps.refl _)
      have c5 : Steps p.tables e below (s₁.setTop (entryFrame m #[.ref b, .int (Int32.ofNat o), .ref d, .int (Int32.ofNat q), .int (Int32.ofNat len)] 7)) (Tl.setTop (mkF m 15 #[.val (.ref b), .val (.int (Int32.ofNat (o + i))), .val (.ref d), .val (.int (Int32.ofNat (q + i))), .val (.int (Int32.ofNat len)), .val (.int (Int32.ofNat i)), .val (.int (cv A (o + i)))] [])) := c4.trans (by
        refine XS.istoreS Xl.here hexec rfl (hb hbytes d13) rfl rfl hz ?_
        exact Steps.refl _)
      have c6 : Steps p.tables e below (s₁.setTop (entryFrame m #[.ref b, .int (Int32.ofNat o), .ref d, .int (Int32.ofNat q), .int (Int32.ofNat len)] 7)) (Tl.setTop (mkF m 31 #[.val (.ref b), .val (.int (Int32.ofNat (o + i))), .val (.ref d), .val (.int (Int32.ofNat (q + i))), .val (.int (Int32.ofNat len)), .val (.int (Int32.ofNat i)), .val (.int (cv A (o + i)))] [.int (lo8 (cv A (o + i))), .int (Int32.ofNat (q + i)), .ref d])) := c5.trans (by
        refine XS.iload Xl.here hexec rfl (hb hbytes d15) rfl ?_
        refine sipushV Xl.here hexec rfl 255 (hb hbytes d17) (by decide) ?_
        refine XS.icmpYes Xl.here hexec rfl (pc0 := 20) rfl (hb hbytes d20) rfl (ii_le_t (hp i (by omega))) (by decide) rfl ?_
        refine XS.aloadN Xl.here hexec rfl (hb hbytes d26) rfl rfl ?_
        refine XS.iloadN Xl.here hexec rfl (hb hbytes d27) rfl ?_
        refine XS.iload Xl.here hexec rfl (hb hbytes d28) rfl ?_
        refine i2b Xl.here hexec rfl (hb hbytes d30) rfl ?_
        exact Steps.refl _)
      obtain ⟨T7, X7, p7, st7⟩ := Xl.aput hexec hBk rfl hlt rfl (fits_lo8 (cv A (o + i))) (g := (mkF m 31 #[.val (.ref b), .val (.int (Int32.ofNat (o + i))), .val (.ref d), .val (.int (Int32.ofNat (q + i))), .val (.int (Int32.ofNat len)), .val (.int (Int32.ofNat i)), .val (.int (cv A (o + i)))] [.int (lo8 (cv A (o + i))), .int (Int32.ofNat (q + i)), .ref d])) rfl (rest := []) rfl (hb hbytes d31)
      have c8 : Steps p.tables e below (s₁.setTop (entryFrame m #[.ref b, .int (Int32.ofNat o), .ref d, .int (Int32.ofNat q), .int (Int32.ofNat len)] 7)) (T7.setTop (mkF m 32 #[.val (.ref b), .val (.int (Int32.ofNat (o + i))), .val (.ref d), .val (.int (Int32.ofNat (q + i))), .val (.int (Int32.ofNat len)), .val (.int (Int32.ofNat i)), .val (.int (cv A (o + i)))] [])) := c6.trans (st7 _ (Steps.refl _))
      have c9 : Steps p.tables e below (s₁.setTop (entryFrame m #[.ref b, .int (Int32.ofNat o), .ref d, .int (Int32.ofNat q), .int (Int32.ofNat len)] 7)) (T7.setTop (mkF m 3 #[.val (.ref b), .val (.int (Int32.ofNat (o + i) + 1)), .val (.ref d), .val (.int (Int32.ofNat (q + i) + 1)), .val (.int (Int32.ofNat len)), .val (.int (Int32.ofNat i + 1)), .val (.int (cv A (o + i)))] [])) := c8.trans (by
        refine iincV X7.here hexec rfl 1 (hb hbytes d32) (by decide) rfl rfl ?_
        refine iincV X7.here hexec rfl 1 (hb hbytes d35) (by decide) rfl rfl ?_
        refine iincV X7.here hexec rfl 1 (hb hbytes d38) (by decide) rfl rfl ?_
        refine XS.goto X7.here hexec rfl (pc0 := 41) rfl (hb hbytes d41) (by decide) rfl ?_
        exact Steps.refl _)
      have c10 : Steps p.tables e below (s₁.setTop (entryFrame m #[.ref b, .int (Int32.ofNat o), .ref d, .int (Int32.ofNat q), .int (Int32.ofNat len)] 7)) (T7.setTop (mkF m 3 #[.val (.ref b), .val (.int (Int32.ofNat (o + (i + 1)))), .val (.ref d), .val (.int (Int32.ofNat (q + (i + 1)))), .val (.int (Int32.ofNat len)), .val (.int (Int32.ofNat (i + 1))), .val (.int (cv A (o + i)))] [])) := by
        have := c9
        rw [succ32, succ32, succ32] at this
        exact this
      exact ih (i + 1) (by omega) _ (Or.inr ⟨_, rfl, rfl⟩) T7 _ (by rw [copyLocs_step, ← List.append_assoc]; exact X7) (pl.trans p7) (fl.step (by omega) hlt (by simp)) c10
  obtain ⟨T9, B9, z9, X9, p9, f9, g9⟩ := loop len 0 (by omega) .unset (Or.inl rfl) s₁ B (by simpa [copyLocs] using X0) ⟨hB0.1, fun _ _ => rfl, rfl⟩ (Laid.zero _ _ _) c2
  have c11 : Steps p.tables e below (s₁.setTop (entryFrame m #[.ref b, .int (Int32.ofNat o), .ref d, .int (Int32.ofNat q), .int (Int32.ofNat len)] 7)) (T9.setTop (mkF m 46 #[.val (.ref b), .val (.int (Int32.ofNat (o + len))), .val (.ref d), .val (.int (Int32.ofNat (q + len))), .val (.int (Int32.ofNat len)), .val (.int (Int32.ofNat len)), z9] [.int (Int32.ofNat len)])) := g9.trans (by
    refine XS.iload X9.here hexec rfl (hb hbytes d3) rfl ?_
    refine XS.iload X9.here hexec rfl (hb hbytes d5) rfl ?_
    refine XS.icmpYes X9.here hexec rfl (pc0 := 7) rfl (hb hbytes d7) rfl (ii_ge_t (nlt32 (by omega) (Nat.le_refl _))) (by decide) rfl ?_
    refine XS.iload X9.here hexec rfl (hb hbytes d44) rfl ?_
    exact Steps.refl _)
  exact ⟨T9, some (.int (Int32.ofNat len)), _, _, _, X9, by simp, rfl, rfl, (fun h => by cases h), ⟨rfl, B9, p9.from hh0, f9⟩, fun fs hl => c11.trans (X9.ireturnOut hexec hret rfl (Or.inl rfl) (hb hbytes d46) hl)⟩
end Cmp5
namespace Cmp3
def yN : MethodName := ⟨"java/lang/StringUTF16", "compress", "([CII)[B"⟩
abbrev yB : ByteArray := jdk_52_method_16_code
theorem d0 : decode yB 0 = .ok (.iload_n 2, 1) := by decide +kernel
theorem d1 : decode yB 1 = .ok (.newarray .byte, 2) := by decide +kernel
theorem d3 : decode yB 3 = .ok (.astore_n 3, 1) := by decide +kernel
theorem d4 : decode yB 4 = .ok (.aload_n 0, 1) := by decide +kernel
theorem d5 : decode yB 5 = .ok (.iload_n 1, 1) := by decide +kernel
theorem d6 : decode yB 6 = .ok (.aload_n 3, 1) := by decide +kernel
theorem d7 : decode yB 7 = .ok (.iconst 0, 1) := by decide +kernel
theorem d8 : decode yB 8 = .ok (.iload_n 2, 1) := by decide +kernel
theorem d9 : decode yB 9 = .ok (.invokestatic 115, 3) := by decide +kernel
theorem d12 : decode yB 12 = .ok (.istore 4, 2) := by decide +kernel
theorem d14 : decode yB 14 = .ok (.iload 4, 2) := by decide +kernel
theorem d16 : decode yB 16 = .ok (.iload_n 2, 1) := by decide +kernel
theorem d17 : decode yB 17 = .ok (.if_icmp (.eq) 40, 3) := by decide +kernel
theorem d57 : decode yB 57 = .ok (.aload_n 3, 1) := by decide +kernel
theorem d58 : decode yB 58 = .ok (.areturn, 1) := by decide +kernel
def site : List Cond := [.arrayClass .byte, Cmp5.tab] ++ staticW U16 115 Cmp5.yN
def tab : Cond := tabOf yN yB 6 (some (.array .byte)) site
def P (b : Addr) (A : Cell) (o len : Nat) (args : Array Value) (s : State) : Prop := args = #[.ref b, .int (Int32.ofNat o), .int (Int32.ofNat len)] ∧ Ch b A s ∧ o + len ≤ A.slots.size ∧ len ≤ 536870912 ∧ ∀ i, i < len → ¬ 255 < cv A (o + i)
def E (b : Addr) (A : Cell) (o len : Nat) (r : Option Value) (s u : State) : Prop := NewArr .byte "[B" len (fun j => .int (lo8 (cv A (o + j)))) r s u ∧ u.heap.size = s.heap.size + 1
/-- no char of the range above 255: a new byte[] of their low bytes -/
theorem law (l : Launch) (b : Addr) (A : Cell) (o len : Nat) : Law l yN 3 3 1 18 yB 6 (some (.array .byte)) site (P b A o len) (E b A o len) [] 1 len := by
  refine Law.of_walk (plainFor_of_name (by decide +kernel)) (by decide +kernel) (by decide +kernel) (by decide) (fun _ _ h => by rw [h.1]; rfl) (fun _ U U' hal hh h => ⟨h.1, h.2.1.mv hal hh, h.2.2⟩) (fun r U U' V V' h1 hal h2 h => ⟨NewArr.mv r U U' V V' h1 hal h2 h.1, by rw [h1, h2]; exact h.2⟩) ?_
  intro p e s m args below meth c s₁ X0 hexec hbytes hml hret hlk hnm hown hh0 W hP
  obtain ⟨rfl, hA, l1, l2, hp⟩ := hP
  have a31 := hA.1.2.2.2
  have c1 : Steps p.tables e below (s₁.setTop (entryFrame m #[.ref b, .int (Int32.ofNat o), .int (Int32.ofNat len)] 6)) (s₁.setTop (mkF m 0 #[.val (.ref b), .val (.int (Int32.ofNat o)), .val (.int (Int32.ofNat len)), .unset, .unset, .unset] [])) := entry rfl
  have c2 : Steps p.tables e below (s₁.setTop (entryFrame m #[.ref b, .int (Int32.ofNat o), .int (Int32.ofNat len)] 6)) (s₁.setTop (mkF m 1 #[.val (.ref b), .val (.int (Int32.ofNat o)), .val (.int (Int32.ofNat len)), .unset, .unset, .unset] [.int (Int32.ofNat len)])) := c1.trans (by
    refine XS.iloadN X0.here hexec rfl (hb hbytes d0) rfl ?_
    exact Steps.refl _)
  obtain ⟨T3, B3, X3, ba3, bs3, bv3, bh3, bf3, st3⟩ := X0.anew hexec (atype := .byte) (wk W (.arrayClass .byte)) rfl (by show len * 1 ≤ _; omega) (by omega) (g := (mkF m 1 #[.val (.ref b), .val (.int (Int32.ofNat o)), .val (.int (Int32.ofNat len)), .unset, .unset, .unset] [.int (Int32.ofNat len)])) rfl (hb hbytes d1) (rest := []) rfl (Nat.le_refl _) (by show 0 + len ≤ len; omega)
  rw [hh0] at ba3 st3
  have kp3 : XT.Kept s T3 := (XT.Kept.of_eq hh0).push bh3
  have hA3 := hA.keep X3.warmed.alike (kp3 _ _ hA.1.1)
  have hne : b ≠ s.heap.size := hA.1.ne
  have c4 : Steps p.tables e below (s₁.setTop (entryFrame m #[.ref b, .int (Int32.ofNat o), .int (Int32.ofNat len)] 6)) (T3.setTop (mkF m 3 #[.val (.ref b), .val (.int (Int32.ofNat o)), .val (.int (Int32.ofNat len)), .unset, .unset, .unset] [.ref s.heap.size])) := c2.trans (st3 _ (Steps.refl _))
  have c5 : Steps p.tables e below (s₁.setTop (entryFrame m #[.ref b, .int (Int32.ofNat o), .int (Int32.ofNat len)] 6)) (T3.setTop (mkF m 9 #[.val (.ref b), .val (.int (Int32.ofNat o)), .val (.int (Int32.ofNat len)), .val (.ref s.heap.size), .unset, .unset] [.int (Int32.ofNat len), .int 0, .ref s.heap.size, .int (Int32.ofNat o), .ref b])) := c4.trans (by
    refine XS.astoreN X3.here hexec rfl (hb hbytes d3) rfl rfl rfl ?_
    refine XS.aloadN X3.here hexec rfl (hb hbytes d4) rfl rfl ?_
    refine XS.iloadN X3.here hexec rfl (hb hbytes d5) rfl ?_
    refine XS.aloadN X3.here hexec rfl (hb hbytes d6) rfl rfl ?_
    refine iconstV X3.here hexec rfl 0 (hb hbytes d7) (by decide) ?_
    refine XS.iloadN X3.here hexec rfl (hb hbytes d8) rfl ?_
    exact Steps.refl _)
  obtain ⟨v6, T6, X6, E6, g6⟩ := X3.callS hexec (Cmp5.law l b A s.heap.size B3 o 0 len) hown (wks W (staticW U16 115 Cmp5.yN)) (wk W Cmp5.tab) (W := 0) (Nat.le_of_ble_eq_true rfl) (Nat.le_of_ble_eq_true rfl) (Nat.le_refl _) (by show 0 + len + 0 ≤ len; omega) (g := (mkF m 9 #[.val (.ref b), .val (.int (Int32.ofNat o)), .val (.int (Int32.ofNat len)), .val (.ref s.heap.size), .unset, .unset] [.int (Int32.ofNat len), .int (Int32.ofNat 0), .ref s.heap.size, .int (Int32.ofNat o), .ref b])) rfl (by rw [hml]; rfl) c5 (argsL := [.ref b, .int (Int32.ofNat o), .ref s.heap.size, .int (Int32.ofNat 0), .int (Int32.ofNat len)]) (rest := []) rfl rfl (by show 2 * 0 + 0 ≤ _; decide) (hb hbytes d9) (⟨rfl, hA3, ba3, hne, l1, by rw [bs3]; simp, hp⟩)
  obtain ⟨rfl, B6, p6, f6⟩ := E6
  have c7 : Steps p.tables e below (s₁.setTop (entryFrame m #[.ref b, .int (Int32.ofNat o), .int (Int32.ofNat len)] 6)) (T6.setTop (mkF m 12 #[.val (.ref b), .val (.int (Int32.ofNat o)), .val (.int (Int32.ofNat len)), .val (.ref s.heap.size), .unset, .unset] [.int (Int32.ofNat len)])) := g6
  have c8 : Steps p.tables e below (s₁.setTop (entryFrame m #[.ref b, .int (Int32.ofNat o), .int (Int32.ofNat len)] 6)) (T6.setTop (mkF m 58 #[.val (.ref b), .val (.int (Int32.ofNat o)), .val (.int (Int32.ofNat len)), .val (.ref s.heap.size), .val (.int (Int32.ofNat len)), .unset] [.ref s.heap.size])) := c7.trans (by
    refine XS.istore X6.here hexec rfl (hb hbytes d12) rfl rfl ?_
    refine XS.iload X6.here hexec rfl (hb hbytes d14) rfl ?_
    refine XS.iloadN X6.here hexec rfl (hb hbytes d16) rfl ?_
    refine XS.icmpYes X6.here hexec rfl (pc0 := 17) rfl (hb hbytes d17) rfl (ii_eq_t rfl) (by decide) rfl ?_
    refine XS.aloadN X6.here hexec rfl (hb hbytes d57) rfl rfl ?_
    exact Steps.refl _)
  have X8 := X6.wide (L' := []) (cells' := 1) (slots' := len) (fun x hx hlt => by
    simp only [List.nil_append, copyLocs, List.mem_map, List.mem_range] at hx
    obtain ⟨i, -, rfl⟩ := hx
    exact absurd hlt (Nat.lt_irrefl _)) (Nat.le_refl _) (by omega)
  exact ⟨T6, some (.ref s.heap.size), _, _, _, X8, rfl, rfl, rfl, (fun h => by cases h), ⟨⟨rfl, B6, ba3.like (X3.warmed.alike.symm.trans X6.warmed.alike) p6.1 f6.1 f6.2.1 f6.2.2.1, f6.2.1.trans bv3, by rw [X6.warmed.alike.findClass, f6.1]; exact bf3, by rw [f6.2.2.1, bs3]; simp, fun j hj => by rw [f6.2.2.2 j, if_pos (by omega)]; rfl, kp3.put p6 (Nat.le_refl _)⟩, by rw [p6.2.2, bh3, hh0]; simp⟩, fun fs hl => c8.trans (X8.areturnOut hexec rfl hret rfl (hb hbytes d58) hl)⟩
end Cmp3
namespace CodL
def yN : MethodName := ⟨"java/lang/StringUTF16", "coderFromArrayLen", "([BI)B"⟩
abbrev yB : ByteArray := jdk_52_method_15_code
theorem d0 : decode yB 0 = .ok (.iload_n 1, 1) := by decide +kernel
theorem d1 : decode yB 1 = .ok (.aload_n 0, 1) := by decide +kernel
theorem d2 : decode yB 2 = .ok (.arraylength, 1) := by decide +kernel
theorem d3 : decode yB 3 = .ok (.isub, 1) := by decide +kernel
theorem d4 : decode yB 4 = .ok (.bipush 31, 2) := by decide +kernel
theorem d6 : decode yB 6 = .ok (.iushr, 1) := by decide +kernel
theorem d7 : decode yB 7 = .ok (.i2b, 1) := by decide +kernel
theorem d8 : decode yB 8 = .ok (.ireturn, 1) := by decide +kernel
def site : List Cond := []
def tab : Cond := tabOf yN yB 2 (some .byte) site
def P (d : Addr) (B : Cell) (args : Array Value) (s : State) : Prop := args = #[.ref d, .int (Int32.ofNat B.slots.size)] ∧ Arr .byte d B s
def E (r : Option Value) (s u : State) : Prop := XT.PureE (some (.int 0)) r s u
/-- an array as long as the number of chars: LATIN1 -/
theorem law (l : Launch) (d : Addr) (B : Cell) : Law l yN 2 2 0 0 yB 2 (some .byte) site (P d B) E [] 0 0 := by
  refine Law.of_walk (plainFor_of_name (by decide +kernel)) (by decide +kernel) (by decide +kernel) (by decide) (fun _ _ h => by rw [h.1]; rfl) (fun _ U U' hal hh h => ⟨h.1, h.2.mv hal hh⟩) (fun r U U' V V' h1 hal h2 h => XT.PureE.mv r U U' V V' h1 hal h2 h) ?_
  intro p e s m args below meth c s₁ X0 hexec hbytes hml hret hlk hnm hown hh0 W hP
  obtain ⟨rfl, hB⟩ := hP
  have hB0 := hB.mv X0.warmed.alike hh0
  have c1 : Steps p.tables e below (s₁.setTop (entryFrame m #[.ref d, .int (Int32.ofNat B.slots.size)] 2)) (s₁.setTop (mkF m 0 #[.val (.ref d), .val (.int (Int32.ofNat B.slots.size))] [])) := entry rfl
  have c2 : Steps p.tables e below (s₁.setTop (entryFrame m #[.ref d, .int (Int32.ofNat B.slots.size)] 2)) (s₁.setTop (mkF m 2 #[.val (.ref d), .val (.int (Int32.ofNat B.slots.size))] [.ref d, .int (Int32.ofNat B.slots.size)])) := c1.trans (by
    refine XS.iloadN X0.here hexec rfl (hb hbytes d0) rfl ?_
    refine XS.aloadN X0.here hexec rfl (hb hbytes d1) rfl rfl ?_
    exact Steps.refl _)
  have c3 : Steps p.tables e below (s₁.setTop (entryFrame m #[.ref d, .int (Int32.ofNat B.slots.size)] 2)) (s₁.setTop (mkF m 8 #[.val (.ref d), .val (.int (Int32.ofNat B.slots.size))] [.int (lo8 (ushr (Int32.ofNat B.slots.size - Int32.ofNat B.slots.size) 31))])) := c2.trans (by
    refine X0.alen hexec hB0 rfl rfl (hb hbytes d2) ?_
    refine XS.isub X0.here hexec rfl (hb hbytes d3) rfl ?_
    refine bipushV X0.here hexec rfl 31 (hb hbytes d4) (by decide) ?_
    refine iushr X0.here hexec rfl (hb hbytes d6) rfl ?_
    refine i2b X0.here hexec rfl (hb hbytes d7) rfl ?_
    exact Steps.refl _)
  have e0 : lo8 (ushr (Int32.ofNat B.slots.size - Int32.ofNat B.slots.size) 31) = 0 := by rw [Int32.sub_self]; decide
  rw [e0] at c3
  exact ⟨s₁, some (.int 0), _, _, _, X0, rfl, rfl, rfl, (fun h => by cases h), ⟨rfl, hh0⟩, fun fs hl => c3.trans (X0.ireturnOut hexec hret rfl (Or.inr (Or.inr (Or.inl rfl))) (hb hbytes d8) hl)⟩
end CodL
/-- the String at a is Latin-1 over a new byte[] (the heap's one new cell): the low bytes of the len chars of A from o on; every cell but a is kept -/
def Got (a : Addr) (D : Cell) (fV fC : Field) (A : Cell) (o len : Nat) (r : Option Value) (s u : State) : Prop := r = none ∧ ∃ D' V : Cell, Blank "java/lang/String" a D' u ∧ Same D D' [fV.slot, fC.slot] ∧ D'.slots[fV.slot]? = some (.ref s.heap.size) ∧ D'.slots[fC.slot]? = some (.int 0) ∧ Arr .byte s.heap.size V u ∧ V.vm = .none ∧ u.vm.findClass "[B" = some V.cls ∧ V.slots.size = len ∧ (∀ j, j < len → V.slots[j]? = some (.int (lo8 (cv A (o + j))))) ∧ (∀ (y : Addr) (c : Cell), y ≠ a → s.heap[y]? = some c → u.heap[y]? = some c) ∧ u.heap.size = s.heap.size + 1
theorem Got.mv {a : Addr} {D A : Cell} {fV fC : Field} {o len : Nat} : ∀ r (U U' V V' : State), U'.heap = U.heap → V.vm.Alike V'.vm → V'.heap = V.heap → Got a D fV fC A o len r U V → Got a D fV fC A o len r U' V' :=
  fun r U U' V V' h1 hal h2 ⟨e0, D', X, a1, a2, a3, a4, a5, a6, a7, a8, a9, a10, a11⟩ => ⟨e0, D', X, a1.mv hal h2, a2, by rw [h1]; exact a3, a4, by rw [h1]; exact a5.mv hal h2, a6, by rw [hal.findClass]; exact a7, a8, a9, by rw [h1, h2]; exact a10, by rw [h1, h2]; exact a11⟩
namespace New4
def yN : MethodName := ⟨"java/lang/String", "<init>", "([CIILjava/lang/Void;)V"⟩
abbrev yB : ByteArray := jdk_42_method_149_code
theorem d0 : decode yB 0 = .ok (.aload_n 0, 1) := by decide +kernel
theorem d1 : decode yB 1 = .ok (.invokespecial 1, 3) := by decide +kernel
theorem d4 : decode yB 4 = .ok (.iload_n 3, 1) := by decide +kernel
theorem d5 : decode yB 5 = .ok (.ifCond (.ne) 22, 3) := by decide +kernel
theorem d27 : decode yB 27 = .ok (.getstatic 38, 3) := by decide +kernel
theorem d30 : decode yB 30 = .ok (.ifCond (.eq) 28, 3) := by decide +kernel
theorem d33 : decode yB 33 = .ok (.aload_n 1, 1) := by decide +kernel
theorem d34 : decode yB 34 = .ok (.iload_n 2, 1) := by decide +kernel
theorem d35 : decode yB 35 = .ok (.iload_n 3, 1) := by decide +kernel
theorem d36 : decode yB 36 = .ok (.invokestatic 177, 3) := by decide +kernel
theorem d39 : decode yB 39 = .ok (.astore 5, 2) := by decide +kernel
theorem d41 : decode yB 41 = .ok (.aload_n 0, 1) := by decide +kernel
theorem d42 : decode yB 42 = .ok (.aload 5, 2) := by decide +kernel
theorem d44 : decode yB 44 = .ok (.iload_n 3, 1) := by decide +kernel
theorem d45 : decode yB 45 = .ok (.invokestatic 47, 3) := by decide +kernel
theorem d48 : decode yB 48 = .ok (.putfield 15, 3) := by decide +kernel
theorem d51 : decode yB 51 = .ok (.aload_n 0, 1) := by decide +kernel
theorem d52 : decode yB 52 = .ok (.aload 5, 2) := by decide +kernel
theorem d54 : decode yB 54 = .ok (.putfield 9, 3) := by decide +kernel
theorem d57 : decode yB 57 = .ok (.return_, 1) := by decide +kernel
def site : List Cond := [.fieldLink "java/lang/String" 38 "java/lang/String" "COMPACT_STRINGS" "Z", Cmp3.tab, CodL.tab, .laysFinal "java/lang/String" "java/lang/String" "value" "[B", .fieldLink "java/lang/String" 9 "java/lang/String" "value" "[B", .laysFinal "java/lang/String" "java/lang/String" "coder" "B", .fieldLink "java/lang/String" 15 "java/lang/String" "coder" "B"] ++ objW "java/lang/String" 1 ++ staticW "java/lang/String" 177 Cmp3.yN ++ staticW "java/lang/String" 47 CodL.yN
def tab : Cond := tabOf yN yB 6 none site
def P (a : Addr) (D : Cell) (fV fC : Field) (b : Addr) (A : Cell) (z : Int32) (o len : Nat) (args : Array Value) (s : State) : Prop := args = #[.ref a, .ref b, .int (Int32.ofNat o), .int (Int32.ofNat len), .null] ∧ Blank "java/lang/String" a D s ∧ Found "java/lang/String" "value" "[B" fV s ∧ Found "java/lang/String" "coder" "B" fC s ∧ Ch b A s ∧ StaticIs s "java/lang/String" "COMPACT_STRINGS" "Z" (.int z) ∧ ¬ z = 0 ∧ 0 < len ∧ o + len ≤ A.slots.size ∧ len ≤ 536870912 ∧ ∀ i, i < len → ¬ 255 < cv A (o + i)
def E (a : Addr) (D : Cell) (fV fC : Field) (A : Cell) (o len : Nat) (r : Option Value) (s u : State) : Prop := Got a D fV fC A o len r s u
/-- len > 0, no char of the range above 255: a Latin-1 String of their low bytes -/
theorem law (l : Launch) (a : Addr) (D : Cell) (fV fC : Field) (b : Addr) (A : Cell) (z : Int32) (o len : Nat) : Law l yN 5 4 2 35 yB 6 none site (P a D fV fC b A z o len) (E a D fV fC A o len) [⟨a, fC.slot⟩, ⟨a, fV.slot⟩] 1 len := by
  refine Law.of_walk (plainFor_of_name (by decide +kernel)) (by decide +kernel) (by decide +kernel) (by decide) (fun _ _ h => by rw [h.1]; rfl) (fun _ U U' hal hh h => ⟨h.1, h.2.1.mv hal hh, h.2.2.1.al hal, h.2.2.2.1.al hal, h.2.2.2.2.1.mv hal hh, h.2.2.2.2.2.1.there hal hh, h.2.2.2.2.2.2⟩) (fun r U U' V V' h1 hal h2 h => Got.mv r U U' V V' h1 hal h2 h) ?_
  intro p e s m args below meth c s₁ X0 hexec hbytes hml hret hlk hnm hown hh0 W hP
  obtain ⟨rfl, hB, f1, f2, hA, s1, hz, l0, l1, l2, hp⟩ := hP
  have a31 := hA.1.2.2.2
  have c1 : Steps p.tables e below (s₁.setTop (entryFrame m #[.ref a, .ref b, .int (Int32.ofNat o), .int (Int32.ofNat len), .null] 6)) (s₁.setTop (mkF m 0 #[.val (.ref a), .val (.ref b), .val (.int (Int32.ofNat o)), .val (.int (Int32.ofNat len)), .val .null, .unset] [])) := entry rfl
  have c2 : Steps p.tables e below (s₁.setTop (entryFrame m #[.ref a, .ref b, .int (Int32.ofNat o), .int (Int32.ofNat len), .null] 6)) (s₁.setTop (mkF m 1 #[.val (.ref a), .val (.ref b), .val (.int (Int32.ofNat o)), .val (.int (Int32.ofNat len)), .val .null, .unset] [.ref a])) := c1.trans (by
    refine XS.aloadN X0.here hexec rfl (hb hbytes d0) rfl rfl ?_
    exact Steps.refl _)
  obtain ⟨T3, X3, q3, st3⟩ := X0.oinit hexec hown (wks W (objW "java/lang/String" 1)) (g := (mkF m 1 #[.val (.ref a), .val (.ref b), .val (.int (Int32.ofNat o)), .val (.int (Int32.ofNat len)), .val .null, .unset] [.ref a])) rfl (by rw [hml]; rfl) (rest := []) rfl (hb hbytes d1) (W := 0) (by show 2 * 0 + 0 ≤ _; decide) (Nat.le_of_ble_eq_true rfl) (Nat.le_of_ble_eq_true rfl)
  have hh3 := q3.trans hh0
  have c4 : Steps p.tables e below (s₁.setTop (entryFrame m #[.ref a, .ref b, .int (Int32.ofNat o), .int (Int32.ofNat len), .null] 6)) (T3.setTop (mkF m 27 #[.val (.ref a), .val (.ref b), .val (.int (Int32.ofNat o)), .val (.int (Int32.ofNat len)), .val .null, .unset] [])) := (c2.trans (st3 _ (Steps.refl _))).trans (by
    refine XS.iloadN X3.here hexec rfl (hb hbytes d4) rfl ?_
    refine XS.ifYes X3.here hexec rfl (pc0 := 5) rfl (hb hbytes d5) rfl (i0_ne_t (nz32 (by omega) l0)) (by decide) rfl ?_
    exact Steps.refl _)
  obtain ⟨T5, X5, q5, st5⟩ := X3.sget hexec hown (wk W (.fieldLink "java/lang/String" 38 "java/lang/String" "COMPACT_STRINGS" "Z")) s1 (fun _ _ h => by rw [hh3]; exact h) (g := (mkF m 27 #[.val (.ref a), .val (.ref b), .val (.int (Int32.ofNat o)), .val (.int (Int32.ofNat len)), .val .null, .unset] [])) rfl (hb hbytes d27)
  have hh5 := q5.trans hh3
  have c6 : Steps p.tables e below (s₁.setTop (entryFrame m #[.ref a, .ref b, .int (Int32.ofNat o), .int (Int32.ofNat len), .null] 6)) (T5.setTop (mkF m 30 #[.val (.ref a), .val (.ref b), .val (.int (Int32.ofNat o)), .val (.int (Int32.ofNat len)), .val .null, .unset] [.int z])) := c4.trans (st5 _ (Steps.refl _))
  have c7 : Steps p.tables e below (s₁.setTop (entryFrame m #[.ref a, .ref b, .int (Int32.ofNat o), .int (Int32.ofNat len), .null] 6)) (T5.setTop (mkF m 36 #[.val (.ref a), .val (.ref b), .val (.int (Int32.ofNat o)), .val (.int (Int32.ofNat len)), .val .null, .unset] [.int (Int32.ofNat len), .int (Int32.ofNat o), .ref b])) := c6.trans (by
    refine XS.ifNo X5.here hexec rfl (hb hbytes d30) rfl (i0_eq_f hz) ?_
    refine XS.aloadN X5.here hexec rfl (hb hbytes d33) rfl rfl ?_
    refine XS.iloadN X5.here hexec rfl (hb hbytes d34) rfl ?_
    refine XS.iloadN X5.here hexec rfl (hb hbytes d35) rfl ?_
    exact Steps.refl _)
  obtain ⟨v8, T8, X8, E8, g8⟩ := X5.callS hexec (Cmp3.law l b A o len) hown (wks W (staticW "java/lang/String" 177 Cmp3.yN)) (wk W Cmp3.tab) (W := 0) (Nat.le_of_ble_eq_true rfl) (Nat.le_of_ble_eq_true rfl) (Nat.le_refl _) (by show 0 + len ≤ len; omega) (g := (mkF m 36 #[.val (.ref a), .val (.ref b), .val (.int (Int32.ofNat o)), .val (.int (Int32.ofNat len)), .val .null, .unset] [.int (Int32.ofNat len), .int (Int32.ofNat o), .ref b])) rfl (by rw [hml]; rfl) c7 (argsL := [.ref b, .int (Int32.ofNat o), .int (Int32.ofNat len)]) (rest := []) rfl rfl (by show 2 * 0 + 0 ≤ _; decide) (hb hbytes d36) (⟨rfl, hA.mv X5.warmed.alike hh5, l1, l2, hp⟩)
  obtain ⟨e8, z8⟩ := E8
  obtain ⟨rfl, N, n1, n2, n3, n4, n5, n6⟩ := NewArr.mv _ T5 s _ _ hh5.symm (Vm.Alike.refl _) rfl e8
  rw [hh5] at z8
  have hB1 := hB.keep X8.warmed.alike (n6 _ _ hB.1)
  have hne : s.heap.size ≠ a := (Nat.ne_of_lt (Array.getElem?_eq_some_iff.mp hB.1).1).symm
  have c9 : Steps p.tables e below (s₁.setTop (entryFrame m #[.ref a, .ref b, .int (Int32.ofNat o), .int (Int32.ofNat len), .null] 6)) (T8.setTop (mkF m 39 #[.val (.ref a), .val (.ref b), .val (.int (Int32.ofNat o)), .val (.int (Int32.ofNat len)), .val .null, .unset] [.ref s.heap.size])) := g8
  have c10 : Steps p.tables e below (s₁.setTop (entryFrame m #[.ref a, .ref b, .int (Int32.ofNat o), .int (Int32.ofNat len), .null] 6)) (T8.setTop (mkF m 45 #[.val (.ref a), .val (.ref b), .val (.int (Int32.ofNat o)), .val (.int (Int32.ofNat len)), .val .null, .val (.ref s.heap.size)] [.int (Int32.ofNat N.slots.size), .ref s.heap.size, .ref a])) := by
    have hc : Steps p.tables e below (s₁.setTop (entryFrame m #[.ref a, .ref b, .int (Int32.ofNat o), .int (Int32.ofNat len), .null] 6)) (T8.setTop (mkF m 45 #[.val (.ref a), .val (.ref b), .val (.int (Int32.ofNat o)), .val (.int (Int32.ofNat len)), .val .null, .val (.ref s.heap.size)] [.int (Int32.ofNat len), .ref s.heap.size, .ref a])) := c9.trans (by
      refine XS.astore X8.here hexec rfl (hb hbytes d39) rfl rfl rfl ?_
      refine XS.aloadN X8.here hexec rfl (hb hbytes d41) rfl rfl ?_
      refine XS.aload X8.here hexec rfl (hb hbytes d42) rfl rfl ?_
      refine XS.iloadN X8.here hexec rfl (hb hbytes d44) rfl ?_
      exact Steps.refl _)
    rw [n4]; exact hc
  obtain ⟨v11, T11, X11, E11, g11⟩ := X8.callS hexec (CodL.law l s.heap.size N) hown (wks W (staticW "java/lang/String" 47 CodL.yN)) (wk W CodL.tab) (W := 1) (Nat.le_of_ble_eq_true rfl) (Nat.le_of_ble_eq_true rfl) (Nat.le_refl _) (by show 0 + len + 0 ≤ len; omega) (g := (mkF m 45 #[.val (.ref a), .val (.ref b), .val (.int (Int32.ofNat o)), .val (.int (Int32.ofNat len)), .val .null, .val (.ref s.heap.size)] [.int (Int32.ofNat N.slots.size), .ref s.heap.size, .ref a])) rfl (by rw [hml]; rfl) c10 (argsL := [.ref s.heap.size, .int (Int32.ofNat N.slots.size)]) (rest := [.ref a]) rfl rfl (by show 2 * 0 + (1 + 0) ≤ _; decide) (hb hbytes d45) (⟨rfl, n1⟩)
  obtain ⟨rfl, q11⟩ := E11
  have hB11 := hB1.mv (X8.warmed.alike.symm.trans X11.warmed.alike) q11
  have c12 : Steps p.tables e below (s₁.setTop (entryFrame m #[.ref a, .ref b, .int (Int32.ofNat o), .int (Int32.ofNat len), .null] 6)) (T11.setTop (mkF m 48 #[.val (.ref a), .val (.ref b), .val (.int (Int32.ofNat o)), .val (.int (Int32.ofNat len)), .val .null, .val (.ref s.heap.size)] [.int 0, .ref a])) := g11
  obtain ⟨T13, X13, p13, bl13, sl13, st13⟩ := X11.finit hexec hown (wk W (.fieldLink "java/lang/String" 15 "java/lang/String" "coder" "B")) (Or.inr ⟨_, (wk W (.laysFinal "java/lang/String" "java/lang/String" "coder" "B"))⟩) (Or.inl ⟨rfl, hnm⟩) f2 (Or.inl rfl) hB11 (t := .byte) (by decide +kernel) rfl (g := (mkF m 48 #[.val (.ref a), .val (.ref b), .val (.int (Int32.ofNat o)), .val (.int (Int32.ofNat len)), .val .null, .val (.ref s.heap.size)] [.int 0, .ref a])) rfl (rest := []) rfl (hb hbytes d48)
  have c14 : Steps p.tables e below (s₁.setTop (entryFrame m #[.ref a, .ref b, .int (Int32.ofNat o), .int (Int32.ofNat len), .null] 6)) (T13.setTop (mkF m 54 #[.val (.ref a), .val (.ref b), .val (.int (Int32.ofNat o)), .val (.int (Int32.ofNat len)), .val .null, .val (.ref s.heap.size)] [.ref s.heap.size, .ref a])) := (c12.trans (st13 _ (Steps.refl _))).trans (by
    refine XS.aloadN X13.here hexec rfl (hb hbytes d51) rfl rfl ?_
    refine XS.aload X13.here hexec rfl (hb hbytes d52) rfl rfl ?_
    exact Steps.refl _)
  obtain ⟨T15, X15, p15, bl15, sl15, st15⟩ := X13.finit hexec hown (wk W (.fieldLink "java/lang/String" 9 "java/lang/String" "value" "[B")) (Or.inr ⟨_, (wk W (.laysFinal "java/lang/String" "java/lang/String" "value" "[B"))⟩) (Or.inl ⟨rfl, hnm⟩) f1 (Or.inl rfl) bl13 (t := (.array .byte)) (by decide +kernel) rfl (g := (mkF m 54 #[.val (.ref a), .val (.ref b), .val (.int (Int32.ofNat o)), .val (.int (Int32.ofNat len)), .val .null, .val (.ref s.heap.size)] [.ref s.heap.size, .ref a])) rfl (rest := []) rfl (hb hbytes d54)
  have c16 : Steps p.tables e below (s₁.setTop (entryFrame m #[.ref a, .ref b, .int (Int32.ofNat o), .int (Int32.ofNat len), .null] 6)) (T15.setTop (mkF m 57 #[.val (.ref a), .val (.ref b), .val (.int (Int32.ofNat o)), .val (.int (Int32.ofNat len)), .val .null, .val (.ref s.heap.size)] [])) := c14.trans (st15 _ (Steps.refl _))
  have ap := apart (Or.inr ⟨_, (wk W (.laysFinal "java/lang/String" "java/lang/String" "value" "[B"))⟩) (Or.inr ⟨_, (wk W (.laysFinal "java/lang/String" "java/lang/String" "coder" "B"))⟩) f1 f2 (t₁ := .array .byte) (t₂ := .byte) (by decide +kernel) (by decide +kernel) (by decide)
  have al := X8.warmed.alike.symm.trans X15.warmed.alike
  have n7 : T11.heap[s.heap.size]? = some N := by rw [q11]; exact n1.1
  exact ⟨T15, none, _, _, _, X15, by simp, rfl, by omega, (fun _ => rfl), ⟨rfl, _, N, bl15, ((Same.refl D _).set _ (by simp)).set _ (by simp), sl15, (Cell.slots_setSlot_ne _ ap).trans sl13, n1.keep al (p15.other hne (p13.other hne n7)), n2, by rw [al.findClass]; exact n3, n4, n5, fun y c h1 h2 => p15.other h1 (p13.other h1 (by rw [q11]; exact n6 y c h2)), by rw [p15.2.2, p13.2.2, q11]; exact z8⟩, fun fs hl => c16.trans (X15.returnOut hexec hret (hb hbytes d57) hl)⟩
end New4
namespace New1
def yN : MethodName := ⟨"java/lang/String", "<init>", "([C)V"⟩
abbrev yB : ByteArray := jdk_42_method_3_code
theorem d0 : decode yB 0 = .ok (.aload_n 0, 1) := by decide +kernel
theorem d1 : decode yB 1 = .ok (.aload_n 1, 1) := by decide +kernel
theorem d2 : decode yB 2 = .ok (.iconst 0, 1) := by decide +kernel
theorem d3 : decode yB 3 = .ok (.aload_n 1, 1) := by decide +kernel
theorem d4 : decode yB 4 = .ok (.arraylength, 1) := by decide +kernel
theorem d5 : decode yB 5 = .ok (.aconst_null, 1) := by decide +kernel
theorem d6 : decode yB 6 = .ok (.invokespecial 27, 3) := by decide +kernel
theorem d9 : decode yB 9 = .ok (.return_, 1) := by decide +kernel
def site : List Cond := [New4.tab] ++ initW "java/lang/String" 27 New4.yN
def tab : Cond := tabOf yN yB 2 none site
def P (a : Addr) (D : Cell) (fV fC : Field) (b : Addr) (A : Cell) (z : Int32) (args : Array Value) (s : State) : Prop := args = #[.ref a, .ref b] ∧ Blank "java/lang/String" a D s ∧ Found "java/lang/String" "value" "[B" fV s ∧ Found "java/lang/String" "coder" "B" fC s ∧ Ch b A s ∧ StaticIs s "java/lang/String" "COMPACT_STRINGS" "Z" (.int z) ∧ ¬ z = 0 ∧ 0 < A.slots.size ∧ A.slots.size ≤ 536870912 ∧ ∀ i, i < A.slots.size → ¬ 255 < cv A i
def E (a : Addr) (D : Cell) (fV fC : Field) (A : Cell) (r : Option Value) (s u : State) : Prop := Got a D fV fC A 0 A.slots.size r s u
/-- new String(chars), not empty, no char above 255: a Latin-1 String of their low bytes -/
theorem law (l : Launch) (a : Addr) (D : Cell) (fV fC : Field) (b : Addr) (A : Cell) (z : Int32) : Law l yN 2 1 3 52 yB 2 none site (P a D fV fC b A z) (E a D fV fC A) [⟨a, fC.slot⟩, ⟨a, fV.slot⟩] 1 A.slots.size := by
  refine Law.of_walk (plainFor_of_name (by decide +kernel)) (by decide +kernel) (by decide +kernel) (by decide) (fun _ _ h => by rw [h.1]; rfl) (fun _ U U' hal hh h => ⟨h.1, h.2.1.mv hal hh, h.2.2.1.al hal, h.2.2.2.1.al hal, h.2.2.2.2.1.mv hal hh, h.2.2.2.2.2.1.there hal hh, h.2.2.2.2.2.2⟩) (fun r U U' V V' h1 hal h2 h => Got.mv r U U' V V' h1 hal h2 h) ?_
  intro p e s m args below meth c s₁ X0 hexec hbytes hml hret hlk hnm hown hh0 W hP
  obtain ⟨rfl, hB, f1, f2, hA, s1, hz, l0, l2, hp⟩ := hP
  have c1 : Steps p.tables e below (s₁.setTop (entryFrame m #[.ref a, .ref b] 2)) (s₁.setTop (mkF m 0 #[.val (.ref a), .val (.ref b)] [])) := entry rfl
  have c2 : Steps p.tables e below (s₁.setTop (entryFrame m #[.ref a, .ref b] 2)) (s₁.setTop (mkF m 6 #[.val (.ref a), .val (.ref b)] [.null, .int (Int32.ofNat A.slots.size), .int 0, .ref b, .ref a])) := c1.trans (by
    refine XS.aloadN X0.here hexec rfl (hb hbytes d0) rfl rfl ?_
    refine XS.aloadN X0.here hexec rfl (hb hbytes d1) rfl rfl ?_
    refine iconstV X0.here hexec rfl 0 (hb hbytes d2) (by decide) ?_
    refine XS.aloadN X0.here hexec rfl (hb hbytes d3) rfl rfl ?_
    refine X0.alen hexec (hA.1.mv X0.warmed.alike hh0) rfl rfl (hb hbytes d4) ?_
    refine XS.aconstNull X0.here hexec rfl (hb hbytes d5) ?_
    exact Steps.refl _)
  obtain ⟨v3, T3, X3, E3, g3⟩ := X0.callN hexec (New4.law l a D fV fC b A z 0 A.slots.size) rfl hown (wks W (initW "java/lang/String" 27 New4.yN)) (W New4.tab (by simp only [site, List.mem_cons, List.mem_append, true_or, or_true])) (W := 0) (Nat.le_of_ble_eq_true rfl) (Nat.le_of_ble_eq_true rfl) (Nat.le_refl _) (by show 0 + A.slots.size ≤ A.slots.size; omega) (g := (mkF m 6 #[.val (.ref a), .val (.ref b)] [.null, .int (Int32.ofNat A.slots.size), .int (Int32.ofNat 0), .ref b, .ref a])) rfl (by rw [hml]; rfl) c2 (argsL := [.ref b, .int (Int32.ofNat 0), .int (Int32.ofNat A.slots.size), .null]) (rest := []) rfl rfl (by show 2 * 0 + 0 ≤ _; decide) (hb hbytes d6) (⟨rfl, hB.mv X0.warmed.alike hh0, f1.al X0.warmed.alike, f2.al X0.warmed.alike, hA.mv X0.warmed.alike hh0, s1.there X0.warmed.alike hh0, hz, l0, by omega, l2, fun i hi => by rw [Nat.zero_add]; exact hp i hi⟩)
  have e0 := Got.mv _ s₁ s _ _ hh0.symm (Vm.Alike.refl _) rfl E3
  obtain rfl := e0.1
  have c4 : Steps p.tables e below (s₁.setTop (entryFrame m #[.ref a, .ref b] 2)) (T3.setTop (mkF m 9 #[.val (.ref a), .val (.ref b)] [])) := g3
  exact ⟨T3, none, _, _, _, X3, by simp, rfl, by omega, (fun _ => rfl), e0, fun fs hl => c4.trans (X3.returnOut hexec hret (hb hbytes d9) hl)⟩
theorem pays {l : Launch} {R : Room} {p : Program} {e : Env} {below : List Frame} {s : State} {sargs : Array Value} {len W : Nat} (a : Addr) (D : Cell) (fV fC : Field) (b : Addr) (A : Cell) (z : Int32) (htab : tab.before sargs s = true) (hfr : 4 ≤ R.frames) (hlo : W + 65 ≤ R.locals) :
    Back l R p e below s sargs yN len W (fun A₁ a₁ => A₁.cells + 1 ≤ R.cells ∧ A₁.slots + A.slots.size ≤ R.slots ∧ P a D fV fC b A z a₁ A₁.U) (fun A₁ _ v₁ B₁ => E a D fV fC A v₁ A₁.U B₁.U ∧ B₁.locs = A₁.locs ++ [⟨a, fC.slot⟩, ⟨a, fV.slot⟩] ∧ B₁.cells = A₁.cells + 1 ∧ B₁.slots = A₁.slots + A.slots.size) :=
  (law l a D fV fC b A z).pays htab hfr (by omega)
end New1
end StrChars
namespace StrChars.Road
open Jvm Sem ClassFile Op Lib Jvm.Stand Jvm.Free Jvm.Free.XT
open Jvm.Lib.Cold (StaticIs)
abbrev ST : String := "java/lang/String"
/-- every table word that New1's law asks, flat -/
abbrev words : List Jvm.Cond := [.code New1.yN New1.yB 2 none, .initialized ST, .methodLink ST 27 New4.yN, .instanceMethod New4.yN,
  .code New4.yN New4.yB 6 none, .fieldLink ST 38 ST "COMPACT_STRINGS" "Z", .laysFinal ST ST "value" "[B", .fieldLink ST 9 ST "value" "[B", .laysFinal ST ST "coder" "B", .fieldLink ST 15 ST "coder" "B",
  .methodLink ST 1 Lib.objectInit, .instanceMethod Lib.objectInit, .code Lib.objectInit ⟨#[0xb1]⟩ 1 none, .methodLink ST 177 Cmp3.yN, .static Cmp3.yN, .methodLink ST 47 CodL.yN, .static CodL.yN,
  .code Cmp3.yN Cmp3.yB 6 (some (.array .byte)), .initialized U16, .arrayClass .byte, .methodLink U16 115 Cmp5.yN, .static Cmp5.yN, .code Cmp5.yN Cmp5.yB 7 (some .int), .code CodL.yN CodL.yB 2 (some .byte)]
theorem tab_of {a : Array Value} {s : State} (h : ∀ w ∈ words, w.before a s = true) : New1.tab.before a s = true := by
  have h5 : Cmp5.tab.before a s = true := unparts (wk h (.code Cmp5.yN Cmp5.yB 7 (some .int))) (wks h (.initialized Cmp5.yN.cls :: Cmp5.site))
  have hc : CodL.tab.before a s = true := unparts (wk h (.code CodL.yN CodL.yB 2 (some .byte))) (wks h (.initialized CodL.yN.cls :: CodL.site))
  have q5 : ∀ w ∈ Cmp5.tab :: words, w.before a s = true := fun w hw => (List.mem_cons.mp hw).elim (fun e => e ▸ h5) (h w)
  have h3 : Cmp3.tab.before a s = true := unparts (wk q5 (.code Cmp3.yN Cmp3.yB 6 (some (.array .byte)))) (wks q5 (.initialized Cmp3.yN.cls :: Cmp3.site))
  have q3 : ∀ w ∈ Cmp3.tab :: CodL.tab :: words, w.before a s = true := fun w hw => (List.mem_cons.mp hw).elim (fun e => e ▸ h3) fun hw => (List.mem_cons.mp hw).elim (fun e => e ▸ hc) (h w)
  have h4 : New4.tab.before a s = true := unparts (wk q3 (.code New4.yN New4.yB 6 none)) (wks q3 (.initialized New4.yN.cls :: New4.site))
  have q4 : ∀ w ∈ New4.tab :: words, w.before a s = true := fun w hw => (List.mem_cons.mp hw).elim (fun e => e ▸ h4) (h w)
  exact unparts (wk q4 (.code New1.yN New1.yB 2 none)) (wks q4 (.initialized New1.yN.cls :: New1.site))
/-- the words ride from the start Z to the walk's own state -/
theorem moved {Z s : State} {a0 args : Array Value} (hZ : Z.Warmed39 s.vm) (hw : ∀ d ∈ words, d.before a0 Z = true) : ∀ d ∈ words, d.before args s = true := fun d hd => by
  have q := hw d hd
  have t : ∀ d ∈ words, d = .arrayClass .byte ∨ (d.onTables && d.keepsFace) = true := by decide +kernel
  rcases t d hd with rfl | t
  · exact RoadKit.mvA hZ q
  · exact RoadKit.mv hZ q t
/-- WHAT COMES BACK, over the tables of the start Z: h the heap at the call, h' behind it -/
def Q (Z : State) (x : Addr) (A : Cell) (h : Heap) (v : Option Value) (h' : Heap) (L : List Loc) : Prop := v = none ∧ (∀ y ∈ L, y.base = x) ∧ RoadKit.Keep h h' [x] ∧ h'.size = h.size + 1 ∧ RoadKit.Exa Z h' x ST ∧ RoadKit.Fld Z h' x ST "value" "[B" (.ref h.size) ∧ RoadKit.Fld Z h' x ST "coder" "B" (.int 0) ∧
  (∃ V : Cell, RoadKit.Arr Z h' h.size V .byte ∧ V.vm = .none ∧ Z.vm.findClass "[B" = some V.cls ∧ V.slots.size = A.slots.size ∧ ∀ j, j < A.slots.size → V.slots[j]? = some (.int (lo8 (cv A j)))) ∧
  ∀ (O n d : String) (w : Value), RoadKit.Fld Z h x O n d w → RoadKit.slotOf Z O n d ≠ RoadKit.slotOf Z ST "value" "[B" → RoadKit.slotOf Z O n d ≠ RoadKit.slotOf Z ST "coder" "B" → RoadKit.Fld Z h' x O n d w
/-- **new String(chars) AT A CALL, IN THE ROAD'S FORM**: for specialBack behind newO: x the fresh String, b the char[] with the cell A -/
theorem back {p : Program} {l : Launch} {e : Env} {R : Room} {s : State} {args : Array Value} {below : List Frame} {len W : Nat} {Z : State} {a0 : Array Value} {h : Heap} (hZ : Z.Warmed39 s.vm) (hw : ∀ d ∈ words, d.before a0 Z = true) {kI : Nat} (wi : (Jvm.Cond.instantiable ST kI).before a0 Z = true)
    {x b : Addr} {A : Cell} {z : Int32} {v0 c0 : Value} (E : RoadKit.Exa Z h x ST) (V : RoadKit.Fld Z h x ST "value" "[B" v0) (C : RoadKit.Fld Z h x ST "coder" "B" c0) (K : RoadKit.Arr Z h b A .char) (hty : Typed .char A) (S : RoadKit.Sta Z h ST "COMPACT_STRINGS" "Z" (.int z)) (hz : ¬ z = 0)
    (l0 : 0 < A.slots.size) (l2 : A.slots.size ≤ 536870912) (hp : ∀ i, i < A.slots.size → ¬ 255 < cv A i) (hfr : 4 ≤ R.frames) (hlo : W + 65 ≤ R.locals) :
    Back l R p e below s args New1.yN len W (fun P a => a = #[.ref x, .ref b] ∧ P.U.heap = h ∧ P.cells + 1 ≤ R.cells ∧ P.slots + A.slots.size ≤ R.slots)
      (fun P _ v B => ∃ L, Q Z x A h v B.U.heap L ∧ B.locs = P.locs ++ L ∧ B.cells = P.cells + 1 ∧ B.slots = P.slots + A.slots.size) := by
  intro m meth c P g ig mk a X hg hsize hdg hW hn hp'
  obtain ⟨rfl, rfl, r1, r2⟩ := hp'
  have al : Z.vm.Alike P.U.vm := hZ.alike.trans X.warmed.alike
  obtain ⟨D, cfV, kV, iV, fV, hD, gV, stV, knV, obV, asV, slV⟩ := id V
  obtain ⟨D', cfC, kC, iC, fC, hD', gC, stC, -, -, asC, slC⟩ := id C
  cases hD.symm.trans hD'
  obtain ⟨D2, kD, e1, e2, e3, e4, e5⟩ := id E
  cases hD.symm.trans e1
  obtain ⟨c2, k2, i1, i2, i3, -⟩ := Cond.instantiable_spec wi
  cases e2.symm.trans i1
  cases e3.symm.trans i2
  obtain ⟨kU, u1, u2⟩ := al.2.2 _ _ e3
  have hB : Blank ST x D P.U := ⟨hD, ⟨knV, fun q hq => by rw [hq] at obV; cases obV⟩, by rw [al.findClass]; exact e2, kU, u1, by rw [u2]; exact i3, by rw [u2]; exact e5 i3⟩
  have F1 : Found ST "value" "[B" fV P.U := ⟨SBG.found_only al ⟨cfV, kV, iV, gV⟩, stV⟩
  have F2 : Found ST "coder" "B" fC P.U := ⟨SBG.found_only al ⟨cfC, kC, iC, gC⟩, stC⟩
  have hA : Ch b A P.U := ⟨⟨K.1, State.isArrayOf_alike al K.2.1, K.2.2, by omega⟩, hty⟩
  have hS : StaticIs P.U ST "COMPACT_STRINGS" "Z" (.int z) := by
    obtain ⟨cfS, iS, kS, fS, st, cS, t1, t2, t3, t4, t5, t6, t7⟩ := S
    exact StaticIs.there (s := { Z with heap := P.U.heap }) ⟨cfS, iS, kS, fS, st, cS, t1, t2, t3, t4, t5, (fun q => by rw [q] at t6; cases t6), t7⟩ al rfl
  obtain ⟨v, B, X', ⟨⟨hv, E', V', q1, q2, q3, q4, q5, q6, q7, q8, q9, q10, q11⟩, hl, hc, hs⟩, st⟩ := New1.pays x D fV fC b A z (tab_of (moved hZ hw)) hfr hlo m meth c P g ig mk _ X hg hsize hdg hW hn ⟨r1, r2, rfl, hB, F1, F2, hA, hS, hz, l0, l2, hp⟩
  have al' : Z.vm.Alike B.U.vm := hZ.alike.trans X'.warmed.alike
  have hsz : E'.slots.size = D.slots.size := by
    obtain ⟨-, -, -, kB, w1, w2, w3⟩ := q1
    obtain ⟨kB', y1, y2⟩ := al'.2.2 _ _ e3
    rw [q2.2.1] at w1
    cases w1.symm.trans y1
    rw [w3, e5 i3, y2]
  refine ⟨v, B, X', ⟨_, ⟨hv, ?_, ⟨by omega, fun y cy hy hn' => q10 y cy (by simpa using hn') hy, fun y cy hy => ?_⟩, q11, ⟨E', _, q1.1, by rw [q2.2.1]; exact e2, by rw [q2.2.1]; exact e3, by rw [q2.1]; exact obV, fun _ => by rw [hsz]; exact e5 i3⟩,
    ⟨E', cfV, kV, iV, fV, q1.1, gV, stV, by rw [q2.1]; exact knV, by rw [q2.1]; exact obV, by rw [q2.2.1]; exact asV, q3⟩, ⟨E', cfC, kC, iC, fC, q1.1, gC, stC, by rw [q2.1]; exact knV, by rw [q2.1]; exact obV, by rw [q2.2.1]; exact asC, q4⟩,
    ⟨V', ⟨q5.1, State.isArrayOf_alike al'.symm q5.2.1, q5.2.2.1⟩, q6, by rw [← al'.findClass]; exact q7, q8, fun j hj => by have := q9 j hj; rwa [Nat.zero_add] at this⟩, fun O n d w F n1 n2 => ?_⟩, hl, hc, hs⟩, st⟩
  · intro y hy
    simp only [List.mem_cons, List.not_mem_nil, or_false] at hy
    rcases hy with rfl | rfl <;> rfl
  · by_cases q : y = x
    · subst q
      cases hD.symm.trans hy
      exact ⟨E', q1.1, q2.2.1, q2.1, hsz⟩
    · exact ⟨cy, q10 y cy q hy, rfl, rfl, rfl⟩
  · obtain ⟨D3, cf, k, i, f, g1, g2, g3, g4, g5, g6, g7⟩ := F
    cases hD.symm.trans g1
    simp only [RoadKit.slotOf, g2, gV, gC, Option.map_some, Option.getD_some] at n1 n2
    exact ⟨E', cf, k, i, f, q1.1, g2, g3, by rw [q2.1]; exact g4, by rw [q2.1]; exact g5, by rw [q2.2.1]; exact g6, by rw [q2.2.2 f.slot (by simp [n1, n2])]; exact g7⟩
end StrChars.Road
namespace StrChars.Road
open Jvm Sem ClassFile Op Lib Jvm.Stand Jvm.Free Jvm.Free.XT
/-- WHAT COMES BACK, the byte[] as a list of values -/
def QA (Z : State) (x : Addr) (zn : Int32) (cs : List Int32) (h : Heap) (v : Option Value) (h' : Heap) (L : List Loc) : Prop := v = none ∧ (∀ y ∈ L, y.base = x) ∧ RoadKit.Keep h h' [x] ∧ h'.size = h.size + 1 ∧ RoadKit.Exa Z h' x ST ∧ RoadKit.Fld Z h' x ST "value" "[B" (.ref h.size) ∧ RoadKit.Fld Z h' x ST "coder" "B" (.int 0) ∧
  (∃ kb, Z.vm.findClass "[B" = some kb ∧ RoadKit.Arv Z h' h.size kb .byte zn (cs.map fun c => .int (lo8 c)) (.int 0)) ∧
  ∀ (O n d : String) (w : Value), RoadKit.Fld Z h x O n d w → RoadKit.slotOf Z O n d ≠ RoadKit.slotOf Z ST "value" "[B" → RoadKit.slotOf Z O n d ≠ RoadKit.slotOf Z ST "coder" "B" → RoadKit.Fld Z h' x O n d w
/-- **new String(chars) AT A CALL, THE ARRAYS AS LISTS**: the char[] at b holds cs, not empty, no char above 255 -/
theorem backArv {p : Program} {l : Launch} {e : Env} {R : Room} {s : State} {args : Array Value} {below : List Frame} {len W : Nat} {Z : State} {a0 : Array Value} {h : Heap} (hZ : Z.Warmed39 s.vm) (hw : ∀ d ∈ words, d.before a0 Z = true) {kI : Nat} (wi : (Jvm.Cond.instantiable ST kI).before a0 Z = true)
    {x b : Addr} {k : ClassId} {zn z : Int32} {cs : List Int32} {dv v0 c0 : Value} (E : RoadKit.Exa Z h x ST) (V : RoadKit.Fld Z h x ST "value" "[B" v0) (C : RoadKit.Fld Z h x ST "coder" "B" c0) (K : RoadKit.Arv Z h b k .char zn (cs.map Value.int) dv) (S : RoadKit.Sta Z h ST "COMPACT_STRINGS" "Z" (.int z)) (hz : ¬ z = 0)
    (hlen : zn.toNatClampNeg = cs.length) (h0 : 0 < cs.length) (hbig : cs.length ≤ 536870912) (hall : ∀ c ∈ cs, ¬ 255 < c) (hfr : 4 ≤ R.frames) (hlo : W + 65 ≤ R.locals) :
    Back l R p e below s args New1.yN len W (fun P a => a = #[.ref x, .ref b] ∧ P.U.heap = h ∧ P.cells + 1 ≤ R.cells ∧ P.slots + cs.length ≤ R.slots)
      (fun P _ v B => ∃ L, QA Z x zn cs h v B.U.heap L ∧ B.locs = P.locs ++ L ∧ B.cells = P.cells + 1 ∧ B.slots = P.slots + cs.length) := by
  obtain ⟨A, K1, K2, K3, K4, K5, K6⟩ := K
  have e : A.slots.size = cs.length := K3.trans hlen
  have hat : ∀ (i : Nat) (hi : i < cs.length), A.slots[i]? = some (.int cs[i]) := fun i hi => by rw [K5 i (by omega)]; simp [List.getD_eq_getElem?_getD, hi]
  have hcv : ∀ (i : Nat) (hi : i < cs.length), cv A i = cs[i] := fun i hi => by unfold cv; rw [hat i hi]
  have hty : Typed .char A := fun i v hv => by
    have hi : i < A.slots.size := (Array.getElem?_eq_some_iff.mp hv).1
    have q := K5 i hi
    rw [hv] at q
    rw [Option.some.inj q]
    exact K6 i hi
  refine Back.mono (back hZ hw wi E V C K1 hty S hz (by omega) (by omega) (fun i hi => by rw [hcv i (by omega)]; exact hall _ (List.getElem_mem _)) hfr hlo) (fun P a hp => ⟨hp.1, hp.2.1, hp.2.2.1, by rw [e]; exact hp.2.2.2⟩) (fun P a v B hp hq => ?_)
  obtain ⟨L, ⟨q1, q2, q3, q4, q5, q6, q7, ⟨V', v1, v2, v3, v4, v5⟩, q9⟩, hl, hc, hs⟩ := hq
  refine ⟨L, ⟨q1, q2, q3, q4, q5, q6, q7, ⟨V'.cls, v3, V', v1, rfl, by rw [v4, e, hlen], K4, fun i hi => ?_, fun i hi => ?_⟩, q9⟩, hl, hc, by rw [hs, e]⟩
  · have hi' : i < cs.length := by omega
    rw [v5 i (by omega), hcv i hi']; simp [List.getD_eq_getElem?_getD, hi']
  · have hi' : i < cs.length := by omega
    simp only [List.getD_eq_getElem?_getD, List.getElem?_map, List.getElem?_eq_getElem hi', Option.map_some, Option.getD_some]
    exact fits_lo8 _
end StrChars.Road
namespace StrChars.Road
open Jvm Sem ClassFile Op Lib Jvm.Stand Jvm.Free Jvm.Free.XT
/-- WHAT COMES BACK, in the writer's own shape -/
def QV (Z : State) (x : Addr) (N : Int32) (bs : List Int32) (h : Heap) (n0 : Nat) (v : Option Value) (h' : Heap) (L : List Loc) : Prop := v = none ∧ RoadKit.Fr n0 L ∧ RoadKit.Keep h h' [x] ∧ RoadKit.Exa Z h' x ST ∧ RoadKit.Fld Z h' x ST "coder" "B" (.int 0) ∧
  ∃ (t : Addr) (kb : ClassId), n0 ≤ t ∧ h.size ≤ t ∧ ¬ t = x ∧ RoadKit.Fld Z h' x ST "value" "[B" (.ref t) ∧ RoadKit.Arv Z h' t kb .byte N (bs.map Value.int) (.int 0)
/-- **new String(chars) AT A CALL, FOR THE WRITER**: a char[] of n known ints, each 0 to 255 -/
theorem backV {p : Program} {l : Launch} {e : Env} {R : Room} {s : State} {args : Array Value} {below : List Frame} {len W : Nat} {Z : State} {a0 : Array Value} {h : Heap} (hZ : Z.Warmed39 s.vm) (hw : ∀ d ∈ words, d.before a0 Z = true) {kI : Nat} (wi : (Jvm.Cond.instantiable ST kI).before a0 Z = true)
    {x b : Addr} {kC : ClassId} {cs bs : List Int32} {d v0 c0 : Value} {z N : Int32} {n n0 : Nat} (hx0 : n0 ≤ x) (hh0 : n0 ≤ h.size) (E : RoadKit.Exa Z h x ST) (V : RoadKit.Fld Z h x ST "value" "[B" v0) (C : RoadKit.Fld Z h x ST "coder" "B" c0) (K : RoadKit.Arv Z h b kC .char N (cs.map Value.int) d) (S : RoadKit.Sta Z h ST "COMPACT_STRINGS" "Z" (.int z)) (hz : ¬ z = 0)
    (hn : cs.length = n) (hN : N = Int32.ofNat n) (l0 : 0 < n) (l2 : n ≤ 4000) (hp : ∀ c ∈ cs, ¬ c < 0 ∧ ¬ (255 : Int32) < c) (hb : bs = cs.map (fun c => c.toInt8.toInt32)) (hfr : 4 ≤ R.frames) (hlo : W + 65 ≤ R.locals) :
    Back l R p e below s args (⟨"java/lang/String", "<init>", "([C)V"⟩ : MethodName) len W (fun P a => a = #[.ref x, .ref b] ∧ P.U.heap = h ∧ P.cells + 1 ≤ R.cells ∧ P.slots + n ≤ R.slots)
      (fun P _ v B => ∃ L, QV Z x N bs h n0 v B.U.heap L ∧ B.locs = P.locs ++ L ∧ B.cells = P.cells + 1 ∧ B.slots = P.slots + n) := by
  subst hn hN hb
  refine Back.mono (backArv hZ hw wi E V C K S hz (n32 (by omega)) l0 (by omega) (fun c hc => (hp c hc).2) hfr hlo) (fun P a hp => hp) (fun P a v B hp hq => ?_)
  obtain ⟨L, ⟨q1, q2, q3, q4, q5, q6, q7, ⟨kb, v1, v2⟩, q9⟩, hl, hc, hs⟩ := hq
  exact ⟨L, ⟨q1, fun y hy => by rw [q2 y hy]; exact hx0, q3, q5, q7, h.size, kb, hh0, Nat.le_refl _, Nat.ne_of_gt E.lt, q6, by rw [List.map_map]; exact v2⟩, hl, hc, hs⟩
end StrChars.Road
end Jvm.Pilot.@@N@@
namespace Jvm.Pilot.@@N@@
open Jvm Jvm.ClassFile Sem Op Lib Jvm.Free Jvm.Stand Jvm.LawKit Jvm.RoadKit Bundle Jvm.Pilot.@@N@@.Jvm.D Jvm.Pilot.@@N@@.OwnKit
theorem own_ch (x : Int32) : ¬ nar .char ((x &&& (255 : Int32)).toUInt32.toUInt16.toUInt32.toInt32) < 0 ∧ ¬ (255 : Int32) < nar .char ((x &&& (255 : Int32)).toUInt32.toUInt16.toUInt32.toInt32) := by
  have e : nar .char ((x &&& (255 : Int32)).toUInt32.toUInt16.toUInt32.toInt32) = x &&& 255 := by
    show ((x &&& (255 : Int32)).toUInt32.toUInt16.toUInt32.toInt32).toUInt32.toUInt16.toUInt32.toInt32 = _
    rw [i2c_mask, i2c_mask]
  rw [e]
  have h := c_and x 255 (by decide)
  have e0 : (0 : Int32).toInt = 0 := rfl
  have e1 : (255 : Int32).toInt = 255 := rfl
  simp only [Int32.lt_iff_toInt_lt]
  omega
theorem own_chs (x y : Int32) : ∀ c ∈ [nar .char ((x &&& (255 : Int32)).toUInt32.toUInt16.toUInt32.toInt32), nar .char ((y &&& (255 : Int32)).toUInt32.toUInt16.toUInt32.toInt32)], ¬ c < 0 ∧ ¬ (255 : Int32) < c := by
  intro c hc
  rcases List.mem_cons.mp hc with rfl | hc
  · exact own_ch x
  · rcases List.mem_cons.mp hc with rfl | hc
    · exact own_ch y
    · cases hc
theorem d1_0 : decode method_2_code 0 = .ok (.iconst 2, 1) := by decide +kernel
theorem d1_1 : decode method_2_code 1 = .ok (.newarray .char, 2) := by decide +kernel
theorem d1_3 : decode method_2_code 3 = .ok (.astore_n 1, 1) := by decide +kernel
theorem d1_4 : decode method_2_code 4 = .ok (.aload_n 1, 1) := by decide +kernel
theorem d1_5 : decode method_2_code 5 = .ok (.iconst 0, 1) := by decide +kernel
theorem d1_6 : decode method_2_code 6 = .ok (.iload_n 0, 1) := by decide +kernel
theorem d1_7 : decode method_2_code 7 = .ok (.sipush 255, 3) := by decide +kernel
theorem d1_10 : decode method_2_code 10 = .ok (.iand, 1) := by decide +kernel
theorem d1_11 : decode method_2_code 11 = .ok (.i2c, 1) := by decide +kernel
theorem d1_12 : decode method_2_code 12 = .ok (.castore, 1) := by decide +kernel
theorem d1_13 : decode method_2_code 13 = .ok (.aload_n 1, 1) := by decide +kernel
theorem d1_14 : decode method_2_code 14 = .ok (.iconst 1, 1) := by decide +kernel
theorem d1_15 : decode method_2_code 15 = .ok (.iload_n 0, 1) := by decide +kernel
theorem d1_16 : decode method_2_code 16 = .ok (.bipush 8, 2) := by decide +kernel
theorem d1_18 : decode method_2_code 18 = .ok (.iushr, 1) := by decide +kernel
theorem d1_19 : decode method_2_code 19 = .ok (.sipush 255, 3) := by decide +kernel
theorem d1_22 : decode method_2_code 22 = .ok (.iand, 1) := by decide +kernel
theorem d1_23 : decode method_2_code 23 = .ok (.i2c, 1) := by decide +kernel
theorem d1_24 : decode method_2_code 24 = .ok (.castore, 1) := by decide +kernel
theorem d1_25 : decode method_2_code 25 = .ok (.new 7, 3) := by decide +kernel
theorem d1_28 : decode method_2_code 28 = .ok (.dup, 1) := by decide +kernel
theorem d1_29 : decode method_2_code 29 = .ok (.aload_n 1, 1) := by decide +kernel
theorem d1_30 : decode method_2_code 30 = .ok (.invokespecial 9, 3) := by decide +kernel
theorem pd_0 : parseMethodDescriptor "([C)V" = some ⟨[(.array .char)], none⟩ := by decide +kernel
theorem d1_33 : decode method_2_code 33 = .ok (.areturn, 1) := by decide +kernel
theorem pn_0 : plainName "org/unitspan/ead/DateElementStatedDatePinLaw" = true := by first | (simp [plainName, overriddenIn]; done) | decide +kernel
theorem ef1 (m : MethodId) (px : Int32) : entryFrame m #[(.int px)] 2 = mkF m 0 #[.val (.int px), .unset] [] := by first | (simp [entryFrame, mkF, argsToLocals, Value.category]; done) | rfl
def Q1 (Z : State) (px : Int32) (zc : Int32) (h0 : Heap) (n0 : Nat) (v : Option Value) (h : Heap) (L : List Loc) : Prop := ∃ ob : Addr, v = some (.ref ob) ∧ Fr n0 L ∧ Keep h0 h [] ∧ Exa Z h ob "java/lang/String" ∧ (h0.size ≤ ob)
set_option maxRecDepth 65536 in
set_option maxHeartbeats 40000000 in
theorem rm1 (l : Launch) (Z : State) (a0 : Array Value) (hw : ∀ d ∈ tables_1, d.before a0 Z = true) (ws : List Jvm.Cond) (px : Int32) (zc : Int32) (h0 : Heap) (n0 : Nat) (Z0 : n0 ≤ h0.size) (O : Old Z n0 h0) (S_cs : Sta Z Z.heap "java/lang/String" "COMPACT_STRINGS" "Z" (.int zc)) (hzc : ¬ zc = 0) :
    MetFree l (⟨"org/unitspan/ead/DateElementStatedDatePinLaw", "str", "(I)Ljava/lang/String;"⟩ : MethodName) (head1 (Jvm.Cond.code (⟨"org/unitspan/ead/DateElementStatedDatePinLaw", "str", "(I)Ljava/lang/String;"⟩ : MethodName) method_2_code 2 (some (.object "java/lang/String")) :: ws) ({ frames := 4, cells := 3, slots := 8, locals := 66 } : Room)) (fun a U => a = #[(.int px)] ∧ Z.Warmed39 U.vm ∧ U.heap = h0) (fun _ _ _ _ _ => True) (fun _ U o U' => ∃ v L, o = .returned v ∧ Q1 Z px zc h0 n0 v U'.heap L ∧ FrameEnd U o U' L ({ frames := 4, cells := 3, slots := 8, locals := 66 } : Room).cells ({ frames := 4, cells := 3, slots := 8, locals := 66 } : Room).slots) := by
  refine MetFree.of_bodySF (plainFor_of_name pn_0) hisR ?_
  intro p e s m args below meth c s₁ Bd hml0 hP hK
  obtain ⟨rfl, hZ, hh⟩ := hP
  have hx := Bd.exec
  have hby := Bd.bytes
  have hml : c.maxLocals = 2 := hml0
  have hown : s.vm.findClass "org/unitspan/ead/DateElementStatedDatePinLaw" = some m.cls := findClass_of_methodNamed Bd.named
  have hnm := (name_of_methodNamed Bd.named Bd.method).1
  have X0 : Stand p l e ({ frames := 4, cells := 3, slots := 8, locals := 66 } : Room) s m #[(.int px)] below meth c s₁ [] 0 0 := Stand.of_body Bd
  have e0 : s₁.heap = h0 := by rw [← hh, Bd.state]; rfl
  have N0 := Fr.nil n0
  refine Goes.by (fun _ k => castTop (ef1 m px) k) ?_
  show Goes p.tables e below (s₁.setTop (mkF m 0 #[.val (.int px), .unset] [])) _
  refine Goes.by (fun _ k => XS.iconst X0.here hx rfl (hb hby d1_0) k) ?_
  show Goes p.tables e below (s₁.setTop (mkF m 1 #[.val (.int px), .unset] [(.int (2 : Int32))])) _
  obtain ⟨T1, h1, X1, e1, E1, A1, st1⟩ := nwA (n := 2) (cap := 2) (fr := (mkF m 1 #[.val (.int px), .unset] [(.int (2 : Int32))])) X0 hx hZ (hw _ (List.mem_of_getElem? (i := 4) rfl)) e0 (by decide) (by decide) (by decide) (by decide) (by decide) rfl rfl (hb hby d1_1)
  obtain ⟨b1, g1⟩ : ∃ z, z = h0.size := ⟨_, rfl⟩
  rw [← g1] at A1 st1
  have g_b1 : n0 ≤ b1 := Nat.le_trans Z0 (Nat.le_of_eq g1.symm)
  have sz_b1 : h0.size ≤ b1 := Nat.le_trans (Keep.refl h0 []).1 (Nat.le_of_eq g1.symm)
  have Zs1 : n0 ≤ h1.size := Nat.le_trans Z0 E1.1
  have K1 : Keep h0 h1 [] := (Keep.refl h0 []).ext E1
  refine Goes.by st1 ?_
  have O : Old Z n0 h1 := O.ext E1
  have A_b1 : AI Z h1 b1 .char 2 (fun _ => (0 : Int32)) := A1
  show Goes p.tables e below (T1.setTop (mkF m 3 #[.val (.int px), .unset] [(.ref b1)])) _
  refine Goes.by (fun _ k => XS.astoreN X1.here hx rfl (hb hby d1_3) rfl rfl (l' := #[.val (.int px), .val (.ref b1)]) rfl k) ?_
  show Goes p.tables e below (T1.setTop (mkF m 4 #[.val (.int px), .val (.ref b1)] [])) _
  refine Goes.by (fun _ k => XS.aloadN X1.here hx rfl (hb hby d1_4) rfl rfl k) ?_
  show Goes p.tables e below (T1.setTop (mkF m 5 #[.val (.int px), .val (.ref b1)] [(.ref b1)])) _
  refine Goes.by (fun _ k => XS.iconst X1.here hx rfl (hb hby d1_5) k) ?_
  show Goes p.tables e below (T1.setTop (mkF m 6 #[.val (.int px), .val (.ref b1)] [(.int (0 : Int32)), (.ref b1)])) _
  refine Goes.by (fun _ k => XS.iloadN X1.here hx rfl (hb hby d1_6) rfl k) ?_
  show Goes p.tables e below (T1.setTop (mkF m 7 #[.val (.int px), .val (.ref b1)] [(.int px), (.int (0 : Int32)), (.ref b1)])) _
  refine Goes.by (fun _ k => XS.sipush X1.here hx rfl (hb hby d1_7) k) ?_
  show Goes p.tables e below (T1.setTop (mkF m 10 #[.val (.int px), .val (.ref b1)] [(.int (255 : Int32)), (.int px), (.int (0 : Int32)), (.ref b1)])) _
  refine Goes.by (fun _ k => XS.iand X1.here hx rfl (hb hby d1_10) rfl k) ?_
  show Goes p.tables e below (T1.setTop (mkF m 11 #[.val (.int px), .val (.ref b1)] [(.int (px &&& (255 : Int32))), (.int (0 : Int32)), (.ref b1)])) _
  refine Goes.by (fun _ k => XS.i2c X1.here hx rfl (hb hby d1_11) rfl k) ?_
  show Goes p.tables e below (T1.setTop (mkF m 12 #[.val (.int px), .val (.ref b1)] [(.int ((px &&& (255 : Int32)).toUInt32.toUInt16.toUInt32.toInt32)), (.int (0 : Int32)), (.ref b1)])) _
  obtain ⟨T2, h2, X2, e2, W2, A2, st2⟩ := stAC (fr := (mkF m 12 #[.val (.int px), .val (.ref b1)] [(.int ((px &&& (255 : Int32)).toUInt32.toUInt16.toUInt32.toInt32)), (.int (0 : Int32)), (.ref b1)])) X1 hx hZ e1 A_b1 (i := 0) (by decide) (by decide) rfl rfl (hb hby d1_12)
  refine Goes.by st2 ?_
  have A_b1 : AI Z h2 b1 .char 2 (up (fun _ => (0 : Int32)) 0 (nar .char ((px &&& (255 : Int32)).toUInt32.toUInt16.toUInt32.toInt32))) := A2
  have N2 := Fr.snoc X2 N0 g_b1
  have Zs2 : n0 ≤ h2.size := Nat.le_trans Zs1 (Keep.of_wr W2).1
  have K2 : Keep h0 h2 [] := K1.wr W2 (Or.inr sz_b1)
  have O : Old Z n0 h2 := O.wr W2 g_b1
  show Goes p.tables e below (T2.setTop (mkF m 13 #[.val (.int px), .val (.ref b1)] [])) _
  refine Goes.by (fun _ k => XS.aloadN X2.here hx rfl (hb hby d1_13) rfl rfl k) ?_
  show Goes p.tables e below (T2.setTop (mkF m 14 #[.val (.int px), .val (.ref b1)] [(.ref b1)])) _
  refine Goes.by (fun _ k => XS.iconst X2.here hx rfl (hb hby d1_14) k) ?_
  show Goes p.tables e below (T2.setTop (mkF m 15 #[.val (.int px), .val (.ref b1)] [(.int (1 : Int32)), (.ref b1)])) _
  refine Goes.by (fun _ k => XS.iloadN X2.here hx rfl (hb hby d1_15) rfl k) ?_
  show Goes p.tables e below (T2.setTop (mkF m 16 #[.val (.int px), .val (.ref b1)] [(.int px), (.int (1 : Int32)), (.ref b1)])) _
  refine Goes.by (fun _ k => XS.bipush X2.here hx rfl (hb hby d1_16) k) ?_
  show Goes p.tables e below (T2.setTop (mkF m 18 #[.val (.int px), .val (.ref b1)] [(.int (8 : Int32)), (.int px), (.int (1 : Int32)), (.ref b1)])) _
  refine Goes.by (fun _ k => XS.iushr X2.here hx rfl (hb hby d1_18) rfl k) ?_
  show Goes p.tables e below (T2.setTop (mkF m 19 #[.val (.int px), .val (.ref b1)] [(.int ((px.toUInt32 >>> ((8 : Int32) &&& 31).toUInt32).toInt32)), (.int (1 : Int32)), (.ref b1)])) _
  refine Goes.by (fun _ k => XS.sipush X2.here hx rfl (hb hby d1_19) k) ?_
  show Goes p.tables e below (T2.setTop (mkF m 22 #[.val (.int px), .val (.ref b1)] [(.int (255 : Int32)), (.int ((px.toUInt32 >>> ((8 : Int32) &&& 31).toUInt32).toInt32)), (.int (1 : Int32)), (.ref b1)])) _
  refine Goes.by (fun _ k => XS.iand X2.here hx rfl (hb hby d1_22) rfl k) ?_
  show Goes p.tables e below (T2.setTop (mkF m 23 #[.val (.int px), .val (.ref b1)] [(.int (((px.toUInt32 >>> ((8 : Int32) &&& 31).toUInt32).toInt32) &&& (255 : Int32))), (.int (1 : Int32)), (.ref b1)])) _
  refine Goes.by (fun _ k => XS.i2c X2.here hx rfl (hb hby d1_23) rfl k) ?_
  show Goes p.tables e below (T2.setTop (mkF m 24 #[.val (.int px), .val (.ref b1)] [(.int ((((px.toUInt32 >>> ((8 : Int32) &&& 31).toUInt32).toInt32) &&& (255 : Int32)).toUInt32.toUInt16.toUInt32.toInt32)), (.int (1 : Int32)), (.ref b1)])) _
  obtain ⟨T3, h3, X3, e3, W3, A3, st3⟩ := stAC (fr := (mkF m 24 #[.val (.int px), .val (.ref b1)] [(.int ((((px.toUInt32 >>> ((8 : Int32) &&& 31).toUInt32).toInt32) &&& (255 : Int32)).toUInt32.toUInt16.toUInt32.toInt32)), (.int (1 : Int32)), (.ref b1)])) X2 hx hZ e2 A_b1 (i := 1) (by decide) (by decide) rfl rfl (hb hby d1_24)
  refine Goes.by st3 ?_
  have A_b1 : AI Z h3 b1 .char 2 (up (up (fun _ => (0 : Int32)) 0 (nar .char ((px &&& (255 : Int32)).toUInt32.toUInt16.toUInt32.toInt32))) 1 (nar .char ((((px.toUInt32 >>> ((8 : Int32) &&& 31).toUInt32).toInt32) &&& (255 : Int32)).toUInt32.toUInt16.toUInt32.toInt32))) := A3
  have N3 := Fr.snoc X3 N2 g_b1
  have Zs3 : n0 ≤ h3.size := Nat.le_trans Zs2 (Keep.of_wr W3).1
  have K3 : Keep h0 h3 [] := K2.wr W3 (Or.inr sz_b1)
  have O : Old Z n0 h3 := O.wr W3 g_b1
  show Goes p.tables e below (T3.setTop (mkF m 25 #[.val (.int px), .val (.ref b1)] [])) _
  obtain ⟨T4, h4, X4, e4, E4, A4, D4, -, st4⟩ := newO X3 hx hZ hown (hw _ (List.mem_of_getElem? (i := 5) rfl)) (hw _ (List.mem_of_getElem? (i := 6) rfl)) (hw _ (List.mem_of_getElem? (i := 7) rfl)) e3 (g := (mkF m 25 #[.val (.int px), .val (.ref b1)] [])) rfl (hb hby d1_25) (by decide) (by decide)
  obtain ⟨b4, g4⟩ : ∃ z, z = h3.size := ⟨_, rfl⟩
  rw [← g4] at A4 D4 st4
  have g_b4 : n0 ≤ b4 := Nat.le_trans Zs3 (Nat.le_of_eq g4.symm)
  have sz_b4 : h0.size ≤ b4 := Nat.le_trans K3.1 (Nat.le_of_eq g4.symm)
  have ne_b1_b4 : b1 ≠ b4 := Nat.ne_of_lt (Nat.lt_of_lt_of_le A_b1.lt (Nat.le_of_eq g4.symm))
  have Zs4 : n0 ≤ h4.size := Nat.le_trans Zs3 E4.1
  have K4 : Keep h0 h4 [] := K3.ext E4
  refine Goes.by st4 ?_
  have O : Old Z n0 h4 := O.ext E4
  have A_b1 : AI Z h4 b1 .char 2 (up (up (fun _ => (0 : Int32)) 0 (nar .char ((px &&& (255 : Int32)).toUInt32.toUInt16.toUInt32.toInt32))) 1 (nar .char ((((px.toUInt32 >>> ((8 : Int32) &&& 31).toUInt32).toInt32) &&& (255 : Int32)).toUInt32.toUInt16.toUInt32.toInt32))) := A_b1.ext E4
  have E_b4 : Exa Z h4 b4 "java/lang/String" := A4
  have F_b4_coder : Fld Z h4 b4 "java/lang/String" "coder" "B" (.int (0 : Int32)) := D4 (Or.inr (hw _ (List.mem_of_getElem? (i := 31) rfl))) (ty := .byte) (by decide)
  have F_b4_value : Fld Z h4 b4 "java/lang/String" "value" "[B" .null := D4 (Or.inr (hw _ (List.mem_of_getElem? (i := 33) rfl))) (ty := (.array .byte)) (by decide)
  show Goes p.tables e below (T4.setTop (mkF m 28 #[.val (.int px), .val (.ref b1)] [(.ref b4)])) _
  refine Goes.by (fun _ k => XS.dup X4.here hx rfl (hb hby d1_28) rfl rfl k) ?_
  show Goes p.tables e below (T4.setTop (mkF m 29 #[.val (.int px), .val (.ref b1)] [(.ref b4), (.ref b4)])) _
  refine Goes.by (fun _ k => XS.aloadN X4.here hx rfl (hb hby d1_29) rfl rfl k) ?_
  show Goes p.tables e below (T4.setTop (mkF m 30 #[.val (.int px), .val (.ref b1)] [(.ref b1), (.ref b4), (.ref b4)])) _
  have hws : ∀ d ∈ StrChars.Road.words, d.before a0 Z = true := fun d hd => hw d ((by decide +kernel : ∀ d ∈ StrChars.Road.words, d ∈ tables_1) d hd)
  obtain ⟨kc5, Kc5⟩ := Ar.arv A_b1
  have Kd5 : Arv Z h4 b1 kc5 .char (Int32.ofNat 2) ([(nar .char ((px &&& (255 : Int32)).toUInt32.toUInt16.toUInt32.toInt32)), (nar .char ((((px.toUInt32 >>> ((8 : Int32) &&& 31).toUInt32).toInt32) &&& (255 : Int32)).toUInt32.toUInt16.toUInt32.toInt32))].map Value.int) _ := Kc5
  obtain ⟨_, _, ⟨T5, L5, k5, n5⟩, -, X5, ⟨Lc5, hQ5, l5, y5, z5⟩, st5⟩ := X4.specialBack hx (y := (⟨"java/lang/String", "<init>", "([C)V"⟩ : MethodName)) rfl hown (mvT hZ (hw _ (List.mem_of_getElem? (i := 8) rfl))) (mvT hZ (hw _ (List.mem_of_getElem? (i := 9) rfl))) (mvT hZ (hw _ (List.mem_of_getElem? (i := 10) rfl))) (by decide) (StrChars.Road.backV (W := 1) hZ hws (kI := 4) (hw _ (List.mem_of_getElem? (i := 6) rfl)) (cs := [(nar .char ((px &&& (255 : Int32)).toUInt32.toUInt16.toUInt32.toInt32)), (nar .char ((((px.toUInt32 >>> ((8 : Int32) &&& 31).toUInt32).toInt32) &&& (255 : Int32)).toUInt32.toUInt16.toUInt32.toInt32))]) (bs := [(nar .char ((px &&& (255 : Int32)).toUInt32.toUInt16.toUInt32.toInt32)).toInt8.toInt32, (nar .char ((((px.toUInt32 >>> ((8 : Int32) &&& 31).toUInt32).toInt32) &&& (255 : Int32)).toUInt32.toUInt16.toUInt32.toInt32)).toInt8.toInt32]) (n := 2) g_b4 Zs4 E_b4 F_b4_value F_b4_coder Kd5 (S_cs.ext O.2) hzc rfl rfl (by decide) (by decide) (own_chs _ _) rfl (by decide) (by decide)) (g := (mkF m 30 #[.val (.int px), .val (.ref b1)] [(.ref b1), (.ref b4), (.ref b4)])) rfl (by rw [hml]; rfl) (Steps.refl _) (a := b4) (argsL := [(.ref b1)]) (rest := [(.ref b4)]) (lenOf pd_0 rfl) rfl (by show 2 * 0 + (1 + 0) ≤ _; decide) (hb hby d1_30) (fun _ _ => ⟨rfl, e4, (by decide : 2 + 1 ≤ _), (by decide : 6 + 2 ≤ _)⟩)
  dsimp only [Pt.U, Pt.locs, Pt.cells, Pt.slots] at X5 l5 y5 z5 st5 hQ5
  subst l5 y5 z5
  obtain ⟨rfl, N5q, Kq5, Eq5, -⟩ := hQ5
  have N5 := Fr.app N3 N5q
  refine Goes.via st5 ?_
  have Zs5 : n0 ≤ T5.heap.size := Nat.le_trans Zs4 Kq5.1
  have K5 : Keep h0 T5.heap [] := K4.trans Kq5 (allS (Or.inr sz_b4) all0)
  have O : Old Z n0 T5.heap := O.keep Kq5 (allS g_b4 all0)
  have E_b4 : Exa Z T5.heap b4 "java/lang/String" := E_b4.keep Kq5
  have E_b4 : Exa Z T5.heap b4 "java/lang/String" := Eq5
  show Goes p.tables e below (T5.setTop (mkF m 33 #[.val (.int px), .val (.ref b1)] [(.ref b4)])) _
  obtain ⟨fs, hr, hrun, hended, hW, hsame⟩ := X5.leave (v := some (.ref b4)) (fun h => by rw [Bd.returns] at h; cases h)
  refine ⟨_, _, retOut X5 hx Bd.returns (i := .areturn) (narR rfl) (Or.inr (Or.inr (Or.inr (Or.inr ⟨rfl, rfl, rfl⟩)))) (hb hby d1_33) hr, hrun, hended, _, _, rfl, ?_, ⟨_, rfl⟩, hW, hsame.mono (by decide) (by decide)⟩
  show Q1 Z px zc h0 n0 _ T5.heap _
  exact ⟨b4, rfl, N5, K5, E_b4, sz_b4⟩
theorem d9_0 : decode jdk_30_method_1_code 0 = .ok (.aload_n 0, 1) := by decide +kernel
theorem d9_1 : decode jdk_30_method_1_code 1 = .ok (.invokespecial 1, 3) := by decide +kernel
theorem d9_4 : decode jdk_30_method_1_code 4 = .ok (.return_, 1) := by decide +kernel
theorem pn_1 : plainName "java/lang/Record" = true := by first | (simp [plainName, overriddenIn]; done) | decide +kernel
theorem ef9 (m : MethodId) (oa : Addr) : entryFrame m #[(.ref oa)] 1 = mkF m 0 #[.val (.ref oa)] [] := by first | (simp [entryFrame, mkF, argsToLocals, Value.category]; done) | rfl
def Q9 (Z : State) (oa : Addr) (h0 : Heap) (n0 : Nat) (v : Option Value) (h : Heap) (L : List Loc) : Prop := v = none ∧ Fr n0 L ∧ h = h0
set_option maxRecDepth 65536 in
set_option maxHeartbeats 40000000 in
theorem rm9 (l : Launch) (Z : State) (a0 : Array Value) (hw : ∀ d ∈ tables_1, d.before a0 Z = true) (ws : List Jvm.Cond) (oa : Addr) (h0 : Heap) (n0 : Nat) (Z0 : n0 ≤ h0.size) :
    MetFree l (⟨"java/lang/Record", "<init>", "()V"⟩ : MethodName) (head1 (Jvm.Cond.code (⟨"java/lang/Record", "<init>", "()V"⟩ : MethodName) jdk_30_method_1_code 1 none :: ws) ({ frames := 1, cells := 0, slots := 0, locals := 12 } : Room)) (fun a U => a = #[(.ref oa)] ∧ Z.Warmed39 U.vm ∧ U.heap = h0) (fun _ _ _ _ _ => True) (fun _ U o U' => ∃ v L, o = .returned v ∧ Q9 Z oa h0 n0 v U'.heap L ∧ FrameEnd U o U' L ({ frames := 1, cells := 0, slots := 0, locals := 12 } : Room).cells ({ frames := 1, cells := 0, slots := 0, locals := 12 } : Room).slots) := by
  refine MetFree.of_bodySF (plainFor_of_name pn_1) hisR ?_
  intro p e s m args below meth c s₁ Bd hml0 hP hK
  obtain ⟨rfl, hZ, hh⟩ := hP
  have hx := Bd.exec
  have hby := Bd.bytes
  have hml : c.maxLocals = 1 := hml0
  have hown : s.vm.findClass "java/lang/Record" = some m.cls := findClass_of_methodNamed Bd.named
  have hnm := (name_of_methodNamed Bd.named Bd.method).1
  have X0 : Stand p l e ({ frames := 1, cells := 0, slots := 0, locals := 12 } : Room) s m #[(.ref oa)] below meth c s₁ [] 0 0 := Stand.of_body Bd
  have e0 : s₁.heap = h0 := by rw [← hh, Bd.state]; rfl
  have N0 := Fr.nil n0
  refine Goes.by (fun _ k => castTop (ef9 m oa) k) ?_
  show Goes p.tables e below (s₁.setTop (mkF m 0 #[.val (.ref oa)] [])) _
  refine Goes.by (fun _ k => XS.aloadN X0.here hx rfl (hb hby d9_0) rfl rfl k) ?_
  show Goes p.tables e below (s₁.setTop (mkF m 1 #[.val (.ref oa)] [(.ref oa)])) _
  obtain ⟨T1, X1, e1, st1⟩ := initO X0 hx hZ hown (hw _ (List.mem_of_getElem? (i := 45) rfl)) (hw _ (List.mem_of_getElem? (i := 16) rfl)) (hw _ (List.mem_of_getElem? (i := 17) rfl)) e0 (g := (mkF m 1 #[.val (.ref oa)] [(.ref oa)])) rfl (by rw [hml]; rfl) rfl (hb hby d9_1) (by decide) (W := 0) (by show 2 * 0 + _ ≤ _; exact Nat.le_of_eq rfl) (by decide)
  refine Goes.by st1 ?_
  show Goes p.tables e below (T1.setTop (mkF m 4 #[.val (.ref oa)] [])) _
  obtain ⟨fs, hr, hrun, hended, hW, hsame⟩ := X1.leave (v := none) (fun _ => rfl)
  refine ⟨_, _, X1.returnOut hx Bd.returns (hb hby d9_4) hr, hrun, hended, _, _, rfl, ?_, ⟨_, rfl⟩, hW, hsame.mono (by decide) (by decide)⟩
  show Q9 Z oa h0 n0 _ T1.heap _
  rw [e1]
  exact ⟨rfl, N0, rfl⟩
theorem d8_0 : decode prog_38_method_2_code 0 = .ok (.aload_n 0, 1) := by decide +kernel
theorem d8_1 : decode prog_38_method_2_code 1 = .ok (.invokespecial 1, 3) := by decide +kernel
theorem pd_1 : parseMethodDescriptor "()V" = some ⟨[], none⟩ := by decide +kernel
theorem d8_4 : decode prog_38_method_2_code 4 = .ok (.aload_n 0, 1) := by decide +kernel
theorem d8_5 : decode prog_38_method_2_code 5 = .ok (.lload_n 1, 1) := by decide +kernel
theorem d8_6 : decode prog_38_method_2_code 6 = .ok (.putfield 7, 3) := by decide +kernel
theorem d8_9 : decode prog_38_method_2_code 9 = .ok (.aload_n 0, 1) := by decide +kernel
theorem d8_10 : decode prog_38_method_2_code 10 = .ok (.aload_n 3, 1) := by decide +kernel
theorem d8_11 : decode prog_38_method_2_code 11 = .ok (.putfield 13, 3) := by decide +kernel
theorem d8_14 : decode prog_38_method_2_code 14 = .ok (.aload_n 0, 1) := by decide +kernel
theorem d8_15 : decode prog_38_method_2_code 15 = .ok (.aload 4, 2) := by decide +kernel
theorem d8_17 : decode prog_38_method_2_code 17 = .ok (.putfield 17, 3) := by decide +kernel
theorem d8_20 : decode prog_38_method_2_code 20 = .ok (.aload_n 0, 1) := by decide +kernel
theorem d8_21 : decode prog_38_method_2_code 21 = .ok (.aload 5, 2) := by decide +kernel
theorem d8_23 : decode prog_38_method_2_code 23 = .ok (.putfield 20, 3) := by decide +kernel
theorem d8_26 : decode prog_38_method_2_code 26 = .ok (.aload_n 0, 1) := by decide +kernel
theorem d8_27 : decode prog_38_method_2_code 27 = .ok (.aload 6, 2) := by decide +kernel
theorem d8_29 : decode prog_38_method_2_code 29 = .ok (.putfield 23, 3) := by decide +kernel
theorem d8_32 : decode prog_38_method_2_code 32 = .ok (.aload_n 0, 1) := by decide +kernel
theorem d8_33 : decode prog_38_method_2_code 33 = .ok (.aload 7, 2) := by decide +kernel
theorem d8_35 : decode prog_38_method_2_code 35 = .ok (.putfield 26, 3) := by decide +kernel
theorem d8_38 : decode prog_38_method_2_code 38 = .ok (.aload_n 0, 1) := by decide +kernel
theorem d8_39 : decode prog_38_method_2_code 39 = .ok (.aload 8, 2) := by decide +kernel
theorem d8_41 : decode prog_38_method_2_code 41 = .ok (.putfield 29, 3) := by decide +kernel
theorem d8_44 : decode prog_38_method_2_code 44 = .ok (.aload_n 0, 1) := by decide +kernel
theorem d8_45 : decode prog_38_method_2_code 45 = .ok (.aload 9, 2) := by decide +kernel
theorem d8_47 : decode prog_38_method_2_code 47 = .ok (.putfield 32, 3) := by decide +kernel
theorem d8_50 : decode prog_38_method_2_code 50 = .ok (.aload_n 0, 1) := by decide +kernel
theorem d8_51 : decode prog_38_method_2_code 51 = .ok (.aload 10, 2) := by decide +kernel
theorem d8_53 : decode prog_38_method_2_code 53 = .ok (.putfield 35, 3) := by decide +kernel
theorem d8_56 : decode prog_38_method_2_code 56 = .ok (.return_, 1) := by decide +kernel
theorem pn_2 : plainName "org/unitspan/ead/DateElement" = true := by first | (simp [plainName, overriddenIn]; done) | decide +kernel
theorem ef8rr (m : MethodId) (oa : Addr) (pl : Int64) (oname : Addr) (otext : Addr) (onorm : Addr) (otype : Addr) (ostd : Addr) (onb : Addr) (ona : Addr) (ors : Addr) : entryFrame m #[(.ref oa), (.long pl), (.ref oname), (.ref otext), (.ref onorm), (.ref otype), (.ref ostd), (.ref onb), (.ref ona), (.ref ors)] 11 = mkF m 0 #[.val (.ref oa), .val (.long pl), .second, .val (.ref oname), .val (.ref otext), .val (.ref onorm), .val (.ref otype), .val (.ref ostd), .val (.ref onb), .val (.ref ona), .val (.ref ors)] [] := by first | (simp [entryFrame, mkF, argsToLocals, Value.category]; done) | rfl
def Q8rr (Z : State) (oa : Addr) (pl : Int64) (oname : Addr) (otext : Addr) (onorm : Addr) (otype : Addr) (ostd : Addr) (onb : Addr) (ona : Addr) (ors : Addr) (h0 : Heap) (n0 : Nat) (v : Option Value) (h : Heap) (L : List Loc) : Prop := v = none ∧ Fr n0 L ∧ Keep h0 h [oa] ∧ Exa Z h oa "org/unitspan/ead/DateElement" ∧ Fld Z h oa "org/unitspan/ead/DateElement" "normal" "Ljava/lang/String;" (.ref onorm) ∧ Fld Z h oa "org/unitspan/ead/DateElement" "standardDate" "Ljava/lang/String;" (.ref ostd)
set_option maxRecDepth 65536 in
set_option maxHeartbeats 40000000 in
theorem rm8rr (l : Launch) (Z : State) (a0 : Array Value) (hw : ∀ d ∈ tables_1, d.before a0 Z = true) (ws : List Jvm.Cond) (oa : Addr) (pl : Int64) (oname : Addr) (otext : Addr) (onorm : Addr) (otype : Addr) (ostd : Addr) (onb : Addr) (ona : Addr) (ors : Addr) (h0 : Heap) (n0 : Nat) (Z0 : n0 ≤ h0.size) (E_oa : Exa Z h0 oa "org/unitspan/ead/DateElement") (F_oa_line : Fld Z h0 oa "org/unitspan/ead/DateElement" "line" "J" (.long (0 : Int64))) (F_oa_name : Fld Z h0 oa "org/unitspan/ead/DateElement" "name" "Ljava/lang/String;" .null) (F_oa_text : Fld Z h0 oa "org/unitspan/ead/DateElement" "text" "Ljava/lang/String;" .null) (F_oa_normal : Fld Z h0 oa "org/unitspan/ead/DateElement" "normal" "Ljava/lang/String;" .null) (F_oa_unitdateType : Fld Z h0 oa "org/unitspan/ead/DateElement" "unitdateType" "Ljava/lang/String;" .null) (F_oa_standardDate : Fld Z h0 oa "org/unitspan/ead/DateElement" "standardDate" "Ljava/lang/String;" .null) (F_oa_notBefore : Fld Z h0 oa "org/unitspan/ead/DateElement" "notBefore" "Ljava/lang/String;" .null) (F_oa_notAfter : Fld Z h0 oa "org/unitspan/ead/DateElement" "notAfter" "Ljava/lang/String;" .null) (F_oa_rangeStart : Fld Z h0 oa "org/unitspan/ead/DateElement" "rangeStart" "Ljava/lang/String;" .null) (g_oa : n0 ≤ oa) :
    MetFree l (⟨"org/unitspan/ead/DateElement", "<init>", "(JLjava/lang/String;Ljava/lang/String;Ljava/lang/String;Ljava/lang/String;Ljava/lang/String;Ljava/lang/String;Ljava/lang/String;Ljava/lang/String;)V"⟩ : MethodName) (head1 (Jvm.Cond.code (⟨"org/unitspan/ead/DateElement", "<init>", "(JLjava/lang/String;Ljava/lang/String;Ljava/lang/String;Ljava/lang/String;Ljava/lang/String;Ljava/lang/String;Ljava/lang/String;Ljava/lang/String;)V"⟩ : MethodName) prog_38_method_2_code 11 none :: ws) ({ frames := 2, cells := 0, slots := 0, locals := 24 } : Room)) (fun a U => a = #[(.ref oa), (.long pl), (.ref oname), (.ref otext), (.ref onorm), (.ref otype), (.ref ostd), (.ref onb), (.ref ona), (.ref ors)] ∧ Z.Warmed39 U.vm ∧ U.heap = h0) (fun _ _ _ _ _ => True) (fun _ U o U' => ∃ v L, o = .returned v ∧ Q8rr Z oa pl oname otext onorm otype ostd onb ona ors h0 n0 v U'.heap L ∧ FrameEnd U o U' L ({ frames := 2, cells := 0, slots := 0, locals := 24 } : Room).cells ({ frames := 2, cells := 0, slots := 0, locals := 24 } : Room).slots) := by
  refine MetFree.of_bodySF (plainFor_of_name pn_2) hisR ?_
  intro p e s m args below meth c s₁ Bd hml0 hP hK
  obtain ⟨rfl, hZ, hh⟩ := hP
  have hx := Bd.exec
  have hby := Bd.bytes
  have hml : c.maxLocals = 11 := hml0
  have hown : s.vm.findClass "org/unitspan/ead/DateElement" = some m.cls := findClass_of_methodNamed Bd.named
  have hnm := (name_of_methodNamed Bd.named Bd.method).1
  have X0 : Stand p l e ({ frames := 2, cells := 0, slots := 0, locals := 24 } : Room) s m #[(.ref oa), (.long pl), (.ref oname), (.ref otext), (.ref onorm), (.ref otype), (.ref ostd), (.ref onb), (.ref ona), (.ref ors)] below meth c s₁ [] 0 0 := Stand.of_body Bd
  have e0 : s₁.heap = h0 := by rw [← hh, Bd.state]; rfl
  have N0 := Fr.nil n0
  refine Goes.by (fun _ k => castTop (ef8rr m oa pl oname otext onorm otype ostd onb ona ors) k) ?_
  show Goes p.tables e below (s₁.setTop (mkF m 0 #[.val (.ref oa), .val (.long pl), .second, .val (.ref oname), .val (.ref otext), .val (.ref onorm), .val (.ref otype), .val (.ref ostd), .val (.ref onb), .val (.ref ona), .val (.ref ors)] [])) _
  refine Goes.by (fun _ k => XS.aloadN X0.here hx rfl (hb hby d8_0) rfl rfl k) ?_
  show Goes p.tables e below (s₁.setTop (mkF m 1 #[.val (.ref oa), .val (.long pl), .second, .val (.ref oname), .val (.ref otext), .val (.ref onorm), .val (.ref otype), .val (.ref ostd), .val (.ref onb), .val (.ref ona), .val (.ref ors)] [(.ref oa)])) _
  obtain ⟨_, _, ⟨T1, L1, k1, n1⟩, -, X1, ⟨Lc1, hQ1, l1, y1, z1⟩, st1⟩ := X0.specialBack hx (y := (⟨"java/lang/Record", "<init>", "()V"⟩ : MethodName)) rfl hown (mvT hZ (hw _ (List.mem_of_getElem? (i := 40) rfl))) (mvT hZ (hw _ (List.mem_of_getElem? (i := 41) rfl))) (mvT hZ (hw _ (List.mem_of_getElem? (i := 44) rfl))) (by decide) (backOf (W := 0) (rm9 l Z a0 hw [] oa h0 n0 Z0) hZ (hw _ (List.mem_of_getElem? (i := 44) rfl)) (hw _ (List.mem_of_getElem? (i := 43) rfl)) (by decide) (by decide)) (g := (mkF m 1 #[.val (.ref oa), .val (.long pl), .second, .val (.ref oname), .val (.ref otext), .val (.ref onorm), .val (.ref otype), .val (.ref ostd), .val (.ref onb), .val (.ref ona), .val (.ref ors)] [(.ref oa)])) rfl (by rw [hml]; rfl) (Steps.refl _) (a := oa) (argsL := []) (rest := []) (lenOf pd_1 rfl) rfl (by show 2 * 0 + _ ≤ _; exact Nat.le_of_eq rfl) (hb hby d8_1) (fun _ _ => ⟨rfl, e0, (by decide : 0 + 0 ≤ _), (by decide : 0 + 0 ≤ _)⟩)
  dsimp only [Pt.U, Pt.locs, Pt.cells, Pt.slots] at X1 l1 y1 z1 st1 hQ1
  subst l1 y1 z1
  obtain ⟨rfl, N1q, e1⟩ := hQ1
  have N1 := Fr.app N0 N1q
  refine Goes.via st1 ?_
  show Goes p.tables e below (T1.setTop (mkF m 4 #[.val (.ref oa), .val (.long pl), .second, .val (.ref oname), .val (.ref otext), .val (.ref onorm), .val (.ref otype), .val (.ref ostd), .val (.ref onb), .val (.ref ona), .val (.ref ors)] [])) _
  refine Goes.by (fun _ k => XS.aloadN X1.here hx rfl (hb hby d8_4) rfl rfl k) ?_
  show Goes p.tables e below (T1.setTop (mkF m 5 #[.val (.ref oa), .val (.long pl), .second, .val (.ref oname), .val (.ref otext), .val (.ref onorm), .val (.ref otype), .val (.ref ostd), .val (.ref onb), .val (.ref ona), .val (.ref ors)] [(.ref oa)])) _
  refine Goes.by (fun _ k => XS.lloadN X1.here hx rfl (hb hby d8_5) rfl k) ?_
  show Goes p.tables e below (T1.setTop (mkF m 6 #[.val (.ref oa), .val (.long pl), .second, .val (.ref oname), .val (.ref otext), .val (.ref onorm), .val (.ref otype), .val (.ref ostd), .val (.ref onb), .val (.ref ona), .val (.ref ors)] [(.long pl), (.ref oa)])) _
  obtain ⟨T2, h2, X2, e2, W2, st2⟩ := putF X1 hx hZ hown (host := "") (Or.inl (hw _ (List.mem_of_getElem? (i := 46) rfl))) Via.refl e1 F_oa_line E_oa (Or.inr ⟨(hw _ (List.mem_of_getElem? (i := 47) rfl)), rfl, hnm⟩) (hw _ (List.mem_of_getElem? (i := 35) rfl)) (ty := .long) (by decide) rfl rfl (g := (mkF m 6 #[.val (.ref oa), .val (.long pl), .second, .val (.ref oname), .val (.ref otext), .val (.ref onorm), .val (.ref otype), .val (.ref ostd), .val (.ref onb), .val (.ref ona), .val (.ref ors)] [(.long pl), (.ref oa)])) rfl rfl (hb hby d8_6)
  refine Goes.by st2 ?_
  have F_oa_line : Fld Z h2 oa "org/unitspan/ead/DateElement" "line" "J" (.long pl) := F_oa_line.same W2
  have N2 := Fr.snoc X2 N1 g_oa
  have Zs2 : n0 ≤ h2.size := Nat.le_trans Z0 (Keep.of_wr W2).1
  have K2 : Keep h0 h2 [oa] := (Keep.refl h0 [oa]).wr W2 (Or.inl (List.mem_of_getElem? (i := 0) rfl))
  have E_oa : Exa Z h2 oa "org/unitspan/ead/DateElement" := E_oa.wr W2
  have F_oa_name : Fld Z h2 oa "org/unitspan/ead/DateElement" "name" "Ljava/lang/String;" .null := F_oa_name.other W2 (Or.inr (slot_ne (Or.inr (hw _ (List.mem_of_getElem? (i := 49) rfl))) (Or.inr (hw _ (List.mem_of_getElem? (i := 47) rfl))) (by decide) (t := (.object "java/lang/String")) (t' := .long) (by decide) (by decide)))
  have F_oa_text : Fld Z h2 oa "org/unitspan/ead/DateElement" "text" "Ljava/lang/String;" .null := F_oa_text.other W2 (Or.inr (slot_ne (Or.inr (hw _ (List.mem_of_getElem? (i := 51) rfl))) (Or.inr (hw _ (List.mem_of_getElem? (i := 47) rfl))) (by decide) (t := (.object "java/lang/String")) (t' := .long) (by decide) (by decide)))
  have F_oa_normal : Fld Z h2 oa "org/unitspan/ead/DateElement" "normal" "Ljava/lang/String;" .null := F_oa_normal.other W2 (Or.inr (slot_ne (Or.inr (hw _ (List.mem_of_getElem? (i := 53) rfl))) (Or.inr (hw _ (List.mem_of_getElem? (i := 47) rfl))) (by decide) (t := (.object "java/lang/String")) (t' := .long) (by decide) (by decide)))
  have F_oa_unitdateType : Fld Z h2 oa "org/unitspan/ead/DateElement" "unitdateType" "Ljava/lang/String;" .null := F_oa_unitdateType.other W2 (Or.inr (slot_ne (Or.inr (hw _ (List.mem_of_getElem? (i := 55) rfl))) (Or.inr (hw _ (List.mem_of_getElem? (i := 47) rfl))) (by decide) (t := (.object "java/lang/String")) (t' := .long) (by decide) (by decide)))
  have F_oa_standardDate : Fld Z h2 oa "org/unitspan/ead/DateElement" "standardDate" "Ljava/lang/String;" .null := F_oa_standardDate.other W2 (Or.inr (slot_ne (Or.inr (hw _ (List.mem_of_getElem? (i := 57) rfl))) (Or.inr (hw _ (List.mem_of_getElem? (i := 47) rfl))) (by decide) (t := (.object "java/lang/String")) (t' := .long) (by decide) (by decide)))
  have F_oa_notBefore : Fld Z h2 oa "org/unitspan/ead/DateElement" "notBefore" "Ljava/lang/String;" .null := F_oa_notBefore.other W2 (Or.inr (slot_ne (Or.inr (hw _ (List.mem_of_getElem? (i := 59) rfl))) (Or.inr (hw _ (List.mem_of_getElem? (i := 47) rfl))) (by decide) (t := (.object "java/lang/String")) (t' := .long) (by decide) (by decide)))
  have F_oa_notAfter : Fld Z h2 oa "org/unitspan/ead/DateElement" "notAfter" "Ljava/lang/String;" .null := F_oa_notAfter.other W2 (Or.inr (slot_ne (Or.inr (hw _ (List.mem_of_getElem? (i := 61) rfl))) (Or.inr (hw _ (List.mem_of_getElem? (i := 47) rfl))) (by decide) (t := (.object "java/lang/String")) (t' := .long) (by decide) (by decide)))
  have F_oa_rangeStart : Fld Z h2 oa "org/unitspan/ead/DateElement" "rangeStart" "Ljava/lang/String;" .null := F_oa_rangeStart.other W2 (Or.inr (slot_ne (Or.inr (hw _ (List.mem_of_getElem? (i := 63) rfl))) (Or.inr (hw _ (List.mem_of_getElem? (i := 47) rfl))) (by decide) (t := (.object "java/lang/String")) (t' := .long) (by decide) (by decide)))
  show Goes p.tables e below (T2.setTop (mkF m 9 #[.val (.ref oa), .val (.long pl), .second, .val (.ref oname), .val (.ref otext), .val (.ref onorm), .val (.ref otype), .val (.ref ostd), .val (.ref onb), .val (.ref ona), .val (.ref ors)] [])) _
  refine Goes.by (fun _ k => XS.aloadN X2.here hx rfl (hb hby d8_9) rfl rfl k) ?_
  show Goes p.tables e below (T2.setTop (mkF m 10 #[.val (.ref oa), .val (.long pl), .second, .val (.ref oname), .val (.ref otext), .val (.ref onorm), .val (.ref otype), .val (.ref ostd), .val (.ref onb), .val (.ref ona), .val (.ref ors)] [(.ref oa)])) _
  refine Goes.by (fun _ k => XS.aloadN X2.here hx rfl (hb hby d8_10) rfl rfl k) ?_
  show Goes p.tables e below (T2.setTop (mkF m 11 #[.val (.ref oa), .val (.long pl), .second, .val (.ref oname), .val (.ref otext), .val (.ref onorm), .val (.ref otype), .val (.ref ostd), .val (.ref onb), .val (.ref ona), .val (.ref ors)] [(.ref oname), (.ref oa)])) _
  obtain ⟨T3, h3, X3, e3, W3, st3⟩ := putF X2 hx hZ hown (host := "") (Or.inl (hw _ (List.mem_of_getElem? (i := 48) rfl))) Via.refl e2 F_oa_name E_oa (Or.inr ⟨(hw _ (List.mem_of_getElem? (i := 49) rfl)), rfl, hnm⟩) (hw _ (List.mem_of_getElem? (i := 35) rfl)) (ty := (.object "java/lang/String")) (by decide) rfl rfl (g := (mkF m 11 #[.val (.ref oa), .val (.long pl), .second, .val (.ref oname), .val (.ref otext), .val (.ref onorm), .val (.ref otype), .val (.ref ostd), .val (.ref onb), .val (.ref ona), .val (.ref ors)] [(.ref oname), (.ref oa)])) rfl rfl (hb hby d8_11)
  refine Goes.by st3 ?_
  have F_oa_name : Fld Z h3 oa "org/unitspan/ead/DateElement" "name" "Ljava/lang/String;" (.ref oname) := F_oa_name.same W3
  have N3 := Fr.snoc X3 N2 g_oa
  have Zs3 : n0 ≤ h3.size := Nat.le_trans Zs2 (Keep.of_wr W3).1
  have K3 : Keep h0 h3 [oa] := K2.wr W3 (Or.inl (List.mem_of_getElem? (i := 0) rfl))
  have E_oa : Exa Z h3 oa "org/unitspan/ead/DateElement" := E_oa.wr W3
  have F_oa_line : Fld Z h3 oa "org/unitspan/ead/DateElement" "line" "J" (.long pl) := F_oa_line.other W3 (Or.inr (slot_ne (Or.inr (hw _ (List.mem_of_getElem? (i := 47) rfl))) (Or.inr (hw _ (List.mem_of_getElem? (i := 49) rfl))) (by decide) (t := .long) (t' := (.object "java/lang/String")) (by decide) (by decide)))
  have F_oa_text : Fld Z h3 oa "org/unitspan/ead/DateElement" "text" "Ljava/lang/String;" .null := F_oa_text.other W3 (Or.inr (slot_ne (Or.inr (hw _ (List.mem_of_getElem? (i := 51) rfl))) (Or.inr (hw _ (List.mem_of_getElem? (i := 49) rfl))) (by decide) (t := (.object "java/lang/String")) (t' := (.object "java/lang/String")) (by decide) (by decide)))
  have F_oa_normal : Fld Z h3 oa "org/unitspan/ead/DateElement" "normal" "Ljava/lang/String;" .null := F_oa_normal.other W3 (Or.inr (slot_ne (Or.inr (hw _ (List.mem_of_getElem? (i := 53) rfl))) (Or.inr (hw _ (List.mem_of_getElem? (i := 49) rfl))) (by decide) (t := (.object "java/lang/String")) (t' := (.object "java/lang/String")) (by decide) (by decide)))
  have F_oa_unitdateType : Fld Z h3 oa "org/unitspan/ead/DateElement" "unitdateType" "Ljava/lang/String;" .null := F_oa_unitdateType.other W3 (Or.inr (slot_ne (Or.inr (hw _ (List.mem_of_getElem? (i := 55) rfl))) (Or.inr (hw _ (List.mem_of_getElem? (i := 49) rfl))) (by decide) (t := (.object "java/lang/String")) (t' := (.object "java/lang/String")) (by decide) (by decide)))
  have F_oa_standardDate : Fld Z h3 oa "org/unitspan/ead/DateElement" "standardDate" "Ljava/lang/String;" .null := F_oa_standardDate.other W3 (Or.inr (slot_ne (Or.inr (hw _ (List.mem_of_getElem? (i := 57) rfl))) (Or.inr (hw _ (List.mem_of_getElem? (i := 49) rfl))) (by decide) (t := (.object "java/lang/String")) (t' := (.object "java/lang/String")) (by decide) (by decide)))
  have F_oa_notBefore : Fld Z h3 oa "org/unitspan/ead/DateElement" "notBefore" "Ljava/lang/String;" .null := F_oa_notBefore.other W3 (Or.inr (slot_ne (Or.inr (hw _ (List.mem_of_getElem? (i := 59) rfl))) (Or.inr (hw _ (List.mem_of_getElem? (i := 49) rfl))) (by decide) (t := (.object "java/lang/String")) (t' := (.object "java/lang/String")) (by decide) (by decide)))
  have F_oa_notAfter : Fld Z h3 oa "org/unitspan/ead/DateElement" "notAfter" "Ljava/lang/String;" .null := F_oa_notAfter.other W3 (Or.inr (slot_ne (Or.inr (hw _ (List.mem_of_getElem? (i := 61) rfl))) (Or.inr (hw _ (List.mem_of_getElem? (i := 49) rfl))) (by decide) (t := (.object "java/lang/String")) (t' := (.object "java/lang/String")) (by decide) (by decide)))
  have F_oa_rangeStart : Fld Z h3 oa "org/unitspan/ead/DateElement" "rangeStart" "Ljava/lang/String;" .null := F_oa_rangeStart.other W3 (Or.inr (slot_ne (Or.inr (hw _ (List.mem_of_getElem? (i := 63) rfl))) (Or.inr (hw _ (List.mem_of_getElem? (i := 49) rfl))) (by decide) (t := (.object "java/lang/String")) (t' := (.object "java/lang/String")) (by decide) (by decide)))
  show Goes p.tables e below (T3.setTop (mkF m 14 #[.val (.ref oa), .val (.long pl), .second, .val (.ref oname), .val (.ref otext), .val (.ref onorm), .val (.ref otype), .val (.ref ostd), .val (.ref onb), .val (.ref ona), .val (.ref ors)] [])) _
  refine Goes.by (fun _ k => XS.aloadN X3.here hx rfl (hb hby d8_14) rfl rfl k) ?_
  show Goes p.tables e below (T3.setTop (mkF m 15 #[.val (.ref oa), .val (.long pl), .second, .val (.ref oname), .val (.ref otext), .val (.ref onorm), .val (.ref otype), .val (.ref ostd), .val (.ref onb), .val (.ref ona), .val (.ref ors)] [(.ref oa)])) _
  refine Goes.by (fun _ k => XS.aload X3.here hx rfl (hb hby d8_15) rfl rfl k) ?_
  show Goes p.tables e below (T3.setTop (mkF m 17 #[.val (.ref oa), .val (.long pl), .second, .val (.ref oname), .val (.ref otext), .val (.ref onorm), .val (.ref otype), .val (.ref ostd), .val (.ref onb), .val (.ref ona), .val (.ref ors)] [(.ref otext), (.ref oa)])) _
  obtain ⟨T4, h4, X4, e4, W4, st4⟩ := putF X3 hx hZ hown (host := "") (Or.inl (hw _ (List.mem_of_getElem? (i := 50) rfl))) Via.refl e3 F_oa_text E_oa (Or.inr ⟨(hw _ (List.mem_of_getElem? (i := 51) rfl)), rfl, hnm⟩) (hw _ (List.mem_of_getElem? (i := 35) rfl)) (ty := (.object "java/lang/String")) (by decide) rfl rfl (g := (mkF m 17 #[.val (.ref oa), .val (.long pl), .second, .val (.ref oname), .val (.ref otext), .val (.ref onorm), .val (.ref otype), .val (.ref ostd), .val (.ref onb), .val (.ref ona), .val (.ref ors)] [(.ref otext), (.ref oa)])) rfl rfl (hb hby d8_17)
  refine Goes.by st4 ?_
  have F_oa_text : Fld Z h4 oa "org/unitspan/ead/DateElement" "text" "Ljava/lang/String;" (.ref otext) := F_oa_text.same W4
  have N4 := Fr.snoc X4 N3 g_oa
  have Zs4 : n0 ≤ h4.size := Nat.le_trans Zs3 (Keep.of_wr W4).1
  have K4 : Keep h0 h4 [oa] := K3.wr W4 (Or.inl (List.mem_of_getElem? (i := 0) rfl))
  have E_oa : Exa Z h4 oa "org/unitspan/ead/DateElement" := E_oa.wr W4
  have F_oa_line : Fld Z h4 oa "org/unitspan/ead/DateElement" "line" "J" (.long pl) := F_oa_line.other W4 (Or.inr (slot_ne (Or.inr (hw _ (List.mem_of_getElem? (i := 47) rfl))) (Or.inr (hw _ (List.mem_of_getElem? (i := 51) rfl))) (by decide) (t := .long) (t' := (.object "java/lang/String")) (by decide) (by decide)))
  have F_oa_name : Fld Z h4 oa "org/unitspan/ead/DateElement" "name" "Ljava/lang/String;" (.ref oname) := F_oa_name.other W4 (Or.inr (slot_ne (Or.inr (hw _ (List.mem_of_getElem? (i := 49) rfl))) (Or.inr (hw _ (List.mem_of_getElem? (i := 51) rfl))) (by decide) (t := (.object "java/lang/String")) (t' := (.object "java/lang/String")) (by decide) (by decide)))
  have F_oa_normal : Fld Z h4 oa "org/unitspan/ead/DateElement" "normal" "Ljava/lang/String;" .null := F_oa_normal.other W4 (Or.inr (slot_ne (Or.inr (hw _ (List.mem_of_getElem? (i := 53) rfl))) (Or.inr (hw _ (List.mem_of_getElem? (i := 51) rfl))) (by decide) (t := (.object "java/lang/String")) (t' := (.object "java/lang/String")) (by decide) (by decide)))
  have F_oa_unitdateType : Fld Z h4 oa "org/unitspan/ead/DateElement" "unitdateType" "Ljava/lang/String;" .null := F_oa_unitdateType.other W4 (Or.inr (slot_ne (Or.inr (hw _ (List.mem_of_getElem? (i := 55) rfl))) (Or.inr (hw _ (List.mem_of_getElem? (i := 51) rfl))) (by decide) (t := (.object "java/lang/String")) (t' := (.object "java/lang/String")) (by decide) (by decide)))
  have F_oa_standardDate : Fld Z h4 oa "org/unitspan/ead/DateElement" "standardDate" "Ljava/lang/String;" .null := F_oa_standardDate.other W4 (Or.inr (slot_ne (Or.inr (hw _ (List.mem_of_getElem? (i := 57) rfl))) (Or.inr (hw _ (List.mem_of_getElem? (i := 51) rfl))) (by decide) (t := (.object "java/lang/String")) (t' := (.object "java/lang/String")) (by decide) (by decide)))
  have F_oa_notBefore : Fld Z h4 oa "org/unitspan/ead/DateElement" "notBefore" "Ljava/lang/String;" .null := F_oa_notBefore.other W4 (Or.inr (slot_ne (Or.inr (hw _ (List.mem_of_getElem? (i := 59) rfl))) (Or.inr (hw _ (List.mem_of_getElem? (i := 51) rfl))) (by decide) (t := (.object "java/lang/String")) (t' := (.object "java/lang/String")) (by decide) (by decide)))
  have F_oa_notAfter : Fld Z h4 oa "org/unitspan/ead/DateElement" "notAfter" "Ljava/lang/String;" .null := F_oa_notAfter.other W4 (Or.inr (slot_ne (Or.inr (hw _ (List.mem_of_getElem? (i := 61) rfl))) (Or.inr (hw _ (List.mem_of_getElem? (i := 51) rfl))) (by decide) (t := (.object "java/lang/String")) (t' := (.object "java/lang/String")) (by decide) (by decide)))
  have F_oa_rangeStart : Fld Z h4 oa "org/unitspan/ead/DateElement" "rangeStart" "Ljava/lang/String;" .null := F_oa_rangeStart.other W4 (Or.inr (slot_ne (Or.inr (hw _ (List.mem_of_getElem? (i := 63) rfl))) (Or.inr (hw _ (List.mem_of_getElem? (i := 51) rfl))) (by decide) (t := (.object "java/lang/String")) (t' := (.object "java/lang/String")) (by decide) (by decide)))
  show Goes p.tables e below (T4.setTop (mkF m 20 #[.val (.ref oa), .val (.long pl), .second, .val (.ref oname), .val (.ref otext), .val (.ref onorm), .val (.ref otype), .val (.ref ostd), .val (.ref onb), .val (.ref ona), .val (.ref ors)] [])) _
  refine Goes.by (fun _ k => XS.aloadN X4.here hx rfl (hb hby d8_20) rfl rfl k) ?_
  show Goes p.tables e below (T4.setTop (mkF m 21 #[.val (.ref oa), .val (.long pl), .second, .val (.ref oname), .val (.ref otext), .val (.ref onorm), .val (.ref otype), .val (.ref ostd), .val (.ref onb), .val (.ref ona), .val (.ref ors)] [(.ref oa)])) _
  refine Goes.by (fun _ k => XS.aload X4.here hx rfl (hb hby d8_21) rfl rfl k) ?_
  show Goes p.tables e below (T4.setTop (mkF m 23 #[.val (.ref oa), .val (.long pl), .second, .val (.ref oname), .val (.ref otext), .val (.ref onorm), .val (.ref otype), .val (.ref ostd), .val (.ref onb), .val (.ref ona), .val (.ref ors)] [(.ref onorm), (.ref oa)])) _
  obtain ⟨T5, h5, X5, e5, W5, st5⟩ := putF X4 hx hZ hown (host := "") (Or.inl (hw _ (List.mem_of_getElem? (i := 52) rfl))) Via.refl e4 F_oa_normal E_oa (Or.inr ⟨(hw _ (List.mem_of_getElem? (i := 53) rfl)), rfl, hnm⟩) (hw _ (List.mem_of_getElem? (i := 35) rfl)) (ty := (.object "java/lang/String")) (by decide) rfl rfl (g := (mkF m 23 #[.val (.ref oa), .val (.long pl), .second, .val (.ref oname), .val (.ref otext), .val (.ref onorm), .val (.ref otype), .val (.ref ostd), .val (.ref onb), .val (.ref ona), .val (.ref ors)] [(.ref onorm), (.ref oa)])) rfl rfl (hb hby d8_23)
  refine Goes.by st5 ?_
  have F_oa_normal : Fld Z h5 oa "org/unitspan/ead/DateElement" "normal" "Ljava/lang/String;" (.ref onorm) := F_oa_normal.same W5
  have N5 := Fr.snoc X5 N4 g_oa
  have Zs5 : n0 ≤ h5.size := Nat.le_trans Zs4 (Keep.of_wr W5).1
  have K5 : Keep h0 h5 [oa] := K4.wr W5 (Or.inl (List.mem_of_getElem? (i := 0) rfl))
  have E_oa : Exa Z h5 oa "org/unitspan/ead/DateElement" := E_oa.wr W5
  have F_oa_line : Fld Z h5 oa "org/unitspan/ead/DateElement" "line" "J" (.long pl) := F_oa_line.other W5 (Or.inr (slot_ne (Or.inr (hw _ (List.mem_of_getElem? (i := 47) rfl))) (Or.inr (hw _ (List.mem_of_getElem? (i := 53) rfl))) (by decide) (t := .long) (t' := (.object "java/lang/String")) (by decide) (by decide)))
  have F_oa_name : Fld Z h5 oa "org/unitspan/ead/DateElement" "name" "Ljava/lang/String;" (.ref oname) := F_oa_name.other W5 (Or.inr (slot_ne (Or.inr (hw _ (List.mem_of_getElem? (i := 49) rfl))) (Or.inr (hw _ (List.mem_of_getElem? (i := 53) rfl))) (by decide) (t := (.object "java/lang/String")) (t' := (.object "java/lang/String")) (by decide) (by decide)))
  have F_oa_text : Fld Z h5 oa "org/unitspan/ead/DateElement" "text" "Ljava/lang/String;" (.ref otext) := F_oa_text.other W5 (Or.inr (slot_ne (Or.inr (hw _ (List.mem_of_getElem? (i := 51) rfl))) (Or.inr (hw _ (List.mem_of_getElem? (i := 53) rfl))) (by decide) (t := (.object "java/lang/String")) (t' := (.object "java/lang/String")) (by decide) (by decide)))
  have F_oa_unitdateType : Fld Z h5 oa "org/unitspan/ead/DateElement" "unitdateType" "Ljava/lang/String;" .null := F_oa_unitdateType.other W5 (Or.inr (slot_ne (Or.inr (hw _ (List.mem_of_getElem? (i := 55) rfl))) (Or.inr (hw _ (List.mem_of_getElem? (i := 53) rfl))) (by decide) (t := (.object "java/lang/String")) (t' := (.object "java/lang/String")) (by decide) (by decide)))
  have F_oa_standardDate : Fld Z h5 oa "org/unitspan/ead/DateElement" "standardDate" "Ljava/lang/String;" .null := F_oa_standardDate.other W5 (Or.inr (slot_ne (Or.inr (hw _ (List.mem_of_getElem? (i := 57) rfl))) (Or.inr (hw _ (List.mem_of_getElem? (i := 53) rfl))) (by decide) (t := (.object "java/lang/String")) (t' := (.object "java/lang/String")) (by decide) (by decide)))
  have F_oa_notBefore : Fld Z h5 oa "org/unitspan/ead/DateElement" "notBefore" "Ljava/lang/String;" .null := F_oa_notBefore.other W5 (Or.inr (slot_ne (Or.inr (hw _ (List.mem_of_getElem? (i := 59) rfl))) (Or.inr (hw _ (List.mem_of_getElem? (i := 53) rfl))) (by decide) (t := (.object "java/lang/String")) (t' := (.object "java/lang/String")) (by decide) (by decide)))
  have F_oa_notAfter : Fld Z h5 oa "org/unitspan/ead/DateElement" "notAfter" "Ljava/lang/String;" .null := F_oa_notAfter.other W5 (Or.inr (slot_ne (Or.inr (hw _ (List.mem_of_getElem? (i := 61) rfl))) (Or.inr (hw _ (List.mem_of_getElem? (i := 53) rfl))) (by decide) (t := (.object "java/lang/String")) (t' := (.object "java/lang/String")) (by decide) (by decide)))
  have F_oa_rangeStart : Fld Z h5 oa "org/unitspan/ead/DateElement" "rangeStart" "Ljava/lang/String;" .null := F_oa_rangeStart.other W5 (Or.inr (slot_ne (Or.inr (hw _ (List.mem_of_getElem? (i := 63) rfl))) (Or.inr (hw _ (List.mem_of_getElem? (i := 53) rfl))) (by decide) (t := (.object "java/lang/String")) (t' := (.object "java/lang/String")) (by decide) (by decide)))
  show Goes p.tables e below (T5.setTop (mkF m 26 #[.val (.ref oa), .val (.long pl), .second, .val (.ref oname), .val (.ref otext), .val (.ref onorm), .val (.ref otype), .val (.ref ostd), .val (.ref onb), .val (.ref ona), .val (.ref ors)] [])) _
  refine Goes.by (fun _ k => XS.aloadN X5.here hx rfl (hb hby d8_26) rfl rfl k) ?_
  show Goes p.tables e below (T5.setTop (mkF m 27 #[.val (.ref oa), .val (.long pl), .second, .val (.ref oname), .val (.ref otext), .val (.ref onorm), .val (.ref otype), .val (.ref ostd), .val (.ref onb), .val (.ref ona), .val (.ref ors)] [(.ref oa)])) _
  refine Goes.by (fun _ k => XS.aload X5.here hx rfl (hb hby d8_27) rfl rfl k) ?_
  show Goes p.tables e below (T5.setTop (mkF m 29 #[.val (.ref oa), .val (.long pl), .second, .val (.ref oname), .val (.ref otext), .val (.ref onorm), .val (.ref otype), .val (.ref ostd), .val (.ref onb), .val (.ref ona), .val (.ref ors)] [(.ref otype), (.ref oa)])) _
  obtain ⟨T6, h6, X6, e6, W6, st6⟩ := putF X5 hx hZ hown (host := "") (Or.inl (hw _ (List.mem_of_getElem? (i := 54) rfl))) Via.refl e5 F_oa_unitdateType E_oa (Or.inr ⟨(hw _ (List.mem_of_getElem? (i := 55) rfl)), rfl, hnm⟩) (hw _ (List.mem_of_getElem? (i := 35) rfl)) (ty := (.object "java/lang/String")) (by decide) rfl rfl (g := (mkF m 29 #[.val (.ref oa), .val (.long pl), .second, .val (.ref oname), .val (.ref otext), .val (.ref onorm), .val (.ref otype), .val (.ref ostd), .val (.ref onb), .val (.ref ona), .val (.ref ors)] [(.ref otype), (.ref oa)])) rfl rfl (hb hby d8_29)
  refine Goes.by st6 ?_
  have F_oa_unitdateType : Fld Z h6 oa "org/unitspan/ead/DateElement" "unitdateType" "Ljava/lang/String;" (.ref otype) := F_oa_unitdateType.same W6
  have N6 := Fr.snoc X6 N5 g_oa
  have Zs6 : n0 ≤ h6.size := Nat.le_trans Zs5 (Keep.of_wr W6).1
  have K6 : Keep h0 h6 [oa] := K5.wr W6 (Or.inl (List.mem_of_getElem? (i := 0) rfl))
  have E_oa : Exa Z h6 oa "org/unitspan/ead/DateElement" := E_oa.wr W6
  have F_oa_line : Fld Z h6 oa "org/unitspan/ead/DateElement" "line" "J" (.long pl) := F_oa_line.other W6 (Or.inr (slot_ne (Or.inr (hw _ (List.mem_of_getElem? (i := 47) rfl))) (Or.inr (hw _ (List.mem_of_getElem? (i := 55) rfl))) (by decide) (t := .long) (t' := (.object "java/lang/String")) (by decide) (by decide)))
  have F_oa_name : Fld Z h6 oa "org/unitspan/ead/DateElement" "name" "Ljava/lang/String;" (.ref oname) := F_oa_name.other W6 (Or.inr (slot_ne (Or.inr (hw _ (List.mem_of_getElem? (i := 49) rfl))) (Or.inr (hw _ (List.mem_of_getElem? (i := 55) rfl))) (by decide) (t := (.object "java/lang/String")) (t' := (.object "java/lang/String")) (by decide) (by decide)))
  have F_oa_text : Fld Z h6 oa "org/unitspan/ead/DateElement" "text" "Ljava/lang/String;" (.ref otext) := F_oa_text.other W6 (Or.inr (slot_ne (Or.inr (hw _ (List.mem_of_getElem? (i := 51) rfl))) (Or.inr (hw _ (List.mem_of_getElem? (i := 55) rfl))) (by decide) (t := (.object "java/lang/String")) (t' := (.object "java/lang/String")) (by decide) (by decide)))
  have F_oa_normal : Fld Z h6 oa "org/unitspan/ead/DateElement" "normal" "Ljava/lang/String;" (.ref onorm) := F_oa_normal.other W6 (Or.inr (slot_ne (Or.inr (hw _ (List.mem_of_getElem? (i := 53) rfl))) (Or.inr (hw _ (List.mem_of_getElem? (i := 55) rfl))) (by decide) (t := (.object "java/lang/String")) (t' := (.object "java/lang/String")) (by decide) (by decide)))
  have F_oa_standardDate : Fld Z h6 oa "org/unitspan/ead/DateElement" "standardDate" "Ljava/lang/String;" .null := F_oa_standardDate.other W6 (Or.inr (slot_ne (Or.inr (hw _ (List.mem_of_getElem? (i := 57) rfl))) (Or.inr (hw _ (List.mem_of_getElem? (i := 55) rfl))) (by decide) (t := (.object "java/lang/String")) (t' := (.object "java/lang/String")) (by decide) (by decide)))
  have F_oa_notBefore : Fld Z h6 oa "org/unitspan/ead/DateElement" "notBefore" "Ljava/lang/String;" .null := F_oa_notBefore.other W6 (Or.inr (slot_ne (Or.inr (hw _ (List.mem_of_getElem? (i := 59) rfl))) (Or.inr (hw _ (List.mem_of_getElem? (i := 55) rfl))) (by decide) (t := (.object "java/lang/String")) (t' := (.object "java/lang/String")) (by decide) (by decide)))
  have F_oa_notAfter : Fld Z h6 oa "org/unitspan/ead/DateElement" "notAfter" "Ljava/lang/String;" .null := F_oa_notAfter.other W6 (Or.inr (slot_ne (Or.inr (hw _ (List.mem_of_getElem? (i := 61) rfl))) (Or.inr (hw _ (List.mem_of_getElem? (i := 55) rfl))) (by decide) (t := (.object "java/lang/String")) (t' := (.object "java/lang/String")) (by decide) (by decide)))
  have F_oa_rangeStart : Fld Z h6 oa "org/unitspan/ead/DateElement" "rangeStart" "Ljava/lang/String;" .null := F_oa_rangeStart.other W6 (Or.inr (slot_ne (Or.inr (hw _ (List.mem_of_getElem? (i := 63) rfl))) (Or.inr (hw _ (List.mem_of_getElem? (i := 55) rfl))) (by decide) (t := (.object "java/lang/String")) (t' := (.object "java/lang/String")) (by decide) (by decide)))
  show Goes p.tables e below (T6.setTop (mkF m 32 #[.val (.ref oa), .val (.long pl), .second, .val (.ref oname), .val (.ref otext), .val (.ref onorm), .val (.ref otype), .val (.ref ostd), .val (.ref onb), .val (.ref ona), .val (.ref ors)] [])) _
  refine Goes.by (fun _ k => XS.aloadN X6.here hx rfl (hb hby d8_32) rfl rfl k) ?_
  show Goes p.tables e below (T6.setTop (mkF m 33 #[.val (.ref oa), .val (.long pl), .second, .val (.ref oname), .val (.ref otext), .val (.ref onorm), .val (.ref otype), .val (.ref ostd), .val (.ref onb), .val (.ref ona), .val (.ref ors)] [(.ref oa)])) _
  refine Goes.by (fun _ k => XS.aload X6.here hx rfl (hb hby d8_33) rfl rfl k) ?_
  show Goes p.tables e below (T6.setTop (mkF m 35 #[.val (.ref oa), .val (.long pl), .second, .val (.ref oname), .val (.ref otext), .val (.ref onorm), .val (.ref otype), .val (.ref ostd), .val (.ref onb), .val (.ref ona), .val (.ref ors)] [(.ref ostd), (.ref oa)])) _
  obtain ⟨T7, h7, X7, e7, W7, st7⟩ := putF X6 hx hZ hown (host := "") (Or.inl (hw _ (List.mem_of_getElem? (i := 56) rfl))) Via.refl e6 F_oa_standardDate E_oa (Or.inr ⟨(hw _ (List.mem_of_getElem? (i := 57) rfl)), rfl, hnm⟩) (hw _ (List.mem_of_getElem? (i := 35) rfl)) (ty := (.object "java/lang/String")) (by decide) rfl rfl (g := (mkF m 35 #[.val (.ref oa), .val (.long pl), .second, .val (.ref oname), .val (.ref otext), .val (.ref onorm), .val (.ref otype), .val (.ref ostd), .val (.ref onb), .val (.ref ona), .val (.ref ors)] [(.ref ostd), (.ref oa)])) rfl rfl (hb hby d8_35)
  refine Goes.by st7 ?_
  have F_oa_standardDate : Fld Z h7 oa "org/unitspan/ead/DateElement" "standardDate" "Ljava/lang/String;" (.ref ostd) := F_oa_standardDate.same W7
  have N7 := Fr.snoc X7 N6 g_oa
  have Zs7 : n0 ≤ h7.size := Nat.le_trans Zs6 (Keep.of_wr W7).1
  have K7 : Keep h0 h7 [oa] := K6.wr W7 (Or.inl (List.mem_of_getElem? (i := 0) rfl))
  have E_oa : Exa Z h7 oa "org/unitspan/ead/DateElement" := E_oa.wr W7
  have F_oa_line : Fld Z h7 oa "org/unitspan/ead/DateElement" "line" "J" (.long pl) := F_oa_line.other W7 (Or.inr (slot_ne (Or.inr (hw _ (List.mem_of_getElem? (i := 47) rfl))) (Or.inr (hw _ (List.mem_of_getElem? (i := 57) rfl))) (by decide) (t := .long) (t' := (.object "java/lang/String")) (by decide) (by decide)))
  have F_oa_name : Fld Z h7 oa "org/unitspan/ead/DateElement" "name" "Ljava/lang/String;" (.ref oname) := F_oa_name.other W7 (Or.inr (slot_ne (Or.inr (hw _ (List.mem_of_getElem? (i := 49) rfl))) (Or.inr (hw _ (List.mem_of_getElem? (i := 57) rfl))) (by decide) (t := (.object "java/lang/String")) (t' := (.object "java/lang/String")) (by decide) (by decide)))
  have F_oa_text : Fld Z h7 oa "org/unitspan/ead/DateElement" "text" "Ljava/lang/String;" (.ref otext) := F_oa_text.other W7 (Or.inr (slot_ne (Or.inr (hw _ (List.mem_of_getElem? (i := 51) rfl))) (Or.inr (hw _ (List.mem_of_getElem? (i := 57) rfl))) (by decide) (t := (.object "java/lang/String")) (t' := (.object "java/lang/String")) (by decide) (by decide)))
  have F_oa_normal : Fld Z h7 oa "org/unitspan/ead/DateElement" "normal" "Ljava/lang/String;" (.ref onorm) := F_oa_normal.other W7 (Or.inr (slot_ne (Or.inr (hw _ (List.mem_of_getElem? (i := 53) rfl))) (Or.inr (hw _ (List.mem_of_getElem? (i := 57) rfl))) (by decide) (t := (.object "java/lang/String")) (t' := (.object "java/lang/String")) (by decide) (by decide)))
  have F_oa_unitdateType : Fld Z h7 oa "org/unitspan/ead/DateElement" "unitdateType" "Ljava/lang/String;" (.ref otype) := F_oa_unitdateType.other W7 (Or.inr (slot_ne (Or.inr (hw _ (List.mem_of_getElem? (i := 55) rfl))) (Or.inr (hw _ (List.mem_of_getElem? (i := 57) rfl))) (by decide) (t := (.object "java/lang/String")) (t' := (.object "java/lang/String")) (by decide) (by decide)))
  have F_oa_notBefore : Fld Z h7 oa "org/unitspan/ead/DateElement" "notBefore" "Ljava/lang/String;" .null := F_oa_notBefore.other W7 (Or.inr (slot_ne (Or.inr (hw _ (List.mem_of_getElem? (i := 59) rfl))) (Or.inr (hw _ (List.mem_of_getElem? (i := 57) rfl))) (by decide) (t := (.object "java/lang/String")) (t' := (.object "java/lang/String")) (by decide) (by decide)))
  have F_oa_notAfter : Fld Z h7 oa "org/unitspan/ead/DateElement" "notAfter" "Ljava/lang/String;" .null := F_oa_notAfter.other W7 (Or.inr (slot_ne (Or.inr (hw _ (List.mem_of_getElem? (i := 61) rfl))) (Or.inr (hw _ (List.mem_of_getElem? (i := 57) rfl))) (by decide) (t := (.object "java/lang/String")) (t' := (.object "java/lang/String")) (by decide) (by decide)))
  have F_oa_rangeStart : Fld Z h7 oa "org/unitspan/ead/DateElement" "rangeStart" "Ljava/lang/String;" .null := F_oa_rangeStart.other W7 (Or.inr (slot_ne (Or.inr (hw _ (List.mem_of_getElem? (i := 63) rfl))) (Or.inr (hw _ (List.mem_of_getElem? (i := 57) rfl))) (by decide) (t := (.object "java/lang/String")) (t' := (.object "java/lang/String")) (by decide) (by decide)))
  show Goes p.tables e below (T7.setTop (mkF m 38 #[.val (.ref oa), .val (.long pl), .second, .val (.ref oname), .val (.ref otext), .val (.ref onorm), .val (.ref otype), .val (.ref ostd), .val (.ref onb), .val (.ref ona), .val (.ref ors)] [])) _
  refine Goes.by (fun _ k => XS.aloadN X7.here hx rfl (hb hby d8_38) rfl rfl k) ?_
  show Goes p.tables e below (T7.setTop (mkF m 39 #[.val (.ref oa), .val (.long pl), .second, .val (.ref oname), .val (.ref otext), .val (.ref onorm), .val (.ref otype), .val (.ref ostd), .val (.ref onb), .val (.ref ona), .val (.ref ors)] [(.ref oa)])) _
  refine Goes.by (fun _ k => XS.aload X7.here hx rfl (hb hby d8_39) rfl rfl k) ?_
  show Goes p.tables e below (T7.setTop (mkF m 41 #[.val (.ref oa), .val (.long pl), .second, .val (.ref oname), .val (.ref otext), .val (.ref onorm), .val (.ref otype), .val (.ref ostd), .val (.ref onb), .val (.ref ona), .val (.ref ors)] [(.ref onb), (.ref oa)])) _
  obtain ⟨T8, h8, X8, e8, W8, st8⟩ := putF X7 hx hZ hown (host := "") (Or.inl (hw _ (List.mem_of_getElem? (i := 58) rfl))) Via.refl e7 F_oa_notBefore E_oa (Or.inr ⟨(hw _ (List.mem_of_getElem? (i := 59) rfl)), rfl, hnm⟩) (hw _ (List.mem_of_getElem? (i := 35) rfl)) (ty := (.object "java/lang/String")) (by decide) rfl rfl (g := (mkF m 41 #[.val (.ref oa), .val (.long pl), .second, .val (.ref oname), .val (.ref otext), .val (.ref onorm), .val (.ref otype), .val (.ref ostd), .val (.ref onb), .val (.ref ona), .val (.ref ors)] [(.ref onb), (.ref oa)])) rfl rfl (hb hby d8_41)
  refine Goes.by st8 ?_
  have F_oa_notBefore : Fld Z h8 oa "org/unitspan/ead/DateElement" "notBefore" "Ljava/lang/String;" (.ref onb) := F_oa_notBefore.same W8
  have N8 := Fr.snoc X8 N7 g_oa
  have Zs8 : n0 ≤ h8.size := Nat.le_trans Zs7 (Keep.of_wr W8).1
  have K8 : Keep h0 h8 [oa] := K7.wr W8 (Or.inl (List.mem_of_getElem? (i := 0) rfl))
  have E_oa : Exa Z h8 oa "org/unitspan/ead/DateElement" := E_oa.wr W8
  have F_oa_line : Fld Z h8 oa "org/unitspan/ead/DateElement" "line" "J" (.long pl) := F_oa_line.other W8 (Or.inr (slot_ne (Or.inr (hw _ (List.mem_of_getElem? (i := 47) rfl))) (Or.inr (hw _ (List.mem_of_getElem? (i := 59) rfl))) (by decide) (t := .long) (t' := (.object "java/lang/String")) (by decide) (by decide)))
  have F_oa_name : Fld Z h8 oa "org/unitspan/ead/DateElement" "name" "Ljava/lang/String;" (.ref oname) := F_oa_name.other W8 (Or.inr (slot_ne (Or.inr (hw _ (List.mem_of_getElem? (i := 49) rfl))) (Or.inr (hw _ (List.mem_of_getElem? (i := 59) rfl))) (by decide) (t := (.object "java/lang/String")) (t' := (.object "java/lang/String")) (by decide) (by decide)))
  have F_oa_text : Fld Z h8 oa "org/unitspan/ead/DateElement" "text" "Ljava/lang/String;" (.ref otext) := F_oa_text.other W8 (Or.inr (slot_ne (Or.inr (hw _ (List.mem_of_getElem? (i := 51) rfl))) (Or.inr (hw _ (List.mem_of_getElem? (i := 59) rfl))) (by decide) (t := (.object "java/lang/String")) (t' := (.object "java/lang/String")) (by decide) (by decide)))
  have F_oa_normal : Fld Z h8 oa "org/unitspan/ead/DateElement" "normal" "Ljava/lang/String;" (.ref onorm) := F_oa_normal.other W8 (Or.inr (slot_ne (Or.inr (hw _ (List.mem_of_getElem? (i := 53) rfl))) (Or.inr (hw _ (List.mem_of_getElem? (i := 59) rfl))) (by decide) (t := (.object "java/lang/String")) (t' := (.object "java/lang/String")) (by decide) (by decide)))
  have F_oa_unitdateType : Fld Z h8 oa "org/unitspan/ead/DateElement" "unitdateType" "Ljava/lang/String;" (.ref otype) := F_oa_unitdateType.other W8 (Or.inr (slot_ne (Or.inr (hw _ (List.mem_of_getElem? (i := 55) rfl))) (Or.inr (hw _ (List.mem_of_getElem? (i := 59) rfl))) (by decide) (t := (.object "java/lang/String")) (t' := (.object "java/lang/String")) (by decide) (by decide)))
  have F_oa_standardDate : Fld Z h8 oa "org/unitspan/ead/DateElement" "standardDate" "Ljava/lang/String;" (.ref ostd) := F_oa_standardDate.other W8 (Or.inr (slot_ne (Or.inr (hw _ (List.mem_of_getElem? (i := 57) rfl))) (Or.inr (hw _ (List.mem_of_getElem? (i := 59) rfl))) (by decide) (t := (.object "java/lang/String")) (t' := (.object "java/lang/String")) (by decide) (by decide)))
  have F_oa_notAfter : Fld Z h8 oa "org/unitspan/ead/DateElement" "notAfter" "Ljava/lang/String;" .null := F_oa_notAfter.other W8 (Or.inr (slot_ne (Or.inr (hw _ (List.mem_of_getElem? (i := 61) rfl))) (Or.inr (hw _ (List.mem_of_getElem? (i := 59) rfl))) (by decide) (t := (.object "java/lang/String")) (t' := (.object "java/lang/String")) (by decide) (by decide)))
  have F_oa_rangeStart : Fld Z h8 oa "org/unitspan/ead/DateElement" "rangeStart" "Ljava/lang/String;" .null := F_oa_rangeStart.other W8 (Or.inr (slot_ne (Or.inr (hw _ (List.mem_of_getElem? (i := 63) rfl))) (Or.inr (hw _ (List.mem_of_getElem? (i := 59) rfl))) (by decide) (t := (.object "java/lang/String")) (t' := (.object "java/lang/String")) (by decide) (by decide)))
  show Goes p.tables e below (T8.setTop (mkF m 44 #[.val (.ref oa), .val (.long pl), .second, .val (.ref oname), .val (.ref otext), .val (.ref onorm), .val (.ref otype), .val (.ref ostd), .val (.ref onb), .val (.ref ona), .val (.ref ors)] [])) _
  refine Goes.by (fun _ k => XS.aloadN X8.here hx rfl (hb hby d8_44) rfl rfl k) ?_
  show Goes p.tables e below (T8.setTop (mkF m 45 #[.val (.ref oa), .val (.long pl), .second, .val (.ref oname), .val (.ref otext), .val (.ref onorm), .val (.ref otype), .val (.ref ostd), .val (.ref onb), .val (.ref ona), .val (.ref ors)] [(.ref oa)])) _
  refine Goes.by (fun _ k => XS.aload X8.here hx rfl (hb hby d8_45) rfl rfl k) ?_
  show Goes p.tables e below (T8.setTop (mkF m 47 #[.val (.ref oa), .val (.long pl), .second, .val (.ref oname), .val (.ref otext), .val (.ref onorm), .val (.ref otype), .val (.ref ostd), .val (.ref onb), .val (.ref ona), .val (.ref ors)] [(.ref ona), (.ref oa)])) _
  obtain ⟨T9, h9, X9, e9, W9, st9⟩ := putF X8 hx hZ hown (host := "") (Or.inl (hw _ (List.mem_of_getElem? (i := 60) rfl))) Via.refl e8 F_oa_notAfter E_oa (Or.inr ⟨(hw _ (List.mem_of_getElem? (i := 61) rfl)), rfl, hnm⟩) (hw _ (List.mem_of_getElem? (i := 35) rfl)) (ty := (.object "java/lang/String")) (by decide) rfl rfl (g := (mkF m 47 #[.val (.ref oa), .val (.long pl), .second, .val (.ref oname), .val (.ref otext), .val (.ref onorm), .val (.ref otype), .val (.ref ostd), .val (.ref onb), .val (.ref ona), .val (.ref ors)] [(.ref ona), (.ref oa)])) rfl rfl (hb hby d8_47)
  refine Goes.by st9 ?_
  have F_oa_notAfter : Fld Z h9 oa "org/unitspan/ead/DateElement" "notAfter" "Ljava/lang/String;" (.ref ona) := F_oa_notAfter.same W9
  have N9 := Fr.snoc X9 N8 g_oa
  have Zs9 : n0 ≤ h9.size := Nat.le_trans Zs8 (Keep.of_wr W9).1
  have K9 : Keep h0 h9 [oa] := K8.wr W9 (Or.inl (List.mem_of_getElem? (i := 0) rfl))
  have E_oa : Exa Z h9 oa "org/unitspan/ead/DateElement" := E_oa.wr W9
  have F_oa_line : Fld Z h9 oa "org/unitspan/ead/DateElement" "line" "J" (.long pl) := F_oa_line.other W9 (Or.inr (slot_ne (Or.inr (hw _ (List.mem_of_getElem? (i := 47) rfl))) (Or.inr (hw _ (List.mem_of_getElem? (i := 61) rfl))) (by decide) (t := .long) (t' := (.object "java/lang/String")) (by decide) (by decide)))
  have F_oa_name : Fld Z h9 oa "org/unitspan/ead/DateElement" "name" "Ljava/lang/String;" (.ref oname) := F_oa_name.other W9 (Or.inr (slot_ne (Or.inr (hw _ (List.mem_of_getElem? (i := 49) rfl))) (Or.inr (hw _ (List.mem_of_getElem? (i := 61) rfl))) (by decide) (t := (.object "java/lang/String")) (t' := (.object "java/lang/String")) (by decide) (by decide)))
  have F_oa_text : Fld Z h9 oa "org/unitspan/ead/DateElement" "text" "Ljava/lang/String;" (.ref otext) := F_oa_text.other W9 (Or.inr (slot_ne (Or.inr (hw _ (List.mem_of_getElem? (i := 51) rfl))) (Or.inr (hw _ (List.mem_of_getElem? (i := 61) rfl))) (by decide) (t := (.object "java/lang/String")) (t' := (.object "java/lang/String")) (by decide) (by decide)))
  have F_oa_normal : Fld Z h9 oa "org/unitspan/ead/DateElement" "normal" "Ljava/lang/String;" (.ref onorm) := F_oa_normal.other W9 (Or.inr (slot_ne (Or.inr (hw _ (List.mem_of_getElem? (i := 53) rfl))) (Or.inr (hw _ (List.mem_of_getElem? (i := 61) rfl))) (by decide) (t := (.object "java/lang/String")) (t' := (.object "java/lang/String")) (by decide) (by decide)))
  have F_oa_unitdateType : Fld Z h9 oa "org/unitspan/ead/DateElement" "unitdateType" "Ljava/lang/String;" (.ref otype) := F_oa_unitdateType.other W9 (Or.inr (slot_ne (Or.inr (hw _ (List.mem_of_getElem? (i := 55) rfl))) (Or.inr (hw _ (List.mem_of_getElem? (i := 61) rfl))) (by decide) (t := (.object "java/lang/String")) (t' := (.object "java/lang/String")) (by decide) (by decide)))
  have F_oa_standardDate : Fld Z h9 oa "org/unitspan/ead/DateElement" "standardDate" "Ljava/lang/String;" (.ref ostd) := F_oa_standardDate.other W9 (Or.inr (slot_ne (Or.inr (hw _ (List.mem_of_getElem? (i := 57) rfl))) (Or.inr (hw _ (List.mem_of_getElem? (i := 61) rfl))) (by decide) (t := (.object "java/lang/String")) (t' := (.object "java/lang/String")) (by decide) (by decide)))
  have F_oa_notBefore : Fld Z h9 oa "org/unitspan/ead/DateElement" "notBefore" "Ljava/lang/String;" (.ref onb) := F_oa_notBefore.other W9 (Or.inr (slot_ne (Or.inr (hw _ (List.mem_of_getElem? (i := 59) rfl))) (Or.inr (hw _ (List.mem_of_getElem? (i := 61) rfl))) (by decide) (t := (.object "java/lang/String")) (t' := (.object "java/lang/String")) (by decide) (by decide)))
  have F_oa_rangeStart : Fld Z h9 oa "org/unitspan/ead/DateElement" "rangeStart" "Ljava/lang/String;" .null := F_oa_rangeStart.other W9 (Or.inr (slot_ne (Or.inr (hw _ (List.mem_of_getElem? (i := 63) rfl))) (Or.inr (hw _ (List.mem_of_getElem? (i := 61) rfl))) (by decide) (t := (.object "java/lang/String")) (t' := (.object "java/lang/String")) (by decide) (by decide)))
  show Goes p.tables e below (T9.setTop (mkF m 50 #[.val (.ref oa), .val (.long pl), .second, .val (.ref oname), .val (.ref otext), .val (.ref onorm), .val (.ref otype), .val (.ref ostd), .val (.ref onb), .val (.ref ona), .val (.ref ors)] [])) _
  refine Goes.by (fun _ k => XS.aloadN X9.here hx rfl (hb hby d8_50) rfl rfl k) ?_
  show Goes p.tables e below (T9.setTop (mkF m 51 #[.val (.ref oa), .val (.long pl), .second, .val (.ref oname), .val (.ref otext), .val (.ref onorm), .val (.ref otype), .val (.ref ostd), .val (.ref onb), .val (.ref ona), .val (.ref ors)] [(.ref oa)])) _
  refine Goes.by (fun _ k => XS.aload X9.here hx rfl (hb hby d8_51) rfl rfl k) ?_
  show Goes p.tables e below (T9.setTop (mkF m 53 #[.val (.ref oa), .val (.long pl), .second, .val (.ref oname), .val (.ref otext), .val (.ref onorm), .val (.ref otype), .val (.ref ostd), .val (.ref onb), .val (.ref ona), .val (.ref ors)] [(.ref ors), (.ref oa)])) _
  obtain ⟨T10, h10, X10, e10, W10, st10⟩ := putF X9 hx hZ hown (host := "") (Or.inl (hw _ (List.mem_of_getElem? (i := 62) rfl))) Via.refl e9 F_oa_rangeStart E_oa (Or.inr ⟨(hw _ (List.mem_of_getElem? (i := 63) rfl)), rfl, hnm⟩) (hw _ (List.mem_of_getElem? (i := 35) rfl)) (ty := (.object "java/lang/String")) (by decide) rfl rfl (g := (mkF m 53 #[.val (.ref oa), .val (.long pl), .second, .val (.ref oname), .val (.ref otext), .val (.ref onorm), .val (.ref otype), .val (.ref ostd), .val (.ref onb), .val (.ref ona), .val (.ref ors)] [(.ref ors), (.ref oa)])) rfl rfl (hb hby d8_53)
  refine Goes.by st10 ?_
  have F_oa_rangeStart : Fld Z h10 oa "org/unitspan/ead/DateElement" "rangeStart" "Ljava/lang/String;" (.ref ors) := F_oa_rangeStart.same W10
  have N10 := Fr.snoc X10 N9 g_oa
  have Zs10 : n0 ≤ h10.size := Nat.le_trans Zs9 (Keep.of_wr W10).1
  have K10 : Keep h0 h10 [oa] := K9.wr W10 (Or.inl (List.mem_of_getElem? (i := 0) rfl))
  have E_oa : Exa Z h10 oa "org/unitspan/ead/DateElement" := E_oa.wr W10
  have F_oa_line : Fld Z h10 oa "org/unitspan/ead/DateElement" "line" "J" (.long pl) := F_oa_line.other W10 (Or.inr (slot_ne (Or.inr (hw _ (List.mem_of_getElem? (i := 47) rfl))) (Or.inr (hw _ (List.mem_of_getElem? (i := 63) rfl))) (by decide) (t := .long) (t' := (.object "java/lang/String")) (by decide) (by decide)))
  have F_oa_name : Fld Z h10 oa "org/unitspan/ead/DateElement" "name" "Ljava/lang/String;" (.ref oname) := F_oa_name.other W10 (Or.inr (slot_ne (Or.inr (hw _ (List.mem_of_getElem? (i := 49) rfl))) (Or.inr (hw _ (List.mem_of_getElem? (i := 63) rfl))) (by decide) (t := (.object "java/lang/String")) (t' := (.object "java/lang/String")) (by decide) (by decide)))
  have F_oa_text : Fld Z h10 oa "org/unitspan/ead/DateElement" "text" "Ljava/lang/String;" (.ref otext) := F_oa_text.other W10 (Or.inr (slot_ne (Or.inr (hw _ (List.mem_of_getElem? (i := 51) rfl))) (Or.inr (hw _ (List.mem_of_getElem? (i := 63) rfl))) (by decide) (t := (.object "java/lang/String")) (t' := (.object "java/lang/String")) (by decide) (by decide)))
  have F_oa_normal : Fld Z h10 oa "org/unitspan/ead/DateElement" "normal" "Ljava/lang/String;" (.ref onorm) := F_oa_normal.other W10 (Or.inr (slot_ne (Or.inr (hw _ (List.mem_of_getElem? (i := 53) rfl))) (Or.inr (hw _ (List.mem_of_getElem? (i := 63) rfl))) (by decide) (t := (.object "java/lang/String")) (t' := (.object "java/lang/String")) (by decide) (by decide)))
  have F_oa_unitdateType : Fld Z h10 oa "org/unitspan/ead/DateElement" "unitdateType" "Ljava/lang/String;" (.ref otype) := F_oa_unitdateType.other W10 (Or.inr (slot_ne (Or.inr (hw _ (List.mem_of_getElem? (i := 55) rfl))) (Or.inr (hw _ (List.mem_of_getElem? (i := 63) rfl))) (by decide) (t := (.object "java/lang/String")) (t' := (.object "java/lang/String")) (by decide) (by decide)))
  have F_oa_standardDate : Fld Z h10 oa "org/unitspan/ead/DateElement" "standardDate" "Ljava/lang/String;" (.ref ostd) := F_oa_standardDate.other W10 (Or.inr (slot_ne (Or.inr (hw _ (List.mem_of_getElem? (i := 57) rfl))) (Or.inr (hw _ (List.mem_of_getElem? (i := 63) rfl))) (by decide) (t := (.object "java/lang/String")) (t' := (.object "java/lang/String")) (by decide) (by decide)))
  have F_oa_notBefore : Fld Z h10 oa "org/unitspan/ead/DateElement" "notBefore" "Ljava/lang/String;" (.ref onb) := F_oa_notBefore.other W10 (Or.inr (slot_ne (Or.inr (hw _ (List.mem_of_getElem? (i := 59) rfl))) (Or.inr (hw _ (List.mem_of_getElem? (i := 63) rfl))) (by decide) (t := (.object "java/lang/String")) (t' := (.object "java/lang/String")) (by decide) (by decide)))
  have F_oa_notAfter : Fld Z h10 oa "org/unitspan/ead/DateElement" "notAfter" "Ljava/lang/String;" (.ref ona) := F_oa_notAfter.other W10 (Or.inr (slot_ne (Or.inr (hw _ (List.mem_of_getElem? (i := 61) rfl))) (Or.inr (hw _ (List.mem_of_getElem? (i := 63) rfl))) (by decide) (t := (.object "java/lang/String")) (t' := (.object "java/lang/String")) (by decide) (by decide)))
  show Goes p.tables e below (T10.setTop (mkF m 56 #[.val (.ref oa), .val (.long pl), .second, .val (.ref oname), .val (.ref otext), .val (.ref onorm), .val (.ref otype), .val (.ref ostd), .val (.ref onb), .val (.ref ona), .val (.ref ors)] [])) _
  obtain ⟨fs, hr, hrun, hended, hW, hsame⟩ := X10.leave (v := none) (fun _ => rfl)
  refine ⟨_, _, X10.returnOut hx Bd.returns (hb hby d8_56) hr, hrun, hended, _, _, rfl, ?_, ⟨_, rfl⟩, hW, hsame.mono (by decide) (by decide)⟩
  show Q8rr Z oa pl oname otext onorm otype ostd onb ona ors h0 n0 _ T10.heap _
  rw [e10]
  exact ⟨rfl, N10, K10, E_oa, F_oa_normal, F_oa_standardDate⟩
theorem d10_0 : decode prog_38_method_5_code 0 = .ok (.aload_n 0, 1) := by decide +kernel
theorem d10_1 : decode prog_38_method_5_code 1 = .ok (.getfield 20, 3) := by decide +kernel
theorem d10_4 : decode prog_38_method_5_code 4 = .ok (.ifnull 10, 3) := by decide +kernel
theorem d10_7 : decode prog_38_method_5_code 7 = .ok (.aload_n 0, 1) := by decide +kernel
theorem d10_8 : decode prog_38_method_5_code 8 = .ok (.getfield 20, 3) := by decide +kernel
theorem d10_11 : decode prog_38_method_5_code 11 = .ok (.goto 7, 3) := by decide +kernel
theorem d10_18 : decode prog_38_method_5_code 18 = .ok (.areturn, 1) := by decide +kernel
theorem ef10rr (m : MethodId) (oa : Addr) : entryFrame m #[(.ref oa)] 1 = mkF m 0 #[.val (.ref oa)] [] := by first | (simp [entryFrame, mkF, argsToLocals, Value.category]; done) | rfl
def Q10rr (Z : State) (oa : Addr) (onorm : Addr) (ostd : Addr) (h0 : Heap) (n0 : Nat) (v : Option Value) (h : Heap) (L : List Loc) : Prop := v = some (.ref onorm) ∧ Fr n0 L ∧ h = h0
set_option maxRecDepth 65536 in
set_option maxHeartbeats 40000000 in
theorem rm10rr (l : Launch) (Z : State) (a0 : Array Value) (hw : ∀ d ∈ tables_1, d.before a0 Z = true) (ws : List Jvm.Cond) (oa : Addr) (onorm : Addr) (ostd : Addr) (h0 : Heap) (n0 : Nat) (Z0 : n0 ≤ h0.size) (F_oa_normal : Fld Z h0 oa "org/unitspan/ead/DateElement" "normal" "Ljava/lang/String;" (.ref onorm)) (F_oa_standardDate : Fld Z h0 oa "org/unitspan/ead/DateElement" "standardDate" "Ljava/lang/String;" (.ref ostd)) :
    MetFree l (⟨"org/unitspan/ead/DateElement", "statedDate", "()Ljava/lang/String;"⟩ : MethodName) (head1 (Jvm.Cond.code (⟨"org/unitspan/ead/DateElement", "statedDate", "()Ljava/lang/String;"⟩ : MethodName) prog_38_method_5_code 1 (some (.object "java/lang/String")) :: ws) ({ frames := 0, cells := 0, slots := 0, locals := 0 } : Room)) (fun a U => a = #[(.ref oa)] ∧ Z.Warmed39 U.vm ∧ U.heap = h0) (fun _ _ _ _ _ => True) (fun _ U o U' => ∃ v L, o = .returned v ∧ Q10rr Z oa onorm ostd h0 n0 v U'.heap L ∧ FrameEnd U o U' L ({ frames := 0, cells := 0, slots := 0, locals := 0 } : Room).cells ({ frames := 0, cells := 0, slots := 0, locals := 0 } : Room).slots) := by
  refine MetFree.of_bodySF (plainFor_of_name pn_2) hisR ?_
  intro p e s m args below meth c s₁ Bd hml0 hP hK
  obtain ⟨rfl, hZ, hh⟩ := hP
  have hx := Bd.exec
  have hby := Bd.bytes
  have hml : c.maxLocals = 1 := hml0
  have hown : s.vm.findClass "org/unitspan/ead/DateElement" = some m.cls := findClass_of_methodNamed Bd.named
  have hnm := (name_of_methodNamed Bd.named Bd.method).1
  have X0 : Stand p l e ({ frames := 0, cells := 0, slots := 0, locals := 0 } : Room) s m #[(.ref oa)] below meth c s₁ [] 0 0 := Stand.of_body Bd
  have e0 : s₁.heap = h0 := by rw [← hh, Bd.state]; rfl
  have N0 := Fr.nil n0
  refine Goes.by (fun _ k => castTop (ef10rr m oa) k) ?_
  show Goes p.tables e below (s₁.setTop (mkF m 0 #[.val (.ref oa)] [])) _
  refine Goes.by (fun _ k => XS.aloadN X0.here hx rfl (hb hby d10_0) rfl rfl k) ?_
  show Goes p.tables e below (s₁.setTop (mkF m 1 #[.val (.ref oa)] [(.ref oa)])) _
  obtain ⟨T1, X1, e1, st1⟩ := getF X0 hx hZ hown (host := "") (Or.inl (hw _ (List.mem_of_getElem? (i := 52) rfl))) Via.refl e0 F_oa_normal (g := (mkF m 1 #[.val (.ref oa)] [(.ref oa)])) rfl rfl (hb hby d10_1)
  refine Goes.by st1 ?_
  show Goes p.tables e below (T1.setTop (mkF m 4 #[.val (.ref oa)] [(.ref onorm)])) _
  refine Goes.by (fun _ k => XS.ifnullNo X1.here hx rfl (hb hby d10_4) rfl k) ?_
  show Goes p.tables e below (T1.setTop (mkF m 7 #[.val (.ref oa)] [])) _
  refine Goes.by (fun _ k => XS.aloadN X1.here hx rfl (hb hby d10_7) rfl rfl k) ?_
  show Goes p.tables e below (T1.setTop (mkF m 8 #[.val (.ref oa)] [(.ref oa)])) _
  obtain ⟨T2, X2, e2, st2⟩ := getF X1 hx hZ hown (host := "") (Or.inl (hw _ (List.mem_of_getElem? (i := 52) rfl))) Via.refl e1 F_oa_normal (g := (mkF m 8 #[.val (.ref oa)] [(.ref oa)])) rfl rfl (hb hby d10_8)
  refine Goes.by st2 ?_
  show Goes p.tables e below (T2.setTop (mkF m 11 #[.val (.ref oa)] [(.ref onorm)])) _
  refine Goes.by (fun _ k => XS.goto X2.here hx rfl (pc0 := 11) (pc' := 18) rfl (hb hby d10_11) (by decide) (by decide) k) ?_
  show Goes p.tables e below (T2.setTop (mkF m 18 #[.val (.ref oa)] [(.ref onorm)])) _
  obtain ⟨fs, hr, hrun, hended, hW, hsame⟩ := X2.leave (v := some (.ref onorm)) (fun h => by rw [Bd.returns] at h; cases h)
  refine ⟨_, _, retOut X2 hx Bd.returns (i := .areturn) (narR rfl) (Or.inr (Or.inr (Or.inr (Or.inr ⟨rfl, rfl, rfl⟩)))) (hb hby d10_18) hr, hrun, hended, _, _, rfl, ?_, ⟨_, rfl⟩, hW, hsame.mono (by decide) (by decide)⟩
  show Q10rr Z oa onorm ostd h0 n0 _ T2.heap _
  rw [e2]
  exact ⟨rfl, N0, rfl⟩
theorem ef8rn (m : MethodId) (oa : Addr) (pl : Int64) (oname : Addr) (otext : Addr) (onorm : Addr) (otype : Addr) (onb : Addr) (ona : Addr) (ors : Addr) : entryFrame m #[(.ref oa), (.long pl), (.ref oname), (.ref otext), (.ref onorm), (.ref otype), .null, (.ref onb), (.ref ona), (.ref ors)] 11 = mkF m 0 #[.val (.ref oa), .val (.long pl), .second, .val (.ref oname), .val (.ref otext), .val (.ref onorm), .val (.ref otype), .val .null, .val (.ref onb), .val (.ref ona), .val (.ref ors)] [] := by first | (simp [entryFrame, mkF, argsToLocals, Value.category]; done) | rfl
def Q8rn (Z : State) (oa : Addr) (pl : Int64) (oname : Addr) (otext : Addr) (onorm : Addr) (otype : Addr) (onb : Addr) (ona : Addr) (ors : Addr) (h0 : Heap) (n0 : Nat) (v : Option Value) (h : Heap) (L : List Loc) : Prop := v = none ∧ Fr n0 L ∧ Keep h0 h [oa] ∧ Exa Z h oa "org/unitspan/ead/DateElement" ∧ Fld Z h oa "org/unitspan/ead/DateElement" "normal" "Ljava/lang/String;" (.ref onorm) ∧ Fld Z h oa "org/unitspan/ead/DateElement" "standardDate" "Ljava/lang/String;" .null
set_option maxRecDepth 65536 in
set_option maxHeartbeats 40000000 in
theorem rm8rn (l : Launch) (Z : State) (a0 : Array Value) (hw : ∀ d ∈ tables_1, d.before a0 Z = true) (ws : List Jvm.Cond) (oa : Addr) (pl : Int64) (oname : Addr) (otext : Addr) (onorm : Addr) (otype : Addr) (onb : Addr) (ona : Addr) (ors : Addr) (h0 : Heap) (n0 : Nat) (Z0 : n0 ≤ h0.size) (E_oa : Exa Z h0 oa "org/unitspan/ead/DateElement") (F_oa_line : Fld Z h0 oa "org/unitspan/ead/DateElement" "line" "J" (.long (0 : Int64))) (F_oa_name : Fld Z h0 oa "org/unitspan/ead/DateElement" "name" "Ljava/lang/String;" .null) (F_oa_text : Fld Z h0 oa "org/unitspan/ead/DateElement" "text" "Ljava/lang/String;" .null) (F_oa_normal : Fld Z h0 oa "org/unitspan/ead/DateElement" "normal" "Ljava/lang/String;" .null) (F_oa_unitdateType : Fld Z h0 oa "org/unitspan/ead/DateElement" "unitdateType" "Ljava/lang/String;" .null) (F_oa_standardDate : Fld Z h0 oa "org/unitspan/ead/DateElement" "standardDate" "Ljava/lang/String;" .null) (F_oa_notBefore : Fld Z h0 oa "org/unitspan/ead/DateElement" "notBefore" "Ljava/lang/String;" .null) (F_oa_notAfter : Fld Z h0 oa "org/unitspan/ead/DateElement" "notAfter" "Ljava/lang/String;" .null) (F_oa_rangeStart : Fld Z h0 oa "org/unitspan/ead/DateElement" "rangeStart" "Ljava/lang/String;" .null) (g_oa : n0 ≤ oa) :
    MetFree l (⟨"org/unitspan/ead/DateElement", "<init>", "(JLjava/lang/String;Ljava/lang/String;Ljava/lang/String;Ljava/lang/String;Ljava/lang/String;Ljava/lang/String;Ljava/lang/String;Ljava/lang/String;)V"⟩ : MethodName) (head1 (Jvm.Cond.code (⟨"org/unitspan/ead/DateElement", "<init>", "(JLjava/lang/String;Ljava/lang/String;Ljava/lang/String;Ljava/lang/String;Ljava/lang/String;Ljava/lang/String;Ljava/lang/String;Ljava/lang/String;)V"⟩ : MethodName) prog_38_method_2_code 11 none :: ws) ({ frames := 2, cells := 0, slots := 0, locals := 24 } : Room)) (fun a U => a = #[(.ref oa), (.long pl), (.ref oname), (.ref otext), (.ref onorm), (.ref otype), .null, (.ref onb), (.ref ona), (.ref ors)] ∧ Z.Warmed39 U.vm ∧ U.heap = h0) (fun _ _ _ _ _ => True) (fun _ U o U' => ∃ v L, o = .returned v ∧ Q8rn Z oa pl oname otext onorm otype onb ona ors h0 n0 v U'.heap L ∧ FrameEnd U o U' L ({ frames := 2, cells := 0, slots := 0, locals := 24 } : Room).cells ({ frames := 2, cells := 0, slots := 0, locals := 24 } : Room).slots) := by
  refine MetFree.of_bodySF (plainFor_of_name pn_2) hisR ?_
  intro p e s m args below meth c s₁ Bd hml0 hP hK
  obtain ⟨rfl, hZ, hh⟩ := hP
  have hx := Bd.exec
  have hby := Bd.bytes
  have hml : c.maxLocals = 11 := hml0
  have hown : s.vm.findClass "org/unitspan/ead/DateElement" = some m.cls := findClass_of_methodNamed Bd.named
  have hnm := (name_of_methodNamed Bd.named Bd.method).1
  have X0 : Stand p l e ({ frames := 2, cells := 0, slots := 0, locals := 24 } : Room) s m #[(.ref oa), (.long pl), (.ref oname), (.ref otext), (.ref onorm), (.ref otype), .null, (.ref onb), (.ref ona), (.ref ors)] below meth c s₁ [] 0 0 := Stand.of_body Bd
  have e0 : s₁.heap = h0 := by rw [← hh, Bd.state]; rfl
  have N0 := Fr.nil n0
  refine Goes.by (fun _ k => castTop (ef8rn m oa pl oname otext onorm otype onb ona ors) k) ?_
  show Goes p.tables e below (s₁.setTop (mkF m 0 #[.val (.ref oa), .val (.long pl), .second, .val (.ref oname), .val (.ref otext), .val (.ref onorm), .val (.ref otype), .val .null, .val (.ref onb), .val (.ref ona), .val (.ref ors)] [])) _
  refine Goes.by (fun _ k => XS.aloadN X0.here hx rfl (hb hby d8_0) rfl rfl k) ?_
  show Goes p.tables e below (s₁.setTop (mkF m 1 #[.val (.ref oa), .val (.long pl), .second, .val (.ref oname), .val (.ref otext), .val (.ref onorm), .val (.ref otype), .val .null, .val (.ref onb), .val (.ref ona), .val (.ref ors)] [(.ref oa)])) _
  obtain ⟨_, _, ⟨T1, L1, k1, n1⟩, -, X1, ⟨Lc1, hQ1, l1, y1, z1⟩, st1⟩ := X0.specialBack hx (y := (⟨"java/lang/Record", "<init>", "()V"⟩ : MethodName)) rfl hown (mvT hZ (hw _ (List.mem_of_getElem? (i := 40) rfl))) (mvT hZ (hw _ (List.mem_of_getElem? (i := 41) rfl))) (mvT hZ (hw _ (List.mem_of_getElem? (i := 44) rfl))) (by decide) (backOf (W := 0) (rm9 l Z a0 hw [] oa h0 n0 Z0) hZ (hw _ (List.mem_of_getElem? (i := 44) rfl)) (hw _ (List.mem_of_getElem? (i := 43) rfl)) (by decide) (by decide)) (g := (mkF m 1 #[.val (.ref oa), .val (.long pl), .second, .val (.ref oname), .val (.ref otext), .val (.ref onorm), .val (.ref otype), .val .null, .val (.ref onb), .val (.ref ona), .val (.ref ors)] [(.ref oa)])) rfl (by rw [hml]; rfl) (Steps.refl _) (a := oa) (argsL := []) (rest := []) (lenOf pd_1 rfl) rfl (by show 2 * 0 + _ ≤ _; exact Nat.le_of_eq rfl) (hb hby d8_1) (fun _ _ => ⟨rfl, e0, (by decide : 0 + 0 ≤ _), (by decide : 0 + 0 ≤ _)⟩)
  dsimp only [Pt.U, Pt.locs, Pt.cells, Pt.slots] at X1 l1 y1 z1 st1 hQ1
  subst l1 y1 z1
  obtain ⟨rfl, N1q, e1⟩ := hQ1
  have N1 := Fr.app N0 N1q
  refine Goes.via st1 ?_
  show Goes p.tables e below (T1.setTop (mkF m 4 #[.val (.ref oa), .val (.long pl), .second, .val (.ref oname), .val (.ref otext), .val (.ref onorm), .val (.ref otype), .val .null, .val (.ref onb), .val (.ref ona), .val (.ref ors)] [])) _
  refine Goes.by (fun _ k => XS.aloadN X1.here hx rfl (hb hby d8_4) rfl rfl k) ?_
  show Goes p.tables e below (T1.setTop (mkF m 5 #[.val (.ref oa), .val (.long pl), .second, .val (.ref oname), .val (.ref otext), .val (.ref onorm), .val (.ref otype), .val .null, .val (.ref onb), .val (.ref ona), .val (.ref ors)] [(.ref oa)])) _
  refine Goes.by (fun _ k => XS.lloadN X1.here hx rfl (hb hby d8_5) rfl k) ?_
  show Goes p.tables e below (T1.setTop (mkF m 6 #[.val (.ref oa), .val (.long pl), .second, .val (.ref oname), .val (.ref otext), .val (.ref onorm), .val (.ref otype), .val .null, .val (.ref onb), .val (.ref ona), .val (.ref ors)] [(.long pl), (.ref oa)])) _
  obtain ⟨T2, h2, X2, e2, W2, st2⟩ := putF X1 hx hZ hown (host := "") (Or.inl (hw _ (List.mem_of_getElem? (i := 46) rfl))) Via.refl e1 F_oa_line E_oa (Or.inr ⟨(hw _ (List.mem_of_getElem? (i := 47) rfl)), rfl, hnm⟩) (hw _ (List.mem_of_getElem? (i := 35) rfl)) (ty := .long) (by decide) rfl rfl (g := (mkF m 6 #[.val (.ref oa), .val (.long pl), .second, .val (.ref oname), .val (.ref otext), .val (.ref onorm), .val (.ref otype), .val .null, .val (.ref onb), .val (.ref ona), .val (.ref ors)] [(.long pl), (.ref oa)])) rfl rfl (hb hby d8_6)
  refine Goes.by st2 ?_
  have F_oa_line : Fld Z h2 oa "org/unitspan/ead/DateElement" "line" "J" (.long pl) := F_oa_line.same W2
  have N2 := Fr.snoc X2 N1 g_oa
  have Zs2 : n0 ≤ h2.size := Nat.le_trans Z0 (Keep.of_wr W2).1
  have K2 : Keep h0 h2 [oa] := (Keep.refl h0 [oa]).wr W2 (Or.inl (List.mem_of_getElem? (i := 0) rfl))
  have E_oa : Exa Z h2 oa "org/unitspan/ead/DateElement" := E_oa.wr W2
  have F_oa_name : Fld Z h2 oa "org/unitspan/ead/DateElement" "name" "Ljava/lang/String;" .null := F_oa_name.other W2 (Or.inr (slot_ne (Or.inr (hw _ (List.mem_of_getElem? (i := 49) rfl))) (Or.inr (hw _ (List.mem_of_getElem? (i := 47) rfl))) (by decide) (t := (.object "java/lang/String")) (t' := .long) (by decide) (by decide)))
  have F_oa_text : Fld Z h2 oa "org/unitspan/ead/DateElement" "text" "Ljava/lang/String;" .null := F_oa_text.other W2 (Or.inr (slot_ne (Or.inr (hw _ (List.mem_of_getElem? (i := 51) rfl))) (Or.inr (hw _ (List.mem_of_getElem? (i := 47) rfl))) (by decide) (t := (.object "java/lang/String")) (t' := .long) (by decide) (by decide)))
  have F_oa_normal : Fld Z h2 oa "org/unitspan/ead/DateElement" "normal" "Ljava/lang/String;" .null := F_oa_normal.other W2 (Or.inr (slot_ne (Or.inr (hw _ (List.mem_of_getElem? (i := 53) rfl))) (Or.inr (hw _ (List.mem_of_getElem? (i := 47) rfl))) (by decide) (t := (.object "java/lang/String")) (t' := .long) (by decide) (by decide)))
  have F_oa_unitdateType : Fld Z h2 oa "org/unitspan/ead/DateElement" "unitdateType" "Ljava/lang/String;" .null := F_oa_unitdateType.other W2 (Or.inr (slot_ne (Or.inr (hw _ (List.mem_of_getElem? (i := 55) rfl))) (Or.inr (hw _ (List.mem_of_getElem? (i := 47) rfl))) (by decide) (t := (.object "java/lang/String")) (t' := .long) (by decide) (by decide)))
  have F_oa_standardDate : Fld Z h2 oa "org/unitspan/ead/DateElement" "standardDate" "Ljava/lang/String;" .null := F_oa_standardDate.other W2 (Or.inr (slot_ne (Or.inr (hw _ (List.mem_of_getElem? (i := 57) rfl))) (Or.inr (hw _ (List.mem_of_getElem? (i := 47) rfl))) (by decide) (t := (.object "java/lang/String")) (t' := .long) (by decide) (by decide)))
  have F_oa_notBefore : Fld Z h2 oa "org/unitspan/ead/DateElement" "notBefore" "Ljava/lang/String;" .null := F_oa_notBefore.other W2 (Or.inr (slot_ne (Or.inr (hw _ (List.mem_of_getElem? (i := 59) rfl))) (Or.inr (hw _ (List.mem_of_getElem? (i := 47) rfl))) (by decide) (t := (.object "java/lang/String")) (t' := .long) (by decide) (by decide)))
  have F_oa_notAfter : Fld Z h2 oa "org/unitspan/ead/DateElement" "notAfter" "Ljava/lang/String;" .null := F_oa_notAfter.other W2 (Or.inr (slot_ne (Or.inr (hw _ (List.mem_of_getElem? (i := 61) rfl))) (Or.inr (hw _ (List.mem_of_getElem? (i := 47) rfl))) (by decide) (t := (.object "java/lang/String")) (t' := .long) (by decide) (by decide)))
  have F_oa_rangeStart : Fld Z h2 oa "org/unitspan/ead/DateElement" "rangeStart" "Ljava/lang/String;" .null := F_oa_rangeStart.other W2 (Or.inr (slot_ne (Or.inr (hw _ (List.mem_of_getElem? (i := 63) rfl))) (Or.inr (hw _ (List.mem_of_getElem? (i := 47) rfl))) (by decide) (t := (.object "java/lang/String")) (t' := .long) (by decide) (by decide)))
  show Goes p.tables e below (T2.setTop (mkF m 9 #[.val (.ref oa), .val (.long pl), .second, .val (.ref oname), .val (.ref otext), .val (.ref onorm), .val (.ref otype), .val .null, .val (.ref onb), .val (.ref ona), .val (.ref ors)] [])) _
  refine Goes.by (fun _ k => XS.aloadN X2.here hx rfl (hb hby d8_9) rfl rfl k) ?_
  show Goes p.tables e below (T2.setTop (mkF m 10 #[.val (.ref oa), .val (.long pl), .second, .val (.ref oname), .val (.ref otext), .val (.ref onorm), .val (.ref otype), .val .null, .val (.ref onb), .val (.ref ona), .val (.ref ors)] [(.ref oa)])) _
  refine Goes.by (fun _ k => XS.aloadN X2.here hx rfl (hb hby d8_10) rfl rfl k) ?_
  show Goes p.tables e below (T2.setTop (mkF m 11 #[.val (.ref oa), .val (.long pl), .second, .val (.ref oname), .val (.ref otext), .val (.ref onorm), .val (.ref otype), .val .null, .val (.ref onb), .val (.ref ona), .val (.ref ors)] [(.ref oname), (.ref oa)])) _
  obtain ⟨T3, h3, X3, e3, W3, st3⟩ := putF X2 hx hZ hown (host := "") (Or.inl (hw _ (List.mem_of_getElem? (i := 48) rfl))) Via.refl e2 F_oa_name E_oa (Or.inr ⟨(hw _ (List.mem_of_getElem? (i := 49) rfl)), rfl, hnm⟩) (hw _ (List.mem_of_getElem? (i := 35) rfl)) (ty := (.object "java/lang/String")) (by decide) rfl rfl (g := (mkF m 11 #[.val (.ref oa), .val (.long pl), .second, .val (.ref oname), .val (.ref otext), .val (.ref onorm), .val (.ref otype), .val .null, .val (.ref onb), .val (.ref ona), .val (.ref ors)] [(.ref oname), (.ref oa)])) rfl rfl (hb hby d8_11)
  refine Goes.by st3 ?_
  have F_oa_name : Fld Z h3 oa "org/unitspan/ead/DateElement" "name" "Ljava/lang/String;" (.ref oname) := F_oa_name.same W3
  have N3 := Fr.snoc X3 N2 g_oa
  have Zs3 : n0 ≤ h3.size := Nat.le_trans Zs2 (Keep.of_wr W3).1
  have K3 : Keep h0 h3 [oa] := K2.wr W3 (Or.inl (List.mem_of_getElem? (i := 0) rfl))
  have E_oa : Exa Z h3 oa "org/unitspan/ead/DateElement" := E_oa.wr W3
  have F_oa_line : Fld Z h3 oa "org/unitspan/ead/DateElement" "line" "J" (.long pl) := F_oa_line.other W3 (Or.inr (slot_ne (Or.inr (hw _ (List.mem_of_getElem? (i := 47) rfl))) (Or.inr (hw _ (List.mem_of_getElem? (i := 49) rfl))) (by decide) (t := .long) (t' := (.object "java/lang/String")) (by decide) (by decide)))
  have F_oa_text : Fld Z h3 oa "org/unitspan/ead/DateElement" "text" "Ljava/lang/String;" .null := F_oa_text.other W3 (Or.inr (slot_ne (Or.inr (hw _ (List.mem_of_getElem? (i := 51) rfl))) (Or.inr (hw _ (List.mem_of_getElem? (i := 49) rfl))) (by decide) (t := (.object "java/lang/String")) (t' := (.object "java/lang/String")) (by decide) (by decide)))
  have F_oa_normal : Fld Z h3 oa "org/unitspan/ead/DateElement" "normal" "Ljava/lang/String;" .null := F_oa_normal.other W3 (Or.inr (slot_ne (Or.inr (hw _ (List.mem_of_getElem? (i := 53) rfl))) (Or.inr (hw _ (List.mem_of_getElem? (i := 49) rfl))) (by decide) (t := (.object "java/lang/String")) (t' := (.object "java/lang/String")) (by decide) (by decide)))
  have F_oa_unitdateType : Fld Z h3 oa "org/unitspan/ead/DateElement" "unitdateType" "Ljava/lang/String;" .null := F_oa_unitdateType.other W3 (Or.inr (slot_ne (Or.inr (hw _ (List.mem_of_getElem? (i := 55) rfl))) (Or.inr (hw _ (List.mem_of_getElem? (i := 49) rfl))) (by decide) (t := (.object "java/lang/String")) (t' := (.object "java/lang/String")) (by decide) (by decide)))
  have F_oa_standardDate : Fld Z h3 oa "org/unitspan/ead/DateElement" "standardDate" "Ljava/lang/String;" .null := F_oa_standardDate.other W3 (Or.inr (slot_ne (Or.inr (hw _ (List.mem_of_getElem? (i := 57) rfl))) (Or.inr (hw _ (List.mem_of_getElem? (i := 49) rfl))) (by decide) (t := (.object "java/lang/String")) (t' := (.object "java/lang/String")) (by decide) (by decide)))
  have F_oa_notBefore : Fld Z h3 oa "org/unitspan/ead/DateElement" "notBefore" "Ljava/lang/String;" .null := F_oa_notBefore.other W3 (Or.inr (slot_ne (Or.inr (hw _ (List.mem_of_getElem? (i := 59) rfl))) (Or.inr (hw _ (List.mem_of_getElem? (i := 49) rfl))) (by decide) (t := (.object "java/lang/String")) (t' := (.object "java/lang/String")) (by decide) (by decide)))
  have F_oa_notAfter : Fld Z h3 oa "org/unitspan/ead/DateElement" "notAfter" "Ljava/lang/String;" .null := F_oa_notAfter.other W3 (Or.inr (slot_ne (Or.inr (hw _ (List.mem_of_getElem? (i := 61) rfl))) (Or.inr (hw _ (List.mem_of_getElem? (i := 49) rfl))) (by decide) (t := (.object "java/lang/String")) (t' := (.object "java/lang/String")) (by decide) (by decide)))
  have F_oa_rangeStart : Fld Z h3 oa "org/unitspan/ead/DateElement" "rangeStart" "Ljava/lang/String;" .null := F_oa_rangeStart.other W3 (Or.inr (slot_ne (Or.inr (hw _ (List.mem_of_getElem? (i := 63) rfl))) (Or.inr (hw _ (List.mem_of_getElem? (i := 49) rfl))) (by decide) (t := (.object "java/lang/String")) (t' := (.object "java/lang/String")) (by decide) (by decide)))
  show Goes p.tables e below (T3.setTop (mkF m 14 #[.val (.ref oa), .val (.long pl), .second, .val (.ref oname), .val (.ref otext), .val (.ref onorm), .val (.ref otype), .val .null, .val (.ref onb), .val (.ref ona), .val (.ref ors)] [])) _
  refine Goes.by (fun _ k => XS.aloadN X3.here hx rfl (hb hby d8_14) rfl rfl k) ?_
  show Goes p.tables e below (T3.setTop (mkF m 15 #[.val (.ref oa), .val (.long pl), .second, .val (.ref oname), .val (.ref otext), .val (.ref onorm), .val (.ref otype), .val .null, .val (.ref onb), .val (.ref ona), .val (.ref ors)] [(.ref oa)])) _
  refine Goes.by (fun _ k => XS.aload X3.here hx rfl (hb hby d8_15) rfl rfl k) ?_
  show Goes p.tables e below (T3.setTop (mkF m 17 #[.val (.ref oa), .val (.long pl), .second, .val (.ref oname), .val (.ref otext), .val (.ref onorm), .val (.ref otype), .val .null, .val (.ref onb), .val (.ref ona), .val (.ref ors)] [(.ref otext), (.ref oa)])) _
  obtain ⟨T4, h4, X4, e4, W4, st4⟩ := putF X3 hx hZ hown (host := "") (Or.inl (hw _ (List.mem_of_getElem? (i := 50) rfl))) Via.refl e3 F_oa_text E_oa (Or.inr ⟨(hw _ (List.mem_of_getElem? (i := 51) rfl)), rfl, hnm⟩) (hw _ (List.mem_of_getElem? (i := 35) rfl)) (ty := (.object "java/lang/String")) (by decide) rfl rfl (g := (mkF m 17 #[.val (.ref oa), .val (.long pl), .second, .val (.ref oname), .val (.ref otext), .val (.ref onorm), .val (.ref otype), .val .null, .val (.ref onb), .val (.ref ona), .val (.ref ors)] [(.ref otext), (.ref oa)])) rfl rfl (hb hby d8_17)
  refine Goes.by st4 ?_
  have F_oa_text : Fld Z h4 oa "org/unitspan/ead/DateElement" "text" "Ljava/lang/String;" (.ref otext) := F_oa_text.same W4
  have N4 := Fr.snoc X4 N3 g_oa
  have Zs4 : n0 ≤ h4.size := Nat.le_trans Zs3 (Keep.of_wr W4).1
  have K4 : Keep h0 h4 [oa] := K3.wr W4 (Or.inl (List.mem_of_getElem? (i := 0) rfl))
  have E_oa : Exa Z h4 oa "org/unitspan/ead/DateElement" := E_oa.wr W4
  have F_oa_line : Fld Z h4 oa "org/unitspan/ead/DateElement" "line" "J" (.long pl) := F_oa_line.other W4 (Or.inr (slot_ne (Or.inr (hw _ (List.mem_of_getElem? (i := 47) rfl))) (Or.inr (hw _ (List.mem_of_getElem? (i := 51) rfl))) (by decide) (t := .long) (t' := (.object "java/lang/String")) (by decide) (by decide)))
  have F_oa_name : Fld Z h4 oa "org/unitspan/ead/DateElement" "name" "Ljava/lang/String;" (.ref oname) := F_oa_name.other W4 (Or.inr (slot_ne (Or.inr (hw _ (List.mem_of_getElem? (i := 49) rfl))) (Or.inr (hw _ (List.mem_of_getElem? (i := 51) rfl))) (by decide) (t := (.object "java/lang/String")) (t' := (.object "java/lang/String")) (by decide) (by decide)))
  have F_oa_normal : Fld Z h4 oa "org/unitspan/ead/DateElement" "normal" "Ljava/lang/String;" .null := F_oa_normal.other W4 (Or.inr (slot_ne (Or.inr (hw _ (List.mem_of_getElem? (i := 53) rfl))) (Or.inr (hw _ (List.mem_of_getElem? (i := 51) rfl))) (by decide) (t := (.object "java/lang/String")) (t' := (.object "java/lang/String")) (by decide) (by decide)))
  have F_oa_unitdateType : Fld Z h4 oa "org/unitspan/ead/DateElement" "unitdateType" "Ljava/lang/String;" .null := F_oa_unitdateType.other W4 (Or.inr (slot_ne (Or.inr (hw _ (List.mem_of_getElem? (i := 55) rfl))) (Or.inr (hw _ (List.mem_of_getElem? (i := 51) rfl))) (by decide) (t := (.object "java/lang/String")) (t' := (.object "java/lang/String")) (by decide) (by decide)))
  have F_oa_standardDate : Fld Z h4 oa "org/unitspan/ead/DateElement" "standardDate" "Ljava/lang/String;" .null := F_oa_standardDate.other W4 (Or.inr (slot_ne (Or.inr (hw _ (List.mem_of_getElem? (i := 57) rfl))) (Or.inr (hw _ (List.mem_of_getElem? (i := 51) rfl))) (by decide) (t := (.object "java/lang/String")) (t' := (.object "java/lang/String")) (by decide) (by decide)))
  have F_oa_notBefore : Fld Z h4 oa "org/unitspan/ead/DateElement" "notBefore" "Ljava/lang/String;" .null := F_oa_notBefore.other W4 (Or.inr (slot_ne (Or.inr (hw _ (List.mem_of_getElem? (i := 59) rfl))) (Or.inr (hw _ (List.mem_of_getElem? (i := 51) rfl))) (by decide) (t := (.object "java/lang/String")) (t' := (.object "java/lang/String")) (by decide) (by decide)))
  have F_oa_notAfter : Fld Z h4 oa "org/unitspan/ead/DateElement" "notAfter" "Ljava/lang/String;" .null := F_oa_notAfter.other W4 (Or.inr (slot_ne (Or.inr (hw _ (List.mem_of_getElem? (i := 61) rfl))) (Or.inr (hw _ (List.mem_of_getElem? (i := 51) rfl))) (by decide) (t := (.object "java/lang/String")) (t' := (.object "java/lang/String")) (by decide) (by decide)))
  have F_oa_rangeStart : Fld Z h4 oa "org/unitspan/ead/DateElement" "rangeStart" "Ljava/lang/String;" .null := F_oa_rangeStart.other W4 (Or.inr (slot_ne (Or.inr (hw _ (List.mem_of_getElem? (i := 63) rfl))) (Or.inr (hw _ (List.mem_of_getElem? (i := 51) rfl))) (by decide) (t := (.object "java/lang/String")) (t' := (.object "java/lang/String")) (by decide) (by decide)))
  show Goes p.tables e below (T4.setTop (mkF m 20 #[.val (.ref oa), .val (.long pl), .second, .val (.ref oname), .val (.ref otext), .val (.ref onorm), .val (.ref otype), .val .null, .val (.ref onb), .val (.ref ona), .val (.ref ors)] [])) _
  refine Goes.by (fun _ k => XS.aloadN X4.here hx rfl (hb hby d8_20) rfl rfl k) ?_
  show Goes p.tables e below (T4.setTop (mkF m 21 #[.val (.ref oa), .val (.long pl), .second, .val (.ref oname), .val (.ref otext), .val (.ref onorm), .val (.ref otype), .val .null, .val (.ref onb), .val (.ref ona), .val (.ref ors)] [(.ref oa)])) _
  refine Goes.by (fun _ k => XS.aload X4.here hx rfl (hb hby d8_21) rfl rfl k) ?_
  show Goes p.tables e below (T4.setTop (mkF m 23 #[.val (.ref oa), .val (.long pl), .second, .val (.ref oname), .val (.ref otext), .val (.ref onorm), .val (.ref otype), .val .null, .val (.ref onb), .val (.ref ona), .val (.ref ors)] [(.ref onorm), (.ref oa)])) _
  obtain ⟨T5, h5, X5, e5, W5, st5⟩ := putF X4 hx hZ hown (host := "") (Or.inl (hw _ (List.mem_of_getElem? (i := 52) rfl))) Via.refl e4 F_oa_normal E_oa (Or.inr ⟨(hw _ (List.mem_of_getElem? (i := 53) rfl)), rfl, hnm⟩) (hw _ (List.mem_of_getElem? (i := 35) rfl)) (ty := (.object "java/lang/String")) (by decide) rfl rfl (g := (mkF m 23 #[.val (.ref oa), .val (.long pl), .second, .val (.ref oname), .val (.ref otext), .val (.ref onorm), .val (.ref otype), .val .null, .val (.ref onb), .val (.ref ona), .val (.ref ors)] [(.ref onorm), (.ref oa)])) rfl rfl (hb hby d8_23)
  refine Goes.by st5 ?_
  have F_oa_normal : Fld Z h5 oa "org/unitspan/ead/DateElement" "normal" "Ljava/lang/String;" (.ref onorm) := F_oa_normal.same W5
  have N5 := Fr.snoc X5 N4 g_oa
  have Zs5 : n0 ≤ h5.size := Nat.le_trans Zs4 (Keep.of_wr W5).1
  have K5 : Keep h0 h5 [oa] := K4.wr W5 (Or.inl (List.mem_of_getElem? (i := 0) rfl))
  have E_oa : Exa Z h5 oa "org/unitspan/ead/DateElement" := E_oa.wr W5
  have F_oa_line : Fld Z h5 oa "org/unitspan/ead/DateElement" "line" "J" (.long pl) := F_oa_line.other W5 (Or.inr (slot_ne (Or.inr (hw _ (List.mem_of_getElem? (i := 47) rfl))) (Or.inr (hw _ (List.mem_of_getElem? (i := 53) rfl))) (by decide) (t := .long) (t' := (.object "java/lang/String")) (by decide) (by decide)))
  have F_oa_name : Fld Z h5 oa "org/unitspan/ead/DateElement" "name" "Ljava/lang/String;" (.ref oname) := F_oa_name.other W5 (Or.inr (slot_ne (Or.inr (hw _ (List.mem_of_getElem? (i := 49) rfl))) (Or.inr (hw _ (List.mem_of_getElem? (i := 53) rfl))) (by decide) (t := (.object "java/lang/String")) (t' := (.object "java/lang/String")) (by decide) (by decide)))
  have F_oa_text : Fld Z h5 oa "org/unitspan/ead/DateElement" "text" "Ljava/lang/String;" (.ref otext) := F_oa_text.other W5 (Or.inr (slot_ne (Or.inr (hw _ (List.mem_of_getElem? (i := 51) rfl))) (Or.inr (hw _ (List.mem_of_getElem? (i := 53) rfl))) (by decide) (t := (.object "java/lang/String")) (t' := (.object "java/lang/String")) (by decide) (by decide)))
  have F_oa_unitdateType : Fld Z h5 oa "org/unitspan/ead/DateElement" "unitdateType" "Ljava/lang/String;" .null := F_oa_unitdateType.other W5 (Or.inr (slot_ne (Or.inr (hw _ (List.mem_of_getElem? (i := 55) rfl))) (Or.inr (hw _ (List.mem_of_getElem? (i := 53) rfl))) (by decide) (t := (.object "java/lang/String")) (t' := (.object "java/lang/String")) (by decide) (by decide)))
  have F_oa_standardDate : Fld Z h5 oa "org/unitspan/ead/DateElement" "standardDate" "Ljava/lang/String;" .null := F_oa_standardDate.other W5 (Or.inr (slot_ne (Or.inr (hw _ (List.mem_of_getElem? (i := 57) rfl))) (Or.inr (hw _ (List.mem_of_getElem? (i := 53) rfl))) (by decide) (t := (.object "java/lang/String")) (t' := (.object "java/lang/String")) (by decide) (by decide)))
  have F_oa_notBefore : Fld Z h5 oa "org/unitspan/ead/DateElement" "notBefore" "Ljava/lang/String;" .null := F_oa_notBefore.other W5 (Or.inr (slot_ne (Or.inr (hw _ (List.mem_of_getElem? (i := 59) rfl))) (Or.inr (hw _ (List.mem_of_getElem? (i := 53) rfl))) (by decide) (t := (.object "java/lang/String")) (t' := (.object "java/lang/String")) (by decide) (by decide)))
  have F_oa_notAfter : Fld Z h5 oa "org/unitspan/ead/DateElement" "notAfter" "Ljava/lang/String;" .null := F_oa_notAfter.other W5 (Or.inr (slot_ne (Or.inr (hw _ (List.mem_of_getElem? (i := 61) rfl))) (Or.inr (hw _ (List.mem_of_getElem? (i := 53) rfl))) (by decide) (t := (.object "java/lang/String")) (t' := (.object "java/lang/String")) (by decide) (by decide)))
  have F_oa_rangeStart : Fld Z h5 oa "org/unitspan/ead/DateElement" "rangeStart" "Ljava/lang/String;" .null := F_oa_rangeStart.other W5 (Or.inr (slot_ne (Or.inr (hw _ (List.mem_of_getElem? (i := 63) rfl))) (Or.inr (hw _ (List.mem_of_getElem? (i := 53) rfl))) (by decide) (t := (.object "java/lang/String")) (t' := (.object "java/lang/String")) (by decide) (by decide)))
  show Goes p.tables e below (T5.setTop (mkF m 26 #[.val (.ref oa), .val (.long pl), .second, .val (.ref oname), .val (.ref otext), .val (.ref onorm), .val (.ref otype), .val .null, .val (.ref onb), .val (.ref ona), .val (.ref ors)] [])) _
  refine Goes.by (fun _ k => XS.aloadN X5.here hx rfl (hb hby d8_26) rfl rfl k) ?_
  show Goes p.tables e below (T5.setTop (mkF m 27 #[.val (.ref oa), .val (.long pl), .second, .val (.ref oname), .val (.ref otext), .val (.ref onorm), .val (.ref otype), .val .null, .val (.ref onb), .val (.ref ona), .val (.ref ors)] [(.ref oa)])) _
  refine Goes.by (fun _ k => XS.aload X5.here hx rfl (hb hby d8_27) rfl rfl k) ?_
  show Goes p.tables e below (T5.setTop (mkF m 29 #[.val (.ref oa), .val (.long pl), .second, .val (.ref oname), .val (.ref otext), .val (.ref onorm), .val (.ref otype), .val .null, .val (.ref onb), .val (.ref ona), .val (.ref ors)] [(.ref otype), (.ref oa)])) _
  obtain ⟨T6, h6, X6, e6, W6, st6⟩ := putF X5 hx hZ hown (host := "") (Or.inl (hw _ (List.mem_of_getElem? (i := 54) rfl))) Via.refl e5 F_oa_unitdateType E_oa (Or.inr ⟨(hw _ (List.mem_of_getElem? (i := 55) rfl)), rfl, hnm⟩) (hw _ (List.mem_of_getElem? (i := 35) rfl)) (ty := (.object "java/lang/String")) (by decide) rfl rfl (g := (mkF m 29 #[.val (.ref oa), .val (.long pl), .second, .val (.ref oname), .val (.ref otext), .val (.ref onorm), .val (.ref otype), .val .null, .val (.ref onb), .val (.ref ona), .val (.ref ors)] [(.ref otype), (.ref oa)])) rfl rfl (hb hby d8_29)
  refine Goes.by st6 ?_
  have F_oa_unitdateType : Fld Z h6 oa "org/unitspan/ead/DateElement" "unitdateType" "Ljava/lang/String;" (.ref otype) := F_oa_unitdateType.same W6
  have N6 := Fr.snoc X6 N5 g_oa
  have Zs6 : n0 ≤ h6.size := Nat.le_trans Zs5 (Keep.of_wr W6).1
  have K6 : Keep h0 h6 [oa] := K5.wr W6 (Or.inl (List.mem_of_getElem? (i := 0) rfl))
  have E_oa : Exa Z h6 oa "org/unitspan/ead/DateElement" := E_oa.wr W6
  have F_oa_line : Fld Z h6 oa "org/unitspan/ead/DateElement" "line" "J" (.long pl) := F_oa_line.other W6 (Or.inr (slot_ne (Or.inr (hw _ (List.mem_of_getElem? (i := 47) rfl))) (Or.inr (hw _ (List.mem_of_getElem? (i := 55) rfl))) (by decide) (t := .long) (t' := (.object "java/lang/String")) (by decide) (by decide)))
  have F_oa_name : Fld Z h6 oa "org/unitspan/ead/DateElement" "name" "Ljava/lang/String;" (.ref oname) := F_oa_name.other W6 (Or.inr (slot_ne (Or.inr (hw _ (List.mem_of_getElem? (i := 49) rfl))) (Or.inr (hw _ (List.mem_of_getElem? (i := 55) rfl))) (by decide) (t := (.object "java/lang/String")) (t' := (.object "java/lang/String")) (by decide) (by decide)))
  have F_oa_text : Fld Z h6 oa "org/unitspan/ead/DateElement" "text" "Ljava/lang/String;" (.ref otext) := F_oa_text.other W6 (Or.inr (slot_ne (Or.inr (hw _ (List.mem_of_getElem? (i := 51) rfl))) (Or.inr (hw _ (List.mem_of_getElem? (i := 55) rfl))) (by decide) (t := (.object "java/lang/String")) (t' := (.object "java/lang/String")) (by decide) (by decide)))
  have F_oa_normal : Fld Z h6 oa "org/unitspan/ead/DateElement" "normal" "Ljava/lang/String;" (.ref onorm) := F_oa_normal.other W6 (Or.inr (slot_ne (Or.inr (hw _ (List.mem_of_getElem? (i := 53) rfl))) (Or.inr (hw _ (List.mem_of_getElem? (i := 55) rfl))) (by decide) (t := (.object "java/lang/String")) (t' := (.object "java/lang/String")) (by decide) (by decide)))
  have F_oa_standardDate : Fld Z h6 oa "org/unitspan/ead/DateElement" "standardDate" "Ljava/lang/String;" .null := F_oa_standardDate.other W6 (Or.inr (slot_ne (Or.inr (hw _ (List.mem_of_getElem? (i := 57) rfl))) (Or.inr (hw _ (List.mem_of_getElem? (i := 55) rfl))) (by decide) (t := (.object "java/lang/String")) (t' := (.object "java/lang/String")) (by decide) (by decide)))
  have F_oa_notBefore : Fld Z h6 oa "org/unitspan/ead/DateElement" "notBefore" "Ljava/lang/String;" .null := F_oa_notBefore.other W6 (Or.inr (slot_ne (Or.inr (hw _ (List.mem_of_getElem? (i := 59) rfl))) (Or.inr (hw _ (List.mem_of_getElem? (i := 55) rfl))) (by decide) (t := (.object "java/lang/String")) (t' := (.object "java/lang/String")) (by decide) (by decide)))
  have F_oa_notAfter : Fld Z h6 oa "org/unitspan/ead/DateElement" "notAfter" "Ljava/lang/String;" .null := F_oa_notAfter.other W6 (Or.inr (slot_ne (Or.inr (hw _ (List.mem_of_getElem? (i := 61) rfl))) (Or.inr (hw _ (List.mem_of_getElem? (i := 55) rfl))) (by decide) (t := (.object "java/lang/String")) (t' := (.object "java/lang/String")) (by decide) (by decide)))
  have F_oa_rangeStart : Fld Z h6 oa "org/unitspan/ead/DateElement" "rangeStart" "Ljava/lang/String;" .null := F_oa_rangeStart.other W6 (Or.inr (slot_ne (Or.inr (hw _ (List.mem_of_getElem? (i := 63) rfl))) (Or.inr (hw _ (List.mem_of_getElem? (i := 55) rfl))) (by decide) (t := (.object "java/lang/String")) (t' := (.object "java/lang/String")) (by decide) (by decide)))
  show Goes p.tables e below (T6.setTop (mkF m 32 #[.val (.ref oa), .val (.long pl), .second, .val (.ref oname), .val (.ref otext), .val (.ref onorm), .val (.ref otype), .val .null, .val (.ref onb), .val (.ref ona), .val (.ref ors)] [])) _
  refine Goes.by (fun _ k => XS.aloadN X6.here hx rfl (hb hby d8_32) rfl rfl k) ?_
  show Goes p.tables e below (T6.setTop (mkF m 33 #[.val (.ref oa), .val (.long pl), .second, .val (.ref oname), .val (.ref otext), .val (.ref onorm), .val (.ref otype), .val .null, .val (.ref onb), .val (.ref ona), .val (.ref ors)] [(.ref oa)])) _
  refine Goes.by (fun _ k => XS.aload X6.here hx rfl (hb hby d8_33) rfl rfl k) ?_
  show Goes p.tables e below (T6.setTop (mkF m 35 #[.val (.ref oa), .val (.long pl), .second, .val (.ref oname), .val (.ref otext), .val (.ref onorm), .val (.ref otype), .val .null, .val (.ref onb), .val (.ref ona), .val (.ref ors)] [.null, (.ref oa)])) _
  obtain ⟨T7, h7, X7, e7, W7, st7⟩ := putF X6 hx hZ hown (host := "") (Or.inl (hw _ (List.mem_of_getElem? (i := 56) rfl))) Via.refl e6 F_oa_standardDate E_oa (Or.inr ⟨(hw _ (List.mem_of_getElem? (i := 57) rfl)), rfl, hnm⟩) (hw _ (List.mem_of_getElem? (i := 35) rfl)) (ty := (.object "java/lang/String")) (by decide) rfl rfl (g := (mkF m 35 #[.val (.ref oa), .val (.long pl), .second, .val (.ref oname), .val (.ref otext), .val (.ref onorm), .val (.ref otype), .val .null, .val (.ref onb), .val (.ref ona), .val (.ref ors)] [.null, (.ref oa)])) rfl rfl (hb hby d8_35)
  refine Goes.by st7 ?_
  have F_oa_standardDate : Fld Z h7 oa "org/unitspan/ead/DateElement" "standardDate" "Ljava/lang/String;" .null := F_oa_standardDate.same W7
  have N7 := Fr.snoc X7 N6 g_oa
  have Zs7 : n0 ≤ h7.size := Nat.le_trans Zs6 (Keep.of_wr W7).1
  have K7 : Keep h0 h7 [oa] := K6.wr W7 (Or.inl (List.mem_of_getElem? (i := 0) rfl))
  have E_oa : Exa Z h7 oa "org/unitspan/ead/DateElement" := E_oa.wr W7
  have F_oa_line : Fld Z h7 oa "org/unitspan/ead/DateElement" "line" "J" (.long pl) := F_oa_line.other W7 (Or.inr (slot_ne (Or.inr (hw _ (List.mem_of_getElem? (i := 47) rfl))) (Or.inr (hw _ (List.mem_of_getElem? (i := 57) rfl))) (by decide) (t := .long) (t' := (.object "java/lang/String")) (by decide) (by decide)))
  have F_oa_name : Fld Z h7 oa "org/unitspan/ead/DateElement" "name" "Ljava/lang/String;" (.ref oname) := F_oa_name.other W7 (Or.inr (slot_ne (Or.inr (hw _ (List.mem_of_getElem? (i := 49) rfl))) (Or.inr (hw _ (List.mem_of_getElem? (i := 57) rfl))) (by decide) (t := (.object "java/lang/String")) (t' := (.object "java/lang/String")) (by decide) (by decide)))
  have F_oa_text : Fld Z h7 oa "org/unitspan/ead/DateElement" "text" "Ljava/lang/String;" (.ref otext) := F_oa_text.other W7 (Or.inr (slot_ne (Or.inr (hw _ (List.mem_of_getElem? (i := 51) rfl))) (Or.inr (hw _ (List.mem_of_getElem? (i := 57) rfl))) (by decide) (t := (.object "java/lang/String")) (t' := (.object "java/lang/String")) (by decide) (by decide)))
  have F_oa_normal : Fld Z h7 oa "org/unitspan/ead/DateElement" "normal" "Ljava/lang/String;" (.ref onorm) := F_oa_normal.other W7 (Or.inr (slot_ne (Or.inr (hw _ (List.mem_of_getElem? (i := 53) rfl))) (Or.inr (hw _ (List.mem_of_getElem? (i := 57) rfl))) (by decide) (t := (.object "java/lang/String")) (t' := (.object "java/lang/String")) (by decide) (by decide)))
  have F_oa_unitdateType : Fld Z h7 oa "org/unitspan/ead/DateElement" "unitdateType" "Ljava/lang/String;" (.ref otype) := F_oa_unitdateType.other W7 (Or.inr (slot_ne (Or.inr (hw _ (List.mem_of_getElem? (i := 55) rfl))) (Or.inr (hw _ (List.mem_of_getElem? (i := 57) rfl))) (by decide) (t := (.object "java/lang/String")) (t' := (.object "java/lang/String")) (by decide) (by decide)))
  have F_oa_notBefore : Fld Z h7 oa "org/unitspan/ead/DateElement" "notBefore" "Ljava/lang/String;" .null := F_oa_notBefore.other W7 (Or.inr (slot_ne (Or.inr (hw _ (List.mem_of_getElem? (i := 59) rfl))) (Or.inr (hw _ (List.mem_of_getElem? (i := 57) rfl))) (by decide) (t := (.object "java/lang/String")) (t' := (.object "java/lang/String")) (by decide) (by decide)))
  have F_oa_notAfter : Fld Z h7 oa "org/unitspan/ead/DateElement" "notAfter" "Ljava/lang/String;" .null := F_oa_notAfter.other W7 (Or.inr (slot_ne (Or.inr (hw _ (List.mem_of_getElem? (i := 61) rfl))) (Or.inr (hw _ (List.mem_of_getElem? (i := 57) rfl))) (by decide) (t := (.object "java/lang/String")) (t' := (.object "java/lang/String")) (by decide) (by decide)))
  have F_oa_rangeStart : Fld Z h7 oa "org/unitspan/ead/DateElement" "rangeStart" "Ljava/lang/String;" .null := F_oa_rangeStart.other W7 (Or.inr (slot_ne (Or.inr (hw _ (List.mem_of_getElem? (i := 63) rfl))) (Or.inr (hw _ (List.mem_of_getElem? (i := 57) rfl))) (by decide) (t := (.object "java/lang/String")) (t' := (.object "java/lang/String")) (by decide) (by decide)))
  show Goes p.tables e below (T7.setTop (mkF m 38 #[.val (.ref oa), .val (.long pl), .second, .val (.ref oname), .val (.ref otext), .val (.ref onorm), .val (.ref otype), .val .null, .val (.ref onb), .val (.ref ona), .val (.ref ors)] [])) _
  refine Goes.by (fun _ k => XS.aloadN X7.here hx rfl (hb hby d8_38) rfl rfl k) ?_
  show Goes p.tables e below (T7.setTop (mkF m 39 #[.val (.ref oa), .val (.long pl), .second, .val (.ref oname), .val (.ref otext), .val (.ref onorm), .val (.ref otype), .val .null, .val (.ref onb), .val (.ref ona), .val (.ref ors)] [(.ref oa)])) _
  refine Goes.by (fun _ k => XS.aload X7.here hx rfl (hb hby d8_39) rfl rfl k) ?_
  show Goes p.tables e below (T7.setTop (mkF m 41 #[.val (.ref oa), .val (.long pl), .second, .val (.ref oname), .val (.ref otext), .val (.ref onorm), .val (.ref otype), .val .null, .val (.ref onb), .val (.ref ona), .val (.ref ors)] [(.ref onb), (.ref oa)])) _
  obtain ⟨T8, h8, X8, e8, W8, st8⟩ := putF X7 hx hZ hown (host := "") (Or.inl (hw _ (List.mem_of_getElem? (i := 58) rfl))) Via.refl e7 F_oa_notBefore E_oa (Or.inr ⟨(hw _ (List.mem_of_getElem? (i := 59) rfl)), rfl, hnm⟩) (hw _ (List.mem_of_getElem? (i := 35) rfl)) (ty := (.object "java/lang/String")) (by decide) rfl rfl (g := (mkF m 41 #[.val (.ref oa), .val (.long pl), .second, .val (.ref oname), .val (.ref otext), .val (.ref onorm), .val (.ref otype), .val .null, .val (.ref onb), .val (.ref ona), .val (.ref ors)] [(.ref onb), (.ref oa)])) rfl rfl (hb hby d8_41)
  refine Goes.by st8 ?_
  have F_oa_notBefore : Fld Z h8 oa "org/unitspan/ead/DateElement" "notBefore" "Ljava/lang/String;" (.ref onb) := F_oa_notBefore.same W8
  have N8 := Fr.snoc X8 N7 g_oa
  have Zs8 : n0 ≤ h8.size := Nat.le_trans Zs7 (Keep.of_wr W8).1
  have K8 : Keep h0 h8 [oa] := K7.wr W8 (Or.inl (List.mem_of_getElem? (i := 0) rfl))
  have E_oa : Exa Z h8 oa "org/unitspan/ead/DateElement" := E_oa.wr W8
  have F_oa_line : Fld Z h8 oa "org/unitspan/ead/DateElement" "line" "J" (.long pl) := F_oa_line.other W8 (Or.inr (slot_ne (Or.inr (hw _ (List.mem_of_getElem? (i := 47) rfl))) (Or.inr (hw _ (List.mem_of_getElem? (i := 59) rfl))) (by decide) (t := .long) (t' := (.object "java/lang/String")) (by decide) (by decide)))
  have F_oa_name : Fld Z h8 oa "org/unitspan/ead/DateElement" "name" "Ljava/lang/String;" (.ref oname) := F_oa_name.other W8 (Or.inr (slot_ne (Or.inr (hw _ (List.mem_of_getElem? (i := 49) rfl))) (Or.inr (hw _ (List.mem_of_getElem? (i := 59) rfl))) (by decide) (t := (.object "java/lang/String")) (t' := (.object "java/lang/String")) (by decide) (by decide)))
  have F_oa_text : Fld Z h8 oa "org/unitspan/ead/DateElement" "text" "Ljava/lang/String;" (.ref otext) := F_oa_text.other W8 (Or.inr (slot_ne (Or.inr (hw _ (List.mem_of_getElem? (i := 51) rfl))) (Or.inr (hw _ (List.mem_of_getElem? (i := 59) rfl))) (by decide) (t := (.object "java/lang/String")) (t' := (.object "java/lang/String")) (by decide) (by decide)))
  have F_oa_normal : Fld Z h8 oa "org/unitspan/ead/DateElement" "normal" "Ljava/lang/String;" (.ref onorm) := F_oa_normal.other W8 (Or.inr (slot_ne (Or.inr (hw _ (List.mem_of_getElem? (i := 53) rfl))) (Or.inr (hw _ (List.mem_of_getElem? (i := 59) rfl))) (by decide) (t := (.object "java/lang/String")) (t' := (.object "java/lang/String")) (by decide) (by decide)))
  have F_oa_unitdateType : Fld Z h8 oa "org/unitspan/ead/DateElement" "unitdateType" "Ljava/lang/String;" (.ref otype) := F_oa_unitdateType.other W8 (Or.inr (slot_ne (Or.inr (hw _ (List.mem_of_getElem? (i := 55) rfl))) (Or.inr (hw _ (List.mem_of_getElem? (i := 59) rfl))) (by decide) (t := (.object "java/lang/String")) (t' := (.object "java/lang/String")) (by decide) (by decide)))
  have F_oa_standardDate : Fld Z h8 oa "org/unitspan/ead/DateElement" "standardDate" "Ljava/lang/String;" .null := F_oa_standardDate.other W8 (Or.inr (slot_ne (Or.inr (hw _ (List.mem_of_getElem? (i := 57) rfl))) (Or.inr (hw _ (List.mem_of_getElem? (i := 59) rfl))) (by decide) (t := (.object "java/lang/String")) (t' := (.object "java/lang/String")) (by decide) (by decide)))
  have F_oa_notAfter : Fld Z h8 oa "org/unitspan/ead/DateElement" "notAfter" "Ljava/lang/String;" .null := F_oa_notAfter.other W8 (Or.inr (slot_ne (Or.inr (hw _ (List.mem_of_getElem? (i := 61) rfl))) (Or.inr (hw _ (List.mem_of_getElem? (i := 59) rfl))) (by decide) (t := (.object "java/lang/String")) (t' := (.object "java/lang/String")) (by decide) (by decide)))
  have F_oa_rangeStart : Fld Z h8 oa "org/unitspan/ead/DateElement" "rangeStart" "Ljava/lang/String;" .null := F_oa_rangeStart.other W8 (Or.inr (slot_ne (Or.inr (hw _ (List.mem_of_getElem? (i := 63) rfl))) (Or.inr (hw _ (List.mem_of_getElem? (i := 59) rfl))) (by decide) (t := (.object "java/lang/String")) (t' := (.object "java/lang/String")) (by decide) (by decide)))
  show Goes p.tables e below (T8.setTop (mkF m 44 #[.val (.ref oa), .val (.long pl), .second, .val (.ref oname), .val (.ref otext), .val (.ref onorm), .val (.ref otype), .val .null, .val (.ref onb), .val (.ref ona), .val (.ref ors)] [])) _
  refine Goes.by (fun _ k => XS.aloadN X8.here hx rfl (hb hby d8_44) rfl rfl k) ?_
  show Goes p.tables e below (T8.setTop (mkF m 45 #[.val (.ref oa), .val (.long pl), .second, .val (.ref oname), .val (.ref otext), .val (.ref onorm), .val (.ref otype), .val .null, .val (.ref onb), .val (.ref ona), .val (.ref ors)] [(.ref oa)])) _
  refine Goes.by (fun _ k => XS.aload X8.here hx rfl (hb hby d8_45) rfl rfl k) ?_
  show Goes p.tables e below (T8.setTop (mkF m 47 #[.val (.ref oa), .val (.long pl), .second, .val (.ref oname), .val (.ref otext), .val (.ref onorm), .val (.ref otype), .val .null, .val (.ref onb), .val (.ref ona), .val (.ref ors)] [(.ref ona), (.ref oa)])) _
  obtain ⟨T9, h9, X9, e9, W9, st9⟩ := putF X8 hx hZ hown (host := "") (Or.inl (hw _ (List.mem_of_getElem? (i := 60) rfl))) Via.refl e8 F_oa_notAfter E_oa (Or.inr ⟨(hw _ (List.mem_of_getElem? (i := 61) rfl)), rfl, hnm⟩) (hw _ (List.mem_of_getElem? (i := 35) rfl)) (ty := (.object "java/lang/String")) (by decide) rfl rfl (g := (mkF m 47 #[.val (.ref oa), .val (.long pl), .second, .val (.ref oname), .val (.ref otext), .val (.ref onorm), .val (.ref otype), .val .null, .val (.ref onb), .val (.ref ona), .val (.ref ors)] [(.ref ona), (.ref oa)])) rfl rfl (hb hby d8_47)
  refine Goes.by st9 ?_
  have F_oa_notAfter : Fld Z h9 oa "org/unitspan/ead/DateElement" "notAfter" "Ljava/lang/String;" (.ref ona) := F_oa_notAfter.same W9
  have N9 := Fr.snoc X9 N8 g_oa
  have Zs9 : n0 ≤ h9.size := Nat.le_trans Zs8 (Keep.of_wr W9).1
  have K9 : Keep h0 h9 [oa] := K8.wr W9 (Or.inl (List.mem_of_getElem? (i := 0) rfl))
  have E_oa : Exa Z h9 oa "org/unitspan/ead/DateElement" := E_oa.wr W9
  have F_oa_line : Fld Z h9 oa "org/unitspan/ead/DateElement" "line" "J" (.long pl) := F_oa_line.other W9 (Or.inr (slot_ne (Or.inr (hw _ (List.mem_of_getElem? (i := 47) rfl))) (Or.inr (hw _ (List.mem_of_getElem? (i := 61) rfl))) (by decide) (t := .long) (t' := (.object "java/lang/String")) (by decide) (by decide)))
  have F_oa_name : Fld Z h9 oa "org/unitspan/ead/DateElement" "name" "Ljava/lang/String;" (.ref oname) := F_oa_name.other W9 (Or.inr (slot_ne (Or.inr (hw _ (List.mem_of_getElem? (i := 49) rfl))) (Or.inr (hw _ (List.mem_of_getElem? (i := 61) rfl))) (by decide) (t := (.object "java/lang/String")) (t' := (.object "java/lang/String")) (by decide) (by decide)))
  have F_oa_text : Fld Z h9 oa "org/unitspan/ead/DateElement" "text" "Ljava/lang/String;" (.ref otext) := F_oa_text.other W9 (Or.inr (slot_ne (Or.inr (hw _ (List.mem_of_getElem? (i := 51) rfl))) (Or.inr (hw _ (List.mem_of_getElem? (i := 61) rfl))) (by decide) (t := (.object "java/lang/String")) (t' := (.object "java/lang/String")) (by decide) (by decide)))
  have F_oa_normal : Fld Z h9 oa "org/unitspan/ead/DateElement" "normal" "Ljava/lang/String;" (.ref onorm) := F_oa_normal.other W9 (Or.inr (slot_ne (Or.inr (hw _ (List.mem_of_getElem? (i := 53) rfl))) (Or.inr (hw _ (List.mem_of_getElem? (i := 61) rfl))) (by decide) (t := (.object "java/lang/String")) (t' := (.object "java/lang/String")) (by decide) (by decide)))
  have F_oa_unitdateType : Fld Z h9 oa "org/unitspan/ead/DateElement" "unitdateType" "Ljava/lang/String;" (.ref otype) := F_oa_unitdateType.other W9 (Or.inr (slot_ne (Or.inr (hw _ (List.mem_of_getElem? (i := 55) rfl))) (Or.inr (hw _ (List.mem_of_getElem? (i := 61) rfl))) (by decide) (t := (.object "java/lang/String")) (t' := (.object "java/lang/String")) (by decide) (by decide)))
  have F_oa_standardDate : Fld Z h9 oa "org/unitspan/ead/DateElement" "standardDate" "Ljava/lang/String;" .null := F_oa_standardDate.other W9 (Or.inr (slot_ne (Or.inr (hw _ (List.mem_of_getElem? (i := 57) rfl))) (Or.inr (hw _ (List.mem_of_getElem? (i := 61) rfl))) (by decide) (t := (.object "java/lang/String")) (t' := (.object "java/lang/String")) (by decide) (by decide)))
  have F_oa_notBefore : Fld Z h9 oa "org/unitspan/ead/DateElement" "notBefore" "Ljava/lang/String;" (.ref onb) := F_oa_notBefore.other W9 (Or.inr (slot_ne (Or.inr (hw _ (List.mem_of_getElem? (i := 59) rfl))) (Or.inr (hw _ (List.mem_of_getElem? (i := 61) rfl))) (by decide) (t := (.object "java/lang/String")) (t' := (.object "java/lang/String")) (by decide) (by decide)))
  have F_oa_rangeStart : Fld Z h9 oa "org/unitspan/ead/DateElement" "rangeStart" "Ljava/lang/String;" .null := F_oa_rangeStart.other W9 (Or.inr (slot_ne (Or.inr (hw _ (List.mem_of_getElem? (i := 63) rfl))) (Or.inr (hw _ (List.mem_of_getElem? (i := 61) rfl))) (by decide) (t := (.object "java/lang/String")) (t' := (.object "java/lang/String")) (by decide) (by decide)))
  show Goes p.tables e below (T9.setTop (mkF m 50 #[.val (.ref oa), .val (.long pl), .second, .val (.ref oname), .val (.ref otext), .val (.ref onorm), .val (.ref otype), .val .null, .val (.ref onb), .val (.ref ona), .val (.ref ors)] [])) _
  refine Goes.by (fun _ k => XS.aloadN X9.here hx rfl (hb hby d8_50) rfl rfl k) ?_
  show Goes p.tables e below (T9.setTop (mkF m 51 #[.val (.ref oa), .val (.long pl), .second, .val (.ref oname), .val (.ref otext), .val (.ref onorm), .val (.ref otype), .val .null, .val (.ref onb), .val (.ref ona), .val (.ref ors)] [(.ref oa)])) _
  refine Goes.by (fun _ k => XS.aload X9.here hx rfl (hb hby d8_51) rfl rfl k) ?_
  show Goes p.tables e below (T9.setTop (mkF m 53 #[.val (.ref oa), .val (.long pl), .second, .val (.ref oname), .val (.ref otext), .val (.ref onorm), .val (.ref otype), .val .null, .val (.ref onb), .val (.ref ona), .val (.ref ors)] [(.ref ors), (.ref oa)])) _
  obtain ⟨T10, h10, X10, e10, W10, st10⟩ := putF X9 hx hZ hown (host := "") (Or.inl (hw _ (List.mem_of_getElem? (i := 62) rfl))) Via.refl e9 F_oa_rangeStart E_oa (Or.inr ⟨(hw _ (List.mem_of_getElem? (i := 63) rfl)), rfl, hnm⟩) (hw _ (List.mem_of_getElem? (i := 35) rfl)) (ty := (.object "java/lang/String")) (by decide) rfl rfl (g := (mkF m 53 #[.val (.ref oa), .val (.long pl), .second, .val (.ref oname), .val (.ref otext), .val (.ref onorm), .val (.ref otype), .val .null, .val (.ref onb), .val (.ref ona), .val (.ref ors)] [(.ref ors), (.ref oa)])) rfl rfl (hb hby d8_53)
  refine Goes.by st10 ?_
  have F_oa_rangeStart : Fld Z h10 oa "org/unitspan/ead/DateElement" "rangeStart" "Ljava/lang/String;" (.ref ors) := F_oa_rangeStart.same W10
  have N10 := Fr.snoc X10 N9 g_oa
  have Zs10 : n0 ≤ h10.size := Nat.le_trans Zs9 (Keep.of_wr W10).1
  have K10 : Keep h0 h10 [oa] := K9.wr W10 (Or.inl (List.mem_of_getElem? (i := 0) rfl))
  have E_oa : Exa Z h10 oa "org/unitspan/ead/DateElement" := E_oa.wr W10
  have F_oa_line : Fld Z h10 oa "org/unitspan/ead/DateElement" "line" "J" (.long pl) := F_oa_line.other W10 (Or.inr (slot_ne (Or.inr (hw _ (List.mem_of_getElem? (i := 47) rfl))) (Or.inr (hw _ (List.mem_of_getElem? (i := 63) rfl))) (by decide) (t := .long) (t' := (.object "java/lang/String")) (by decide) (by decide)))
  have F_oa_name : Fld Z h10 oa "org/unitspan/ead/DateElement" "name" "Ljava/lang/String;" (.ref oname) := F_oa_name.other W10 (Or.inr (slot_ne (Or.inr (hw _ (List.mem_of_getElem? (i := 49) rfl))) (Or.inr (hw _ (List.mem_of_getElem? (i := 63) rfl))) (by decide) (t := (.object "java/lang/String")) (t' := (.object "java/lang/String")) (by decide) (by decide)))
  have F_oa_text : Fld Z h10 oa "org/unitspan/ead/DateElement" "text" "Ljava/lang/String;" (.ref otext) := F_oa_text.other W10 (Or.inr (slot_ne (Or.inr (hw _ (List.mem_of_getElem? (i := 51) rfl))) (Or.inr (hw _ (List.mem_of_getElem? (i := 63) rfl))) (by decide) (t := (.object "java/lang/String")) (t' := (.object "java/lang/String")) (by decide) (by decide)))
  have F_oa_normal : Fld Z h10 oa "org/unitspan/ead/DateElement" "normal" "Ljava/lang/String;" (.ref onorm) := F_oa_normal.other W10 (Or.inr (slot_ne (Or.inr (hw _ (List.mem_of_getElem? (i := 53) rfl))) (Or.inr (hw _ (List.mem_of_getElem? (i := 63) rfl))) (by decide) (t := (.object "java/lang/String")) (t' := (.object "java/lang/String")) (by decide) (by decide)))
  have F_oa_unitdateType : Fld Z h10 oa "org/unitspan/ead/DateElement" "unitdateType" "Ljava/lang/String;" (.ref otype) := F_oa_unitdateType.other W10 (Or.inr (slot_ne (Or.inr (hw _ (List.mem_of_getElem? (i := 55) rfl))) (Or.inr (hw _ (List.mem_of_getElem? (i := 63) rfl))) (by decide) (t := (.object "java/lang/String")) (t' := (.object "java/lang/String")) (by decide) (by decide)))
  have F_oa_standardDate : Fld Z h10 oa "org/unitspan/ead/DateElement" "standardDate" "Ljava/lang/String;" .null := F_oa_standardDate.other W10 (Or.inr (slot_ne (Or.inr (hw _ (List.mem_of_getElem? (i := 57) rfl))) (Or.inr (hw _ (List.mem_of_getElem? (i := 63) rfl))) (by decide) (t := (.object "java/lang/String")) (t' := (.object "java/lang/String")) (by decide) (by decide)))
  have F_oa_notBefore : Fld Z h10 oa "org/unitspan/ead/DateElement" "notBefore" "Ljava/lang/String;" (.ref onb) := F_oa_notBefore.other W10 (Or.inr (slot_ne (Or.inr (hw _ (List.mem_of_getElem? (i := 59) rfl))) (Or.inr (hw _ (List.mem_of_getElem? (i := 63) rfl))) (by decide) (t := (.object "java/lang/String")) (t' := (.object "java/lang/String")) (by decide) (by decide)))
  have F_oa_notAfter : Fld Z h10 oa "org/unitspan/ead/DateElement" "notAfter" "Ljava/lang/String;" (.ref ona) := F_oa_notAfter.other W10 (Or.inr (slot_ne (Or.inr (hw _ (List.mem_of_getElem? (i := 61) rfl))) (Or.inr (hw _ (List.mem_of_getElem? (i := 63) rfl))) (by decide) (t := (.object "java/lang/String")) (t' := (.object "java/lang/String")) (by decide) (by decide)))
  show Goes p.tables e below (T10.setTop (mkF m 56 #[.val (.ref oa), .val (.long pl), .second, .val (.ref oname), .val (.ref otext), .val (.ref onorm), .val (.ref otype), .val .null, .val (.ref onb), .val (.ref ona), .val (.ref ors)] [])) _
  obtain ⟨fs, hr, hrun, hended, hW, hsame⟩ := X10.leave (v := none) (fun _ => rfl)
  refine ⟨_, _, X10.returnOut hx Bd.returns (hb hby d8_56) hr, hrun, hended, _, _, rfl, ?_, ⟨_, rfl⟩, hW, hsame.mono (by decide) (by decide)⟩
  show Q8rn Z oa pl oname otext onorm otype onb ona ors h0 n0 _ T10.heap _
  rw [e10]
  exact ⟨rfl, N10, K10, E_oa, F_oa_normal, F_oa_standardDate⟩
theorem ef10rn (m : MethodId) (oa : Addr) : entryFrame m #[(.ref oa)] 1 = mkF m 0 #[.val (.ref oa)] [] := by first | (simp [entryFrame, mkF, argsToLocals, Value.category]; done) | rfl
def Q10rn (Z : State) (oa : Addr) (onorm : Addr) (h0 : Heap) (n0 : Nat) (v : Option Value) (h : Heap) (L : List Loc) : Prop := v = some (.ref onorm) ∧ Fr n0 L ∧ h = h0
set_option maxRecDepth 65536 in
set_option maxHeartbeats 40000000 in
theorem rm10rn (l : Launch) (Z : State) (a0 : Array Value) (hw : ∀ d ∈ tables_1, d.before a0 Z = true) (ws : List Jvm.Cond) (oa : Addr) (onorm : Addr) (h0 : Heap) (n0 : Nat) (Z0 : n0 ≤ h0.size) (F_oa_normal : Fld Z h0 oa "org/unitspan/ead/DateElement" "normal" "Ljava/lang/String;" (.ref onorm)) (F_oa_standardDate : Fld Z h0 oa "org/unitspan/ead/DateElement" "standardDate" "Ljava/lang/String;" .null) :
    MetFree l (⟨"org/unitspan/ead/DateElement", "statedDate", "()Ljava/lang/String;"⟩ : MethodName) (head1 (Jvm.Cond.code (⟨"org/unitspan/ead/DateElement", "statedDate", "()Ljava/lang/String;"⟩ : MethodName) prog_38_method_5_code 1 (some (.object "java/lang/String")) :: ws) ({ frames := 0, cells := 0, slots := 0, locals := 0 } : Room)) (fun a U => a = #[(.ref oa)] ∧ Z.Warmed39 U.vm ∧ U.heap = h0) (fun _ _ _ _ _ => True) (fun _ U o U' => ∃ v L, o = .returned v ∧ Q10rn Z oa onorm h0 n0 v U'.heap L ∧ FrameEnd U o U' L ({ frames := 0, cells := 0, slots := 0, locals := 0 } : Room).cells ({ frames := 0, cells := 0, slots := 0, locals := 0 } : Room).slots) := by
  refine MetFree.of_bodySF (plainFor_of_name pn_2) hisR ?_
  intro p e s m args below meth c s₁ Bd hml0 hP hK
  obtain ⟨rfl, hZ, hh⟩ := hP
  have hx := Bd.exec
  have hby := Bd.bytes
  have hml : c.maxLocals = 1 := hml0
  have hown : s.vm.findClass "org/unitspan/ead/DateElement" = some m.cls := findClass_of_methodNamed Bd.named
  have hnm := (name_of_methodNamed Bd.named Bd.method).1
  have X0 : Stand p l e ({ frames := 0, cells := 0, slots := 0, locals := 0 } : Room) s m #[(.ref oa)] below meth c s₁ [] 0 0 := Stand.of_body Bd
  have e0 : s₁.heap = h0 := by rw [← hh, Bd.state]; rfl
  have N0 := Fr.nil n0
  refine Goes.by (fun _ k => castTop (ef10rn m oa) k) ?_
  show Goes p.tables e below (s₁.setTop (mkF m 0 #[.val (.ref oa)] [])) _
  refine Goes.by (fun _ k => XS.aloadN X0.here hx rfl (hb hby d10_0) rfl rfl k) ?_
  show Goes p.tables e below (s₁.setTop (mkF m 1 #[.val (.ref oa)] [(.ref oa)])) _
  obtain ⟨T1, X1, e1, st1⟩ := getF X0 hx hZ hown (host := "") (Or.inl (hw _ (List.mem_of_getElem? (i := 52) rfl))) Via.refl e0 F_oa_normal (g := (mkF m 1 #[.val (.ref oa)] [(.ref oa)])) rfl rfl (hb hby d10_1)
  refine Goes.by st1 ?_
  show Goes p.tables e below (T1.setTop (mkF m 4 #[.val (.ref oa)] [(.ref onorm)])) _
  refine Goes.by (fun _ k => XS.ifnullNo X1.here hx rfl (hb hby d10_4) rfl k) ?_
  show Goes p.tables e below (T1.setTop (mkF m 7 #[.val (.ref oa)] [])) _
  refine Goes.by (fun _ k => XS.aloadN X1.here hx rfl (hb hby d10_7) rfl rfl k) ?_
  show Goes p.tables e below (T1.setTop (mkF m 8 #[.val (.ref oa)] [(.ref oa)])) _
  obtain ⟨T2, X2, e2, st2⟩ := getF X1 hx hZ hown (host := "") (Or.inl (hw _ (List.mem_of_getElem? (i := 52) rfl))) Via.refl e1 F_oa_normal (g := (mkF m 8 #[.val (.ref oa)] [(.ref oa)])) rfl rfl (hb hby d10_8)
  refine Goes.by st2 ?_
  show Goes p.tables e below (T2.setTop (mkF m 11 #[.val (.ref oa)] [(.ref onorm)])) _
  refine Goes.by (fun _ k => XS.goto X2.here hx rfl (pc0 := 11) (pc' := 18) rfl (hb hby d10_11) (by decide) (by decide) k) ?_
  show Goes p.tables e below (T2.setTop (mkF m 18 #[.val (.ref oa)] [(.ref onorm)])) _
  obtain ⟨fs, hr, hrun, hended, hW, hsame⟩ := X2.leave (v := some (.ref onorm)) (fun h => by rw [Bd.returns] at h; cases h)
  refine ⟨_, _, retOut X2 hx Bd.returns (i := .areturn) (narR rfl) (Or.inr (Or.inr (Or.inr (Or.inr ⟨rfl, rfl, rfl⟩)))) (hb hby d10_18) hr, hrun, hended, _, _, rfl, ?_, ⟨_, rfl⟩, hW, hsame.mono (by decide) (by decide)⟩
  show Q10rn Z oa onorm h0 n0 _ T2.heap _
  rw [e2]
  exact ⟨rfl, N0, rfl⟩
theorem ef8nr (m : MethodId) (oa : Addr) (pl : Int64) (oname : Addr) (otext : Addr) (otype : Addr) (ostd : Addr) (onb : Addr) (ona : Addr) (ors : Addr) : entryFrame m #[(.ref oa), (.long pl), (.ref oname), (.ref otext), .null, (.ref otype), (.ref ostd), (.ref onb), (.ref ona), (.ref ors)] 11 = mkF m 0 #[.val (.ref oa), .val (.long pl), .second, .val (.ref oname), .val (.ref otext), .val .null, .val (.ref otype), .val (.ref ostd), .val (.ref onb), .val (.ref ona), .val (.ref ors)] [] := by first | (simp [entryFrame, mkF, argsToLocals, Value.category]; done) | rfl
def Q8nr (Z : State) (oa : Addr) (pl : Int64) (oname : Addr) (otext : Addr) (otype : Addr) (ostd : Addr) (onb : Addr) (ona : Addr) (ors : Addr) (h0 : Heap) (n0 : Nat) (v : Option Value) (h : Heap) (L : List Loc) : Prop := v = none ∧ Fr n0 L ∧ Keep h0 h [oa] ∧ Exa Z h oa "org/unitspan/ead/DateElement" ∧ Fld Z h oa "org/unitspan/ead/DateElement" "normal" "Ljava/lang/String;" .null ∧ Fld Z h oa "org/unitspan/ead/DateElement" "standardDate" "Ljava/lang/String;" (.ref ostd)
set_option maxRecDepth 65536 in
set_option maxHeartbeats 40000000 in
theorem rm8nr (l : Launch) (Z : State) (a0 : Array Value) (hw : ∀ d ∈ tables_1, d.before a0 Z = true) (ws : List Jvm.Cond) (oa : Addr) (pl : Int64) (oname : Addr) (otext : Addr) (otype : Addr) (ostd : Addr) (onb : Addr) (ona : Addr) (ors : Addr) (h0 : Heap) (n0 : Nat) (Z0 : n0 ≤ h0.size) (E_oa : Exa Z h0 oa "org/unitspan/ead/DateElement") (F_oa_line : Fld Z h0 oa "org/unitspan/ead/DateElement" "line" "J" (.long (0 : Int64))) (F_oa_name : Fld Z h0 oa "org/unitspan/ead/DateElement" "name" "Ljava/lang/String;" .null) (F_oa_text : Fld Z h0 oa "org/unitspan/ead/DateElement" "text" "Ljava/lang/String;" .null) (F_oa_normal : Fld Z h0 oa "org/unitspan/ead/DateElement" "normal" "Ljava/lang/String;" .null) (F_oa_unitdateType : Fld Z h0 oa "org/unitspan/ead/DateElement" "unitdateType" "Ljava/lang/String;" .null) (F_oa_standardDate : Fld Z h0 oa "org/unitspan/ead/DateElement" "standardDate" "Ljava/lang/String;" .null) (F_oa_notBefore : Fld Z h0 oa "org/unitspan/ead/DateElement" "notBefore" "Ljava/lang/String;" .null) (F_oa_notAfter : Fld Z h0 oa "org/unitspan/ead/DateElement" "notAfter" "Ljava/lang/String;" .null) (F_oa_rangeStart : Fld Z h0 oa "org/unitspan/ead/DateElement" "rangeStart" "Ljava/lang/String;" .null) (g_oa : n0 ≤ oa) :
    MetFree l (⟨"org/unitspan/ead/DateElement", "<init>", "(JLjava/lang/String;Ljava/lang/String;Ljava/lang/String;Ljava/lang/String;Ljava/lang/String;Ljava/lang/String;Ljava/lang/String;Ljava/lang/String;)V"⟩ : MethodName) (head1 (Jvm.Cond.code (⟨"org/unitspan/ead/DateElement", "<init>", "(JLjava/lang/String;Ljava/lang/String;Ljava/lang/String;Ljava/lang/String;Ljava/lang/String;Ljava/lang/String;Ljava/lang/String;Ljava/lang/String;)V"⟩ : MethodName) prog_38_method_2_code 11 none :: ws) ({ frames := 2, cells := 0, slots := 0, locals := 24 } : Room)) (fun a U => a = #[(.ref oa), (.long pl), (.ref oname), (.ref otext), .null, (.ref otype), (.ref ostd), (.ref onb), (.ref ona), (.ref ors)] ∧ Z.Warmed39 U.vm ∧ U.heap = h0) (fun _ _ _ _ _ => True) (fun _ U o U' => ∃ v L, o = .returned v ∧ Q8nr Z oa pl oname otext otype ostd onb ona ors h0 n0 v U'.heap L ∧ FrameEnd U o U' L ({ frames := 2, cells := 0, slots := 0, locals := 24 } : Room).cells ({ frames := 2, cells := 0, slots := 0, locals := 24 } : Room).slots) := by
  refine MetFree.of_bodySF (plainFor_of_name pn_2) hisR ?_
  intro p e s m args below meth c s₁ Bd hml0 hP hK
  obtain ⟨rfl, hZ, hh⟩ := hP
  have hx := Bd.exec
  have hby := Bd.bytes
  have hml : c.maxLocals = 11 := hml0
  have hown : s.vm.findClass "org/unitspan/ead/DateElement" = some m.cls := findClass_of_methodNamed Bd.named
  have hnm := (name_of_methodNamed Bd.named Bd.method).1
  have X0 : Stand p l e ({ frames := 2, cells := 0, slots := 0, locals := 24 } : Room) s m #[(.ref oa), (.long pl), (.ref oname), (.ref otext), .null, (.ref otype), (.ref ostd), (.ref onb), (.ref ona), (.ref ors)] below meth c s₁ [] 0 0 := Stand.of_body Bd
  have e0 : s₁.heap = h0 := by rw [← hh, Bd.state]; rfl
  have N0 := Fr.nil n0
  refine Goes.by (fun _ k => castTop (ef8nr m oa pl oname otext otype ostd onb ona ors) k) ?_
  show Goes p.tables e below (s₁.setTop (mkF m 0 #[.val (.ref oa), .val (.long pl), .second, .val (.ref oname), .val (.ref otext), .val .null, .val (.ref otype), .val (.ref ostd), .val (.ref onb), .val (.ref ona), .val (.ref ors)] [])) _
  refine Goes.by (fun _ k => XS.aloadN X0.here hx rfl (hb hby d8_0) rfl rfl k) ?_
  show Goes p.tables e below (s₁.setTop (mkF m 1 #[.val (.ref oa), .val (.long pl), .second, .val (.ref oname), .val (.ref otext), .val .null, .val (.ref otype), .val (.ref ostd), .val (.ref onb), .val (.ref ona), .val (.ref ors)] [(.ref oa)])) _
  obtain ⟨_, _, ⟨T1, L1, k1, n1⟩, -, X1, ⟨Lc1, hQ1, l1, y1, z1⟩, st1⟩ := X0.specialBack hx (y := (⟨"java/lang/Record", "<init>", "()V"⟩ : MethodName)) rfl hown (mvT hZ (hw _ (List.mem_of_getElem? (i := 40) rfl))) (mvT hZ (hw _ (List.mem_of_getElem? (i := 41) rfl))) (mvT hZ (hw _ (List.mem_of_getElem? (i := 44) rfl))) (by decide) (backOf (W := 0) (rm9 l Z a0 hw [] oa h0 n0 Z0) hZ (hw _ (List.mem_of_getElem? (i := 44) rfl)) (hw _ (List.mem_of_getElem? (i := 43) rfl)) (by decide) (by decide)) (g := (mkF m 1 #[.val (.ref oa), .val (.long pl), .second, .val (.ref oname), .val (.ref otext), .val .null, .val (.ref otype), .val (.ref ostd), .val (.ref onb), .val (.ref ona), .val (.ref ors)] [(.ref oa)])) rfl (by rw [hml]; rfl) (Steps.refl _) (a := oa) (argsL := []) (rest := []) (lenOf pd_1 rfl) rfl (by show 2 * 0 + _ ≤ _; exact Nat.le_of_eq rfl) (hb hby d8_1) (fun _ _ => ⟨rfl, e0, (by decide : 0 + 0 ≤ _), (by decide : 0 + 0 ≤ _)⟩)
  dsimp only [Pt.U, Pt.locs, Pt.cells, Pt.slots] at X1 l1 y1 z1 st1 hQ1
  subst l1 y1 z1
  obtain ⟨rfl, N1q, e1⟩ := hQ1
  have N1 := Fr.app N0 N1q
  refine Goes.via st1 ?_
  show Goes p.tables e below (T1.setTop (mkF m 4 #[.val (.ref oa), .val (.long pl), .second, .val (.ref oname), .val (.ref otext), .val .null, .val (.ref otype), .val (.ref ostd), .val (.ref onb), .val (.ref ona), .val (.ref ors)] [])) _
  refine Goes.by (fun _ k => XS.aloadN X1.here hx rfl (hb hby d8_4) rfl rfl k) ?_
  show Goes p.tables e below (T1.setTop (mkF m 5 #[.val (.ref oa), .val (.long pl), .second, .val (.ref oname), .val (.ref otext), .val .null, .val (.ref otype), .val (.ref ostd), .val (.ref onb), .val (.ref ona), .val (.ref ors)] [(.ref oa)])) _
  refine Goes.by (fun _ k => XS.lloadN X1.here hx rfl (hb hby d8_5) rfl k) ?_
  show Goes p.tables e below (T1.setTop (mkF m 6 #[.val (.ref oa), .val (.long pl), .second, .val (.ref oname), .val (.ref otext), .val .null, .val (.ref otype), .val (.ref ostd), .val (.ref onb), .val (.ref ona), .val (.ref ors)] [(.long pl), (.ref oa)])) _
  obtain ⟨T2, h2, X2, e2, W2, st2⟩ := putF X1 hx hZ hown (host := "") (Or.inl (hw _ (List.mem_of_getElem? (i := 46) rfl))) Via.refl e1 F_oa_line E_oa (Or.inr ⟨(hw _ (List.mem_of_getElem? (i := 47) rfl)), rfl, hnm⟩) (hw _ (List.mem_of_getElem? (i := 35) rfl)) (ty := .long) (by decide) rfl rfl (g := (mkF m 6 #[.val (.ref oa), .val (.long pl), .second, .val (.ref oname), .val (.ref otext), .val .null, .val (.ref otype), .val (.ref ostd), .val (.ref onb), .val (.ref ona), .val (.ref ors)] [(.long pl), (.ref oa)])) rfl rfl (hb hby d8_6)
  refine Goes.by st2 ?_
  have F_oa_line : Fld Z h2 oa "org/unitspan/ead/DateElement" "line" "J" (.long pl) := F_oa_line.same W2
  have N2 := Fr.snoc X2 N1 g_oa
  have Zs2 : n0 ≤ h2.size := Nat.le_trans Z0 (Keep.of_wr W2).1
  have K2 : Keep h0 h2 [oa] := (Keep.refl h0 [oa]).wr W2 (Or.inl (List.mem_of_getElem? (i := 0) rfl))
  have E_oa : Exa Z h2 oa "org/unitspan/ead/DateElement" := E_oa.wr W2
  have F_oa_name : Fld Z h2 oa "org/unitspan/ead/DateElement" "name" "Ljava/lang/String;" .null := F_oa_name.other W2 (Or.inr (slot_ne (Or.inr (hw _ (List.mem_of_getElem? (i := 49) rfl))) (Or.inr (hw _ (List.mem_of_getElem? (i := 47) rfl))) (by decide) (t := (.object "java/lang/String")) (t' := .long) (by decide) (by decide)))
  have F_oa_text : Fld Z h2 oa "org/unitspan/ead/DateElement" "text" "Ljava/lang/String;" .null := F_oa_text.other W2 (Or.inr (slot_ne (Or.inr (hw _ (List.mem_of_getElem? (i := 51) rfl))) (Or.inr (hw _ (List.mem_of_getElem? (i := 47) rfl))) (by decide) (t := (.object "java/lang/String")) (t' := .long) (by decide) (by decide)))
  have F_oa_normal : Fld Z h2 oa "org/unitspan/ead/DateElement" "normal" "Ljava/lang/String;" .null := F_oa_normal.other W2 (Or.inr (slot_ne (Or.inr (hw _ (List.mem_of_getElem? (i := 53) rfl))) (Or.inr (hw _ (List.mem_of_getElem? (i := 47) rfl))) (by decide) (t := (.object "java/lang/String")) (t' := .long) (by decide) (by decide)))
  have F_oa_unitdateType : Fld Z h2 oa "org/unitspan/ead/DateElement" "unitdateType" "Ljava/lang/String;" .null := F_oa_unitdateType.other W2 (Or.inr (slot_ne (Or.inr (hw _ (List.mem_of_getElem? (i := 55) rfl))) (Or.inr (hw _ (List.mem_of_getElem? (i := 47) rfl))) (by decide) (t := (.object "java/lang/String")) (t' := .long) (by decide) (by decide)))
  have F_oa_standardDate : Fld Z h2 oa "org/unitspan/ead/DateElement" "standardDate" "Ljava/lang/String;" .null := F_oa_standardDate.other W2 (Or.inr (slot_ne (Or.inr (hw _ (List.mem_of_getElem? (i := 57) rfl))) (Or.inr (hw _ (List.mem_of_getElem? (i := 47) rfl))) (by decide) (t := (.object "java/lang/String")) (t' := .long) (by decide) (by decide)))
  have F_oa_notBefore : Fld Z h2 oa "org/unitspan/ead/DateElement" "notBefore" "Ljava/lang/String;" .null := F_oa_notBefore.other W2 (Or.inr (slot_ne (Or.inr (hw _ (List.mem_of_getElem? (i := 59) rfl))) (Or.inr (hw _ (List.mem_of_getElem? (i := 47) rfl))) (by decide) (t := (.object "java/lang/String")) (t' := .long) (by decide) (by decide)))
  have F_oa_notAfter : Fld Z h2 oa "org/unitspan/ead/DateElement" "notAfter" "Ljava/lang/String;" .null := F_oa_notAfter.other W2 (Or.inr (slot_ne (Or.inr (hw _ (List.mem_of_getElem? (i := 61) rfl))) (Or.inr (hw _ (List.mem_of_getElem? (i := 47) rfl))) (by decide) (t := (.object "java/lang/String")) (t' := .long) (by decide) (by decide)))
  have F_oa_rangeStart : Fld Z h2 oa "org/unitspan/ead/DateElement" "rangeStart" "Ljava/lang/String;" .null := F_oa_rangeStart.other W2 (Or.inr (slot_ne (Or.inr (hw _ (List.mem_of_getElem? (i := 63) rfl))) (Or.inr (hw _ (List.mem_of_getElem? (i := 47) rfl))) (by decide) (t := (.object "java/lang/String")) (t' := .long) (by decide) (by decide)))
  show Goes p.tables e below (T2.setTop (mkF m 9 #[.val (.ref oa), .val (.long pl), .second, .val (.ref oname), .val (.ref otext), .val .null, .val (.ref otype), .val (.ref ostd), .val (.ref onb), .val (.ref ona), .val (.ref ors)] [])) _
  refine Goes.by (fun _ k => XS.aloadN X2.here hx rfl (hb hby d8_9) rfl rfl k) ?_
  show Goes p.tables e below (T2.setTop (mkF m 10 #[.val (.ref oa), .val (.long pl), .second, .val (.ref oname), .val (.ref otext), .val .null, .val (.ref otype), .val (.ref ostd), .val (.ref onb), .val (.ref ona), .val (.ref ors)] [(.ref oa)])) _
  refine Goes.by (fun _ k => XS.aloadN X2.here hx rfl (hb hby d8_10) rfl rfl k) ?_
  show Goes p.tables e below (T2.setTop (mkF m 11 #[.val (.ref oa), .val (.long pl), .second, .val (.ref oname), .val (.ref otext), .val .null, .val (.ref otype), .val (.ref ostd), .val (.ref onb), .val (.ref ona), .val (.ref ors)] [(.ref oname), (.ref oa)])) _
  obtain ⟨T3, h3, X3, e3, W3, st3⟩ := putF X2 hx hZ hown (host := "") (Or.inl (hw _ (List.mem_of_getElem? (i := 48) rfl))) Via.refl e2 F_oa_name E_oa (Or.inr ⟨(hw _ (List.mem_of_getElem? (i := 49) rfl)), rfl, hnm⟩) (hw _ (List.mem_of_getElem? (i := 35) rfl)) (ty := (.object "java/lang/String")) (by decide) rfl rfl (g := (mkF m 11 #[.val (.ref oa), .val (.long pl), .second, .val (.ref oname), .val (.ref otext), .val .null, .val (.ref otype), .val (.ref ostd), .val (.ref onb), .val (.ref ona), .val (.ref ors)] [(.ref oname), (.ref oa)])) rfl rfl (hb hby d8_11)
  refine Goes.by st3 ?_
  have F_oa_name : Fld Z h3 oa "org/unitspan/ead/DateElement" "name" "Ljava/lang/String;" (.ref oname) := F_oa_name.same W3
  have N3 := Fr.snoc X3 N2 g_oa
  have Zs3 : n0 ≤ h3.size := Nat.le_trans Zs2 (Keep.of_wr W3).1
  have K3 : Keep h0 h3 [oa] := K2.wr W3 (Or.inl (List.mem_of_getElem? (i := 0) rfl))
  have E_oa : Exa Z h3 oa "org/unitspan/ead/DateElement" := E_oa.wr W3
  have F_oa_line : Fld Z h3 oa "org/unitspan/ead/DateElement" "line" "J" (.long pl) := F_oa_line.other W3 (Or.inr (slot_ne (Or.inr (hw _ (List.mem_of_getElem? (i := 47) rfl))) (Or.inr (hw _ (List.mem_of_getElem? (i := 49) rfl))) (by decide) (t := .long) (t' := (.object "java/lang/String")) (by decide) (by decide)))
  have F_oa_text : Fld Z h3 oa "org/unitspan/ead/DateElement" "text" "Ljava/lang/String;" .null := F_oa_text.other W3 (Or.inr (slot_ne (Or.inr (hw _ (List.mem_of_getElem? (i := 51) rfl))) (Or.inr (hw _ (List.mem_of_getElem? (i := 49) rfl))) (by decide) (t := (.object "java/lang/String")) (t' := (.object "java/lang/String")) (by decide) (by decide)))
  have F_oa_normal : Fld Z h3 oa "org/unitspan/ead/DateElement" "normal" "Ljava/lang/String;" .null := F_oa_normal.other W3 (Or.inr (slot_ne (Or.inr (hw _ (List.mem_of_getElem? (i := 53) rfl))) (Or.inr (hw _ (List.mem_of_getElem? (i := 49) rfl))) (by decide) (t := (.object "java/lang/String")) (t' := (.object "java/lang/String")) (by decide) (by decide)))
  have F_oa_unitdateType : Fld Z h3 oa "org/unitspan/ead/DateElement" "unitdateType" "Ljava/lang/String;" .null := F_oa_unitdateType.other W3 (Or.inr (slot_ne (Or.inr (hw _ (List.mem_of_getElem? (i := 55) rfl))) (Or.inr (hw _ (List.mem_of_getElem? (i := 49) rfl))) (by decide) (t := (.object "java/lang/String")) (t' := (.object "java/lang/String")) (by decide) (by decide)))
  have F_oa_standardDate : Fld Z h3 oa "org/unitspan/ead/DateElement" "standardDate" "Ljava/lang/String;" .null := F_oa_standardDate.other W3 (Or.inr (slot_ne (Or.inr (hw _ (List.mem_of_getElem? (i := 57) rfl))) (Or.inr (hw _ (List.mem_of_getElem? (i := 49) rfl))) (by decide) (t := (.object "java/lang/String")) (t' := (.object "java/lang/String")) (by decide) (by decide)))
  have F_oa_notBefore : Fld Z h3 oa "org/unitspan/ead/DateElement" "notBefore" "Ljava/lang/String;" .null := F_oa_notBefore.other W3 (Or.inr (slot_ne (Or.inr (hw _ (List.mem_of_getElem? (i := 59) rfl))) (Or.inr (hw _ (List.mem_of_getElem? (i := 49) rfl))) (by decide) (t := (.object "java/lang/String")) (t' := (.object "java/lang/String")) (by decide) (by decide)))
  have F_oa_notAfter : Fld Z h3 oa "org/unitspan/ead/DateElement" "notAfter" "Ljava/lang/String;" .null := F_oa_notAfter.other W3 (Or.inr (slot_ne (Or.inr (hw _ (List.mem_of_getElem? (i := 61) rfl))) (Or.inr (hw _ (List.mem_of_getElem? (i := 49) rfl))) (by decide) (t := (.object "java/lang/String")) (t' := (.object "java/lang/String")) (by decide) (by decide)))
  have F_oa_rangeStart : Fld Z h3 oa "org/unitspan/ead/DateElement" "rangeStart" "Ljava/lang/String;" .null := F_oa_rangeStart.other W3 (Or.inr (slot_ne (Or.inr (hw _ (List.mem_of_getElem? (i := 63) rfl))) (Or.inr (hw _ (List.mem_of_getElem? (i := 49) rfl))) (by decide) (t := (.object "java/lang/String")) (t' := (.object "java/lang/String")) (by decide) (by decide)))
  show Goes p.tables e below (T3.setTop (mkF m 14 #[.val (.ref oa), .val (.long pl), .second, .val (.ref oname), .val (.ref otext), .val .null, .val (.ref otype), .val (.ref ostd), .val (.ref onb), .val (.ref ona), .val (.ref ors)] [])) _
  refine Goes.by (fun _ k => XS.aloadN X3.here hx rfl (hb hby d8_14) rfl rfl k) ?_
  show Goes p.tables e below (T3.setTop (mkF m 15 #[.val (.ref oa), .val (.long pl), .second, .val (.ref oname), .val (.ref otext), .val .null, .val (.ref otype), .val (.ref ostd), .val (.ref onb), .val (.ref ona), .val (.ref ors)] [(.ref oa)])) _
  refine Goes.by (fun _ k => XS.aload X3.here hx rfl (hb hby d8_15) rfl rfl k) ?_
  show Goes p.tables e below (T3.setTop (mkF m 17 #[.val (.ref oa), .val (.long pl), .second, .val (.ref oname), .val (.ref otext), .val .null, .val (.ref otype), .val (.ref ostd), .val (.ref onb), .val (.ref ona), .val (.ref ors)] [(.ref otext), (.ref oa)])) _
  obtain ⟨T4, h4, X4, e4, W4, st4⟩ := putF X3 hx hZ hown (host := "") (Or.inl (hw _ (List.mem_of_getElem? (i := 50) rfl))) Via.refl e3 F_oa_text E_oa (Or.inr ⟨(hw _ (List.mem_of_getElem? (i := 51) rfl)), rfl, hnm⟩) (hw _ (List.mem_of_getElem? (i := 35) rfl)) (ty := (.object "java/lang/String")) (by decide) rfl rfl (g := (mkF m 17 #[.val (.ref oa), .val (.long pl), .second, .val (.ref oname), .val (.ref otext), .val .null, .val (.ref otype), .val (.ref ostd), .val (.ref onb), .val (.ref ona), .val (.ref ors)] [(.ref otext), (.ref oa)])) rfl rfl (hb hby d8_17)
  refine Goes.by st4 ?_
  have F_oa_text : Fld Z h4 oa "org/unitspan/ead/DateElement" "text" "Ljava/lang/String;" (.ref otext) := F_oa_text.same W4
  have N4 := Fr.snoc X4 N3 g_oa
  have Zs4 : n0 ≤ h4.size := Nat.le_trans Zs3 (Keep.of_wr W4).1
  have K4 : Keep h0 h4 [oa] := K3.wr W4 (Or.inl (List.mem_of_getElem? (i := 0) rfl))
  have E_oa : Exa Z h4 oa "org/unitspan/ead/DateElement" := E_oa.wr W4
  have F_oa_line : Fld Z h4 oa "org/unitspan/ead/DateElement" "line" "J" (.long pl) := F_oa_line.other W4 (Or.inr (slot_ne (Or.inr (hw _ (List.mem_of_getElem? (i := 47) rfl))) (Or.inr (hw _ (List.mem_of_getElem? (i := 51) rfl))) (by decide) (t := .long) (t' := (.object "java/lang/String")) (by decide) (by decide)))
  have F_oa_name : Fld Z h4 oa "org/unitspan/ead/DateElement" "name" "Ljava/lang/String;" (.ref oname) := F_oa_name.other W4 (Or.inr (slot_ne (Or.inr (hw _ (List.mem_of_getElem? (i := 49) rfl))) (Or.inr (hw _ (List.mem_of_getElem? (i := 51) rfl))) (by decide) (t := (.object "java/lang/String")) (t' := (.object "java/lang/String")) (by decide) (by decide)))
  have F_oa_normal : Fld Z h4 oa "org/unitspan/ead/DateElement" "normal" "Ljava/lang/String;" .null := F_oa_normal.other W4 (Or.inr (slot_ne (Or.inr (hw _ (List.mem_of_getElem? (i := 53) rfl))) (Or.inr (hw _ (List.mem_of_getElem? (i := 51) rfl))) (by decide) (t := (.object "java/lang/String")) (t' := (.object "java/lang/String")) (by decide) (by decide)))
  have F_oa_unitdateType : Fld Z h4 oa "org/unitspan/ead/DateElement" "unitdateType" "Ljava/lang/String;" .null := F_oa_unitdateType.other W4 (Or.inr (slot_ne (Or.inr (hw _ (List.mem_of_getElem? (i := 55) rfl))) (Or.inr (hw _ (List.mem_of_getElem? (i := 51) rfl))) (by decide) (t := (.object "java/lang/String")) (t' := (.object "java/lang/String")) (by decide) (by decide)))
  have F_oa_standardDate : Fld Z h4 oa "org/unitspan/ead/DateElement" "standardDate" "Ljava/lang/String;" .null := F_oa_standardDate.other W4 (Or.inr (slot_ne (Or.inr (hw _ (List.mem_of_getElem? (i := 57) rfl))) (Or.inr (hw _ (List.mem_of_getElem? (i := 51) rfl))) (by decide) (t := (.object "java/lang/String")) (t' := (.object "java/lang/String")) (by decide) (by decide)))
  have F_oa_notBefore : Fld Z h4 oa "org/unitspan/ead/DateElement" "notBefore" "Ljava/lang/String;" .null := F_oa_notBefore.other W4 (Or.inr (slot_ne (Or.inr (hw _ (List.mem_of_getElem? (i := 59) rfl))) (Or.inr (hw _ (List.mem_of_getElem? (i := 51) rfl))) (by decide) (t := (.object "java/lang/String")) (t' := (.object "java/lang/String")) (by decide) (by decide)))
  have F_oa_notAfter : Fld Z h4 oa "org/unitspan/ead/DateElement" "notAfter" "Ljava/lang/String;" .null := F_oa_notAfter.other W4 (Or.inr (slot_ne (Or.inr (hw _ (List.mem_of_getElem? (i := 61) rfl))) (Or.inr (hw _ (List.mem_of_getElem? (i := 51) rfl))) (by decide) (t := (.object "java/lang/String")) (t' := (.object "java/lang/String")) (by decide) (by decide)))
  have F_oa_rangeStart : Fld Z h4 oa "org/unitspan/ead/DateElement" "rangeStart" "Ljava/lang/String;" .null := F_oa_rangeStart.other W4 (Or.inr (slot_ne (Or.inr (hw _ (List.mem_of_getElem? (i := 63) rfl))) (Or.inr (hw _ (List.mem_of_getElem? (i := 51) rfl))) (by decide) (t := (.object "java/lang/String")) (t' := (.object "java/lang/String")) (by decide) (by decide)))
  show Goes p.tables e below (T4.setTop (mkF m 20 #[.val (.ref oa), .val (.long pl), .second, .val (.ref oname), .val (.ref otext), .val .null, .val (.ref otype), .val (.ref ostd), .val (.ref onb), .val (.ref ona), .val (.ref ors)] [])) _
  refine Goes.by (fun _ k => XS.aloadN X4.here hx rfl (hb hby d8_20) rfl rfl k) ?_
  show Goes p.tables e below (T4.setTop (mkF m 21 #[.val (.ref oa), .val (.long pl), .second, .val (.ref oname), .val (.ref otext), .val .null, .val (.ref otype), .val (.ref ostd), .val (.ref onb), .val (.ref ona), .val (.ref ors)] [(.ref oa)])) _
  refine Goes.by (fun _ k => XS.aload X4.here hx rfl (hb hby d8_21) rfl rfl k) ?_
  show Goes p.tables e below (T4.setTop (mkF m 23 #[.val (.ref oa), .val (.long pl), .second, .val (.ref oname), .val (.ref otext), .val .null, .val (.ref otype), .val (.ref ostd), .val (.ref onb), .val (.ref ona), .val (.ref ors)] [.null, (.ref oa)])) _
  obtain ⟨T5, h5, X5, e5, W5, st5⟩ := putF X4 hx hZ hown (host := "") (Or.inl (hw _ (List.mem_of_getElem? (i := 52) rfl))) Via.refl e4 F_oa_normal E_oa (Or.inr ⟨(hw _ (List.mem_of_getElem? (i := 53) rfl)), rfl, hnm⟩) (hw _ (List.mem_of_getElem? (i := 35) rfl)) (ty := (.object "java/lang/String")) (by decide) rfl rfl (g := (mkF m 23 #[.val (.ref oa), .val (.long pl), .second, .val (.ref oname), .val (.ref otext), .val .null, .val (.ref otype), .val (.ref ostd), .val (.ref onb), .val (.ref ona), .val (.ref ors)] [.null, (.ref oa)])) rfl rfl (hb hby d8_23)
  refine Goes.by st5 ?_
  have F_oa_normal : Fld Z h5 oa "org/unitspan/ead/DateElement" "normal" "Ljava/lang/String;" .null := F_oa_normal.same W5
  have N5 := Fr.snoc X5 N4 g_oa
  have Zs5 : n0 ≤ h5.size := Nat.le_trans Zs4 (Keep.of_wr W5).1
  have K5 : Keep h0 h5 [oa] := K4.wr W5 (Or.inl (List.mem_of_getElem? (i := 0) rfl))
  have E_oa : Exa Z h5 oa "org/unitspan/ead/DateElement" := E_oa.wr W5
  have F_oa_line : Fld Z h5 oa "org/unitspan/ead/DateElement" "line" "J" (.long pl) := F_oa_line.other W5 (Or.inr (slot_ne (Or.inr (hw _ (List.mem_of_getElem? (i := 47) rfl))) (Or.inr (hw _ (List.mem_of_getElem? (i := 53) rfl))) (by decide) (t := .long) (t' := (.object "java/lang/String")) (by decide) (by decide)))
  have F_oa_name : Fld Z h5 oa "org/unitspan/ead/DateElement" "name" "Ljava/lang/String;" (.ref oname) := F_oa_name.other W5 (Or.inr (slot_ne (Or.inr (hw _ (List.mem_of_getElem? (i := 49) rfl))) (Or.inr (hw _ (List.mem_of_getElem? (i := 53) rfl))) (by decide) (t := (.object "java/lang/String")) (t' := (.object "java/lang/String")) (by decide) (by decide)))
  have F_oa_text : Fld Z h5 oa "org/unitspan/ead/DateElement" "text" "Ljava/lang/String;" (.ref otext) := F_oa_text.other W5 (Or.inr (slot_ne (Or.inr (hw _ (List.mem_of_getElem? (i := 51) rfl))) (Or.inr (hw _ (List.mem_of_getElem? (i := 53) rfl))) (by decide) (t := (.object "java/lang/String")) (t' := (.object "java/lang/String")) (by decide) (by decide)))
  have F_oa_unitdateType : Fld Z h5 oa "org/unitspan/ead/DateElement" "unitdateType" "Ljava/lang/String;" .null := F_oa_unitdateType.other W5 (Or.inr (slot_ne (Or.inr (hw _ (List.mem_of_getElem? (i := 55) rfl))) (Or.inr (hw _ (List.mem_of_getElem? (i := 53) rfl))) (by decide) (t := (.object "java/lang/String")) (t' := (.object "java/lang/String")) (by decide) (by decide)))
  have F_oa_standardDate : Fld Z h5 oa "org/unitspan/ead/DateElement" "standardDate" "Ljava/lang/String;" .null := F_oa_standardDate.other W5 (Or.inr (slot_ne (Or.inr (hw _ (List.mem_of_getElem? (i := 57) rfl))) (Or.inr (hw _ (List.mem_of_getElem? (i := 53) rfl))) (by decide) (t := (.object "java/lang/String")) (t' := (.object "java/lang/String")) (by decide) (by decide)))
  have F_oa_notBefore : Fld Z h5 oa "org/unitspan/ead/DateElement" "notBefore" "Ljava/lang/String;" .null := F_oa_notBefore.other W5 (Or.inr (slot_ne (Or.inr (hw _ (List.mem_of_getElem? (i := 59) rfl))) (Or.inr (hw _ (List.mem_of_getElem? (i := 53) rfl))) (by decide) (t := (.object "java/lang/String")) (t' := (.object "java/lang/String")) (by decide) (by decide)))
  have F_oa_notAfter : Fld Z h5 oa "org/unitspan/ead/DateElement" "notAfter" "Ljava/lang/String;" .null := F_oa_notAfter.other W5 (Or.inr (slot_ne (Or.inr (hw _ (List.mem_of_getElem? (i := 61) rfl))) (Or.inr (hw _ (List.mem_of_getElem? (i := 53) rfl))) (by decide) (t := (.object "java/lang/String")) (t' := (.object "java/lang/String")) (by decide) (by decide)))
  have F_oa_rangeStart : Fld Z h5 oa "org/unitspan/ead/DateElement" "rangeStart" "Ljava/lang/String;" .null := F_oa_rangeStart.other W5 (Or.inr (slot_ne (Or.inr (hw _ (List.mem_of_getElem? (i := 63) rfl))) (Or.inr (hw _ (List.mem_of_getElem? (i := 53) rfl))) (by decide) (t := (.object "java/lang/String")) (t' := (.object "java/lang/String")) (by decide) (by decide)))
  show Goes p.tables e below (T5.setTop (mkF m 26 #[.val (.ref oa), .val (.long pl), .second, .val (.ref oname), .val (.ref otext), .val .null, .val (.ref otype), .val (.ref ostd), .val (.ref onb), .val (.ref ona), .val (.ref ors)] [])) _
  refine Goes.by (fun _ k => XS.aloadN X5.here hx rfl (hb hby d8_26) rfl rfl k) ?_
  show Goes p.tables e below (T5.setTop (mkF m 27 #[.val (.ref oa), .val (.long pl), .second, .val (.ref oname), .val (.ref otext), .val .null, .val (.ref otype), .val (.ref ostd), .val (.ref onb), .val (.ref ona), .val (.ref ors)] [(.ref oa)])) _
  refine Goes.by (fun _ k => XS.aload X5.here hx rfl (hb hby d8_27) rfl rfl k) ?_
  show Goes p.tables e below (T5.setTop (mkF m 29 #[.val (.ref oa), .val (.long pl), .second, .val (.ref oname), .val (.ref otext), .val .null, .val (.ref otype), .val (.ref ostd), .val (.ref onb), .val (.ref ona), .val (.ref ors)] [(.ref otype), (.ref oa)])) _
  obtain ⟨T6, h6, X6, e6, W6, st6⟩ := putF X5 hx hZ hown (host := "") (Or.inl (hw _ (List.mem_of_getElem? (i := 54) rfl))) Via.refl e5 F_oa_unitdateType E_oa (Or.inr ⟨(hw _ (List.mem_of_getElem? (i := 55) rfl)), rfl, hnm⟩) (hw _ (List.mem_of_getElem? (i := 35) rfl)) (ty := (.object "java/lang/String")) (by decide) rfl rfl (g := (mkF m 29 #[.val (.ref oa), .val (.long pl), .second, .val (.ref oname), .val (.ref otext), .val .null, .val (.ref otype), .val (.ref ostd), .val (.ref onb), .val (.ref ona), .val (.ref ors)] [(.ref otype), (.ref oa)])) rfl rfl (hb hby d8_29)
  refine Goes.by st6 ?_
  have F_oa_unitdateType : Fld Z h6 oa "org/unitspan/ead/DateElement" "unitdateType" "Ljava/lang/String;" (.ref otype) := F_oa_unitdateType.same W6
  have N6 := Fr.snoc X6 N5 g_oa
  have Zs6 : n0 ≤ h6.size := Nat.le_trans Zs5 (Keep.of_wr W6).1
  have K6 : Keep h0 h6 [oa] := K5.wr W6 (Or.inl (List.mem_of_getElem? (i := 0) rfl))
  have E_oa : Exa Z h6 oa "org/unitspan/ead/DateElement" := E_oa.wr W6
  have F_oa_line : Fld Z h6 oa "org/unitspan/ead/DateElement" "line" "J" (.long pl) := F_oa_line.other W6 (Or.inr (slot_ne (Or.inr (hw _ (List.mem_of_getElem? (i := 47) rfl))) (Or.inr (hw _ (List.mem_of_getElem? (i := 55) rfl))) (by decide) (t := .long) (t' := (.object "java/lang/String")) (by decide) (by decide)))
  have F_oa_name : Fld Z h6 oa "org/unitspan/ead/DateElement" "name" "Ljava/lang/String;" (.ref oname) := F_oa_name.other W6 (Or.inr (slot_ne (Or.inr (hw _ (List.mem_of_getElem? (i := 49) rfl))) (Or.inr (hw _ (List.mem_of_getElem? (i := 55) rfl))) (by decide) (t := (.object "java/lang/String")) (t' := (.object "java/lang/String")) (by decide) (by decide)))
  have F_oa_text : Fld Z h6 oa "org/unitspan/ead/DateElement" "text" "Ljava/lang/String;" (.ref otext) := F_oa_text.other W6 (Or.inr (slot_ne (Or.inr (hw _ (List.mem_of_getElem? (i := 51) rfl))) (Or.inr (hw _ (List.mem_of_getElem? (i := 55) rfl))) (by decide) (t := (.object "java/lang/String")) (t' := (.object "java/lang/String")) (by decide) (by decide)))
  have F_oa_normal : Fld Z h6 oa "org/unitspan/ead/DateElement" "normal" "Ljava/lang/String;" .null := F_oa_normal.other W6 (Or.inr (slot_ne (Or.inr (hw _ (List.mem_of_getElem? (i := 53) rfl))) (Or.inr (hw _ (List.mem_of_getElem? (i := 55) rfl))) (by decide) (t := (.object "java/lang/String")) (t' := (.object "java/lang/String")) (by decide) (by decide)))
  have F_oa_standardDate : Fld Z h6 oa "org/unitspan/ead/DateElement" "standardDate" "Ljava/lang/String;" .null := F_oa_standardDate.other W6 (Or.inr (slot_ne (Or.inr (hw _ (List.mem_of_getElem? (i := 57) rfl))) (Or.inr (hw _ (List.mem_of_getElem? (i := 55) rfl))) (by decide) (t := (.object "java/lang/String")) (t' := (.object "java/lang/String")) (by decide) (by decide)))
  have F_oa_notBefore : Fld Z h6 oa "org/unitspan/ead/DateElement" "notBefore" "Ljava/lang/String;" .null := F_oa_notBefore.other W6 (Or.inr (slot_ne (Or.inr (hw _ (List.mem_of_getElem? (i := 59) rfl))) (Or.inr (hw _ (List.mem_of_getElem? (i := 55) rfl))) (by decide) (t := (.object "java/lang/String")) (t' := (.object "java/lang/String")) (by decide) (by decide)))
  have F_oa_notAfter : Fld Z h6 oa "org/unitspan/ead/DateElement" "notAfter" "Ljava/lang/String;" .null := F_oa_notAfter.other W6 (Or.inr (slot_ne (Or.inr (hw _ (List.mem_of_getElem? (i := 61) rfl))) (Or.inr (hw _ (List.mem_of_getElem? (i := 55) rfl))) (by decide) (t := (.object "java/lang/String")) (t' := (.object "java/lang/String")) (by decide) (by decide)))
  have F_oa_rangeStart : Fld Z h6 oa "org/unitspan/ead/DateElement" "rangeStart" "Ljava/lang/String;" .null := F_oa_rangeStart.other W6 (Or.inr (slot_ne (Or.inr (hw _ (List.mem_of_getElem? (i := 63) rfl))) (Or.inr (hw _ (List.mem_of_getElem? (i := 55) rfl))) (by decide) (t := (.object "java/lang/String")) (t' := (.object "java/lang/String")) (by decide) (by decide)))
  show Goes p.tables e below (T6.setTop (mkF m 32 #[.val (.ref oa), .val (.long pl), .second, .val (.ref oname), .val (.ref otext), .val .null, .val (.ref otype), .val (.ref ostd), .val (.ref onb), .val (.ref ona), .val (.ref ors)] [])) _
  refine Goes.by (fun _ k => XS.aloadN X6.here hx rfl (hb hby d8_32) rfl rfl k) ?_
  show Goes p.tables e below (T6.setTop (mkF m 33 #[.val (.ref oa), .val (.long pl), .second, .val (.ref oname), .val (.ref otext), .val .null, .val (.ref otype), .val (.ref ostd), .val (.ref onb), .val (.ref ona), .val (.ref ors)] [(.ref oa)])) _
  refine Goes.by (fun _ k => XS.aload X6.here hx rfl (hb hby d8_33) rfl rfl k) ?_
  show Goes p.tables e below (T6.setTop (mkF m 35 #[.val (.ref oa), .val (.long pl), .second, .val (.ref oname), .val (.ref otext), .val .null, .val (.ref otype), .val (.ref ostd), .val (.ref onb), .val (.ref ona), .val (.ref ors)] [(.ref ostd), (.ref oa)])) _
  obtain ⟨T7, h7, X7, e7, W7, st7⟩ := putF X6 hx hZ hown (host := "") (Or.inl (hw _ (List.mem_of_getElem? (i := 56) rfl))) Via.refl e6 F_oa_standardDate E_oa (Or.inr ⟨(hw _ (List.mem_of_getElem? (i := 57) rfl)), rfl, hnm⟩) (hw _ (List.mem_of_getElem? (i := 35) rfl)) (ty := (.object "java/lang/String")) (by decide) rfl rfl (g := (mkF m 35 #[.val (.ref oa), .val (.long pl), .second, .val (.ref oname), .val (.ref otext), .val .null, .val (.ref otype), .val (.ref ostd), .val (.ref onb), .val (.ref ona), .val (.ref ors)] [(.ref ostd), (.ref oa)])) rfl rfl (hb hby d8_35)
  refine Goes.by st7 ?_
  have F_oa_standardDate : Fld Z h7 oa "org/unitspan/ead/DateElement" "standardDate" "Ljava/lang/String;" (.ref ostd) := F_oa_standardDate.same W7
  have N7 := Fr.snoc X7 N6 g_oa
  have Zs7 : n0 ≤ h7.size := Nat.le_trans Zs6 (Keep.of_wr W7).1
  have K7 : Keep h0 h7 [oa] := K6.wr W7 (Or.inl (List.mem_of_getElem? (i := 0) rfl))
  have E_oa : Exa Z h7 oa "org/unitspan/ead/DateElement" := E_oa.wr W7
  have F_oa_line : Fld Z h7 oa "org/unitspan/ead/DateElement" "line" "J" (.long pl) := F_oa_line.other W7 (Or.inr (slot_ne (Or.inr (hw _ (List.mem_of_getElem? (i := 47) rfl))) (Or.inr (hw _ (List.mem_of_getElem? (i := 57) rfl))) (by decide) (t := .long) (t' := (.object "java/lang/String")) (by decide) (by decide)))
  have F_oa_name : Fld Z h7 oa "org/unitspan/ead/DateElement" "name" "Ljava/lang/String;" (.ref oname) := F_oa_name.other W7 (Or.inr (slot_ne (Or.inr (hw _ (List.mem_of_getElem? (i := 49) rfl))) (Or.inr (hw _ (List.mem_of_getElem? (i := 57) rfl))) (by decide) (t := (.object "java/lang/String")) (t' := (.object "java/lang/String")) (by decide) (by decide)))
  have F_oa_text : Fld Z h7 oa "org/unitspan/ead/DateElement" "text" "Ljava/lang/String;" (.ref otext) := F_oa_text.other W7 (Or.inr (slot_ne (Or.inr (hw _ (List.mem_of_getElem? (i := 51) rfl))) (Or.inr (hw _ (List.mem_of_getElem? (i := 57) rfl))) (by decide) (t := (.object "java/lang/String")) (t' := (.object "java/lang/String")) (by decide) (by decide)))
  have F_oa_normal : Fld Z h7 oa "org/unitspan/ead/DateElement" "normal" "Ljava/lang/String;" .null := F_oa_normal.other W7 (Or.inr (slot_ne (Or.inr (hw _ (List.mem_of_getElem? (i := 53) rfl))) (Or.inr (hw _ (List.mem_of_getElem? (i := 57) rfl))) (by decide) (t := (.object "java/lang/String")) (t' := (.object "java/lang/String")) (by decide) (by decide)))
  have F_oa_unitdateType : Fld Z h7 oa "org/unitspan/ead/DateElement" "unitdateType" "Ljava/lang/String;" (.ref otype) := F_oa_unitdateType.other W7 (Or.inr (slot_ne (Or.inr (hw _ (List.mem_of_getElem? (i := 55) rfl))) (Or.inr (hw _ (List.mem_of_getElem? (i := 57) rfl))) (by decide) (t := (.object "java/lang/String")) (t' := (.object "java/lang/String")) (by decide) (by decide)))
  have F_oa_notBefore : Fld Z h7 oa "org/unitspan/ead/DateElement" "notBefore" "Ljava/lang/String;" .null := F_oa_notBefore.other W7 (Or.inr (slot_ne (Or.inr (hw _ (List.mem_of_getElem? (i := 59) rfl))) (Or.inr (hw _ (List.mem_of_getElem? (i := 57) rfl))) (by decide) (t := (.object "java/lang/String")) (t' := (.object "java/lang/String")) (by decide) (by decide)))
  have F_oa_notAfter : Fld Z h7 oa "org/unitspan/ead/DateElement" "notAfter" "Ljava/lang/String;" .null := F_oa_notAfter.other W7 (Or.inr (slot_ne (Or.inr (hw _ (List.mem_of_getElem? (i := 61) rfl))) (Or.inr (hw _ (List.mem_of_getElem? (i := 57) rfl))) (by decide) (t := (.object "java/lang/String")) (t' := (.object "java/lang/String")) (by decide) (by decide)))
  have F_oa_rangeStart : Fld Z h7 oa "org/unitspan/ead/DateElement" "rangeStart" "Ljava/lang/String;" .null := F_oa_rangeStart.other W7 (Or.inr (slot_ne (Or.inr (hw _ (List.mem_of_getElem? (i := 63) rfl))) (Or.inr (hw _ (List.mem_of_getElem? (i := 57) rfl))) (by decide) (t := (.object "java/lang/String")) (t' := (.object "java/lang/String")) (by decide) (by decide)))
  show Goes p.tables e below (T7.setTop (mkF m 38 #[.val (.ref oa), .val (.long pl), .second, .val (.ref oname), .val (.ref otext), .val .null, .val (.ref otype), .val (.ref ostd), .val (.ref onb), .val (.ref ona), .val (.ref ors)] [])) _
  refine Goes.by (fun _ k => XS.aloadN X7.here hx rfl (hb hby d8_38) rfl rfl k) ?_
  show Goes p.tables e below (T7.setTop (mkF m 39 #[.val (.ref oa), .val (.long pl), .second, .val (.ref oname), .val (.ref otext), .val .null, .val (.ref otype), .val (.ref ostd), .val (.ref onb), .val (.ref ona), .val (.ref ors)] [(.ref oa)])) _
  refine Goes.by (fun _ k => XS.aload X7.here hx rfl (hb hby d8_39) rfl rfl k) ?_
  show Goes p.tables e below (T7.setTop (mkF m 41 #[.val (.ref oa), .val (.long pl), .second, .val (.ref oname), .val (.ref otext), .val .null, .val (.ref otype), .val (.ref ostd), .val (.ref onb), .val (.ref ona), .val (.ref ors)] [(.ref onb), (.ref oa)])) _
  obtain ⟨T8, h8, X8, e8, W8, st8⟩ := putF X7 hx hZ hown (host := "") (Or.inl (hw _ (List.mem_of_getElem? (i := 58) rfl))) Via.refl e7 F_oa_notBefore E_oa (Or.inr ⟨(hw _ (List.mem_of_getElem? (i := 59) rfl)), rfl, hnm⟩) (hw _ (List.mem_of_getElem? (i := 35) rfl)) (ty := (.object "java/lang/String")) (by decide) rfl rfl (g := (mkF m 41 #[.val (.ref oa), .val (.long pl), .second, .val (.ref oname), .val (.ref otext), .val .null, .val (.ref otype), .val (.ref ostd), .val (.ref onb), .val (.ref ona), .val (.ref ors)] [(.ref onb), (.ref oa)])) rfl rfl (hb hby d8_41)
  refine Goes.by st8 ?_
  have F_oa_notBefore : Fld Z h8 oa "org/unitspan/ead/DateElement" "notBefore" "Ljava/lang/String;" (.ref onb) := F_oa_notBefore.same W8
  have N8 := Fr.snoc X8 N7 g_oa
  have Zs8 : n0 ≤ h8.size := Nat.le_trans Zs7 (Keep.of_wr W8).1
  have K8 : Keep h0 h8 [oa] := K7.wr W8 (Or.inl (List.mem_of_getElem? (i := 0) rfl))
  have E_oa : Exa Z h8 oa "org/unitspan/ead/DateElement" := E_oa.wr W8
  have F_oa_line : Fld Z h8 oa "org/unitspan/ead/DateElement" "line" "J" (.long pl) := F_oa_line.other W8 (Or.inr (slot_ne (Or.inr (hw _ (List.mem_of_getElem? (i := 47) rfl))) (Or.inr (hw _ (List.mem_of_getElem? (i := 59) rfl))) (by decide) (t := .long) (t' := (.object "java/lang/String")) (by decide) (by decide)))
  have F_oa_name : Fld Z h8 oa "org/unitspan/ead/DateElement" "name" "Ljava/lang/String;" (.ref oname) := F_oa_name.other W8 (Or.inr (slot_ne (Or.inr (hw _ (List.mem_of_getElem? (i := 49) rfl))) (Or.inr (hw _ (List.mem_of_getElem? (i := 59) rfl))) (by decide) (t := (.object "java/lang/String")) (t' := (.object "java/lang/String")) (by decide) (by decide)))
  have F_oa_text : Fld Z h8 oa "org/unitspan/ead/DateElement" "text" "Ljava/lang/String;" (.ref otext) := F_oa_text.other W8 (Or.inr (slot_ne (Or.inr (hw _ (List.mem_of_getElem? (i := 51) rfl))) (Or.inr (hw _ (List.mem_of_getElem? (i := 59) rfl))) (by decide) (t := (.object "java/lang/String")) (t' := (.object "java/lang/String")) (by decide) (by decide)))
  have F_oa_normal : Fld Z h8 oa "org/unitspan/ead/DateElement" "normal" "Ljava/lang/String;" .null := F_oa_normal.other W8 (Or.inr (slot_ne (Or.inr (hw _ (List.mem_of_getElem? (i := 53) rfl))) (Or.inr (hw _ (List.mem_of_getElem? (i := 59) rfl))) (by decide) (t := (.object "java/lang/String")) (t' := (.object "java/lang/String")) (by decide) (by decide)))
  have F_oa_unitdateType : Fld Z h8 oa "org/unitspan/ead/DateElement" "unitdateType" "Ljava/lang/String;" (.ref otype) := F_oa_unitdateType.other W8 (Or.inr (slot_ne (Or.inr (hw _ (List.mem_of_getElem? (i := 55) rfl))) (Or.inr (hw _ (List.mem_of_getElem? (i := 59) rfl))) (by decide) (t := (.object "java/lang/String")) (t' := (.object "java/lang/String")) (by decide) (by decide)))
  have F_oa_standardDate : Fld Z h8 oa "org/unitspan/ead/DateElement" "standardDate" "Ljava/lang/String;" (.ref ostd) := F_oa_standardDate.other W8 (Or.inr (slot_ne (Or.inr (hw _ (List.mem_of_getElem? (i := 57) rfl))) (Or.inr (hw _ (List.mem_of_getElem? (i := 59) rfl))) (by decide) (t := (.object "java/lang/String")) (t' := (.object "java/lang/String")) (by decide) (by decide)))
  have F_oa_notAfter : Fld Z h8 oa "org/unitspan/ead/DateElement" "notAfter" "Ljava/lang/String;" .null := F_oa_notAfter.other W8 (Or.inr (slot_ne (Or.inr (hw _ (List.mem_of_getElem? (i := 61) rfl))) (Or.inr (hw _ (List.mem_of_getElem? (i := 59) rfl))) (by decide) (t := (.object "java/lang/String")) (t' := (.object "java/lang/String")) (by decide) (by decide)))
  have F_oa_rangeStart : Fld Z h8 oa "org/unitspan/ead/DateElement" "rangeStart" "Ljava/lang/String;" .null := F_oa_rangeStart.other W8 (Or.inr (slot_ne (Or.inr (hw _ (List.mem_of_getElem? (i := 63) rfl))) (Or.inr (hw _ (List.mem_of_getElem? (i := 59) rfl))) (by decide) (t := (.object "java/lang/String")) (t' := (.object "java/lang/String")) (by decide) (by decide)))
  show Goes p.tables e below (T8.setTop (mkF m 44 #[.val (.ref oa), .val (.long pl), .second, .val (.ref oname), .val (.ref otext), .val .null, .val (.ref otype), .val (.ref ostd), .val (.ref onb), .val (.ref ona), .val (.ref ors)] [])) _
  refine Goes.by (fun _ k => XS.aloadN X8.here hx rfl (hb hby d8_44) rfl rfl k) ?_
  show Goes p.tables e below (T8.setTop (mkF m 45 #[.val (.ref oa), .val (.long pl), .second, .val (.ref oname), .val (.ref otext), .val .null, .val (.ref otype), .val (.ref ostd), .val (.ref onb), .val (.ref ona), .val (.ref ors)] [(.ref oa)])) _
  refine Goes.by (fun _ k => XS.aload X8.here hx rfl (hb hby d8_45) rfl rfl k) ?_
  show Goes p.tables e below (T8.setTop (mkF m 47 #[.val (.ref oa), .val (.long pl), .second, .val (.ref oname), .val (.ref otext), .val .null, .val (.ref otype), .val (.ref ostd), .val (.ref onb), .val (.ref ona), .val (.ref ors)] [(.ref ona), (.ref oa)])) _
  obtain ⟨T9, h9, X9, e9, W9, st9⟩ := putF X8 hx hZ hown (host := "") (Or.inl (hw _ (List.mem_of_getElem? (i := 60) rfl))) Via.refl e8 F_oa_notAfter E_oa (Or.inr ⟨(hw _ (List.mem_of_getElem? (i := 61) rfl)), rfl, hnm⟩) (hw _ (List.mem_of_getElem? (i := 35) rfl)) (ty := (.object "java/lang/String")) (by decide) rfl rfl (g := (mkF m 47 #[.val (.ref oa), .val (.long pl), .second, .val (.ref oname), .val (.ref otext), .val .null, .val (.ref otype), .val (.ref ostd), .val (.ref onb), .val (.ref ona), .val (.ref ors)] [(.ref ona), (.ref oa)])) rfl rfl (hb hby d8_47)
  refine Goes.by st9 ?_
  have F_oa_notAfter : Fld Z h9 oa "org/unitspan/ead/DateElement" "notAfter" "Ljava/lang/String;" (.ref ona) := F_oa_notAfter.same W9
  have N9 := Fr.snoc X9 N8 g_oa
  have Zs9 : n0 ≤ h9.size := Nat.le_trans Zs8 (Keep.of_wr W9).1
  have K9 : Keep h0 h9 [oa] := K8.wr W9 (Or.inl (List.mem_of_getElem? (i := 0) rfl))
  have E_oa : Exa Z h9 oa "org/unitspan/ead/DateElement" := E_oa.wr W9
  have F_oa_line : Fld Z h9 oa "org/unitspan/ead/DateElement" "line" "J" (.long pl) := F_oa_line.other W9 (Or.inr (slot_ne (Or.inr (hw _ (List.mem_of_getElem? (i := 47) rfl))) (Or.inr (hw _ (List.mem_of_getElem? (i := 61) rfl))) (by decide) (t := .long) (t' := (.object "java/lang/String")) (by decide) (by decide)))
  have F_oa_name : Fld Z h9 oa "org/unitspan/ead/DateElement" "name" "Ljava/lang/String;" (.ref oname) := F_oa_name.other W9 (Or.inr (slot_ne (Or.inr (hw _ (List.mem_of_getElem? (i := 49) rfl))) (Or.inr (hw _ (List.mem_of_getElem? (i := 61) rfl))) (by decide) (t := (.object "java/lang/String")) (t' := (.object "java/lang/String")) (by decide) (by decide)))
  have F_oa_text : Fld Z h9 oa "org/unitspan/ead/DateElement" "text" "Ljava/lang/String;" (.ref otext) := F_oa_text.other W9 (Or.inr (slot_ne (Or.inr (hw _ (List.mem_of_getElem? (i := 51) rfl))) (Or.inr (hw _ (List.mem_of_getElem? (i := 61) rfl))) (by decide) (t := (.object "java/lang/String")) (t' := (.object "java/lang/String")) (by decide) (by decide)))
  have F_oa_normal : Fld Z h9 oa "org/unitspan/ead/DateElement" "normal" "Ljava/lang/String;" .null := F_oa_normal.other W9 (Or.inr (slot_ne (Or.inr (hw _ (List.mem_of_getElem? (i := 53) rfl))) (Or.inr (hw _ (List.mem_of_getElem? (i := 61) rfl))) (by decide) (t := (.object "java/lang/String")) (t' := (.object "java/lang/String")) (by decide) (by decide)))
  have F_oa_unitdateType : Fld Z h9 oa "org/unitspan/ead/DateElement" "unitdateType" "Ljava/lang/String;" (.ref otype) := F_oa_unitdateType.other W9 (Or.inr (slot_ne (Or.inr (hw _ (List.mem_of_getElem? (i := 55) rfl))) (Or.inr (hw _ (List.mem_of_getElem? (i := 61) rfl))) (by decide) (t := (.object "java/lang/String")) (t' := (.object "java/lang/String")) (by decide) (by decide)))
  have F_oa_standardDate : Fld Z h9 oa "org/unitspan/ead/DateElement" "standardDate" "Ljava/lang/String;" (.ref ostd) := F_oa_standardDate.other W9 (Or.inr (slot_ne (Or.inr (hw _ (List.mem_of_getElem? (i := 57) rfl))) (Or.inr (hw _ (List.mem_of_getElem? (i := 61) rfl))) (by decide) (t := (.object "java/lang/String")) (t' := (.object "java/lang/String")) (by decide) (by decide)))
  have F_oa_notBefore : Fld Z h9 oa "org/unitspan/ead/DateElement" "notBefore" "Ljava/lang/String;" (.ref onb) := F_oa_notBefore.other W9 (Or.inr (slot_ne (Or.inr (hw _ (List.mem_of_getElem? (i := 59) rfl))) (Or.inr (hw _ (List.mem_of_getElem? (i := 61) rfl))) (by decide) (t := (.object "java/lang/String")) (t' := (.object "java/lang/String")) (by decide) (by decide)))
  have F_oa_rangeStart : Fld Z h9 oa "org/unitspan/ead/DateElement" "rangeStart" "Ljava/lang/String;" .null := F_oa_rangeStart.other W9 (Or.inr (slot_ne (Or.inr (hw _ (List.mem_of_getElem? (i := 63) rfl))) (Or.inr (hw _ (List.mem_of_getElem? (i := 61) rfl))) (by decide) (t := (.object "java/lang/String")) (t' := (.object "java/lang/String")) (by decide) (by decide)))
  show Goes p.tables e below (T9.setTop (mkF m 50 #[.val (.ref oa), .val (.long pl), .second, .val (.ref oname), .val (.ref otext), .val .null, .val (.ref otype), .val (.ref ostd), .val (.ref onb), .val (.ref ona), .val (.ref ors)] [])) _
  refine Goes.by (fun _ k => XS.aloadN X9.here hx rfl (hb hby d8_50) rfl rfl k) ?_
  show Goes p.tables e below (T9.setTop (mkF m 51 #[.val (.ref oa), .val (.long pl), .second, .val (.ref oname), .val (.ref otext), .val .null, .val (.ref otype), .val (.ref ostd), .val (.ref onb), .val (.ref ona), .val (.ref ors)] [(.ref oa)])) _
  refine Goes.by (fun _ k => XS.aload X9.here hx rfl (hb hby d8_51) rfl rfl k) ?_
  show Goes p.tables e below (T9.setTop (mkF m 53 #[.val (.ref oa), .val (.long pl), .second, .val (.ref oname), .val (.ref otext), .val .null, .val (.ref otype), .val (.ref ostd), .val (.ref onb), .val (.ref ona), .val (.ref ors)] [(.ref ors), (.ref oa)])) _
  obtain ⟨T10, h10, X10, e10, W10, st10⟩ := putF X9 hx hZ hown (host := "") (Or.inl (hw _ (List.mem_of_getElem? (i := 62) rfl))) Via.refl e9 F_oa_rangeStart E_oa (Or.inr ⟨(hw _ (List.mem_of_getElem? (i := 63) rfl)), rfl, hnm⟩) (hw _ (List.mem_of_getElem? (i := 35) rfl)) (ty := (.object "java/lang/String")) (by decide) rfl rfl (g := (mkF m 53 #[.val (.ref oa), .val (.long pl), .second, .val (.ref oname), .val (.ref otext), .val .null, .val (.ref otype), .val (.ref ostd), .val (.ref onb), .val (.ref ona), .val (.ref ors)] [(.ref ors), (.ref oa)])) rfl rfl (hb hby d8_53)
  refine Goes.by st10 ?_
  have F_oa_rangeStart : Fld Z h10 oa "org/unitspan/ead/DateElement" "rangeStart" "Ljava/lang/String;" (.ref ors) := F_oa_rangeStart.same W10
  have N10 := Fr.snoc X10 N9 g_oa
  have Zs10 : n0 ≤ h10.size := Nat.le_trans Zs9 (Keep.of_wr W10).1
  have K10 : Keep h0 h10 [oa] := K9.wr W10 (Or.inl (List.mem_of_getElem? (i := 0) rfl))
  have E_oa : Exa Z h10 oa "org/unitspan/ead/DateElement" := E_oa.wr W10
  have F_oa_line : Fld Z h10 oa "org/unitspan/ead/DateElement" "line" "J" (.long pl) := F_oa_line.other W10 (Or.inr (slot_ne (Or.inr (hw _ (List.mem_of_getElem? (i := 47) rfl))) (Or.inr (hw _ (List.mem_of_getElem? (i := 63) rfl))) (by decide) (t := .long) (t' := (.object "java/lang/String")) (by decide) (by decide)))
  have F_oa_name : Fld Z h10 oa "org/unitspan/ead/DateElement" "name" "Ljava/lang/String;" (.ref oname) := F_oa_name.other W10 (Or.inr (slot_ne (Or.inr (hw _ (List.mem_of_getElem? (i := 49) rfl))) (Or.inr (hw _ (List.mem_of_getElem? (i := 63) rfl))) (by decide) (t := (.object "java/lang/String")) (t' := (.object "java/lang/String")) (by decide) (by decide)))
  have F_oa_text : Fld Z h10 oa "org/unitspan/ead/DateElement" "text" "Ljava/lang/String;" (.ref otext) := F_oa_text.other W10 (Or.inr (slot_ne (Or.inr (hw _ (List.mem_of_getElem? (i := 51) rfl))) (Or.inr (hw _ (List.mem_of_getElem? (i := 63) rfl))) (by decide) (t := (.object "java/lang/String")) (t' := (.object "java/lang/String")) (by decide) (by decide)))
  have F_oa_normal : Fld Z h10 oa "org/unitspan/ead/DateElement" "normal" "Ljava/lang/String;" .null := F_oa_normal.other W10 (Or.inr (slot_ne (Or.inr (hw _ (List.mem_of_getElem? (i := 53) rfl))) (Or.inr (hw _ (List.mem_of_getElem? (i := 63) rfl))) (by decide) (t := (.object "java/lang/String")) (t' := (.object "java/lang/String")) (by decide) (by decide)))
  have F_oa_unitdateType : Fld Z h10 oa "org/unitspan/ead/DateElement" "unitdateType" "Ljava/lang/String;" (.ref otype) := F_oa_unitdateType.other W10 (Or.inr (slot_ne (Or.inr (hw _ (List.mem_of_getElem? (i := 55) rfl))) (Or.inr (hw _ (List.mem_of_getElem? (i := 63) rfl))) (by decide) (t := (.object "java/lang/String")) (t' := (.object "java/lang/String")) (by decide) (by decide)))
  have F_oa_standardDate : Fld Z h10 oa "org/unitspan/ead/DateElement" "standardDate" "Ljava/lang/String;" (.ref ostd) := F_oa_standardDate.other W10 (Or.inr (slot_ne (Or.inr (hw _ (List.mem_of_getElem? (i := 57) rfl))) (Or.inr (hw _ (List.mem_of_getElem? (i := 63) rfl))) (by decide) (t := (.object "java/lang/String")) (t' := (.object "java/lang/String")) (by decide) (by decide)))
  have F_oa_notBefore : Fld Z h10 oa "org/unitspan/ead/DateElement" "notBefore" "Ljava/lang/String;" (.ref onb) := F_oa_notBefore.other W10 (Or.inr (slot_ne (Or.inr (hw _ (List.mem_of_getElem? (i := 59) rfl))) (Or.inr (hw _ (List.mem_of_getElem? (i := 63) rfl))) (by decide) (t := (.object "java/lang/String")) (t' := (.object "java/lang/String")) (by decide) (by decide)))
  have F_oa_notAfter : Fld Z h10 oa "org/unitspan/ead/DateElement" "notAfter" "Ljava/lang/String;" (.ref ona) := F_oa_notAfter.other W10 (Or.inr (slot_ne (Or.inr (hw _ (List.mem_of_getElem? (i := 61) rfl))) (Or.inr (hw _ (List.mem_of_getElem? (i := 63) rfl))) (by decide) (t := (.object "java/lang/String")) (t' := (.object "java/lang/String")) (by decide) (by decide)))
  show Goes p.tables e below (T10.setTop (mkF m 56 #[.val (.ref oa), .val (.long pl), .second, .val (.ref oname), .val (.ref otext), .val .null, .val (.ref otype), .val (.ref ostd), .val (.ref onb), .val (.ref ona), .val (.ref ors)] [])) _
  obtain ⟨fs, hr, hrun, hended, hW, hsame⟩ := X10.leave (v := none) (fun _ => rfl)
  refine ⟨_, _, X10.returnOut hx Bd.returns (hb hby d8_56) hr, hrun, hended, _, _, rfl, ?_, ⟨_, rfl⟩, hW, hsame.mono (by decide) (by decide)⟩
  show Q8nr Z oa pl oname otext otype ostd onb ona ors h0 n0 _ T10.heap _
  rw [e10]
  exact ⟨rfl, N10, K10, E_oa, F_oa_normal, F_oa_standardDate⟩
theorem d10_14 : decode prog_38_method_5_code 14 = .ok (.aload_n 0, 1) := by decide +kernel
theorem d10_15 : decode prog_38_method_5_code 15 = .ok (.getfield 26, 3) := by decide +kernel
theorem ef10nr (m : MethodId) (oa : Addr) : entryFrame m #[(.ref oa)] 1 = mkF m 0 #[.val (.ref oa)] [] := by first | (simp [entryFrame, mkF, argsToLocals, Value.category]; done) | rfl
def Q10nr (Z : State) (oa : Addr) (ostd : Addr) (h0 : Heap) (n0 : Nat) (v : Option Value) (h : Heap) (L : List Loc) : Prop := v = some (.ref ostd) ∧ Fr n0 L ∧ h = h0
set_option maxRecDepth 65536 in
set_option maxHeartbeats 40000000 in
theorem rm10nr (l : Launch) (Z : State) (a0 : Array Value) (hw : ∀ d ∈ tables_1, d.before a0 Z = true) (ws : List Jvm.Cond) (oa : Addr) (ostd : Addr) (h0 : Heap) (n0 : Nat) (Z0 : n0 ≤ h0.size) (F_oa_normal : Fld Z h0 oa "org/unitspan/ead/DateElement" "normal" "Ljava/lang/String;" .null) (F_oa_standardDate : Fld Z h0 oa "org/unitspan/ead/DateElement" "standardDate" "Ljava/lang/String;" (.ref ostd)) :
    MetFree l (⟨"org/unitspan/ead/DateElement", "statedDate", "()Ljava/lang/String;"⟩ : MethodName) (head1 (Jvm.Cond.code (⟨"org/unitspan/ead/DateElement", "statedDate", "()Ljava/lang/String;"⟩ : MethodName) prog_38_method_5_code 1 (some (.object "java/lang/String")) :: ws) ({ frames := 0, cells := 0, slots := 0, locals := 0 } : Room)) (fun a U => a = #[(.ref oa)] ∧ Z.Warmed39 U.vm ∧ U.heap = h0) (fun _ _ _ _ _ => True) (fun _ U o U' => ∃ v L, o = .returned v ∧ Q10nr Z oa ostd h0 n0 v U'.heap L ∧ FrameEnd U o U' L ({ frames := 0, cells := 0, slots := 0, locals := 0 } : Room).cells ({ frames := 0, cells := 0, slots := 0, locals := 0 } : Room).slots) := by
  refine MetFree.of_bodySF (plainFor_of_name pn_2) hisR ?_
  intro p e s m args below meth c s₁ Bd hml0 hP hK
  obtain ⟨rfl, hZ, hh⟩ := hP
  have hx := Bd.exec
  have hby := Bd.bytes
  have hml : c.maxLocals = 1 := hml0
  have hown : s.vm.findClass "org/unitspan/ead/DateElement" = some m.cls := findClass_of_methodNamed Bd.named
  have hnm := (name_of_methodNamed Bd.named Bd.method).1
  have X0 : Stand p l e ({ frames := 0, cells := 0, slots := 0, locals := 0 } : Room) s m #[(.ref oa)] below meth c s₁ [] 0 0 := Stand.of_body Bd
  have e0 : s₁.heap = h0 := by rw [← hh, Bd.state]; rfl
  have N0 := Fr.nil n0
  refine Goes.by (fun _ k => castTop (ef10nr m oa) k) ?_
  show Goes p.tables e below (s₁.setTop (mkF m 0 #[.val (.ref oa)] [])) _
  refine Goes.by (fun _ k => XS.aloadN X0.here hx rfl (hb hby d10_0) rfl rfl k) ?_
  show Goes p.tables e below (s₁.setTop (mkF m 1 #[.val (.ref oa)] [(.ref oa)])) _
  obtain ⟨T1, X1, e1, st1⟩ := getF X0 hx hZ hown (host := "") (Or.inl (hw _ (List.mem_of_getElem? (i := 52) rfl))) Via.refl e0 F_oa_normal (g := (mkF m 1 #[.val (.ref oa)] [(.ref oa)])) rfl rfl (hb hby d10_1)
  refine Goes.by st1 ?_
  show Goes p.tables e below (T1.setTop (mkF m 4 #[.val (.ref oa)] [.null])) _
  refine Goes.by (fun _ k => XS.ifnullYes X1.here hx rfl (pc0 := 4) (pc' := 14) rfl (hb hby d10_4) rfl (by decide) (by decide) k) ?_
  show Goes p.tables e below (T1.setTop (mkF m 14 #[.val (.ref oa)] [])) _
  refine Goes.by (fun _ k => XS.aloadN X1.here hx rfl (hb hby d10_14) rfl rfl k) ?_
  show Goes p.tables e below (T1.setTop (mkF m 15 #[.val (.ref oa)] [(.ref oa)])) _
  obtain ⟨T2, X2, e2, st2⟩ := getF X1 hx hZ hown (host := "") (Or.inl (hw _ (List.mem_of_getElem? (i := 56) rfl))) Via.refl e1 F_oa_standardDate (g := (mkF m 15 #[.val (.ref oa)] [(.ref oa)])) rfl rfl (hb hby d10_15)
  refine Goes.by st2 ?_
  show Goes p.tables e below (T2.setTop (mkF m 18 #[.val (.ref oa)] [(.ref ostd)])) _
  obtain ⟨fs, hr, hrun, hended, hW, hsame⟩ := X2.leave (v := some (.ref ostd)) (fun h => by rw [Bd.returns] at h; cases h)
  refine ⟨_, _, retOut X2 hx Bd.returns (i := .areturn) (narR rfl) (Or.inr (Or.inr (Or.inr (Or.inr ⟨rfl, rfl, rfl⟩)))) (hb hby d10_18) hr, hrun, hended, _, _, rfl, ?_, ⟨_, rfl⟩, hW, hsame.mono (by decide) (by decide)⟩
  show Q10nr Z oa ostd h0 n0 _ T2.heap _
  rw [e2]
  exact ⟨rfl, N0, rfl⟩
theorem ef8nn (m : MethodId) (oa : Addr) (pl : Int64) (oname : Addr) (otext : Addr) (otype : Addr) (onb : Addr) (ona : Addr) (ors : Addr) : entryFrame m #[(.ref oa), (.long pl), (.ref oname), (.ref otext), .null, (.ref otype), .null, (.ref onb), (.ref ona), (.ref ors)] 11 = mkF m 0 #[.val (.ref oa), .val (.long pl), .second, .val (.ref oname), .val (.ref otext), .val .null, .val (.ref otype), .val .null, .val (.ref onb), .val (.ref ona), .val (.ref ors)] [] := by first | (simp [entryFrame, mkF, argsToLocals, Value.category]; done) | rfl
def Q8nn (Z : State) (oa : Addr) (pl : Int64) (oname : Addr) (otext : Addr) (otype : Addr) (onb : Addr) (ona : Addr) (ors : Addr) (h0 : Heap) (n0 : Nat) (v : Option Value) (h : Heap) (L : List Loc) : Prop := v = none ∧ Fr n0 L ∧ Keep h0 h [oa] ∧ Exa Z h oa "org/unitspan/ead/DateElement" ∧ Fld Z h oa "org/unitspan/ead/DateElement" "normal" "Ljava/lang/String;" .null ∧ Fld Z h oa "org/unitspan/ead/DateElement" "standardDate" "Ljava/lang/String;" .null
set_option maxRecDepth 65536 in
set_option maxHeartbeats 40000000 in
theorem rm8nn (l : Launch) (Z : State) (a0 : Array Value) (hw : ∀ d ∈ tables_1, d.before a0 Z = true) (ws : List Jvm.Cond) (oa : Addr) (pl : Int64) (oname : Addr) (otext : Addr) (otype : Addr) (onb : Addr) (ona : Addr) (ors : Addr) (h0 : Heap) (n0 : Nat) (Z0 : n0 ≤ h0.size) (E_oa : Exa Z h0 oa "org/unitspan/ead/DateElement") (F_oa_line : Fld Z h0 oa "org/unitspan/ead/DateElement" "line" "J" (.long (0 : Int64))) (F_oa_name : Fld Z h0 oa "org/unitspan/ead/DateElement" "name" "Ljava/lang/String;" .null) (F_oa_text : Fld Z h0 oa "org/unitspan/ead/DateElement" "text" "Ljava/lang/String;" .null) (F_oa_normal : Fld Z h0 oa "org/unitspan/ead/DateElement" "normal" "Ljava/lang/String;" .null) (F_oa_unitdateType : Fld Z h0 oa "org/unitspan/ead/DateElement" "unitdateType" "Ljava/lang/String;" .null) (F_oa_standardDate : Fld Z h0 oa "org/unitspan/ead/DateElement" "standardDate" "Ljava/lang/String;" .null) (F_oa_notBefore : Fld Z h0 oa "org/unitspan/ead/DateElement" "notBefore" "Ljava/lang/String;" .null) (F_oa_notAfter : Fld Z h0 oa "org/unitspan/ead/DateElement" "notAfter" "Ljava/lang/String;" .null) (F_oa_rangeStart : Fld Z h0 oa "org/unitspan/ead/DateElement" "rangeStart" "Ljava/lang/String;" .null) (g_oa : n0 ≤ oa) :
    MetFree l (⟨"org/unitspan/ead/DateElement", "<init>", "(JLjava/lang/String;Ljava/lang/String;Ljava/lang/String;Ljava/lang/String;Ljava/lang/String;Ljava/lang/String;Ljava/lang/String;Ljava/lang/String;)V"⟩ : MethodName) (head1 (Jvm.Cond.code (⟨"org/unitspan/ead/DateElement", "<init>", "(JLjava/lang/String;Ljava/lang/String;Ljava/lang/String;Ljava/lang/String;Ljava/lang/String;Ljava/lang/String;Ljava/lang/String;Ljava/lang/String;)V"⟩ : MethodName) prog_38_method_2_code 11 none :: ws) ({ frames := 2, cells := 0, slots := 0, locals := 24 } : Room)) (fun a U => a = #[(.ref oa), (.long pl), (.ref oname), (.ref otext), .null, (.ref otype), .null, (.ref onb), (.ref ona), (.ref ors)] ∧ Z.Warmed39 U.vm ∧ U.heap = h0) (fun _ _ _ _ _ => True) (fun _ U o U' => ∃ v L, o = .returned v ∧ Q8nn Z oa pl oname otext otype onb ona ors h0 n0 v U'.heap L ∧ FrameEnd U o U' L ({ frames := 2, cells := 0, slots := 0, locals := 24 } : Room).cells ({ frames := 2, cells := 0, slots := 0, locals := 24 } : Room).slots) := by
  refine MetFree.of_bodySF (plainFor_of_name pn_2) hisR ?_
  intro p e s m args below meth c s₁ Bd hml0 hP hK
  obtain ⟨rfl, hZ, hh⟩ := hP
  have hx := Bd.exec
  have hby := Bd.bytes
  have hml : c.maxLocals = 11 := hml0
  have hown : s.vm.findClass "org/unitspan/ead/DateElement" = some m.cls := findClass_of_methodNamed Bd.named
  have hnm := (name_of_methodNamed Bd.named Bd.method).1
  have X0 : Stand p l e ({ frames := 2, cells := 0, slots := 0, locals := 24 } : Room) s m #[(.ref oa), (.long pl), (.ref oname), (.ref otext), .null, (.ref otype), .null, (.ref onb), (.ref ona), (.ref ors)] below meth c s₁ [] 0 0 := Stand.of_body Bd
  have e0 : s₁.heap = h0 := by rw [← hh, Bd.state]; rfl
  have N0 := Fr.nil n0
  refine Goes.by (fun _ k => castTop (ef8nn m oa pl oname otext otype onb ona ors) k) ?_
  show Goes p.tables e below (s₁.setTop (mkF m 0 #[.val (.ref oa), .val (.long pl), .second, .val (.ref oname), .val (.ref otext), .val .null, .val (.ref otype), .val .null, .val (.ref onb), .val (.ref ona), .val (.ref ors)] [])) _
  refine Goes.by (fun _ k => XS.aloadN X0.here hx rfl (hb hby d8_0) rfl rfl k) ?_
  show Goes p.tables e below (s₁.setTop (mkF m 1 #[.val (.ref oa), .val (.long pl), .second, .val (.ref oname), .val (.ref otext), .val .null, .val (.ref otype), .val .null, .val (.ref onb), .val (.ref ona), .val (.ref ors)] [(.ref oa)])) _
  obtain ⟨_, _, ⟨T1, L1, k1, n1⟩, -, X1, ⟨Lc1, hQ1, l1, y1, z1⟩, st1⟩ := X0.specialBack hx (y := (⟨"java/lang/Record", "<init>", "()V"⟩ : MethodName)) rfl hown (mvT hZ (hw _ (List.mem_of_getElem? (i := 40) rfl))) (mvT hZ (hw _ (List.mem_of_getElem? (i := 41) rfl))) (mvT hZ (hw _ (List.mem_of_getElem? (i := 44) rfl))) (by decide) (backOf (W := 0) (rm9 l Z a0 hw [] oa h0 n0 Z0) hZ (hw _ (List.mem_of_getElem? (i := 44) rfl)) (hw _ (List.mem_of_getElem? (i := 43) rfl)) (by decide) (by decide)) (g := (mkF m 1 #[.val (.ref oa), .val (.long pl), .second, .val (.ref oname), .val (.ref otext), .val .null, .val (.ref otype), .val .null, .val (.ref onb), .val (.ref ona), .val (.ref ors)] [(.ref oa)])) rfl (by rw [hml]; rfl) (Steps.refl _) (a := oa) (argsL := []) (rest := []) (lenOf pd_1 rfl) rfl (by show 2 * 0 + _ ≤ _; exact Nat.le_of_eq rfl) (hb hby d8_1) (fun _ _ => ⟨rfl, e0, (by decide : 0 + 0 ≤ _), (by decide : 0 + 0 ≤ _)⟩)
  dsimp only [Pt.U, Pt.locs, Pt.cells, Pt.slots] at X1 l1 y1 z1 st1 hQ1
  subst l1 y1 z1
  obtain ⟨rfl, N1q, e1⟩ := hQ1
  have N1 := Fr.app N0 N1q
  refine Goes.via st1 ?_
  show Goes p.tables e below (T1.setTop (mkF m 4 #[.val (.ref oa), .val (.long pl), .second, .val (.ref oname), .val (.ref otext), .val .null, .val (.ref otype), .val .null, .val (.ref onb), .val (.ref ona), .val (.ref ors)] [])) _
  refine Goes.by (fun _ k => XS.aloadN X1.here hx rfl (hb hby d8_4) rfl rfl k) ?_
  show Goes p.tables e below (T1.setTop (mkF m 5 #[.val (.ref oa), .val (.long pl), .second, .val (.ref oname), .val (.ref otext), .val .null, .val (.ref otype), .val .null, .val (.ref onb), .val (.ref ona), .val (.ref ors)] [(.ref oa)])) _
  refine Goes.by (fun _ k => XS.lloadN X1.here hx rfl (hb hby d8_5) rfl k) ?_
  show Goes p.tables e below (T1.setTop (mkF m 6 #[.val (.ref oa), .val (.long pl), .second, .val (.ref oname), .val (.ref otext), .val .null, .val (.ref otype), .val .null, .val (.ref onb), .val (.ref ona), .val (.ref ors)] [(.long pl), (.ref oa)])) _
  obtain ⟨T2, h2, X2, e2, W2, st2⟩ := putF X1 hx hZ hown (host := "") (Or.inl (hw _ (List.mem_of_getElem? (i := 46) rfl))) Via.refl e1 F_oa_line E_oa (Or.inr ⟨(hw _ (List.mem_of_getElem? (i := 47) rfl)), rfl, hnm⟩) (hw _ (List.mem_of_getElem? (i := 35) rfl)) (ty := .long) (by decide) rfl rfl (g := (mkF m 6 #[.val (.ref oa), .val (.long pl), .second, .val (.ref oname), .val (.ref otext), .val .null, .val (.ref otype), .val .null, .val (.ref onb), .val (.ref ona), .val (.ref ors)] [(.long pl), (.ref oa)])) rfl rfl (hb hby d8_6)
  refine Goes.by st2 ?_
  have F_oa_line : Fld Z h2 oa "org/unitspan/ead/DateElement" "line" "J" (.long pl) := F_oa_line.same W2
  have N2 := Fr.snoc X2 N1 g_oa
  have Zs2 : n0 ≤ h2.size := Nat.le_trans Z0 (Keep.of_wr W2).1
  have K2 : Keep h0 h2 [oa] := (Keep.refl h0 [oa]).wr W2 (Or.inl (List.mem_of_getElem? (i := 0) rfl))
  have E_oa : Exa Z h2 oa "org/unitspan/ead/DateElement" := E_oa.wr W2
  have F_oa_name : Fld Z h2 oa "org/unitspan/ead/DateElement" "name" "Ljava/lang/String;" .null := F_oa_name.other W2 (Or.inr (slot_ne (Or.inr (hw _ (List.mem_of_getElem? (i := 49) rfl))) (Or.inr (hw _ (List.mem_of_getElem? (i := 47) rfl))) (by decide) (t := (.object "java/lang/String")) (t' := .long) (by decide) (by decide)))
  have F_oa_text : Fld Z h2 oa "org/unitspan/ead/DateElement" "text" "Ljava/lang/String;" .null := F_oa_text.other W2 (Or.inr (slot_ne (Or.inr (hw _ (List.mem_of_getElem? (i := 51) rfl))) (Or.inr (hw _ (List.mem_of_getElem? (i := 47) rfl))) (by decide) (t := (.object "java/lang/String")) (t' := .long) (by decide) (by decide)))
  have F_oa_normal : Fld Z h2 oa "org/unitspan/ead/DateElement" "normal" "Ljava/lang/String;" .null := F_oa_normal.other W2 (Or.inr (slot_ne (Or.inr (hw _ (List.mem_of_getElem? (i := 53) rfl))) (Or.inr (hw _ (List.mem_of_getElem? (i := 47) rfl))) (by decide) (t := (.object "java/lang/String")) (t' := .long) (by decide) (by decide)))
  have F_oa_unitdateType : Fld Z h2 oa "org/unitspan/ead/DateElement" "unitdateType" "Ljava/lang/String;" .null := F_oa_unitdateType.other W2 (Or.inr (slot_ne (Or.inr (hw _ (List.mem_of_getElem? (i := 55) rfl))) (Or.inr (hw _ (List.mem_of_getElem? (i := 47) rfl))) (by decide) (t := (.object "java/lang/String")) (t' := .long) (by decide) (by decide)))
  have F_oa_standardDate : Fld Z h2 oa "org/unitspan/ead/DateElement" "standardDate" "Ljava/lang/String;" .null := F_oa_standardDate.other W2 (Or.inr (slot_ne (Or.inr (hw _ (List.mem_of_getElem? (i := 57) rfl))) (Or.inr (hw _ (List.mem_of_getElem? (i := 47) rfl))) (by decide) (t := (.object "java/lang/String")) (t' := .long) (by decide) (by decide)))
  have F_oa_notBefore : Fld Z h2 oa "org/unitspan/ead/DateElement" "notBefore" "Ljava/lang/String;" .null := F_oa_notBefore.other W2 (Or.inr (slot_ne (Or.inr (hw _ (List.mem_of_getElem? (i := 59) rfl))) (Or.inr (hw _ (List.mem_of_getElem? (i := 47) rfl))) (by decide) (t := (.object "java/lang/String")) (t' := .long) (by decide) (by decide)))
  have F_oa_notAfter : Fld Z h2 oa "org/unitspan/ead/DateElement" "notAfter" "Ljava/lang/String;" .null := F_oa_notAfter.other W2 (Or.inr (slot_ne (Or.inr (hw _ (List.mem_of_getElem? (i := 61) rfl))) (Or.inr (hw _ (List.mem_of_getElem? (i := 47) rfl))) (by decide) (t := (.object "java/lang/String")) (t' := .long) (by decide) (by decide)))
  have F_oa_rangeStart : Fld Z h2 oa "org/unitspan/ead/DateElement" "rangeStart" "Ljava/lang/String;" .null := F_oa_rangeStart.other W2 (Or.inr (slot_ne (Or.inr (hw _ (List.mem_of_getElem? (i := 63) rfl))) (Or.inr (hw _ (List.mem_of_getElem? (i := 47) rfl))) (by decide) (t := (.object "java/lang/String")) (t' := .long) (by decide) (by decide)))
  show Goes p.tables e below (T2.setTop (mkF m 9 #[.val (.ref oa), .val (.long pl), .second, .val (.ref oname), .val (.ref otext), .val .null, .val (.ref otype), .val .null, .val (.ref onb), .val (.ref ona), .val (.ref ors)] [])) _
  refine Goes.by (fun _ k => XS.aloadN X2.here hx rfl (hb hby d8_9) rfl rfl k) ?_
  show Goes p.tables e below (T2.setTop (mkF m 10 #[.val (.ref oa), .val (.long pl), .second, .val (.ref oname), .val (.ref otext), .val .null, .val (.ref otype), .val .null, .val (.ref onb), .val (.ref ona), .val (.ref ors)] [(.ref oa)])) _
  refine Goes.by (fun _ k => XS.aloadN X2.here hx rfl (hb hby d8_10) rfl rfl k) ?_
  show Goes p.tables e below (T2.setTop (mkF m 11 #[.val (.ref oa), .val (.long pl), .second, .val (.ref oname), .val (.ref otext), .val .null, .val (.ref otype), .val .null, .val (.ref onb), .val (.ref ona), .val (.ref ors)] [(.ref oname), (.ref oa)])) _
  obtain ⟨T3, h3, X3, e3, W3, st3⟩ := putF X2 hx hZ hown (host := "") (Or.inl (hw _ (List.mem_of_getElem? (i := 48) rfl))) Via.refl e2 F_oa_name E_oa (Or.inr ⟨(hw _ (List.mem_of_getElem? (i := 49) rfl)), rfl, hnm⟩) (hw _ (List.mem_of_getElem? (i := 35) rfl)) (ty := (.object "java/lang/String")) (by decide) rfl rfl (g := (mkF m 11 #[.val (.ref oa), .val (.long pl), .second, .val (.ref oname), .val (.ref otext), .val .null, .val (.ref otype), .val .null, .val (.ref onb), .val (.ref ona), .val (.ref ors)] [(.ref oname), (.ref oa)])) rfl rfl (hb hby d8_11)
  refine Goes.by st3 ?_
  have F_oa_name : Fld Z h3 oa "org/unitspan/ead/DateElement" "name" "Ljava/lang/String;" (.ref oname) := F_oa_name.same W3
  have N3 := Fr.snoc X3 N2 g_oa
  have Zs3 : n0 ≤ h3.size := Nat.le_trans Zs2 (Keep.of_wr W3).1
  have K3 : Keep h0 h3 [oa] := K2.wr W3 (Or.inl (List.mem_of_getElem? (i := 0) rfl))
  have E_oa : Exa Z h3 oa "org/unitspan/ead/DateElement" := E_oa.wr W3
  have F_oa_line : Fld Z h3 oa "org/unitspan/ead/DateElement" "line" "J" (.long pl) := F_oa_line.other W3 (Or.inr (slot_ne (Or.inr (hw _ (List.mem_of_getElem? (i := 47) rfl))) (Or.inr (hw _ (List.mem_of_getElem? (i := 49) rfl))) (by decide) (t := .long) (t' := (.object "java/lang/String")) (by decide) (by decide)))
  have F_oa_text : Fld Z h3 oa "org/unitspan/ead/DateElement" "text" "Ljava/lang/String;" .null := F_oa_text.other W3 (Or.inr (slot_ne (Or.inr (hw _ (List.mem_of_getElem? (i := 51) rfl))) (Or.inr (hw _ (List.mem_of_getElem? (i := 49) rfl))) (by decide) (t := (.object "java/lang/String")) (t' := (.object "java/lang/String")) (by decide) (by decide)))
  have F_oa_normal : Fld Z h3 oa "org/unitspan/ead/DateElement" "normal" "Ljava/lang/String;" .null := F_oa_normal.other W3 (Or.inr (slot_ne (Or.inr (hw _ (List.mem_of_getElem? (i := 53) rfl))) (Or.inr (hw _ (List.mem_of_getElem? (i := 49) rfl))) (by decide) (t := (.object "java/lang/String")) (t' := (.object "java/lang/String")) (by decide) (by decide)))
  have F_oa_unitdateType : Fld Z h3 oa "org/unitspan/ead/DateElement" "unitdateType" "Ljava/lang/String;" .null := F_oa_unitdateType.other W3 (Or.inr (slot_ne (Or.inr (hw _ (List.mem_of_getElem? (i := 55) rfl))) (Or.inr (hw _ (List.mem_of_getElem? (i := 49) rfl))) (by decide) (t := (.object "java/lang/String")) (t' := (.object "java/lang/String")) (by decide) (by decide)))
  have F_oa_standardDate : Fld Z h3 oa "org/unitspan/ead/DateElement" "standardDate" "Ljava/lang/String;" .null := F_oa_standardDate.other W3 (Or.inr (slot_ne (Or.inr (hw _ (List.mem_of_getElem? (i := 57) rfl))) (Or.inr (hw _ (List.mem_of_getElem? (i := 49) rfl))) (by decide) (t := (.object "java/lang/String")) (t' := (.object "java/lang/String")) (by decide) (by decide)))
  have F_oa_notBefore : Fld Z h3 oa "org/unitspan/ead/DateElement" "notBefore" "Ljava/lang/String;" .null := F_oa_notBefore.other W3 (Or.inr (slot_ne (Or.inr (hw _ (List.mem_of_getElem? (i := 59) rfl))) (Or.inr (hw _ (List.mem_of_getElem? (i := 49) rfl))) (by decide) (t := (.object "java/lang/String")) (t' := (.object "java/lang/String")) (by decide) (by decide)))
  have F_oa_notAfter : Fld Z h3 oa "org/unitspan/ead/DateElement" "notAfter" "Ljava/lang/String;" .null := F_oa_notAfter.other W3 (Or.inr (slot_ne (Or.inr (hw _ (List.mem_of_getElem? (i := 61) rfl))) (Or.inr (hw _ (List.mem_of_getElem? (i := 49) rfl))) (by decide) (t := (.object "java/lang/String")) (t' := (.object "java/lang/String")) (by decide) (by decide)))
  have F_oa_rangeStart : Fld Z h3 oa "org/unitspan/ead/DateElement" "rangeStart" "Ljava/lang/String;" .null := F_oa_rangeStart.other W3 (Or.inr (slot_ne (Or.inr (hw _ (List.mem_of_getElem? (i := 63) rfl))) (Or.inr (hw _ (List.mem_of_getElem? (i := 49) rfl))) (by decide) (t := (.object "java/lang/String")) (t' := (.object "java/lang/String")) (by decide) (by decide)))
  show Goes p.tables e below (T3.setTop (mkF m 14 #[.val (.ref oa), .val (.long pl), .second, .val (.ref oname), .val (.ref otext), .val .null, .val (.ref otype), .val .null, .val (.ref onb), .val (.ref ona), .val (.ref ors)] [])) _
  refine Goes.by (fun _ k => XS.aloadN X3.here hx rfl (hb hby d8_14) rfl rfl k) ?_
  show Goes p.tables e below (T3.setTop (mkF m 15 #[.val (.ref oa), .val (.long pl), .second, .val (.ref oname), .val (.ref otext), .val .null, .val (.ref otype), .val .null, .val (.ref onb), .val (.ref ona), .val (.ref ors)] [(.ref oa)])) _
  refine Goes.by (fun _ k => XS.aload X3.here hx rfl (hb hby d8_15) rfl rfl k) ?_
  show Goes p.tables e below (T3.setTop (mkF m 17 #[.val (.ref oa), .val (.long pl), .second, .val (.ref oname), .val (.ref otext), .val .null, .val (.ref otype), .val .null, .val (.ref onb), .val (.ref ona), .val (.ref ors)] [(.ref otext), (.ref oa)])) _
  obtain ⟨T4, h4, X4, e4, W4, st4⟩ := putF X3 hx hZ hown (host := "") (Or.inl (hw _ (List.mem_of_getElem? (i := 50) rfl))) Via.refl e3 F_oa_text E_oa (Or.inr ⟨(hw _ (List.mem_of_getElem? (i := 51) rfl)), rfl, hnm⟩) (hw _ (List.mem_of_getElem? (i := 35) rfl)) (ty := (.object "java/lang/String")) (by decide) rfl rfl (g := (mkF m 17 #[.val (.ref oa), .val (.long pl), .second, .val (.ref oname), .val (.ref otext), .val .null, .val (.ref otype), .val .null, .val (.ref onb), .val (.ref ona), .val (.ref ors)] [(.ref otext), (.ref oa)])) rfl rfl (hb hby d8_17)
  refine Goes.by st4 ?_
  have F_oa_text : Fld Z h4 oa "org/unitspan/ead/DateElement" "text" "Ljava/lang/String;" (.ref otext) := F_oa_text.same W4
  have N4 := Fr.snoc X4 N3 g_oa
  have Zs4 : n0 ≤ h4.size := Nat.le_trans Zs3 (Keep.of_wr W4).1
  have K4 : Keep h0 h4 [oa] := K3.wr W4 (Or.inl (List.mem_of_getElem? (i := 0) rfl))
  have E_oa : Exa Z h4 oa "org/unitspan/ead/DateElement" := E_oa.wr W4
  have F_oa_line : Fld Z h4 oa "org/unitspan/ead/DateElement" "line" "J" (.long pl) := F_oa_line.other W4 (Or.inr (slot_ne (Or.inr (hw _ (List.mem_of_getElem? (i := 47) rfl))) (Or.inr (hw _ (List.mem_of_getElem? (i := 51) rfl))) (by decide) (t := .long) (t' := (.object "java/lang/String")) (by decide) (by decide)))
  have F_oa_name : Fld Z h4 oa "org/unitspan/ead/DateElement" "name" "Ljava/lang/String;" (.ref oname) := F_oa_name.other W4 (Or.inr (slot_ne (Or.inr (hw _ (List.mem_of_getElem? (i := 49) rfl))) (Or.inr (hw _ (List.mem_of_getElem? (i := 51) rfl))) (by decide) (t := (.object "java/lang/String")) (t' := (.object "java/lang/String")) (by decide) (by decide)))
  have F_oa_normal : Fld Z h4 oa "org/unitspan/ead/DateElement" "normal" "Ljava/lang/String;" .null := F_oa_normal.other W4 (Or.inr (slot_ne (Or.inr (hw _ (List.mem_of_getElem? (i := 53) rfl))) (Or.inr (hw _ (List.mem_of_getElem? (i := 51) rfl))) (by decide) (t := (.object "java/lang/String")) (t' := (.object "java/lang/String")) (by decide) (by decide)))
  have F_oa_unitdateType : Fld Z h4 oa "org/unitspan/ead/DateElement" "unitdateType" "Ljava/lang/String;" .null := F_oa_unitdateType.other W4 (Or.inr (slot_ne (Or.inr (hw _ (List.mem_of_getElem? (i := 55) rfl))) (Or.inr (hw _ (List.mem_of_getElem? (i := 51) rfl))) (by decide) (t := (.object "java/lang/String")) (t' := (.object "java/lang/String")) (by decide) (by decide)))
  have F_oa_standardDate : Fld Z h4 oa "org/unitspan/ead/DateElement" "standardDate" "Ljava/lang/String;" .null := F_oa_standardDate.other W4 (Or.inr (slot_ne (Or.inr (hw _ (List.mem_of_getElem? (i := 57) rfl))) (Or.inr (hw _ (List.mem_of_getElem? (i := 51) rfl))) (by decide) (t := (.object "java/lang/String")) (t' := (.object "java/lang/String")) (by decide) (by decide)))
  have F_oa_notBefore : Fld Z h4 oa "org/unitspan/ead/DateElement" "notBefore" "Ljava/lang/String;" .null := F_oa_notBefore.other W4 (Or.inr (slot_ne (Or.inr (hw _ (List.mem_of_getElem? (i := 59) rfl))) (Or.inr (hw _ (List.mem_of_getElem? (i := 51) rfl))) (by decide) (t := (.object "java/lang/String")) (t' := (.object "java/lang/String")) (by decide) (by decide)))
  have F_oa_notAfter : Fld Z h4 oa "org/unitspan/ead/DateElement" "notAfter" "Ljava/lang/String;" .null := F_oa_notAfter.other W4 (Or.inr (slot_ne (Or.inr (hw _ (List.mem_of_getElem? (i := 61) rfl))) (Or.inr (hw _ (List.mem_of_getElem? (i := 51) rfl))) (by decide) (t := (.object "java/lang/String")) (t' := (.object "java/lang/String")) (by decide) (by decide)))
  have F_oa_rangeStart : Fld Z h4 oa "org/unitspan/ead/DateElement" "rangeStart" "Ljava/lang/String;" .null := F_oa_rangeStart.other W4 (Or.inr (slot_ne (Or.inr (hw _ (List.mem_of_getElem? (i := 63) rfl))) (Or.inr (hw _ (List.mem_of_getElem? (i := 51) rfl))) (by decide) (t := (.object "java/lang/String")) (t' := (.object "java/lang/String")) (by decide) (by decide)))
  show Goes p.tables e below (T4.setTop (mkF m 20 #[.val (.ref oa), .val (.long pl), .second, .val (.ref oname), .val (.ref otext), .val .null, .val (.ref otype), .val .null, .val (.ref onb), .val (.ref ona), .val (.ref ors)] [])) _
  refine Goes.by (fun _ k => XS.aloadN X4.here hx rfl (hb hby d8_20) rfl rfl k) ?_
  show Goes p.tables e below (T4.setTop (mkF m 21 #[.val (.ref oa), .val (.long pl), .second, .val (.ref oname), .val (.ref otext), .val .null, .val (.ref otype), .val .null, .val (.ref onb), .val (.ref ona), .val (.ref ors)] [(.ref oa)])) _
  refine Goes.by (fun _ k => XS.aload X4.here hx rfl (hb hby d8_21) rfl rfl k) ?_
  show Goes p.tables e below (T4.setTop (mkF m 23 #[.val (.ref oa), .val (.long pl), .second, .val (.ref oname), .val (.ref otext), .val .null, .val (.ref otype), .val .null, .val (.ref onb), .val (.ref ona), .val (.ref ors)] [.null, (.ref oa)])) _
  obtain ⟨T5, h5, X5, e5, W5, st5⟩ := putF X4 hx hZ hown (host := "") (Or.inl (hw _ (List.mem_of_getElem? (i := 52) rfl))) Via.refl e4 F_oa_normal E_oa (Or.inr ⟨(hw _ (List.mem_of_getElem? (i := 53) rfl)), rfl, hnm⟩) (hw _ (List.mem_of_getElem? (i := 35) rfl)) (ty := (.object "java/lang/String")) (by decide) rfl rfl (g := (mkF m 23 #[.val (.ref oa), .val (.long pl), .second, .val (.ref oname), .val (.ref otext), .val .null, .val (.ref otype), .val .null, .val (.ref onb), .val (.ref ona), .val (.ref ors)] [.null, (.ref oa)])) rfl rfl (hb hby d8_23)
  refine Goes.by st5 ?_
  have F_oa_normal : Fld Z h5 oa "org/unitspan/ead/DateElement" "normal" "Ljava/lang/String;" .null := F_oa_normal.same W5
  have N5 := Fr.snoc X5 N4 g_oa
  have Zs5 : n0 ≤ h5.size := Nat.le_trans Zs4 (Keep.of_wr W5).1
  have K5 : Keep h0 h5 [oa] := K4.wr W5 (Or.inl (List.mem_of_getElem? (i := 0) rfl))
  have E_oa : Exa Z h5 oa "org/unitspan/ead/DateElement" := E_oa.wr W5
  have F_oa_line : Fld Z h5 oa "org/unitspan/ead/DateElement" "line" "J" (.long pl) := F_oa_line.other W5 (Or.inr (slot_ne (Or.inr (hw _ (List.mem_of_getElem? (i := 47) rfl))) (Or.inr (hw _ (List.mem_of_getElem? (i := 53) rfl))) (by decide) (t := .long) (t' := (.object "java/lang/String")) (by decide) (by decide)))
  have F_oa_name : Fld Z h5 oa "org/unitspan/ead/DateElement" "name" "Ljava/lang/String;" (.ref oname) := F_oa_name.other W5 (Or.inr (slot_ne (Or.inr (hw _ (List.mem_of_getElem? (i := 49) rfl))) (Or.inr (hw _ (List.mem_of_getElem? (i := 53) rfl))) (by decide) (t := (.object "java/lang/String")) (t' := (.object "java/lang/String")) (by decide) (by decide)))
  have F_oa_text : Fld Z h5 oa "org/unitspan/ead/DateElement" "text" "Ljava/lang/String;" (.ref otext) := F_oa_text.other W5 (Or.inr (slot_ne (Or.inr (hw _ (List.mem_of_getElem? (i := 51) rfl))) (Or.inr (hw _ (List.mem_of_getElem? (i := 53) rfl))) (by decide) (t := (.object "java/lang/String")) (t' := (.object "java/lang/String")) (by decide) (by decide)))
  have F_oa_unitdateType : Fld Z h5 oa "org/unitspan/ead/DateElement" "unitdateType" "Ljava/lang/String;" .null := F_oa_unitdateType.other W5 (Or.inr (slot_ne (Or.inr (hw _ (List.mem_of_getElem? (i := 55) rfl))) (Or.inr (hw _ (List.mem_of_getElem? (i := 53) rfl))) (by decide) (t := (.object "java/lang/String")) (t' := (.object "java/lang/String")) (by decide) (by decide)))
  have F_oa_standardDate : Fld Z h5 oa "org/unitspan/ead/DateElement" "standardDate" "Ljava/lang/String;" .null := F_oa_standardDate.other W5 (Or.inr (slot_ne (Or.inr (hw _ (List.mem_of_getElem? (i := 57) rfl))) (Or.inr (hw _ (List.mem_of_getElem? (i := 53) rfl))) (by decide) (t := (.object "java/lang/String")) (t' := (.object "java/lang/String")) (by decide) (by decide)))
  have F_oa_notBefore : Fld Z h5 oa "org/unitspan/ead/DateElement" "notBefore" "Ljava/lang/String;" .null := F_oa_notBefore.other W5 (Or.inr (slot_ne (Or.inr (hw _ (List.mem_of_getElem? (i := 59) rfl))) (Or.inr (hw _ (List.mem_of_getElem? (i := 53) rfl))) (by decide) (t := (.object "java/lang/String")) (t' := (.object "java/lang/String")) (by decide) (by decide)))
  have F_oa_notAfter : Fld Z h5 oa "org/unitspan/ead/DateElement" "notAfter" "Ljava/lang/String;" .null := F_oa_notAfter.other W5 (Or.inr (slot_ne (Or.inr (hw _ (List.mem_of_getElem? (i := 61) rfl))) (Or.inr (hw _ (List.mem_of_getElem? (i := 53) rfl))) (by decide) (t := (.object "java/lang/String")) (t' := (.object "java/lang/String")) (by decide) (by decide)))
  have F_oa_rangeStart : Fld Z h5 oa "org/unitspan/ead/DateElement" "rangeStart" "Ljava/lang/String;" .null := F_oa_rangeStart.other W5 (Or.inr (slot_ne (Or.inr (hw _ (List.mem_of_getElem? (i := 63) rfl))) (Or.inr (hw _ (List.mem_of_getElem? (i := 53) rfl))) (by decide) (t := (.object "java/lang/String")) (t' := (.object "java/lang/String")) (by decide) (by decide)))
  show Goes p.tables e below (T5.setTop (mkF m 26 #[.val (.ref oa), .val (.long pl), .second, .val (.ref oname), .val (.ref otext), .val .null, .val (.ref otype), .val .null, .val (.ref onb), .val (.ref ona), .val (.ref ors)] [])) _
  refine Goes.by (fun _ k => XS.aloadN X5.here hx rfl (hb hby d8_26) rfl rfl k) ?_
  show Goes p.tables e below (T5.setTop (mkF m 27 #[.val (.ref oa), .val (.long pl), .second, .val (.ref oname), .val (.ref otext), .val .null, .val (.ref otype), .val .null, .val (.ref onb), .val (.ref ona), .val (.ref ors)] [(.ref oa)])) _
  refine Goes.by (fun _ k => XS.aload X5.here hx rfl (hb hby d8_27) rfl rfl k) ?_
  show Goes p.tables e below (T5.setTop (mkF m 29 #[.val (.ref oa), .val (.long pl), .second, .val (.ref oname), .val (.ref otext), .val .null, .val (.ref otype), .val .null, .val (.ref onb), .val (.ref ona), .val (.ref ors)] [(.ref otype), (.ref oa)])) _
  obtain ⟨T6, h6, X6, e6, W6, st6⟩ := putF X5 hx hZ hown (host := "") (Or.inl (hw _ (List.mem_of_getElem? (i := 54) rfl))) Via.refl e5 F_oa_unitdateType E_oa (Or.inr ⟨(hw _ (List.mem_of_getElem? (i := 55) rfl)), rfl, hnm⟩) (hw _ (List.mem_of_getElem? (i := 35) rfl)) (ty := (.object "java/lang/String")) (by decide) rfl rfl (g := (mkF m 29 #[.val (.ref oa), .val (.long pl), .second, .val (.ref oname), .val (.ref otext), .val .null, .val (.ref otype), .val .null, .val (.ref onb), .val (.ref ona), .val (.ref ors)] [(.ref otype), (.ref oa)])) rfl rfl (hb hby d8_29)
  refine Goes.by st6 ?_
  have F_oa_unitdateType : Fld Z h6 oa "org/unitspan/ead/DateElement" "unitdateType" "Ljava/lang/String;" (.ref otype) := F_oa_unitdateType.same W6
  have N6 := Fr.snoc X6 N5 g_oa
  have Zs6 : n0 ≤ h6.size := Nat.le_trans Zs5 (Keep.of_wr W6).1
  have K6 : Keep h0 h6 [oa] := K5.wr W6 (Or.inl (List.mem_of_getElem? (i := 0) rfl))
  have E_oa : Exa Z h6 oa "org/unitspan/ead/DateElement" := E_oa.wr W6
  have F_oa_line : Fld Z h6 oa "org/unitspan/ead/DateElement" "line" "J" (.long pl) := F_oa_line.other W6 (Or.inr (slot_ne (Or.inr (hw _ (List.mem_of_getElem? (i := 47) rfl))) (Or.inr (hw _ (List.mem_of_getElem? (i := 55) rfl))) (by decide) (t := .long) (t' := (.object "java/lang/String")) (by decide) (by decide)))
  have F_oa_name : Fld Z h6 oa "org/unitspan/ead/DateElement" "name" "Ljava/lang/String;" (.ref oname) := F_oa_name.other W6 (Or.inr (slot_ne (Or.inr (hw _ (List.mem_of_getElem? (i := 49) rfl))) (Or.inr (hw _ (List.mem_of_getElem? (i := 55) rfl))) (by decide) (t := (.object "java/lang/String")) (t' := (.object "java/lang/String")) (by decide) (by decide)))
  have F_oa_text : Fld Z h6 oa "org/unitspan/ead/DateElement" "text" "Ljava/lang/String;" (.ref otext) := F_oa_text.other W6 (Or.inr (slot_ne (Or.inr (hw _ (List.mem_of_getElem? (i := 51) rfl))) (Or.inr (hw _ (List.mem_of_getElem? (i := 55) rfl))) (by decide) (t := (.object "java/lang/String")) (t' := (.object "java/lang/String")) (by decide) (by decide)))
  have F_oa_normal : Fld Z h6 oa "org/unitspan/ead/DateElement" "normal" "Ljava/lang/String;" .null := F_oa_normal.other W6 (Or.inr (slot_ne (Or.inr (hw _ (List.mem_of_getElem? (i := 53) rfl))) (Or.inr (hw _ (List.mem_of_getElem? (i := 55) rfl))) (by decide) (t := (.object "java/lang/String")) (t' := (.object "java/lang/String")) (by decide) (by decide)))
  have F_oa_standardDate : Fld Z h6 oa "org/unitspan/ead/DateElement" "standardDate" "Ljava/lang/String;" .null := F_oa_standardDate.other W6 (Or.inr (slot_ne (Or.inr (hw _ (List.mem_of_getElem? (i := 57) rfl))) (Or.inr (hw _ (List.mem_of_getElem? (i := 55) rfl))) (by decide) (t := (.object "java/lang/String")) (t' := (.object "java/lang/String")) (by decide) (by decide)))
  have F_oa_notBefore : Fld Z h6 oa "org/unitspan/ead/DateElement" "notBefore" "Ljava/lang/String;" .null := F_oa_notBefore.other W6 (Or.inr (slot_ne (Or.inr (hw _ (List.mem_of_getElem? (i := 59) rfl))) (Or.inr (hw _ (List.mem_of_getElem? (i := 55) rfl))) (by decide) (t := (.object "java/lang/String")) (t' := (.object "java/lang/String")) (by decide) (by decide)))
  have F_oa_notAfter : Fld Z h6 oa "org/unitspan/ead/DateElement" "notAfter" "Ljava/lang/String;" .null := F_oa_notAfter.other W6 (Or.inr (slot_ne (Or.inr (hw _ (List.mem_of_getElem? (i := 61) rfl))) (Or.inr (hw _ (List.mem_of_getElem? (i := 55) rfl))) (by decide) (t := (.object "java/lang/String")) (t' := (.object "java/lang/String")) (by decide) (by decide)))
  have F_oa_rangeStart : Fld Z h6 oa "org/unitspan/ead/DateElement" "rangeStart" "Ljava/lang/String;" .null := F_oa_rangeStart.other W6 (Or.inr (slot_ne (Or.inr (hw _ (List.mem_of_getElem? (i := 63) rfl))) (Or.inr (hw _ (List.mem_of_getElem? (i := 55) rfl))) (by decide) (t := (.object "java/lang/String")) (t' := (.object "java/lang/String")) (by decide) (by decide)))
  show Goes p.tables e below (T6.setTop (mkF m 32 #[.val (.ref oa), .val (.long pl), .second, .val (.ref oname), .val (.ref otext), .val .null, .val (.ref otype), .val .null, .val (.ref onb), .val (.ref ona), .val (.ref ors)] [])) _
  refine Goes.by (fun _ k => XS.aloadN X6.here hx rfl (hb hby d8_32) rfl rfl k) ?_
  show Goes p.tables e below (T6.setTop (mkF m 33 #[.val (.ref oa), .val (.long pl), .second, .val (.ref oname), .val (.ref otext), .val .null, .val (.ref otype), .val .null, .val (.ref onb), .val (.ref ona), .val (.ref ors)] [(.ref oa)])) _
  refine Goes.by (fun _ k => XS.aload X6.here hx rfl (hb hby d8_33) rfl rfl k) ?_
  show Goes p.tables e below (T6.setTop (mkF m 35 #[.val (.ref oa), .val (.long pl), .second, .val (.ref oname), .val (.ref otext), .val .null, .val (.ref otype), .val .null, .val (.ref onb), .val (.ref ona), .val (.ref ors)] [.null, (.ref oa)])) _
  obtain ⟨T7, h7, X7, e7, W7, st7⟩ := putF X6 hx hZ hown (host := "") (Or.inl (hw _ (List.mem_of_getElem? (i := 56) rfl))) Via.refl e6 F_oa_standardDate E_oa (Or.inr ⟨(hw _ (List.mem_of_getElem? (i := 57) rfl)), rfl, hnm⟩) (hw _ (List.mem_of_getElem? (i := 35) rfl)) (ty := (.object "java/lang/String")) (by decide) rfl rfl (g := (mkF m 35 #[.val (.ref oa), .val (.long pl), .second, .val (.ref oname), .val (.ref otext), .val .null, .val (.ref otype), .val .null, .val (.ref onb), .val (.ref ona), .val (.ref ors)] [.null, (.ref oa)])) rfl rfl (hb hby d8_35)
  refine Goes.by st7 ?_
  have F_oa_standardDate : Fld Z h7 oa "org/unitspan/ead/DateElement" "standardDate" "Ljava/lang/String;" .null := F_oa_standardDate.same W7
  have N7 := Fr.snoc X7 N6 g_oa
  have Zs7 : n0 ≤ h7.size := Nat.le_trans Zs6 (Keep.of_wr W7).1
  have K7 : Keep h0 h7 [oa] := K6.wr W7 (Or.inl (List.mem_of_getElem? (i := 0) rfl))
  have E_oa : Exa Z h7 oa "org/unitspan/ead/DateElement" := E_oa.wr W7
  have F_oa_line : Fld Z h7 oa "org/unitspan/ead/DateElement" "line" "J" (.long pl) := F_oa_line.other W7 (Or.inr (slot_ne (Or.inr (hw _ (List.mem_of_getElem? (i := 47) rfl))) (Or.inr (hw _ (List.mem_of_getElem? (i := 57) rfl))) (by decide) (t := .long) (t' := (.object "java/lang/String")) (by decide) (by decide)))
  have F_oa_name : Fld Z h7 oa "org/unitspan/ead/DateElement" "name" "Ljava/lang/String;" (.ref oname) := F_oa_name.other W7 (Or.inr (slot_ne (Or.inr (hw _ (List.mem_of_getElem? (i := 49) rfl))) (Or.inr (hw _ (List.mem_of_getElem? (i := 57) rfl))) (by decide) (t := (.object "java/lang/String")) (t' := (.object "java/lang/String")) (by decide) (by decide)))
  have F_oa_text : Fld Z h7 oa "org/unitspan/ead/DateElement" "text" "Ljava/lang/String;" (.ref otext) := F_oa_text.other W7 (Or.inr (slot_ne (Or.inr (hw _ (List.mem_of_getElem? (i := 51) rfl))) (Or.inr (hw _ (List.mem_of_getElem? (i := 57) rfl))) (by decide) (t := (.object "java/lang/String")) (t' := (.object "java/lang/String")) (by decide) (by decide)))
  have F_oa_normal : Fld Z h7 oa "org/unitspan/ead/DateElement" "normal" "Ljava/lang/String;" .null := F_oa_normal.other W7 (Or.inr (slot_ne (Or.inr (hw _ (List.mem_of_getElem? (i := 53) rfl))) (Or.inr (hw _ (List.mem_of_getElem? (i := 57) rfl))) (by decide) (t := (.object "java/lang/String")) (t' := (.object "java/lang/String")) (by decide) (by decide)))
  have F_oa_unitdateType : Fld Z h7 oa "org/unitspan/ead/DateElement" "unitdateType" "Ljava/lang/String;" (.ref otype) := F_oa_unitdateType.other W7 (Or.inr (slot_ne (Or.inr (hw _ (List.mem_of_getElem? (i := 55) rfl))) (Or.inr (hw _ (List.mem_of_getElem? (i := 57) rfl))) (by decide) (t := (.object "java/lang/String")) (t' := (.object "java/lang/String")) (by decide) (by decide)))
  have F_oa_notBefore : Fld Z h7 oa "org/unitspan/ead/DateElement" "notBefore" "Ljava/lang/String;" .null := F_oa_notBefore.other W7 (Or.inr (slot_ne (Or.inr (hw _ (List.mem_of_getElem? (i := 59) rfl))) (Or.inr (hw _ (List.mem_of_getElem? (i := 57) rfl))) (by decide) (t := (.object "java/lang/String")) (t' := (.object "java/lang/String")) (by decide) (by decide)))
  have F_oa_notAfter : Fld Z h7 oa "org/unitspan/ead/DateElement" "notAfter" "Ljava/lang/String;" .null := F_oa_notAfter.other W7 (Or.inr (slot_ne (Or.inr (hw _ (List.mem_of_getElem? (i := 61) rfl))) (Or.inr (hw _ (List.mem_of_getElem? (i := 57) rfl))) (by decide) (t := (.object "java/lang/String")) (t' := (.object "java/lang/String")) (by decide) (by decide)))
  have F_oa_rangeStart : Fld Z h7 oa "org/unitspan/ead/DateElement" "rangeStart" "Ljava/lang/String;" .null := F_oa_rangeStart.other W7 (Or.inr (slot_ne (Or.inr (hw _ (List.mem_of_getElem? (i := 63) rfl))) (Or.inr (hw _ (List.mem_of_getElem? (i := 57) rfl))) (by decide) (t := (.object "java/lang/String")) (t' := (.object "java/lang/String")) (by decide) (by decide)))
  show Goes p.tables e below (T7.setTop (mkF m 38 #[.val (.ref oa), .val (.long pl), .second, .val (.ref oname), .val (.ref otext), .val .null, .val (.ref otype), .val .null, .val (.ref onb), .val (.ref ona), .val (.ref ors)] [])) _
  refine Goes.by (fun _ k => XS.aloadN X7.here hx rfl (hb hby d8_38) rfl rfl k) ?_
  show Goes p.tables e below (T7.setTop (mkF m 39 #[.val (.ref oa), .val (.long pl), .second, .val (.ref oname), .val (.ref otext), .val .null, .val (.ref otype), .val .null, .val (.ref onb), .val (.ref ona), .val (.ref ors)] [(.ref oa)])) _
  refine Goes.by (fun _ k => XS.aload X7.here hx rfl (hb hby d8_39) rfl rfl k) ?_
  show Goes p.tables e below (T7.setTop (mkF m 41 #[.val (.ref oa), .val (.long pl), .second, .val (.ref oname), .val (.ref otext), .val .null, .val (.ref otype), .val .null, .val (.ref onb), .val (.ref ona), .val (.ref ors)] [(.ref onb), (.ref oa)])) _
  obtain ⟨T8, h8, X8, e8, W8, st8⟩ := putF X7 hx hZ hown (host := "") (Or.inl (hw _ (List.mem_of_getElem? (i := 58) rfl))) Via.refl e7 F_oa_notBefore E_oa (Or.inr ⟨(hw _ (List.mem_of_getElem? (i := 59) rfl)), rfl, hnm⟩) (hw _ (List.mem_of_getElem? (i := 35) rfl)) (ty := (.object "java/lang/String")) (by decide) rfl rfl (g := (mkF m 41 #[.val (.ref oa), .val (.long pl), .second, .val (.ref oname), .val (.ref otext), .val .null, .val (.ref otype), .val .null, .val (.ref onb), .val (.ref ona), .val (.ref ors)] [(.ref onb), (.ref oa)])) rfl rfl (hb hby d8_41)
  refine Goes.by st8 ?_
  have F_oa_notBefore : Fld Z h8 oa "org/unitspan/ead/DateElement" "notBefore" "Ljava/lang/String;" (.ref onb) := F_oa_notBefore.same W8
  have N8 := Fr.snoc X8 N7 g_oa
  have Zs8 : n0 ≤ h8.size := Nat.le_trans Zs7 (Keep.of_wr W8).1
  have K8 : Keep h0 h8 [oa] := K7.wr W8 (Or.inl (List.mem_of_getElem? (i := 0) rfl))
  have E_oa : Exa Z h8 oa "org/unitspan/ead/DateElement" := E_oa.wr W8
  have F_oa_line : Fld Z h8 oa "org/unitspan/ead/DateElement" "line" "J" (.long pl) := F_oa_line.other W8 (Or.inr (slot_ne (Or.inr (hw _ (List.mem_of_getElem? (i := 47) rfl))) (Or.inr (hw _ (List.mem_of_getElem? (i := 59) rfl))) (by decide) (t := .long) (t' := (.object "java/lang/String")) (by decide) (by decide)))
  have F_oa_name : Fld Z h8 oa "org/unitspan/ead/DateElement" "name" "Ljava/lang/String;" (.ref oname) := F_oa_name.other W8 (Or.inr (slot_ne (Or.inr (hw _ (List.mem_of_getElem? (i := 49) rfl))) (Or.inr (hw _ (List.mem_of_getElem? (i := 59) rfl))) (by decide) (t := (.object "java/lang/String")) (t' := (.object "java/lang/String")) (by decide) (by decide)))
  have F_oa_text : Fld Z h8 oa "org/unitspan/ead/DateElement" "text" "Ljava/lang/String;" (.ref otext) := F_oa_text.other W8 (Or.inr (slot_ne (Or.inr (hw _ (List.mem_of_getElem? (i := 51) rfl))) (Or.inr (hw _ (List.mem_of_getElem? (i := 59) rfl))) (by decide) (t := (.object "java/lang/String")) (t' := (.object "java/lang/String")) (by decide) (by decide)))
  have F_oa_normal : Fld Z h8 oa "org/unitspan/ead/DateElement" "normal" "Ljava/lang/String;" .null := F_oa_normal.other W8 (Or.inr (slot_ne (Or.inr (hw _ (List.mem_of_getElem? (i := 53) rfl))) (Or.inr (hw _ (List.mem_of_getElem? (i := 59) rfl))) (by decide) (t := (.object "java/lang/String")) (t' := (.object "java/lang/String")) (by decide) (by decide)))
  have F_oa_unitdateType : Fld Z h8 oa "org/unitspan/ead/DateElement" "unitdateType" "Ljava/lang/String;" (.ref otype) := F_oa_unitdateType.other W8 (Or.inr (slot_ne (Or.inr (hw _ (List.mem_of_getElem? (i := 55) rfl))) (Or.inr (hw _ (List.mem_of_getElem? (i := 59) rfl))) (by decide) (t := (.object "java/lang/String")) (t' := (.object "java/lang/String")) (by decide) (by decide)))
  have F_oa_standardDate : Fld Z h8 oa "org/unitspan/ead/DateElement" "standardDate" "Ljava/lang/String;" .null := F_oa_standardDate.other W8 (Or.inr (slot_ne (Or.inr (hw _ (List.mem_of_getElem? (i := 57) rfl))) (Or.inr (hw _ (List.mem_of_getElem? (i := 59) rfl))) (by decide) (t := (.object "java/lang/String")) (t' := (.object "java/lang/String")) (by decide) (by decide)))
  have F_oa_notAfter : Fld Z h8 oa "org/unitspan/ead/DateElement" "notAfter" "Ljava/lang/String;" .null := F_oa_notAfter.other W8 (Or.inr (slot_ne (Or.inr (hw _ (List.mem_of_getElem? (i := 61) rfl))) (Or.inr (hw _ (List.mem_of_getElem? (i := 59) rfl))) (by decide) (t := (.object "java/lang/String")) (t' := (.object "java/lang/String")) (by decide) (by decide)))
  have F_oa_rangeStart : Fld Z h8 oa "org/unitspan/ead/DateElement" "rangeStart" "Ljava/lang/String;" .null := F_oa_rangeStart.other W8 (Or.inr (slot_ne (Or.inr (hw _ (List.mem_of_getElem? (i := 63) rfl))) (Or.inr (hw _ (List.mem_of_getElem? (i := 59) rfl))) (by decide) (t := (.object "java/lang/String")) (t' := (.object "java/lang/String")) (by decide) (by decide)))
  show Goes p.tables e below (T8.setTop (mkF m 44 #[.val (.ref oa), .val (.long pl), .second, .val (.ref oname), .val (.ref otext), .val .null, .val (.ref otype), .val .null, .val (.ref onb), .val (.ref ona), .val (.ref ors)] [])) _
  refine Goes.by (fun _ k => XS.aloadN X8.here hx rfl (hb hby d8_44) rfl rfl k) ?_
  show Goes p.tables e below (T8.setTop (mkF m 45 #[.val (.ref oa), .val (.long pl), .second, .val (.ref oname), .val (.ref otext), .val .null, .val (.ref otype), .val .null, .val (.ref onb), .val (.ref ona), .val (.ref ors)] [(.ref oa)])) _
  refine Goes.by (fun _ k => XS.aload X8.here hx rfl (hb hby d8_45) rfl rfl k) ?_
  show Goes p.tables e below (T8.setTop (mkF m 47 #[.val (.ref oa), .val (.long pl), .second, .val (.ref oname), .val (.ref otext), .val .null, .val (.ref otype), .val .null, .val (.ref onb), .val (.ref ona), .val (.ref ors)] [(.ref ona), (.ref oa)])) _
  obtain ⟨T9, h9, X9, e9, W9, st9⟩ := putF X8 hx hZ hown (host := "") (Or.inl (hw _ (List.mem_of_getElem? (i := 60) rfl))) Via.refl e8 F_oa_notAfter E_oa (Or.inr ⟨(hw _ (List.mem_of_getElem? (i := 61) rfl)), rfl, hnm⟩) (hw _ (List.mem_of_getElem? (i := 35) rfl)) (ty := (.object "java/lang/String")) (by decide) rfl rfl (g := (mkF m 47 #[.val (.ref oa), .val (.long pl), .second, .val (.ref oname), .val (.ref otext), .val .null, .val (.ref otype), .val .null, .val (.ref onb), .val (.ref ona), .val (.ref ors)] [(.ref ona), (.ref oa)])) rfl rfl (hb hby d8_47)
  refine Goes.by st9 ?_
  have F_oa_notAfter : Fld Z h9 oa "org/unitspan/ead/DateElement" "notAfter" "Ljava/lang/String;" (.ref ona) := F_oa_notAfter.same W9
  have N9 := Fr.snoc X9 N8 g_oa
  have Zs9 : n0 ≤ h9.size := Nat.le_trans Zs8 (Keep.of_wr W9).1
  have K9 : Keep h0 h9 [oa] := K8.wr W9 (Or.inl (List.mem_of_getElem? (i := 0) rfl))
  have E_oa : Exa Z h9 oa "org/unitspan/ead/DateElement" := E_oa.wr W9
  have F_oa_line : Fld Z h9 oa "org/unitspan/ead/DateElement" "line" "J" (.long pl) := F_oa_line.other W9 (Or.inr (slot_ne (Or.inr (hw _ (List.mem_of_getElem? (i := 47) rfl))) (Or.inr (hw _ (List.mem_of_getElem? (i := 61) rfl))) (by decide) (t := .long) (t' := (.object "java/lang/String")) (by decide) (by decide)))
  have F_oa_name : Fld Z h9 oa "org/unitspan/ead/DateElement" "name" "Ljava/lang/String;" (.ref oname) := F_oa_name.other W9 (Or.inr (slot_ne (Or.inr (hw _ (List.mem_of_getElem? (i := 49) rfl))) (Or.inr (hw _ (List.mem_of_getElem? (i := 61) rfl))) (by decide) (t := (.object "java/lang/String")) (t' := (.object "java/lang/String")) (by decide) (by decide)))
  have F_oa_text : Fld Z h9 oa "org/unitspan/ead/DateElement" "text" "Ljava/lang/String;" (.ref otext) := F_oa_text.other W9 (Or.inr (slot_ne (Or.inr (hw _ (List.mem_of_getElem? (i := 51) rfl))) (Or.inr (hw _ (List.mem_of_getElem? (i := 61) rfl))) (by decide) (t := (.object "java/lang/String")) (t' := (.object "java/lang/String")) (by decide) (by decide)))
  have F_oa_normal : Fld Z h9 oa "org/unitspan/ead/DateElement" "normal" "Ljava/lang/String;" .null := F_oa_normal.other W9 (Or.inr (slot_ne (Or.inr (hw _ (List.mem_of_getElem? (i := 53) rfl))) (Or.inr (hw _ (List.mem_of_getElem? (i := 61) rfl))) (by decide) (t := (.object "java/lang/String")) (t' := (.object "java/lang/String")) (by decide) (by decide)))
  have F_oa_unitdateType : Fld Z h9 oa "org/unitspan/ead/DateElement" "unitdateType" "Ljava/lang/String;" (.ref otype) := F_oa_unitdateType.other W9 (Or.inr (slot_ne (Or.inr (hw _ (List.mem_of_getElem? (i := 55) rfl))) (Or.inr (hw _ (List.mem_of_getElem? (i := 61) rfl))) (by decide) (t := (.object "java/lang/String")) (t' := (.object "java/lang/String")) (by decide) (by decide)))
  have F_oa_standardDate : Fld Z h9 oa "org/unitspan/ead/DateElement" "standardDate" "Ljava/lang/String;" .null := F_oa_standardDate.other W9 (Or.inr (slot_ne (Or.inr (hw _ (List.mem_of_getElem? (i := 57) rfl))) (Or.inr (hw _ (List.mem_of_getElem? (i := 61) rfl))) (by decide) (t := (.object "java/lang/String")) (t' := (.object "java/lang/String")) (by decide) (by decide)))
  have F_oa_notBefore : Fld Z h9 oa "org/unitspan/ead/DateElement" "notBefore" "Ljava/lang/String;" (.ref onb) := F_oa_notBefore.other W9 (Or.inr (slot_ne (Or.inr (hw _ (List.mem_of_getElem? (i := 59) rfl))) (Or.inr (hw _ (List.mem_of_getElem? (i := 61) rfl))) (by decide) (t := (.object "java/lang/String")) (t' := (.object "java/lang/String")) (by decide) (by decide)))
  have F_oa_rangeStart : Fld Z h9 oa "org/unitspan/ead/DateElement" "rangeStart" "Ljava/lang/String;" .null := F_oa_rangeStart.other W9 (Or.inr (slot_ne (Or.inr (hw _ (List.mem_of_getElem? (i := 63) rfl))) (Or.inr (hw _ (List.mem_of_getElem? (i := 61) rfl))) (by decide) (t := (.object "java/lang/String")) (t' := (.object "java/lang/String")) (by decide) (by decide)))
  show Goes p.tables e below (T9.setTop (mkF m 50 #[.val (.ref oa), .val (.long pl), .second, .val (.ref oname), .val (.ref otext), .val .null, .val (.ref otype), .val .null, .val (.ref onb), .val (.ref ona), .val (.ref ors)] [])) _
  refine Goes.by (fun _ k => XS.aloadN X9.here hx rfl (hb hby d8_50) rfl rfl k) ?_
  show Goes p.tables e below (T9.setTop (mkF m 51 #[.val (.ref oa), .val (.long pl), .second, .val (.ref oname), .val (.ref otext), .val .null, .val (.ref otype), .val .null, .val (.ref onb), .val (.ref ona), .val (.ref ors)] [(.ref oa)])) _
  refine Goes.by (fun _ k => XS.aload X9.here hx rfl (hb hby d8_51) rfl rfl k) ?_
  show Goes p.tables e below (T9.setTop (mkF m 53 #[.val (.ref oa), .val (.long pl), .second, .val (.ref oname), .val (.ref otext), .val .null, .val (.ref otype), .val .null, .val (.ref onb), .val (.ref ona), .val (.ref ors)] [(.ref ors), (.ref oa)])) _
  obtain ⟨T10, h10, X10, e10, W10, st10⟩ := putF X9 hx hZ hown (host := "") (Or.inl (hw _ (List.mem_of_getElem? (i := 62) rfl))) Via.refl e9 F_oa_rangeStart E_oa (Or.inr ⟨(hw _ (List.mem_of_getElem? (i := 63) rfl)), rfl, hnm⟩) (hw _ (List.mem_of_getElem? (i := 35) rfl)) (ty := (.object "java/lang/String")) (by decide) rfl rfl (g := (mkF m 53 #[.val (.ref oa), .val (.long pl), .second, .val (.ref oname), .val (.ref otext), .val .null, .val (.ref otype), .val .null, .val (.ref onb), .val (.ref ona), .val (.ref ors)] [(.ref ors), (.ref oa)])) rfl rfl (hb hby d8_53)
  refine Goes.by st10 ?_
  have F_oa_rangeStart : Fld Z h10 oa "org/unitspan/ead/DateElement" "rangeStart" "Ljava/lang/String;" (.ref ors) := F_oa_rangeStart.same W10
  have N10 := Fr.snoc X10 N9 g_oa
  have Zs10 : n0 ≤ h10.size := Nat.le_trans Zs9 (Keep.of_wr W10).1
  have K10 : Keep h0 h10 [oa] := K9.wr W10 (Or.inl (List.mem_of_getElem? (i := 0) rfl))
  have E_oa : Exa Z h10 oa "org/unitspan/ead/DateElement" := E_oa.wr W10
  have F_oa_line : Fld Z h10 oa "org/unitspan/ead/DateElement" "line" "J" (.long pl) := F_oa_line.other W10 (Or.inr (slot_ne (Or.inr (hw _ (List.mem_of_getElem? (i := 47) rfl))) (Or.inr (hw _ (List.mem_of_getElem? (i := 63) rfl))) (by decide) (t := .long) (t' := (.object "java/lang/String")) (by decide) (by decide)))
  have F_oa_name : Fld Z h10 oa "org/unitspan/ead/DateElement" "name" "Ljava/lang/String;" (.ref oname) := F_oa_name.other W10 (Or.inr (slot_ne (Or.inr (hw _ (List.mem_of_getElem? (i := 49) rfl))) (Or.inr (hw _ (List.mem_of_getElem? (i := 63) rfl))) (by decide) (t := (.object "java/lang/String")) (t' := (.object "java/lang/String")) (by decide) (by decide)))
  have F_oa_text : Fld Z h10 oa "org/unitspan/ead/DateElement" "text" "Ljava/lang/String;" (.ref otext) := F_oa_text.other W10 (Or.inr (slot_ne (Or.inr (hw _ (List.mem_of_getElem? (i := 51) rfl))) (Or.inr (hw _ (List.mem_of_getElem? (i := 63) rfl))) (by decide) (t := (.object "java/lang/String")) (t' := (.object "java/lang/String")) (by decide) (by decide)))
  have F_oa_normal : Fld Z h10 oa "org/unitspan/ead/DateElement" "normal" "Ljava/lang/String;" .null := F_oa_normal.other W10 (Or.inr (slot_ne (Or.inr (hw _ (List.mem_of_getElem? (i := 53) rfl))) (Or.inr (hw _ (List.mem_of_getElem? (i := 63) rfl))) (by decide) (t := (.object "java/lang/String")) (t' := (.object "java/lang/String")) (by decide) (by decide)))
  have F_oa_unitdateType : Fld Z h10 oa "org/unitspan/ead/DateElement" "unitdateType" "Ljava/lang/String;" (.ref otype) := F_oa_unitdateType.other W10 (Or.inr (slot_ne (Or.inr (hw _ (List.mem_of_getElem? (i := 55) rfl))) (Or.inr (hw _ (List.mem_of_getElem? (i := 63) rfl))) (by decide) (t := (.object "java/lang/String")) (t' := (.object "java/lang/String")) (by decide) (by decide)))
  have F_oa_standardDate : Fld Z h10 oa "org/unitspan/ead/DateElement" "standardDate" "Ljava/lang/String;" .null := F_oa_standardDate.other W10 (Or.inr (slot_ne (Or.inr (hw _ (List.mem_of_getElem? (i := 57) rfl))) (Or.inr (hw _ (List.mem_of_getElem? (i := 63) rfl))) (by decide) (t := (.object "java/lang/String")) (t' := (.object "java/lang/String")) (by decide) (by decide)))
  have F_oa_notBefore : Fld Z h10 oa "org/unitspan/ead/DateElement" "notBefore" "Ljava/lang/String;" (.ref onb) := F_oa_notBefore.other W10 (Or.inr (slot_ne (Or.inr (hw _ (List.mem_of_getElem? (i := 59) rfl))) (Or.inr (hw _ (List.mem_of_getElem? (i := 63) rfl))) (by decide) (t := (.object "java/lang/String")) (t' := (.object "java/lang/String")) (by decide) (by decide)))
  have F_oa_notAfter : Fld Z h10 oa "org/unitspan/ead/DateElement" "notAfter" "Ljava/lang/String;" (.ref ona) := F_oa_notAfter.other W10 (Or.inr (slot_ne (Or.inr (hw _ (List.mem_of_getElem? (i := 61) rfl))) (Or.inr (hw _ (List.mem_of_getElem? (i := 63) rfl))) (by decide) (t := (.object "java/lang/String")) (t' := (.object "java/lang/String")) (by decide) (by decide)))
  show Goes p.tables e below (T10.setTop (mkF m 56 #[.val (.ref oa), .val (.long pl), .second, .val (.ref oname), .val (.ref otext), .val .null, .val (.ref otype), .val .null, .val (.ref onb), .val (.ref ona), .val (.ref ors)] [])) _
  obtain ⟨fs, hr, hrun, hended, hW, hsame⟩ := X10.leave (v := none) (fun _ => rfl)
  refine ⟨_, _, X10.returnOut hx Bd.returns (hb hby d8_56) hr, hrun, hended, _, _, rfl, ?_, ⟨_, rfl⟩, hW, hsame.mono (by decide) (by decide)⟩
  show Q8nn Z oa pl oname otext otype onb ona ors h0 n0 _ T10.heap _
  rw [e10]
  exact ⟨rfl, N10, K10, E_oa, F_oa_normal, F_oa_standardDate⟩
theorem ef10nn (m : MethodId) (oa : Addr) : entryFrame m #[(.ref oa)] 1 = mkF m 0 #[.val (.ref oa)] [] := by first | (simp [entryFrame, mkF, argsToLocals, Value.category]; done) | rfl
def Q10nn (Z : State) (oa : Addr) (h0 : Heap) (n0 : Nat) (v : Option Value) (h : Heap) (L : List Loc) : Prop := v = some .null ∧ Fr n0 L ∧ h = h0
set_option maxRecDepth 65536 in
set_option maxHeartbeats 40000000 in
theorem rm10nn (l : Launch) (Z : State) (a0 : Array Value) (hw : ∀ d ∈ tables_1, d.before a0 Z = true) (ws : List Jvm.Cond) (oa : Addr) (h0 : Heap) (n0 : Nat) (Z0 : n0 ≤ h0.size) (F_oa_normal : Fld Z h0 oa "org/unitspan/ead/DateElement" "normal" "Ljava/lang/String;" .null) (F_oa_standardDate : Fld Z h0 oa "org/unitspan/ead/DateElement" "standardDate" "Ljava/lang/String;" .null) :
    MetFree l (⟨"org/unitspan/ead/DateElement", "statedDate", "()Ljava/lang/String;"⟩ : MethodName) (head1 (Jvm.Cond.code (⟨"org/unitspan/ead/DateElement", "statedDate", "()Ljava/lang/String;"⟩ : MethodName) prog_38_method_5_code 1 (some (.object "java/lang/String")) :: ws) ({ frames := 0, cells := 0, slots := 0, locals := 0 } : Room)) (fun a U => a = #[(.ref oa)] ∧ Z.Warmed39 U.vm ∧ U.heap = h0) (fun _ _ _ _ _ => True) (fun _ U o U' => ∃ v L, o = .returned v ∧ Q10nn Z oa h0 n0 v U'.heap L ∧ FrameEnd U o U' L ({ frames := 0, cells := 0, slots := 0, locals := 0 } : Room).cells ({ frames := 0, cells := 0, slots := 0, locals := 0 } : Room).slots) := by
  refine MetFree.of_bodySF (plainFor_of_name pn_2) hisR ?_
  intro p e s m args below meth c s₁ Bd hml0 hP hK
  obtain ⟨rfl, hZ, hh⟩ := hP
  have hx := Bd.exec
  have hby := Bd.bytes
  have hml : c.maxLocals = 1 := hml0
  have hown : s.vm.findClass "org/unitspan/ead/DateElement" = some m.cls := findClass_of_methodNamed Bd.named
  have hnm := (name_of_methodNamed Bd.named Bd.method).1
  have X0 : Stand p l e ({ frames := 0, cells := 0, slots := 0, locals := 0 } : Room) s m #[(.ref oa)] below meth c s₁ [] 0 0 := Stand.of_body Bd
  have e0 : s₁.heap = h0 := by rw [← hh, Bd.state]; rfl
  have N0 := Fr.nil n0
  refine Goes.by (fun _ k => castTop (ef10nn m oa) k) ?_
  show Goes p.tables e below (s₁.setTop (mkF m 0 #[.val (.ref oa)] [])) _
  refine Goes.by (fun _ k => XS.aloadN X0.here hx rfl (hb hby d10_0) rfl rfl k) ?_
  show Goes p.tables e below (s₁.setTop (mkF m 1 #[.val (.ref oa)] [(.ref oa)])) _
  obtain ⟨T1, X1, e1, st1⟩ := getF X0 hx hZ hown (host := "") (Or.inl (hw _ (List.mem_of_getElem? (i := 52) rfl))) Via.refl e0 F_oa_normal (g := (mkF m 1 #[.val (.ref oa)] [(.ref oa)])) rfl rfl (hb hby d10_1)
  refine Goes.by st1 ?_
  show Goes p.tables e below (T1.setTop (mkF m 4 #[.val (.ref oa)] [.null])) _
  refine Goes.by (fun _ k => XS.ifnullYes X1.here hx rfl (pc0 := 4) (pc' := 14) rfl (hb hby d10_4) rfl (by decide) (by decide) k) ?_
  show Goes p.tables e below (T1.setTop (mkF m 14 #[.val (.ref oa)] [])) _
  refine Goes.by (fun _ k => XS.aloadN X1.here hx rfl (hb hby d10_14) rfl rfl k) ?_
  show Goes p.tables e below (T1.setTop (mkF m 15 #[.val (.ref oa)] [(.ref oa)])) _
  obtain ⟨T2, X2, e2, st2⟩ := getF X1 hx hZ hown (host := "") (Or.inl (hw _ (List.mem_of_getElem? (i := 56) rfl))) Via.refl e1 F_oa_standardDate (g := (mkF m 15 #[.val (.ref oa)] [(.ref oa)])) rfl rfl (hb hby d10_15)
  refine Goes.by st2 ?_
  show Goes p.tables e below (T2.setTop (mkF m 18 #[.val (.ref oa)] [.null])) _
  obtain ⟨fs, hr, hrun, hended, hW, hsame⟩ := X2.leave (v := some .null) (fun h => by rw [Bd.returns] at h; cases h)
  refine ⟨_, _, retOut X2 hx Bd.returns (i := .areturn) (narR rfl) (Or.inr (Or.inr (Or.inr (Or.inr ⟨rfl, rfl, rfl⟩)))) (hb hby d10_18) hr, hrun, hended, _, _, rfl, ?_, ⟨_, rfl⟩, hW, hsame.mono (by decide) (by decide)⟩
  show Q10nn Z oa h0 n0 _ T2.heap _
  rw [e2]
  exact ⟨rfl, N0, rfl⟩
theorem pd_2 : parseMethodDescriptor "(I)Ljava/lang/String;" = some ⟨[.int], some (.object "java/lang/String")⟩ := by decide +kernel
theorem pd_3 : parseMethodDescriptor "(JLjava/lang/String;Ljava/lang/String;Ljava/lang/String;Ljava/lang/String;Ljava/lang/String;Ljava/lang/String;Ljava/lang/String;Ljava/lang/String;)V" = some ⟨[.long, (.object "java/lang/String"), (.object "java/lang/String"), (.object "java/lang/String"), (.object "java/lang/String"), (.object "java/lang/String"), (.object "java/lang/String"), (.object "java/lang/String"), (.object "java/lang/String")], none⟩ := by decide +kernel
theorem pd_4 : parseMethodDescriptor "()Ljava/lang/String;" = some ⟨[], some (.object "java/lang/String")⟩ := by decide +kernel
theorem ef0 (m : MethodId) (pl : Int64) (pa : Int32) (pb : Int32) (pc0 : Int32) (pf : Int32) : entryFrame m #[(.long pl), (.int pa), (.int pb), (.int pc0), (.int pf)] maxLocals = mkF m 0 #[.val (.long pl), .second, .val (.int pa), .val (.int pb), .val (.int pc0), .val (.int pf), .unset, .unset, .unset, .unset, .unset, .unset, .unset, .unset, .unset, .unset, .unset, .unset] [] := by first | (simp [entryFrame, mkF, argsToLocals, Value.category, maxLocals]; done) | rfl
def Q0 (Z : State) (pl : Int64) (pa : Int32) (pb : Int32) (pc0 : Int32) (pf : Int32) (zc : Int32) (h0 : Heap) (n0 : Nat) (v : Option Value) (h : Heap) (L : List Loc) : Prop := v = some (.int (1 : Int32)) ∧ Fr n0 L
set_option maxRecDepth 65536 in
set_option maxHeartbeats 40000000 in
theorem rm0 (l : Launch) (Z : State) (a0 : Array Value) (hw : ∀ d ∈ tables_1, d.before a0 Z = true) (ws : List Jvm.Cond) (pl : Int64) (pa : Int32) (pb : Int32) (pc0 : Int32) (pf : Int32) (zc : Int32) (h0 : Heap) (n0 : Nat) (Z0 : n0 ≤ h0.size) (O : Old Z n0 h0) (S_cs : Sta Z Z.heap "java/lang/String" "COMPACT_STRINGS" "Z" (.int zc)) (hzc : ¬ zc = 0) :
    MetFree l x (head1 (Jvm.Cond.code x code maxLocals ret :: ws) room_1) (fun a U => a = #[(.long pl), (.int pa), (.int pb), (.int pc0), (.int pf)] ∧ Z.Warmed39 U.vm ∧ U.heap = h0) (fun _ _ _ _ _ => True) (fun _ U o U' => ∃ v L, o = .returned v ∧ Q0 Z pl pa pb pc0 pf zc h0 n0 v U'.heap L ∧ FrameEnd U o U' L room_1.cells room_1.slots) := by
  refine MetFree.of_bodySF (plainFor_of_name pn_0) hisR ?_
  intro p e s m args below meth c s₁ Bd hml0 hP hK
  obtain ⟨rfl, hZ, hh⟩ := hP
  have hx := Bd.exec
  have hby := Bd.bytes
  have hml : c.maxLocals = 18 := hml0
  have hown : s.vm.findClass "org/unitspan/ead/DateElementStatedDatePinLaw" = some m.cls := findClass_of_methodNamed Bd.named
  have hnm := (name_of_methodNamed Bd.named Bd.method).1
  have X0 : Stand p l e room_1 s m #[(.long pl), (.int pa), (.int pb), (.int pc0), (.int pf)] below meth c s₁ [] 0 0 := Stand.of_body Bd
  have e0 : s₁.heap = h0 := by rw [← hh, Bd.state]; rfl
  have N0 := Fr.nil n0
  refine Goes.by (fun _ k => castTop (ef0 m pl pa pb pc0 pf) k) ?_
  show Goes p.tables e below (s₁.setTop (mkF m 0 #[.val (.long pl), .second, .val (.int pa), .val (.int pb), .val (.int pc0), .val (.int pf), .unset, .unset, .unset, .unset, .unset, .unset, .unset, .unset, .unset, .unset, .unset, .unset] [])) _
  refine Goes.by (fun _ k => XS.iload X0.here hx rfl (hb hby at_0) rfl k) ?_
  show Goes p.tables e below (s₁.setTop (mkF m 2 #[.val (.long pl), .second, .val (.int pa), .val (.int pb), .val (.int pc0), .val (.int pf), .unset, .unset, .unset, .unset, .unset, .unset, .unset, .unset, .unset, .unset, .unset, .unset] [(.int pf)])) _
  refine Goes.by (fun _ k => XS.iconst X0.here hx rfl (hb hby at_2) k) ?_
  show Goes p.tables e below (s₁.setTop (mkF m 3 #[.val (.long pl), .second, .val (.int pa), .val (.int pb), .val (.int pc0), .val (.int pf), .unset, .unset, .unset, .unset, .unset, .unset, .unset, .unset, .unset, .unset, .unset, .unset] [(.int (1 : Int32)), (.int pf)])) _
  refine Goes.by (fun _ k => XS.iand X0.here hx rfl (hb hby at_3) rfl k) ?_
  show Goes p.tables e below (s₁.setTop (mkF m 4 #[.val (.long pl), .second, .val (.int pa), .val (.int pb), .val (.int pc0), .val (.int pf), .unset, .unset, .unset, .unset, .unset, .unset, .unset, .unset, .unset, .unset, .unset, .unset] [(.int (pf &&& (1 : Int32)))])) _
  by_cases hc1 : (pf &&& (1 : Int32)) = (0 : Int32)
  · refine Goes.by (fun _ k => XS.ifYes X0.here hx rfl (pc0 := 4) (pc' := 11) rfl (hb hby at_4) rfl ((if0 _ _).trans (teq hc1).1) (by decide) (by decide) k) ?_
    show Goes p.tables e below (s₁.setTop (mkF m 11 #[.val (.long pl), .second, .val (.int pa), .val (.int pb), .val (.int pc0), .val (.int pf), .unset, .unset, .unset, .unset, .unset, .unset, .unset, .unset, .unset, .unset, .unset, .unset] [])) _
    refine Goes.by (fun _ k => XS.iconst X0.here hx rfl (hb hby at_11) k) ?_
    show Goes p.tables e below (s₁.setTop (mkF m 12 #[.val (.long pl), .second, .val (.int pa), .val (.int pb), .val (.int pc0), .val (.int pf), .unset, .unset, .unset, .unset, .unset, .unset, .unset, .unset, .unset, .unset, .unset, .unset] [(.int (0 : Int32))])) _
    refine Goes.by (fun _ k => XS.istore X0.here hx rfl (hb hby at_12) rfl (l' := #[.val (.long pl), .second, .val (.int pa), .val (.int pb), .val (.int pc0), .val (.int pf), .val (.int (0 : Int32)), .unset, .unset, .unset, .unset, .unset, .unset, .unset, .unset, .unset, .unset, .unset]) rfl k) ?_
    show Goes p.tables e below (s₁.setTop (mkF m 14 #[.val (.long pl), .second, .val (.int pa), .val (.int pb), .val (.int pc0), .val (.int pf), .val (.int (0 : Int32)), .unset, .unset, .unset, .unset, .unset, .unset, .unset, .unset, .unset, .unset, .unset] [])) _
    refine Goes.by (fun _ k => XS.iload X0.here hx rfl (hb hby at_14) rfl k) ?_
    show Goes p.tables e below (s₁.setTop (mkF m 16 #[.val (.long pl), .second, .val (.int pa), .val (.int pb), .val (.int pc0), .val (.int pf), .val (.int (0 : Int32)), .unset, .unset, .unset, .unset, .unset, .unset, .unset, .unset, .unset, .unset, .unset] [(.int pf)])) _
    refine Goes.by (fun _ k => XS.iconst X0.here hx rfl (hb hby at_16) k) ?_
    show Goes p.tables e below (s₁.setTop (mkF m 17 #[.val (.long pl), .second, .val (.int pa), .val (.int pb), .val (.int pc0), .val (.int pf), .val (.int (0 : Int32)), .unset, .unset, .unset, .unset, .unset, .unset, .unset, .unset, .unset, .unset, .unset] [(.int (2 : Int32)), (.int pf)])) _
    refine Goes.by (fun _ k => XS.iand X0.here hx rfl (hb hby at_17) rfl k) ?_
    show Goes p.tables e below (s₁.setTop (mkF m 18 #[.val (.long pl), .second, .val (.int pa), .val (.int pb), .val (.int pc0), .val (.int pf), .val (.int (0 : Int32)), .unset, .unset, .unset, .unset, .unset, .unset, .unset, .unset, .unset, .unset, .unset] [(.int (pf &&& (2 : Int32)))])) _
    by_cases hc2 : (pf &&& (2 : Int32)) = (0 : Int32)
    · refine Goes.by (fun _ k => XS.ifYes X0.here hx rfl (pc0 := 18) (pc' := 25) rfl (hb hby at_18) rfl ((if0 _ _).trans (teq hc2).1) (by decide) (by decide) k) ?_
      show Goes p.tables e below (s₁.setTop (mkF m 25 #[.val (.long pl), .second, .val (.int pa), .val (.int pb), .val (.int pc0), .val (.int pf), .val (.int (0 : Int32)), .unset, .unset, .unset, .unset, .unset, .unset, .unset, .unset, .unset, .unset, .unset] [])) _
      refine Goes.by (fun _ k => XS.iconst X0.here hx rfl (hb hby at_25) k) ?_
      show Goes p.tables e below (s₁.setTop (mkF m 26 #[.val (.long pl), .second, .val (.int pa), .val (.int pb), .val (.int pc0), .val (.int pf), .val (.int (0 : Int32)), .unset, .unset, .unset, .unset, .unset, .unset, .unset, .unset, .unset, .unset, .unset] [(.int (0 : Int32))])) _
      refine Goes.by (fun _ k => XS.istore X0.here hx rfl (hb hby at_26) rfl (l' := #[.val (.long pl), .second, .val (.int pa), .val (.int pb), .val (.int pc0), .val (.int pf), .val (.int (0 : Int32)), .val (.int (0 : Int32)), .unset, .unset, .unset, .unset, .unset, .unset, .unset, .unset, .unset, .unset]) rfl k) ?_
      show Goes p.tables e below (s₁.setTop (mkF m 28 #[.val (.long pl), .second, .val (.int pa), .val (.int pb), .val (.int pc0), .val (.int pf), .val (.int (0 : Int32)), .val (.int (0 : Int32)), .unset, .unset, .unset, .unset, .unset, .unset, .unset, .unset, .unset, .unset] [])) _
      refine Goes.by (fun _ k => XS.iload X0.here hx rfl (hb hby at_28) rfl k) ?_
      show Goes p.tables e below (s₁.setTop (mkF m 30 #[.val (.long pl), .second, .val (.int pa), .val (.int pb), .val (.int pc0), .val (.int pf), .val (.int (0 : Int32)), .val (.int (0 : Int32)), .unset, .unset, .unset, .unset, .unset, .unset, .unset, .unset, .unset, .unset] [(.int (0 : Int32))])) _
      refine Goes.by (fun _ k => XS.ifYes X0.here hx rfl (pc0 := 30) (pc' := 40) rfl (hb hby at_30) rfl ((if0 _ _).trans (teq (by decide : (0 : Int32) = (0 : Int32))).1) (by decide) (by decide) k) ?_
      show Goes p.tables e below (s₁.setTop (mkF m 40 #[.val (.long pl), .second, .val (.int pa), .val (.int pb), .val (.int pc0), .val (.int pf), .val (.int (0 : Int32)), .val (.int (0 : Int32)), .unset, .unset, .unset, .unset, .unset, .unset, .unset, .unset, .unset, .unset] [])) _
      refine Goes.by (fun _ k => XS.aconstNull X0.here hx rfl (hb hby at_40) k) ?_
      show Goes p.tables e below (s₁.setTop (mkF m 41 #[.val (.long pl), .second, .val (.int pa), .val (.int pb), .val (.int pc0), .val (.int pf), .val (.int (0 : Int32)), .val (.int (0 : Int32)), .unset, .unset, .unset, .unset, .unset, .unset, .unset, .unset, .unset, .unset] [.null])) _
      refine Goes.by (fun _ k => XS.astore X0.here hx rfl (hb hby at_41) rfl rfl (l' := #[.val (.long pl), .second, .val (.int pa), .val (.int pb), .val (.int pc0), .val (.int pf), .val (.int (0 : Int32)), .val (.int (0 : Int32)), .val .null, .unset, .unset, .unset, .unset, .unset, .unset, .unset, .unset, .unset]) rfl k) ?_
      show Goes p.tables e below (s₁.setTop (mkF m 43 #[.val (.long pl), .second, .val (.int pa), .val (.int pb), .val (.int pc0), .val (.int pf), .val (.int (0 : Int32)), .val (.int (0 : Int32)), .val .null, .unset, .unset, .unset, .unset, .unset, .unset, .unset, .unset, .unset] [])) _
      refine Goes.by (fun _ k => XS.iload X0.here hx rfl (hb hby at_43) rfl k) ?_
      show Goes p.tables e below (s₁.setTop (mkF m 45 #[.val (.long pl), .second, .val (.int pa), .val (.int pb), .val (.int pc0), .val (.int pf), .val (.int (0 : Int32)), .val (.int (0 : Int32)), .val .null, .unset, .unset, .unset, .unset, .unset, .unset, .unset, .unset, .unset] [(.int (0 : Int32))])) _
      refine Goes.by (fun _ k => XS.ifYes X0.here hx rfl (pc0 := 45) (pc' := 55) rfl (hb hby at_45) rfl ((if0 _ _).trans (teq (by decide : (0 : Int32) = (0 : Int32))).1) (by decide) (by decide) k) ?_
      show Goes p.tables e below (s₁.setTop (mkF m 55 #[.val (.long pl), .second, .val (.int pa), .val (.int pb), .val (.int pc0), .val (.int pf), .val (.int (0 : Int32)), .val (.int (0 : Int32)), .val .null, .unset, .unset, .unset, .unset, .unset, .unset, .unset, .unset, .unset] [])) _
      refine Goes.by (fun _ k => XS.aconstNull X0.here hx rfl (hb hby at_55) k) ?_
      show Goes p.tables e below (s₁.setTop (mkF m 56 #[.val (.long pl), .second, .val (.int pa), .val (.int pb), .val (.int pc0), .val (.int pf), .val (.int (0 : Int32)), .val (.int (0 : Int32)), .val .null, .unset, .unset, .unset, .unset, .unset, .unset, .unset, .unset, .unset] [.null])) _
      refine Goes.by (fun _ k => XS.astore X0.here hx rfl (hb hby at_56) rfl rfl (l' := #[.val (.long pl), .second, .val (.int pa), .val (.int pb), .val (.int pc0), .val (.int pf), .val (.int (0 : Int32)), .val (.int (0 : Int32)), .val .null, .val .null, .unset, .unset, .unset, .unset, .unset, .unset, .unset, .unset]) rfl k) ?_
      show Goes p.tables e below (s₁.setTop (mkF m 58 #[.val (.long pl), .second, .val (.int pa), .val (.int pb), .val (.int pc0), .val (.int pf), .val (.int (0 : Int32)), .val (.int (0 : Int32)), .val .null, .val .null, .unset, .unset, .unset, .unset, .unset, .unset, .unset, .unset] [])) _
      refine Goes.by (fun _ k => XS.iload X0.here hx rfl (hb hby at_58) rfl k) ?_
      show Goes p.tables e below (s₁.setTop (mkF m 60 #[.val (.long pl), .second, .val (.int pa), .val (.int pb), .val (.int pc0), .val (.int pf), .val (.int (0 : Int32)), .val (.int (0 : Int32)), .val .null, .val .null, .unset, .unset, .unset, .unset, .unset, .unset, .unset, .unset] [(.int pc0)])) _
      obtain ⟨_, _, ⟨T3, L3, k3, n3⟩, -, X3, ⟨Lc3, hQ3, l3, y3, z3⟩, st3⟩ := Jvm.LawKit.callS X0 hx (y := (⟨"org/unitspan/ead/DateElementStatedDatePinLaw", "str", "(I)Ljava/lang/String;"⟩ : MethodName)) hown (mvT hZ (hw _ (List.mem_of_getElem? (i := 0) rfl))) (mvT hZ (hw _ (List.mem_of_getElem? (i := 1) rfl))) (mvT hZ (hw _ (List.mem_of_getElem? (i := 2) rfl))) (mvT hZ (hw _ (List.mem_of_getElem? (i := 3) rfl))) (by decide) (backOf (W := 0) (rm1 l Z a0 hw [] pc0 zc h0 n0 Z0 O S_cs hzc) hZ (hw _ (List.mem_of_getElem? (i := 3) rfl)) (hw _ (List.mem_of_getElem? (i := 2) rfl)) (by decide) (by decide)) (g := (mkF m 60 #[.val (.long pl), .second, .val (.int pa), .val (.int pb), .val (.int pc0), .val (.int pf), .val (.int (0 : Int32)), .val (.int (0 : Int32)), .val .null, .val .null, .unset, .unset, .unset, .unset, .unset, .unset, .unset, .unset] [(.int pc0)])) rfl (by rw [hml]; rfl) (argsL := [(.int pc0)]) (rest := []) (lenOf pd_2 rfl) rfl (by show 2 * 0 + _ ≤ _; exact Nat.le_of_eq rfl) (hb hby at_60) (fun _ _ => ⟨rfl, e0, (by decide : 0 + 3 ≤ _), (by decide : 0 + 8 ≤ _)⟩)
      dsimp only [Pt.U, Pt.locs, Pt.cells, Pt.slots] at X3 l3 y3 z3 st3 hQ3
      subst l3 y3 z3
      obtain ⟨ob_3, rfl, N3q, Kq3, po3_0, po3_1⟩ := hQ3
      have N3 := Fr.app N0 N3q
      refine Goes.by st3 ?_
      have Zs3 : n0 ≤ T3.heap.size := Nat.le_trans Z0 Kq3.1
      have K3 : Keep h0 T3.heap [] := (Keep.refl h0 []).trans Kq3 all0
      have sz_ob_3 : h0.size ≤ ob_3 := Nat.le_trans (Keep.refl h0 []).1 po3_1
      have g_ob_3 : n0 ≤ ob_3 := Nat.le_trans Z0 po3_1
      have O : Old Z n0 T3.heap := O.keep Kq3 all0
      have E_ob_3 : Exa Z T3.heap ob_3 "java/lang/String" := po3_0
      show Goes p.tables e below (T3.setTop (mkF m 63 #[.val (.long pl), .second, .val (.int pa), .val (.int pb), .val (.int pc0), .val (.int pf), .val (.int (0 : Int32)), .val (.int (0 : Int32)), .val .null, .val .null, .unset, .unset, .unset, .unset, .unset, .unset, .unset, .unset] [(.ref ob_3)])) _
      refine Goes.by (fun _ k => XS.astore X3.here hx rfl (hb hby at_63) rfl rfl (l' := #[.val (.long pl), .second, .val (.int pa), .val (.int pb), .val (.int pc0), .val (.int pf), .val (.int (0 : Int32)), .val (.int (0 : Int32)), .val .null, .val .null, .val (.ref ob_3), .unset, .unset, .unset, .unset, .unset, .unset, .unset]) rfl k) ?_
      show Goes p.tables e below (T3.setTop (mkF m 65 #[.val (.long pl), .second, .val (.int pa), .val (.int pb), .val (.int pc0), .val (.int pf), .val (.int (0 : Int32)), .val (.int (0 : Int32)), .val .null, .val .null, .val (.ref ob_3), .unset, .unset, .unset, .unset, .unset, .unset, .unset] [])) _
      refine Goes.by (fun _ k => XS.iload X3.here hx rfl (hb hby at_65) rfl k) ?_
      show Goes p.tables e below (T3.setTop (mkF m 67 #[.val (.long pl), .second, .val (.int pa), .val (.int pb), .val (.int pc0), .val (.int pf), .val (.int (0 : Int32)), .val (.int (0 : Int32)), .val .null, .val .null, .val (.ref ob_3), .unset, .unset, .unset, .unset, .unset, .unset, .unset] [(.int pc0)])) _
      refine Goes.by (fun _ k => XS.bipush X3.here hx rfl (hb hby at_67) k) ?_
      show Goes p.tables e below (T3.setTop (mkF m 69 #[.val (.long pl), .second, .val (.int pa), .val (.int pb), .val (.int pc0), .val (.int pf), .val (.int (0 : Int32)), .val (.int (0 : Int32)), .val .null, .val .null, .val (.ref ob_3), .unset, .unset, .unset, .unset, .unset, .unset, .unset] [(.int (16 : Int32)), (.int pc0)])) _
      refine Goes.by (fun _ k => XS.iushr X3.here hx rfl (hb hby at_69) rfl k) ?_
      show Goes p.tables e below (T3.setTop (mkF m 70 #[.val (.long pl), .second, .val (.int pa), .val (.int pb), .val (.int pc0), .val (.int pf), .val (.int (0 : Int32)), .val (.int (0 : Int32)), .val .null, .val .null, .val (.ref ob_3), .unset, .unset, .unset, .unset, .unset, .unset, .unset] [(.int ((pc0.toUInt32 >>> ((16 : Int32) &&& 31).toUInt32).toInt32))])) _
      obtain ⟨_, _, ⟨T4, L4, k4, n4⟩, -, X4, ⟨Lc4, hQ4, l4, y4, z4⟩, st4⟩ := Jvm.LawKit.callS X3 hx (y := (⟨"org/unitspan/ead/DateElementStatedDatePinLaw", "str", "(I)Ljava/lang/String;"⟩ : MethodName)) hown (mvT hZ (hw _ (List.mem_of_getElem? (i := 0) rfl))) (mvT hZ (hw _ (List.mem_of_getElem? (i := 1) rfl))) (mvT hZ (hw _ (List.mem_of_getElem? (i := 2) rfl))) (mvT hZ (hw _ (List.mem_of_getElem? (i := 3) rfl))) (by decide) (backOf (W := 0) (rm1 l Z a0 hw [] ((pc0.toUInt32 >>> ((16 : Int32) &&& 31).toUInt32).toInt32) zc T3.heap n0 Zs3 O S_cs hzc) hZ (hw _ (List.mem_of_getElem? (i := 3) rfl)) (hw _ (List.mem_of_getElem? (i := 2) rfl)) (by decide) (by decide)) (g := (mkF m 70 #[.val (.long pl), .second, .val (.int pa), .val (.int pb), .val (.int pc0), .val (.int pf), .val (.int (0 : Int32)), .val (.int (0 : Int32)), .val .null, .val .null, .val (.ref ob_3), .unset, .unset, .unset, .unset, .unset, .unset, .unset] [(.int ((pc0.toUInt32 >>> ((16 : Int32) &&& 31).toUInt32).toInt32))])) rfl (by rw [hml]; rfl) (argsL := [(.int ((pc0.toUInt32 >>> ((16 : Int32) &&& 31).toUInt32).toInt32))]) (rest := []) (lenOf pd_2 rfl) rfl (by show 2 * 0 + _ ≤ _; exact Nat.le_of_eq rfl) (hb hby at_70) (fun _ _ => ⟨rfl, rfl, (by decide : 3 + 3 ≤ _), (by decide : 8 + 8 ≤ _)⟩)
      dsimp only [Pt.U, Pt.locs, Pt.cells, Pt.slots] at X4 l4 y4 z4 st4 hQ4
      subst l4 y4 z4
      obtain ⟨ob_4, rfl, N4q, Kq4, po4_0, po4_1⟩ := hQ4
      have N4 := Fr.app N3 N4q
      refine Goes.by st4 ?_
      have Zs4 : n0 ≤ T4.heap.size := Nat.le_trans Zs3 Kq4.1
      have K4 : Keep h0 T4.heap [] := K3.trans Kq4 all0
      have lt4_ob_3 := E_ob_3.lt
      have sz_ob_4 : h0.size ≤ ob_4 := Nat.le_trans K3.1 po4_1
      have g_ob_4 : n0 ≤ ob_4 := Nat.le_trans Zs3 po4_1
      have ne_ob_3_ob_4 : ob_3 ≠ ob_4 := Nat.ne_of_lt (Nat.lt_of_lt_of_le lt4_ob_3 po4_1)
      have O : Old Z n0 T4.heap := O.keep Kq4 all0
      have E_ob_3 : Exa Z T4.heap ob_3 "java/lang/String" := E_ob_3.keep Kq4
      have E_ob_4 : Exa Z T4.heap ob_4 "java/lang/String" := po4_0
      show Goes p.tables e below (T4.setTop (mkF m 73 #[.val (.long pl), .second, .val (.int pa), .val (.int pb), .val (.int pc0), .val (.int pf), .val (.int (0 : Int32)), .val (.int (0 : Int32)), .val .null, .val .null, .val (.ref ob_3), .unset, .unset, .unset, .unset, .unset, .unset, .unset] [(.ref ob_4)])) _
      refine Goes.by (fun _ k => XS.astore X4.here hx rfl (hb hby at_73) rfl rfl (l' := #[.val (.long pl), .second, .val (.int pa), .val (.int pb), .val (.int pc0), .val (.int pf), .val (.int (0 : Int32)), .val (.int (0 : Int32)), .val .null, .val .null, .val (.ref ob_3), .val (.ref ob_4), .unset, .unset, .unset, .unset, .unset, .unset]) rfl k) ?_
      show Goes p.tables e below (T4.setTop (mkF m 75 #[.val (.long pl), .second, .val (.int pa), .val (.int pb), .val (.int pc0), .val (.int pf), .val (.int (0 : Int32)), .val (.int (0 : Int32)), .val .null, .val .null, .val (.ref ob_3), .val (.ref ob_4), .unset, .unset, .unset, .unset, .unset, .unset] [])) _
      refine Goes.by (fun _ k => XS.iload X4.here hx rfl (hb hby at_75) rfl k) ?_
      show Goes p.tables e below (T4.setTop (mkF m 77 #[.val (.long pl), .second, .val (.int pa), .val (.int pb), .val (.int pc0), .val (.int pf), .val (.int (0 : Int32)), .val (.int (0 : Int32)), .val .null, .val .null, .val (.ref ob_3), .val (.ref ob_4), .unset, .unset, .unset, .unset, .unset, .unset] [(.int pc0)])) _
      refine Goes.by (fun _ k => XS.sipush X4.here hx rfl (hb hby at_77) k) ?_
      show Goes p.tables e below (T4.setTop (mkF m 80 #[.val (.long pl), .second, .val (.int pa), .val (.int pb), .val (.int pc0), .val (.int pf), .val (.int (0 : Int32)), .val (.int (0 : Int32)), .val .null, .val .null, .val (.ref ob_3), .val (.ref ob_4), .unset, .unset, .unset, .unset, .unset, .unset] [(.int (23130 : Int32)), (.int pc0)])) _
      refine Goes.by (fun _ k => XS.ixor X4.here hx rfl (hb hby at_80) rfl k) ?_
      show Goes p.tables e below (T4.setTop (mkF m 81 #[.val (.long pl), .second, .val (.int pa), .val (.int pb), .val (.int pc0), .val (.int pf), .val (.int (0 : Int32)), .val (.int (0 : Int32)), .val .null, .val .null, .val (.ref ob_3), .val (.ref ob_4), .unset, .unset, .unset, .unset, .unset, .unset] [(.int (pc0 ^^^ (23130 : Int32)))])) _
      obtain ⟨_, _, ⟨T5, L5, k5, n5⟩, -, X5, ⟨Lc5, hQ5, l5, y5, z5⟩, st5⟩ := Jvm.LawKit.callS X4 hx (y := (⟨"org/unitspan/ead/DateElementStatedDatePinLaw", "str", "(I)Ljava/lang/String;"⟩ : MethodName)) hown (mvT hZ (hw _ (List.mem_of_getElem? (i := 0) rfl))) (mvT hZ (hw _ (List.mem_of_getElem? (i := 1) rfl))) (mvT hZ (hw _ (List.mem_of_getElem? (i := 2) rfl))) (mvT hZ (hw _ (List.mem_of_getElem? (i := 3) rfl))) (by decide) (backOf (W := 0) (rm1 l Z a0 hw [] (pc0 ^^^ (23130 : Int32)) zc T4.heap n0 Zs4 O S_cs hzc) hZ (hw _ (List.mem_of_getElem? (i := 3) rfl)) (hw _ (List.mem_of_getElem? (i := 2) rfl)) (by decide) (by decide)) (g := (mkF m 81 #[.val (.long pl), .second, .val (.int pa), .val (.int pb), .val (.int pc0), .val (.int pf), .val (.int (0 : Int32)), .val (.int (0 : Int32)), .val .null, .val .null, .val (.ref ob_3), .val (.ref ob_4), .unset, .unset, .unset, .unset, .unset, .unset] [(.int (pc0 ^^^ (23130 : Int32)))])) rfl (by rw [hml]; rfl) (argsL := [(.int (pc0 ^^^ (23130 : Int32)))]) (rest := []) (lenOf pd_2 rfl) rfl (by show 2 * 0 + _ ≤ _; exact Nat.le_of_eq rfl) (hb hby at_81) (fun _ _ => ⟨rfl, rfl, (by decide : 6 + 3 ≤ _), (by decide : 16 + 8 ≤ _)⟩)
      dsimp only [Pt.U, Pt.locs, Pt.cells, Pt.slots] at X5 l5 y5 z5 st5 hQ5
      subst l5 y5 z5
      obtain ⟨ob_5, rfl, N5q, Kq5, po5_0, po5_1⟩ := hQ5
      have N5 := Fr.app N4 N5q
      refine Goes.by st5 ?_
      have Zs5 : n0 ≤ T5.heap.size := Nat.le_trans Zs4 Kq5.1
      have K5 : Keep h0 T5.heap [] := K4.trans Kq5 all0
      have lt5_ob_3 := E_ob_3.lt
      have lt5_ob_4 := E_ob_4.lt
      have sz_ob_5 : h0.size ≤ ob_5 := Nat.le_trans K4.1 po5_1
      have g_ob_5 : n0 ≤ ob_5 := Nat.le_trans Zs4 po5_1
      have ne_ob_3_ob_5 : ob_3 ≠ ob_5 := Nat.ne_of_lt (Nat.lt_of_lt_of_le lt5_ob_3 po5_1)
      have ne_ob_4_ob_5 : ob_4 ≠ ob_5 := Nat.ne_of_lt (Nat.lt_of_lt_of_le lt5_ob_4 po5_1)
      have O : Old Z n0 T5.heap := O.keep Kq5 all0
      have E_ob_3 : Exa Z T5.heap ob_3 "java/lang/String" := E_ob_3.keep Kq5
      have E_ob_4 : Exa Z T5.heap ob_4 "java/lang/String" := E_ob_4.keep Kq5
      have E_ob_5 : Exa Z T5.heap ob_5 "java/lang/String" := po5_0
      show Goes p.tables e below (T5.setTop (mkF m 84 #[.val (.long pl), .second, .val (.int pa), .val (.int pb), .val (.int pc0), .val (.int pf), .val (.int (0 : Int32)), .val (.int (0 : Int32)), .val .null, .val .null, .val (.ref ob_3), .val (.ref ob_4), .unset, .unset, .unset, .unset, .unset, .unset] [(.ref ob_5)])) _
      refine Goes.by (fun _ k => XS.astore X5.here hx rfl (hb hby at_84) rfl rfl (l' := #[.val (.long pl), .second, .val (.int pa), .val (.int pb), .val (.int pc0), .val (.int pf), .val (.int (0 : Int32)), .val (.int (0 : Int32)), .val .null, .val .null, .val (.ref ob_3), .val (.ref ob_4), .val (.ref ob_5), .unset, .unset, .unset, .unset, .unset]) rfl k) ?_
      show Goes p.tables e below (T5.setTop (mkF m 86 #[.val (.long pl), .second, .val (.int pa), .val (.int pb), .val (.int pc0), .val (.int pf), .val (.int (0 : Int32)), .val (.int (0 : Int32)), .val .null, .val .null, .val (.ref ob_3), .val (.ref ob_4), .val (.ref ob_5), .unset, .unset, .unset, .unset, .unset] [])) _
      refine Goes.by (fun _ k => XS.iload X5.here hx rfl (hb hby at_86) rfl k) ?_
      show Goes p.tables e below (T5.setTop (mkF m 88 #[.val (.long pl), .second, .val (.int pa), .val (.int pb), .val (.int pc0), .val (.int pf), .val (.int (0 : Int32)), .val (.int (0 : Int32)), .val .null, .val .null, .val (.ref ob_3), .val (.ref ob_4), .val (.ref ob_5), .unset, .unset, .unset, .unset, .unset] [(.int pc0)])) _
      refine Goes.by (fun _ k => XS.iconst X5.here hx rfl (hb hby at_88) k) ?_
      show Goes p.tables e below (T5.setTop (mkF m 89 #[.val (.long pl), .second, .val (.int pa), .val (.int pb), .val (.int pc0), .val (.int pf), .val (.int (0 : Int32)), .val (.int (0 : Int32)), .val .null, .val .null, .val (.ref ob_3), .val (.ref ob_4), .val (.ref ob_5), .unset, .unset, .unset, .unset, .unset] [(.int (-1 : Int32)), (.int pc0)])) _
      refine Goes.by (fun _ k => XS.ixor X5.here hx rfl (hb hby at_89) rfl k) ?_
      show Goes p.tables e below (T5.setTop (mkF m 90 #[.val (.long pl), .second, .val (.int pa), .val (.int pb), .val (.int pc0), .val (.int pf), .val (.int (0 : Int32)), .val (.int (0 : Int32)), .val .null, .val .null, .val (.ref ob_3), .val (.ref ob_4), .val (.ref ob_5), .unset, .unset, .unset, .unset, .unset] [(.int (pc0 ^^^ (-1 : Int32)))])) _
      obtain ⟨_, _, ⟨T6, L6, k6, n6⟩, -, X6, ⟨Lc6, hQ6, l6, y6, z6⟩, st6⟩ := Jvm.LawKit.callS X5 hx (y := (⟨"org/unitspan/ead/DateElementStatedDatePinLaw", "str", "(I)Ljava/lang/String;"⟩ : MethodName)) hown (mvT hZ (hw _ (List.mem_of_getElem? (i := 0) rfl))) (mvT hZ (hw _ (List.mem_of_getElem? (i := 1) rfl))) (mvT hZ (hw _ (List.mem_of_getElem? (i := 2) rfl))) (mvT hZ (hw _ (List.mem_of_getElem? (i := 3) rfl))) (by decide) (backOf (W := 0) (rm1 l Z a0 hw [] (pc0 ^^^ (-1 : Int32)) zc T5.heap n0 Zs5 O S_cs hzc) hZ (hw _ (List.mem_of_getElem? (i := 3) rfl)) (hw _ (List.mem_of_getElem? (i := 2) rfl)) (by decide) (by decide)) (g := (mkF m 90 #[.val (.long pl), .second, .val (.int pa), .val (.int pb), .val (.int pc0), .val (.int pf), .val (.int (0 : Int32)), .val (.int (0 : Int32)), .val .null, .val .null, .val (.ref ob_3), .val (.ref ob_4), .val (.ref ob_5), .unset, .unset, .unset, .unset, .unset] [(.int (pc0 ^^^ (-1 : Int32)))])) rfl (by rw [hml]; rfl) (argsL := [(.int (pc0 ^^^ (-1 : Int32)))]) (rest := []) (lenOf pd_2 rfl) rfl (by show 2 * 0 + _ ≤ _; exact Nat.le_of_eq rfl) (hb hby at_90) (fun _ _ => ⟨rfl, rfl, (by decide : 9 + 3 ≤ _), (by decide : 24 + 8 ≤ _)⟩)
      dsimp only [Pt.U, Pt.locs, Pt.cells, Pt.slots] at X6 l6 y6 z6 st6 hQ6
      subst l6 y6 z6
      obtain ⟨ob_6, rfl, N6q, Kq6, po6_0, po6_1⟩ := hQ6
      have N6 := Fr.app N5 N6q
      refine Goes.by st6 ?_
      have Zs6 : n0 ≤ T6.heap.size := Nat.le_trans Zs5 Kq6.1
      have K6 : Keep h0 T6.heap [] := K5.trans Kq6 all0
      have lt6_ob_3 := E_ob_3.lt
      have lt6_ob_4 := E_ob_4.lt
      have lt6_ob_5 := E_ob_5.lt
      have sz_ob_6 : h0.size ≤ ob_6 := Nat.le_trans K5.1 po6_1
      have g_ob_6 : n0 ≤ ob_6 := Nat.le_trans Zs5 po6_1
      have ne_ob_3_ob_6 : ob_3 ≠ ob_6 := Nat.ne_of_lt (Nat.lt_of_lt_of_le lt6_ob_3 po6_1)
      have ne_ob_4_ob_6 : ob_4 ≠ ob_6 := Nat.ne_of_lt (Nat.lt_of_lt_of_le lt6_ob_4 po6_1)
      have ne_ob_5_ob_6 : ob_5 ≠ ob_6 := Nat.ne_of_lt (Nat.lt_of_lt_of_le lt6_ob_5 po6_1)
      have O : Old Z n0 T6.heap := O.keep Kq6 all0
      have E_ob_3 : Exa Z T6.heap ob_3 "java/lang/String" := E_ob_3.keep Kq6
      have E_ob_4 : Exa Z T6.heap ob_4 "java/lang/String" := E_ob_4.keep Kq6
      have E_ob_5 : Exa Z T6.heap ob_5 "java/lang/String" := E_ob_5.keep Kq6
      have E_ob_6 : Exa Z T6.heap ob_6 "java/lang/String" := po6_0
      show Goes p.tables e below (T6.setTop (mkF m 93 #[.val (.long pl), .second, .val (.int pa), .val (.int pb), .val (.int pc0), .val (.int pf), .val (.int (0 : Int32)), .val (.int (0 : Int32)), .val .null, .val .null, .val (.ref ob_3), .val (.ref ob_4), .val (.ref ob_5), .unset, .unset, .unset, .unset, .unset] [(.ref ob_6)])) _
      refine Goes.by (fun _ k => XS.astore X6.here hx rfl (hb hby at_93) rfl rfl (l' := #[.val (.long pl), .second, .val (.int pa), .val (.int pb), .val (.int pc0), .val (.int pf), .val (.int (0 : Int32)), .val (.int (0 : Int32)), .val .null, .val .null, .val (.ref ob_3), .val (.ref ob_4), .val (.ref ob_5), .val (.ref ob_6), .unset, .unset, .unset, .unset]) rfl k) ?_
      show Goes p.tables e below (T6.setTop (mkF m 95 #[.val (.long pl), .second, .val (.int pa), .val (.int pb), .val (.int pc0), .val (.int pf), .val (.int (0 : Int32)), .val (.int (0 : Int32)), .val .null, .val .null, .val (.ref ob_3), .val (.ref ob_4), .val (.ref ob_5), .val (.ref ob_6), .unset, .unset, .unset, .unset] [])) _
      refine Goes.by (fun _ k => XS.iload X6.here hx rfl (hb hby at_95) rfl k) ?_
      show Goes p.tables e below (T6.setTop (mkF m 97 #[.val (.long pl), .second, .val (.int pa), .val (.int pb), .val (.int pc0), .val (.int pf), .val (.int (0 : Int32)), .val (.int (0 : Int32)), .val .null, .val .null, .val (.ref ob_3), .val (.ref ob_4), .val (.ref ob_5), .val (.ref ob_6), .unset, .unset, .unset, .unset] [(.int pc0)])) _
      refine Goes.by (fun _ k => XS.iconst X6.here hx rfl (hb hby at_97) k) ?_
      show Goes p.tables e below (T6.setTop (mkF m 98 #[.val (.long pl), .second, .val (.int pa), .val (.int pb), .val (.int pc0), .val (.int pf), .val (.int (0 : Int32)), .val (.int (0 : Int32)), .val .null, .val .null, .val (.ref ob_3), .val (.ref ob_4), .val (.ref ob_5), .val (.ref ob_6), .unset, .unset, .unset, .unset] [(.int (4 : Int32)), (.int pc0)])) _
      refine Goes.by (fun _ k => XS.iushr X6.here hx rfl (hb hby at_98) rfl k) ?_
      show Goes p.tables e below (T6.setTop (mkF m 99 #[.val (.long pl), .second, .val (.int pa), .val (.int pb), .val (.int pc0), .val (.int pf), .val (.int (0 : Int32)), .val (.int (0 : Int32)), .val .null, .val .null, .val (.ref ob_3), .val (.ref ob_4), .val (.ref ob_5), .val (.ref ob_6), .unset, .unset, .unset, .unset] [(.int ((pc0.toUInt32 >>> ((4 : Int32) &&& 31).toUInt32).toInt32))])) _
      obtain ⟨_, _, ⟨T7, L7, k7, n7⟩, -, X7, ⟨Lc7, hQ7, l7, y7, z7⟩, st7⟩ := Jvm.LawKit.callS X6 hx (y := (⟨"org/unitspan/ead/DateElementStatedDatePinLaw", "str", "(I)Ljava/lang/String;"⟩ : MethodName)) hown (mvT hZ (hw _ (List.mem_of_getElem? (i := 0) rfl))) (mvT hZ (hw _ (List.mem_of_getElem? (i := 1) rfl))) (mvT hZ (hw _ (List.mem_of_getElem? (i := 2) rfl))) (mvT hZ (hw _ (List.mem_of_getElem? (i := 3) rfl))) (by decide) (backOf (W := 0) (rm1 l Z a0 hw [] ((pc0.toUInt32 >>> ((4 : Int32) &&& 31).toUInt32).toInt32) zc T6.heap n0 Zs6 O S_cs hzc) hZ (hw _ (List.mem_of_getElem? (i := 3) rfl)) (hw _ (List.mem_of_getElem? (i := 2) rfl)) (by decide) (by decide)) (g := (mkF m 99 #[.val (.long pl), .second, .val (.int pa), .val (.int pb), .val (.int pc0), .val (.int pf), .val (.int (0 : Int32)), .val (.int (0 : Int32)), .val .null, .val .null, .val (.ref ob_3), .val (.ref ob_4), .val (.ref ob_5), .val (.ref ob_6), .unset, .unset, .unset, .unset] [(.int ((pc0.toUInt32 >>> ((4 : Int32) &&& 31).toUInt32).toInt32))])) rfl (by rw [hml]; rfl) (argsL := [(.int ((pc0.toUInt32 >>> ((4 : Int32) &&& 31).toUInt32).toInt32))]) (rest := []) (lenOf pd_2 rfl) rfl (by show 2 * 0 + _ ≤ _; exact Nat.le_of_eq rfl) (hb hby at_99) (fun _ _ => ⟨rfl, rfl, (by decide : 12 + 3 ≤ _), (by decide : 32 + 8 ≤ _)⟩)
      dsimp only [Pt.U, Pt.locs, Pt.cells, Pt.slots] at X7 l7 y7 z7 st7 hQ7
      subst l7 y7 z7
      obtain ⟨ob_7, rfl, N7q, Kq7, po7_0, po7_1⟩ := hQ7
      have N7 := Fr.app N6 N7q
      refine Goes.by st7 ?_
      have Zs7 : n0 ≤ T7.heap.size := Nat.le_trans Zs6 Kq7.1
      have K7 : Keep h0 T7.heap [] := K6.trans Kq7 all0
      have lt7_ob_3 := E_ob_3.lt
      have lt7_ob_4 := E_ob_4.lt
      have lt7_ob_5 := E_ob_5.lt
      have lt7_ob_6 := E_ob_6.lt
      have sz_ob_7 : h0.size ≤ ob_7 := Nat.le_trans K6.1 po7_1
      have g_ob_7 : n0 ≤ ob_7 := Nat.le_trans Zs6 po7_1
      have ne_ob_3_ob_7 : ob_3 ≠ ob_7 := Nat.ne_of_lt (Nat.lt_of_lt_of_le lt7_ob_3 po7_1)
      have ne_ob_4_ob_7 : ob_4 ≠ ob_7 := Nat.ne_of_lt (Nat.lt_of_lt_of_le lt7_ob_4 po7_1)
      have ne_ob_5_ob_7 : ob_5 ≠ ob_7 := Nat.ne_of_lt (Nat.lt_of_lt_of_le lt7_ob_5 po7_1)
      have ne_ob_6_ob_7 : ob_6 ≠ ob_7 := Nat.ne_of_lt (Nat.lt_of_lt_of_le lt7_ob_6 po7_1)
      have O : Old Z n0 T7.heap := O.keep Kq7 all0
      have E_ob_3 : Exa Z T7.heap ob_3 "java/lang/String" := E_ob_3.keep Kq7
      have E_ob_4 : Exa Z T7.heap ob_4 "java/lang/String" := E_ob_4.keep Kq7
      have E_ob_5 : Exa Z T7.heap ob_5 "java/lang/String" := E_ob_5.keep Kq7
      have E_ob_6 : Exa Z T7.heap ob_6 "java/lang/String" := E_ob_6.keep Kq7
      have E_ob_7 : Exa Z T7.heap ob_7 "java/lang/String" := po7_0
      show Goes p.tables e below (T7.setTop (mkF m 102 #[.val (.long pl), .second, .val (.int pa), .val (.int pb), .val (.int pc0), .val (.int pf), .val (.int (0 : Int32)), .val (.int (0 : Int32)), .val .null, .val .null, .val (.ref ob_3), .val (.ref ob_4), .val (.ref ob_5), .val (.ref ob_6), .unset, .unset, .unset, .unset] [(.ref ob_7)])) _
      refine Goes.by (fun _ k => XS.astore X7.here hx rfl (hb hby at_102) rfl rfl (l' := #[.val (.long pl), .second, .val (.int pa), .val (.int pb), .val (.int pc0), .val (.int pf), .val (.int (0 : Int32)), .val (.int (0 : Int32)), .val .null, .val .null, .val (.ref ob_3), .val (.ref ob_4), .val (.ref ob_5), .val (.ref ob_6), .val (.ref ob_7), .unset, .unset, .unset]) rfl k) ?_
      show Goes p.tables e below (T7.setTop (mkF m 104 #[.val (.long pl), .second, .val (.int pa), .val (.int pb), .val (.int pc0), .val (.int pf), .val (.int (0 : Int32)), .val (.int (0 : Int32)), .val .null, .val .null, .val (.ref ob_3), .val (.ref ob_4), .val (.ref ob_5), .val (.ref ob_6), .val (.ref ob_7), .unset, .unset, .unset] [])) _
      refine Goes.by (fun _ k => XS.iload X7.here hx rfl (hb hby at_104) rfl k) ?_
      show Goes p.tables e below (T7.setTop (mkF m 106 #[.val (.long pl), .second, .val (.int pa), .val (.int pb), .val (.int pc0), .val (.int pf), .val (.int (0 : Int32)), .val (.int (0 : Int32)), .val .null, .val .null, .val (.ref ob_3), .val (.ref ob_4), .val (.ref ob_5), .val (.ref ob_6), .val (.ref ob_7), .unset, .unset, .unset] [(.int pc0)])) _
      refine Goes.by (fun _ k => XS.bipush X7.here hx rfl (hb hby at_106) k) ?_
      show Goes p.tables e below (T7.setTop (mkF m 108 #[.val (.long pl), .second, .val (.int pa), .val (.int pb), .val (.int pc0), .val (.int pf), .val (.int (0 : Int32)), .val (.int (0 : Int32)), .val .null, .val .null, .val (.ref ob_3), .val (.ref ob_4), .val (.ref ob_5), .val (.ref ob_6), .val (.ref ob_7), .unset, .unset, .unset] [(.int (12 : Int32)), (.int pc0)])) _
      refine Goes.by (fun _ k => XS.iushr X7.here hx rfl (hb hby at_108) rfl k) ?_
      show Goes p.tables e below (T7.setTop (mkF m 109 #[.val (.long pl), .second, .val (.int pa), .val (.int pb), .val (.int pc0), .val (.int pf), .val (.int (0 : Int32)), .val (.int (0 : Int32)), .val .null, .val .null, .val (.ref ob_3), .val (.ref ob_4), .val (.ref ob_5), .val (.ref ob_6), .val (.ref ob_7), .unset, .unset, .unset] [(.int ((pc0.toUInt32 >>> ((12 : Int32) &&& 31).toUInt32).toInt32))])) _
      obtain ⟨_, _, ⟨T8, L8, k8, n8⟩, -, X8, ⟨Lc8, hQ8, l8, y8, z8⟩, st8⟩ := Jvm.LawKit.callS X7 hx (y := (⟨"org/unitspan/ead/DateElementStatedDatePinLaw", "str", "(I)Ljava/lang/String;"⟩ : MethodName)) hown (mvT hZ (hw _ (List.mem_of_getElem? (i := 0) rfl))) (mvT hZ (hw _ (List.mem_of_getElem? (i := 1) rfl))) (mvT hZ (hw _ (List.mem_of_getElem? (i := 2) rfl))) (mvT hZ (hw _ (List.mem_of_getElem? (i := 3) rfl))) (by decide) (backOf (W := 0) (rm1 l Z a0 hw [] ((pc0.toUInt32 >>> ((12 : Int32) &&& 31).toUInt32).toInt32) zc T7.heap n0 Zs7 O S_cs hzc) hZ (hw _ (List.mem_of_getElem? (i := 3) rfl)) (hw _ (List.mem_of_getElem? (i := 2) rfl)) (by decide) (by decide)) (g := (mkF m 109 #[.val (.long pl), .second, .val (.int pa), .val (.int pb), .val (.int pc0), .val (.int pf), .val (.int (0 : Int32)), .val (.int (0 : Int32)), .val .null, .val .null, .val (.ref ob_3), .val (.ref ob_4), .val (.ref ob_5), .val (.ref ob_6), .val (.ref ob_7), .unset, .unset, .unset] [(.int ((pc0.toUInt32 >>> ((12 : Int32) &&& 31).toUInt32).toInt32))])) rfl (by rw [hml]; rfl) (argsL := [(.int ((pc0.toUInt32 >>> ((12 : Int32) &&& 31).toUInt32).toInt32))]) (rest := []) (lenOf pd_2 rfl) rfl (by show 2 * 0 + _ ≤ _; exact Nat.le_of_eq rfl) (hb hby at_109) (fun _ _ => ⟨rfl, rfl, (by decide : 15 + 3 ≤ _), (by decide : 40 + 8 ≤ _)⟩)
      dsimp only [Pt.U, Pt.locs, Pt.cells, Pt.slots] at X8 l8 y8 z8 st8 hQ8
      subst l8 y8 z8
      obtain ⟨ob_8, rfl, N8q, Kq8, po8_0, po8_1⟩ := hQ8
      have N8 := Fr.app N7 N8q
      refine Goes.by st8 ?_
      have Zs8 : n0 ≤ T8.heap.size := Nat.le_trans Zs7 Kq8.1
      have K8 : Keep h0 T8.heap [] := K7.trans Kq8 all0
      have lt8_ob_3 := E_ob_3.lt
      have lt8_ob_4 := E_ob_4.lt
      have lt8_ob_5 := E_ob_5.lt
      have lt8_ob_6 := E_ob_6.lt
      have lt8_ob_7 := E_ob_7.lt
      have sz_ob_8 : h0.size ≤ ob_8 := Nat.le_trans K7.1 po8_1
      have g_ob_8 : n0 ≤ ob_8 := Nat.le_trans Zs7 po8_1
      have ne_ob_3_ob_8 : ob_3 ≠ ob_8 := Nat.ne_of_lt (Nat.lt_of_lt_of_le lt8_ob_3 po8_1)
      have ne_ob_4_ob_8 : ob_4 ≠ ob_8 := Nat.ne_of_lt (Nat.lt_of_lt_of_le lt8_ob_4 po8_1)
      have ne_ob_5_ob_8 : ob_5 ≠ ob_8 := Nat.ne_of_lt (Nat.lt_of_lt_of_le lt8_ob_5 po8_1)
      have ne_ob_6_ob_8 : ob_6 ≠ ob_8 := Nat.ne_of_lt (Nat.lt_of_lt_of_le lt8_ob_6 po8_1)
      have ne_ob_7_ob_8 : ob_7 ≠ ob_8 := Nat.ne_of_lt (Nat.lt_of_lt_of_le lt8_ob_7 po8_1)
      have O : Old Z n0 T8.heap := O.keep Kq8 all0
      have E_ob_3 : Exa Z T8.heap ob_3 "java/lang/String" := E_ob_3.keep Kq8
      have E_ob_4 : Exa Z T8.heap ob_4 "java/lang/String" := E_ob_4.keep Kq8
      have E_ob_5 : Exa Z T8.heap ob_5 "java/lang/String" := E_ob_5.keep Kq8
      have E_ob_6 : Exa Z T8.heap ob_6 "java/lang/String" := E_ob_6.keep Kq8
      have E_ob_7 : Exa Z T8.heap ob_7 "java/lang/String" := E_ob_7.keep Kq8
      have E_ob_8 : Exa Z T8.heap ob_8 "java/lang/String" := po8_0
      show Goes p.tables e below (T8.setTop (mkF m 112 #[.val (.long pl), .second, .val (.int pa), .val (.int pb), .val (.int pc0), .val (.int pf), .val (.int (0 : Int32)), .val (.int (0 : Int32)), .val .null, .val .null, .val (.ref ob_3), .val (.ref ob_4), .val (.ref ob_5), .val (.ref ob_6), .val (.ref ob_7), .unset, .unset, .unset] [(.ref ob_8)])) _
      refine Goes.by (fun _ k => XS.astore X8.here hx rfl (hb hby at_112) rfl rfl (l' := #[.val (.long pl), .second, .val (.int pa), .val (.int pb), .val (.int pc0), .val (.int pf), .val (.int (0 : Int32)), .val (.int (0 : Int32)), .val .null, .val .null, .val (.ref ob_3), .val (.ref ob_4), .val (.ref ob_5), .val (.ref ob_6), .val (.ref ob_7), .val (.ref ob_8), .unset, .unset]) rfl k) ?_
      show Goes p.tables e below (T8.setTop (mkF m 114 #[.val (.long pl), .second, .val (.int pa), .val (.int pb), .val (.int pc0), .val (.int pf), .val (.int (0 : Int32)), .val (.int (0 : Int32)), .val .null, .val .null, .val (.ref ob_3), .val (.ref ob_4), .val (.ref ob_5), .val (.ref ob_6), .val (.ref ob_7), .val (.ref ob_8), .unset, .unset] [])) _
      obtain ⟨T9, h9, X9, e9, E9, A9, D9, -, st9⟩ := newO X8 hx hZ hown (hw _ (List.mem_of_getElem? (i := 34) rfl)) (hw _ (List.mem_of_getElem? (i := 35) rfl)) (hw _ (List.mem_of_getElem? (i := 36) rfl)) rfl (g := (mkF m 114 #[.val (.long pl), .second, .val (.int pa), .val (.int pb), .val (.int pc0), .val (.int pf), .val (.int (0 : Int32)), .val (.int (0 : Int32)), .val .null, .val .null, .val (.ref ob_3), .val (.ref ob_4), .val (.ref ob_5), .val (.ref ob_6), .val (.ref ob_7), .val (.ref ob_8), .unset, .unset] [])) rfl (hb hby at_114) (by decide) (by decide)
      obtain ⟨b9, g9⟩ : ∃ z, z = T8.heap.size := ⟨_, rfl⟩
      rw [← g9] at A9 D9 st9
      have g_b9 : n0 ≤ b9 := Nat.le_trans Zs8 (Nat.le_of_eq g9.symm)
      have sz_b9 : h0.size ≤ b9 := Nat.le_trans K8.1 (Nat.le_of_eq g9.symm)
      have ne_ob_3_b9 : ob_3 ≠ b9 := Nat.ne_of_lt (Nat.lt_of_lt_of_le E_ob_3.lt (Nat.le_of_eq g9.symm))
      have ne_ob_4_b9 : ob_4 ≠ b9 := Nat.ne_of_lt (Nat.lt_of_lt_of_le E_ob_4.lt (Nat.le_of_eq g9.symm))
      have ne_ob_5_b9 : ob_5 ≠ b9 := Nat.ne_of_lt (Nat.lt_of_lt_of_le E_ob_5.lt (Nat.le_of_eq g9.symm))
      have ne_ob_6_b9 : ob_6 ≠ b9 := Nat.ne_of_lt (Nat.lt_of_lt_of_le E_ob_6.lt (Nat.le_of_eq g9.symm))
      have ne_ob_7_b9 : ob_7 ≠ b9 := Nat.ne_of_lt (Nat.lt_of_lt_of_le E_ob_7.lt (Nat.le_of_eq g9.symm))
      have ne_ob_8_b9 : ob_8 ≠ b9 := Nat.ne_of_lt (Nat.lt_of_lt_of_le E_ob_8.lt (Nat.le_of_eq g9.symm))
      have Zs9 : n0 ≤ h9.size := Nat.le_trans Zs8 E9.1
      have K9 : Keep h0 h9 [] := K8.ext E9
      refine Goes.by st9 ?_
      have O : Old Z n0 h9 := O.ext E9
      have E_ob_3 : Exa Z h9 ob_3 "java/lang/String" := E_ob_3.ext E9
      have E_ob_4 : Exa Z h9 ob_4 "java/lang/String" := E_ob_4.ext E9
      have E_ob_5 : Exa Z h9 ob_5 "java/lang/String" := E_ob_5.ext E9
      have E_ob_6 : Exa Z h9 ob_6 "java/lang/String" := E_ob_6.ext E9
      have E_ob_7 : Exa Z h9 ob_7 "java/lang/String" := E_ob_7.ext E9
      have E_ob_8 : Exa Z h9 ob_8 "java/lang/String" := E_ob_8.ext E9
      have E_b9 : Exa Z h9 b9 "org/unitspan/ead/DateElement" := A9
      have F_b9_line : Fld Z h9 b9 "org/unitspan/ead/DateElement" "line" "J" (.long (0 : Int64)) := D9 (Or.inr (hw _ (List.mem_of_getElem? (i := 47) rfl))) (ty := .long) (by decide)
      have F_b9_name : Fld Z h9 b9 "org/unitspan/ead/DateElement" "name" "Ljava/lang/String;" .null := D9 (Or.inr (hw _ (List.mem_of_getElem? (i := 49) rfl))) (ty := (.object "java/lang/String")) (by decide)
      have F_b9_text : Fld Z h9 b9 "org/unitspan/ead/DateElement" "text" "Ljava/lang/String;" .null := D9 (Or.inr (hw _ (List.mem_of_getElem? (i := 51) rfl))) (ty := (.object "java/lang/String")) (by decide)
      have F_b9_normal : Fld Z h9 b9 "org/unitspan/ead/DateElement" "normal" "Ljava/lang/String;" .null := D9 (Or.inr (hw _ (List.mem_of_getElem? (i := 53) rfl))) (ty := (.object "java/lang/String")) (by decide)
      have F_b9_unitdateType : Fld Z h9 b9 "org/unitspan/ead/DateElement" "unitdateType" "Ljava/lang/String;" .null := D9 (Or.inr (hw _ (List.mem_of_getElem? (i := 55) rfl))) (ty := (.object "java/lang/String")) (by decide)
      have F_b9_standardDate : Fld Z h9 b9 "org/unitspan/ead/DateElement" "standardDate" "Ljava/lang/String;" .null := D9 (Or.inr (hw _ (List.mem_of_getElem? (i := 57) rfl))) (ty := (.object "java/lang/String")) (by decide)
      have F_b9_notBefore : Fld Z h9 b9 "org/unitspan/ead/DateElement" "notBefore" "Ljava/lang/String;" .null := D9 (Or.inr (hw _ (List.mem_of_getElem? (i := 59) rfl))) (ty := (.object "java/lang/String")) (by decide)
      have F_b9_notAfter : Fld Z h9 b9 "org/unitspan/ead/DateElement" "notAfter" "Ljava/lang/String;" .null := D9 (Or.inr (hw _ (List.mem_of_getElem? (i := 61) rfl))) (ty := (.object "java/lang/String")) (by decide)
      have F_b9_rangeStart : Fld Z h9 b9 "org/unitspan/ead/DateElement" "rangeStart" "Ljava/lang/String;" .null := D9 (Or.inr (hw _ (List.mem_of_getElem? (i := 63) rfl))) (ty := (.object "java/lang/String")) (by decide)
      show Goes p.tables e below (T9.setTop (mkF m 117 #[.val (.long pl), .second, .val (.int pa), .val (.int pb), .val (.int pc0), .val (.int pf), .val (.int (0 : Int32)), .val (.int (0 : Int32)), .val .null, .val .null, .val (.ref ob_3), .val (.ref ob_4), .val (.ref ob_5), .val (.ref ob_6), .val (.ref ob_7), .val (.ref ob_8), .unset, .unset] [(.ref b9)])) _
      refine Goes.by (fun _ k => XS.dup X9.here hx rfl (hb hby at_117) rfl rfl k) ?_
      show Goes p.tables e below (T9.setTop (mkF m 118 #[.val (.long pl), .second, .val (.int pa), .val (.int pb), .val (.int pc0), .val (.int pf), .val (.int (0 : Int32)), .val (.int (0 : Int32)), .val .null, .val .null, .val (.ref ob_3), .val (.ref ob_4), .val (.ref ob_5), .val (.ref ob_6), .val (.ref ob_7), .val (.ref ob_8), .unset, .unset] [(.ref b9), (.ref b9)])) _
      refine Goes.by (fun _ k => XS.lloadN X9.here hx rfl (hb hby at_118) rfl k) ?_
      show Goes p.tables e below (T9.setTop (mkF m 119 #[.val (.long pl), .second, .val (.int pa), .val (.int pb), .val (.int pc0), .val (.int pf), .val (.int (0 : Int32)), .val (.int (0 : Int32)), .val .null, .val .null, .val (.ref ob_3), .val (.ref ob_4), .val (.ref ob_5), .val (.ref ob_6), .val (.ref ob_7), .val (.ref ob_8), .unset, .unset] [(.long pl), (.ref b9), (.ref b9)])) _
      refine Goes.by (fun _ k => XS.aload X9.here hx rfl (hb hby at_119) rfl rfl k) ?_
      show Goes p.tables e below (T9.setTop (mkF m 121 #[.val (.long pl), .second, .val (.int pa), .val (.int pb), .val (.int pc0), .val (.int pf), .val (.int (0 : Int32)), .val (.int (0 : Int32)), .val .null, .val .null, .val (.ref ob_3), .val (.ref ob_4), .val (.ref ob_5), .val (.ref ob_6), .val (.ref ob_7), .val (.ref ob_8), .unset, .unset] [(.ref ob_3), (.long pl), (.ref b9), (.ref b9)])) _
      refine Goes.by (fun _ k => XS.aload X9.here hx rfl (hb hby at_121) rfl rfl k) ?_
      show Goes p.tables e below (T9.setTop (mkF m 123 #[.val (.long pl), .second, .val (.int pa), .val (.int pb), .val (.int pc0), .val (.int pf), .val (.int (0 : Int32)), .val (.int (0 : Int32)), .val .null, .val .null, .val (.ref ob_3), .val (.ref ob_4), .val (.ref ob_5), .val (.ref ob_6), .val (.ref ob_7), .val (.ref ob_8), .unset, .unset] [(.ref ob_4), (.ref ob_3), (.long pl), (.ref b9), (.ref b9)])) _
      refine Goes.by (fun _ k => XS.aload X9.here hx rfl (hb hby at_123) rfl rfl k) ?_
      show Goes p.tables e below (T9.setTop (mkF m 125 #[.val (.long pl), .second, .val (.int pa), .val (.int pb), .val (.int pc0), .val (.int pf), .val (.int (0 : Int32)), .val (.int (0 : Int32)), .val .null, .val .null, .val (.ref ob_3), .val (.ref ob_4), .val (.ref ob_5), .val (.ref ob_6), .val (.ref ob_7), .val (.ref ob_8), .unset, .unset] [.null, (.ref ob_4), (.ref ob_3), (.long pl), (.ref b9), (.ref b9)])) _
      refine Goes.by (fun _ k => XS.aload X9.here hx rfl (hb hby at_125) rfl rfl k) ?_
      show Goes p.tables e below (T9.setTop (mkF m 127 #[.val (.long pl), .second, .val (.int pa), .val (.int pb), .val (.int pc0), .val (.int pf), .val (.int (0 : Int32)), .val (.int (0 : Int32)), .val .null, .val .null, .val (.ref ob_3), .val (.ref ob_4), .val (.ref ob_5), .val (.ref ob_6), .val (.ref ob_7), .val (.ref ob_8), .unset, .unset] [(.ref ob_5), .null, (.ref ob_4), (.ref ob_3), (.long pl), (.ref b9), (.ref b9)])) _
      refine Goes.by (fun _ k => XS.aload X9.here hx rfl (hb hby at_127) rfl rfl k) ?_
      show Goes p.tables e below (T9.setTop (mkF m 129 #[.val (.long pl), .second, .val (.int pa), .val (.int pb), .val (.int pc0), .val (.int pf), .val (.int (0 : Int32)), .val (.int (0 : Int32)), .val .null, .val .null, .val (.ref ob_3), .val (.ref ob_4), .val (.ref ob_5), .val (.ref ob_6), .val (.ref ob_7), .val (.ref ob_8), .unset, .unset] [.null, (.ref ob_5), .null, (.ref ob_4), (.ref ob_3), (.long pl), (.ref b9), (.ref b9)])) _
      refine Goes.by (fun _ k => XS.aload X9.here hx rfl (hb hby at_129) rfl rfl k) ?_
      show Goes p.tables e below (T9.setTop (mkF m 131 #[.val (.long pl), .second, .val (.int pa), .val (.int pb), .val (.int pc0), .val (.int pf), .val (.int (0 : Int32)), .val (.int (0 : Int32)), .val .null, .val .null, .val (.ref ob_3), .val (.ref ob_4), .val (.ref ob_5), .val (.ref ob_6), .val (.ref ob_7), .val (.ref ob_8), .unset, .unset] [(.ref ob_6), .null, (.ref ob_5), .null, (.ref ob_4), (.ref ob_3), (.long pl), (.ref b9), (.ref b9)])) _
      refine Goes.by (fun _ k => XS.aload X9.here hx rfl (hb hby at_131) rfl rfl k) ?_
      show Goes p.tables e below (T9.setTop (mkF m 133 #[.val (.long pl), .second, .val (.int pa), .val (.int pb), .val (.int pc0), .val (.int pf), .val (.int (0 : Int32)), .val (.int (0 : Int32)), .val .null, .val .null, .val (.ref ob_3), .val (.ref ob_4), .val (.ref ob_5), .val (.ref ob_6), .val (.ref ob_7), .val (.ref ob_8), .unset, .unset] [(.ref ob_7), (.ref ob_6), .null, (.ref ob_5), .null, (.ref ob_4), (.ref ob_3), (.long pl), (.ref b9), (.ref b9)])) _
      refine Goes.by (fun _ k => XS.aload X9.here hx rfl (hb hby at_133) rfl rfl k) ?_
      show Goes p.tables e below (T9.setTop (mkF m 135 #[.val (.long pl), .second, .val (.int pa), .val (.int pb), .val (.int pc0), .val (.int pf), .val (.int (0 : Int32)), .val (.int (0 : Int32)), .val .null, .val .null, .val (.ref ob_3), .val (.ref ob_4), .val (.ref ob_5), .val (.ref ob_6), .val (.ref ob_7), .val (.ref ob_8), .unset, .unset] [(.ref ob_8), (.ref ob_7), (.ref ob_6), .null, (.ref ob_5), .null, (.ref ob_4), (.ref ob_3), (.long pl), (.ref b9), (.ref b9)])) _
      obtain ⟨_, _, ⟨T10, L10, k10, n10⟩, -, X10, ⟨Lc10, hQ10, l10, y10, z10⟩, st10⟩ := X9.specialBack hx (y := (⟨"org/unitspan/ead/DateElement", "<init>", "(JLjava/lang/String;Ljava/lang/String;Ljava/lang/String;Ljava/lang/String;Ljava/lang/String;Ljava/lang/String;Ljava/lang/String;Ljava/lang/String;)V"⟩ : MethodName)) rfl hown (mvT hZ (hw _ (List.mem_of_getElem? (i := 37) rfl))) (mvT hZ (hw _ (List.mem_of_getElem? (i := 38) rfl))) (mvT hZ (hw _ (List.mem_of_getElem? (i := 39) rfl))) (by decide) (backOf (W := 1) (rm8nn l Z a0 hw [] b9 pl ob_3 ob_4 ob_5 ob_6 ob_7 ob_8 h9 n0 Zs9 E_b9 F_b9_line F_b9_name F_b9_text F_b9_normal F_b9_unitdateType F_b9_standardDate F_b9_notBefore F_b9_notAfter F_b9_rangeStart g_b9) hZ (hw _ (List.mem_of_getElem? (i := 39) rfl)) (hw _ (List.mem_of_getElem? (i := 36) rfl)) (by decide) (by decide)) (g := (mkF m 135 #[.val (.long pl), .second, .val (.int pa), .val (.int pb), .val (.int pc0), .val (.int pf), .val (.int (0 : Int32)), .val (.int (0 : Int32)), .val .null, .val .null, .val (.ref ob_3), .val (.ref ob_4), .val (.ref ob_5), .val (.ref ob_6), .val (.ref ob_7), .val (.ref ob_8), .unset, .unset] [(.ref ob_8), (.ref ob_7), (.ref ob_6), .null, (.ref ob_5), .null, (.ref ob_4), (.ref ob_3), (.long pl), (.ref b9), (.ref b9)])) rfl (by rw [hml]; rfl) (Steps.refl _) (a := b9) (argsL := [(.long pl), (.ref ob_3), (.ref ob_4), .null, (.ref ob_5), .null, (.ref ob_6), (.ref ob_7), (.ref ob_8)]) (rest := [(.ref b9)]) (lenOf pd_3 rfl) rfl (by show 2 * 0 + (1 + 0) ≤ _; decide) (hb hby at_135) (fun _ _ => ⟨rfl, e9, (by decide : 19 + 0 ≤ _), (by decide : 57 + 0 ≤ _)⟩)
      dsimp only [Pt.U, Pt.locs, Pt.cells, Pt.slots] at X10 l10 y10 z10 st10 hQ10
      subst l10 y10 z10
      obtain ⟨rfl, N10q, Kq10, po10_0, po10_1, po10_2⟩ := hQ10
      have N10 := Fr.app N8 N10q
      refine Goes.via st10 ?_
      have Zs10 : n0 ≤ T10.heap.size := Nat.le_trans Zs9 Kq10.1
      have K10 : Keep h0 T10.heap [] := K9.trans Kq10 (allS (Or.inr sz_b9) all0)
      have O : Old Z n0 T10.heap := O.keep Kq10 (allS g_b9 all0)
      have E_ob_3 : Exa Z T10.heap ob_3 "java/lang/String" := E_ob_3.keep Kq10
      have E_ob_4 : Exa Z T10.heap ob_4 "java/lang/String" := E_ob_4.keep Kq10
      have E_ob_5 : Exa Z T10.heap ob_5 "java/lang/String" := E_ob_5.keep Kq10
      have E_ob_6 : Exa Z T10.heap ob_6 "java/lang/String" := E_ob_6.keep Kq10
      have E_ob_7 : Exa Z T10.heap ob_7 "java/lang/String" := E_ob_7.keep Kq10
      have E_ob_8 : Exa Z T10.heap ob_8 "java/lang/String" := E_ob_8.keep Kq10
      have E_b9 : Exa Z T10.heap b9 "org/unitspan/ead/DateElement" := E_b9.keep Kq10
      have E_b9 : Exa Z T10.heap b9 "org/unitspan/ead/DateElement" := po10_0
      have F_b9_normal : Fld Z T10.heap b9 "org/unitspan/ead/DateElement" "normal" "Ljava/lang/String;" .null := po10_1
      have F_b9_standardDate : Fld Z T10.heap b9 "org/unitspan/ead/DateElement" "standardDate" "Ljava/lang/String;" .null := po10_2
      show Goes p.tables e below (T10.setTop (mkF m 138 #[.val (.long pl), .second, .val (.int pa), .val (.int pb), .val (.int pc0), .val (.int pf), .val (.int (0 : Int32)), .val (.int (0 : Int32)), .val .null, .val .null, .val (.ref ob_3), .val (.ref ob_4), .val (.ref ob_5), .val (.ref ob_6), .val (.ref ob_7), .val (.ref ob_8), .unset, .unset] [(.ref b9)])) _
      refine Goes.by (fun _ k => XS.astore X10.here hx rfl (hb hby at_138) rfl rfl (l' := #[.val (.long pl), .second, .val (.int pa), .val (.int pb), .val (.int pc0), .val (.int pf), .val (.int (0 : Int32)), .val (.int (0 : Int32)), .val .null, .val .null, .val (.ref ob_3), .val (.ref ob_4), .val (.ref ob_5), .val (.ref ob_6), .val (.ref ob_7), .val (.ref ob_8), .val (.ref b9), .unset]) rfl k) ?_
      show Goes p.tables e below (T10.setTop (mkF m 140 #[.val (.long pl), .second, .val (.int pa), .val (.int pb), .val (.int pc0), .val (.int pf), .val (.int (0 : Int32)), .val (.int (0 : Int32)), .val .null, .val .null, .val (.ref ob_3), .val (.ref ob_4), .val (.ref ob_5), .val (.ref ob_6), .val (.ref ob_7), .val (.ref ob_8), .val (.ref b9), .unset] [])) _
      refine Goes.by (fun _ k => XS.aload X10.here hx rfl (hb hby at_140) rfl rfl k) ?_
      show Goes p.tables e below (T10.setTop (mkF m 142 #[.val (.long pl), .second, .val (.int pa), .val (.int pb), .val (.int pc0), .val (.int pf), .val (.int (0 : Int32)), .val (.int (0 : Int32)), .val .null, .val .null, .val (.ref ob_3), .val (.ref ob_4), .val (.ref ob_5), .val (.ref ob_6), .val (.ref ob_7), .val (.ref ob_8), .val (.ref b9), .unset] [(.ref b9)])) _
      obtain ⟨cq11, kq11, q11a, q11b, q11c⟩ := isOf hZ rfl E_b9
      obtain ⟨_, _, ⟨T11, L11, k11, n11⟩, -, X11, ⟨Lc11, hQ11, l11, y11, z11⟩, st11⟩ := X10.virtualBack hx (y := (⟨"org/unitspan/ead/DateElement", "statedDate", "()Ljava/lang/String;"⟩ : MethodName)) (z := (⟨"org/unitspan/ead/DateElement", "statedDate", "()Ljava/lang/String;"⟩ : MethodName)) hown (mvT hZ (hw _ (List.mem_of_getElem? (i := 64) rfl))) (mvT hZ (hw _ (List.mem_of_getElem? (i := 65) rfl))) (notFace_of_selects (args := #[]) (mvT hZ (hw _ (List.mem_of_getElem? (i := 67) rfl)))) (mvT hZ (hw _ (List.mem_of_getElem? (i := 67) rfl))) (mvT hZ (hw _ (List.mem_of_getElem? (i := 66) rfl))) (by decide) (backOf (W := 0) (rm10nn l Z a0 hw [] b9 T10.heap n0 Zs10 F_b9_normal F_b9_standardDate) hZ (hw _ (List.mem_of_getElem? (i := 68) rfl)) (hw _ (List.mem_of_getElem? (i := 36) rfl)) (by decide) (by decide)) q11a q11c (g := (mkF m 142 #[.val (.long pl), .second, .val (.int pa), .val (.int pb), .val (.int pc0), .val (.int pf), .val (.int (0 : Int32)), .val (.int (0 : Int32)), .val .null, .val .null, .val (.ref ob_3), .val (.ref ob_4), .val (.ref ob_5), .val (.ref ob_6), .val (.ref ob_7), .val (.ref ob_8), .val (.ref b9), .unset] [(.ref b9)])) rfl (by rw [hml]; rfl) (Steps.refl _) (argsL := []) (rest := []) (lenOf pd_4 rfl) rfl (by show 2 * 0 + _ ≤ _; exact Nat.le_of_eq rfl) (hb hby at_142) (fun _ _ => ⟨rfl, rfl, (by decide : 19 + 0 ≤ _), (by decide : 57 + 0 ≤ _)⟩)
      dsimp only [Pt.U, Pt.locs, Pt.cells, Pt.slots] at X11 l11 y11 z11 st11 hQ11
      subst l11 y11 z11
      obtain ⟨rfl, N11q, e11⟩ := hQ11
      have N11 := Fr.app N10 N11q
      refine Goes.via st11 ?_
      show Goes p.tables e below (T11.setTop (mkF m 145 #[.val (.long pl), .second, .val (.int pa), .val (.int pb), .val (.int pc0), .val (.int pf), .val (.int (0 : Int32)), .val (.int (0 : Int32)), .val .null, .val .null, .val (.ref ob_3), .val (.ref ob_4), .val (.ref ob_5), .val (.ref ob_6), .val (.ref ob_7), .val (.ref ob_8), .val (.ref b9), .unset] [.null])) _
      refine Goes.by (fun _ k => XS.astore X11.here hx rfl (hb hby at_145) rfl rfl (l' := #[.val (.long pl), .second, .val (.int pa), .val (.int pb), .val (.int pc0), .val (.int pf), .val (.int (0 : Int32)), .val (.int (0 : Int32)), .val .null, .val .null, .val (.ref ob_3), .val (.ref ob_4), .val (.ref ob_5), .val (.ref ob_6), .val (.ref ob_7), .val (.ref ob_8), .val (.ref b9), .val .null]) rfl k) ?_
      show Goes p.tables e below (T11.setTop (mkF m 147 #[.val (.long pl), .second, .val (.int pa), .val (.int pb), .val (.int pc0), .val (.int pf), .val (.int (0 : Int32)), .val (.int (0 : Int32)), .val .null, .val .null, .val (.ref ob_3), .val (.ref ob_4), .val (.ref ob_5), .val (.ref ob_6), .val (.ref ob_7), .val (.ref ob_8), .val (.ref b9), .val .null] [])) _
      refine Goes.by (fun _ k => XS.iload X11.here hx rfl (hb hby at_147) rfl k) ?_
      show Goes p.tables e below (T11.setTop (mkF m 149 #[.val (.long pl), .second, .val (.int pa), .val (.int pb), .val (.int pc0), .val (.int pf), .val (.int (0 : Int32)), .val (.int (0 : Int32)), .val .null, .val .null, .val (.ref ob_3), .val (.ref ob_4), .val (.ref ob_5), .val (.ref ob_6), .val (.ref ob_7), .val (.ref ob_8), .val (.ref b9), .val .null] [(.int (0 : Int32))])) _
      refine Goes.by (fun _ k => XS.ifYes X11.here hx rfl (pc0 := 149) (pc' := 165) rfl (hb hby at_149) rfl ((if0 _ _).trans (teq (by decide : (0 : Int32) = (0 : Int32))).1) (by decide) (by decide) k) ?_
      show Goes p.tables e below (T11.setTop (mkF m 165 #[.val (.long pl), .second, .val (.int pa), .val (.int pb), .val (.int pc0), .val (.int pf), .val (.int (0 : Int32)), .val (.int (0 : Int32)), .val .null, .val .null, .val (.ref ob_3), .val (.ref ob_4), .val (.ref ob_5), .val (.ref ob_6), .val (.ref ob_7), .val (.ref ob_8), .val (.ref b9), .val .null] [])) _
      refine Goes.by (fun _ k => XS.aload X11.here hx rfl (hb hby at_165) rfl rfl k) ?_
      show Goes p.tables e below (T11.setTop (mkF m 167 #[.val (.long pl), .second, .val (.int pa), .val (.int pb), .val (.int pc0), .val (.int pf), .val (.int (0 : Int32)), .val (.int (0 : Int32)), .val .null, .val .null, .val (.ref ob_3), .val (.ref ob_4), .val (.ref ob_5), .val (.ref ob_6), .val (.ref ob_7), .val (.ref ob_8), .val (.ref b9), .val .null] [.null])) _
      refine Goes.by (fun _ k => XS.aload X11.here hx rfl (hb hby at_167) rfl rfl k) ?_
      show Goes p.tables e below (T11.setTop (mkF m 169 #[.val (.long pl), .second, .val (.int pa), .val (.int pb), .val (.int pc0), .val (.int pf), .val (.int (0 : Int32)), .val (.int (0 : Int32)), .val .null, .val .null, .val (.ref ob_3), .val (.ref ob_4), .val (.ref ob_5), .val (.ref ob_6), .val (.ref ob_7), .val (.ref ob_8), .val (.ref b9), .val .null] [.null, .null])) _
      refine Goes.by (fun _ k => Jvm.RoadKit.acmp (g := (mkF m 169 #[.val (.long pl), .second, .val (.int pa), .val (.int pb), .val (.int pc0), .val (.int pf), .val (.int (0 : Int32)), .val (.int (0 : Int32)), .val .null, .val .null, .val (.ref ob_3), .val (.ref ob_4), .val (.ref ob_5), .val (.ref ob_6), .val (.ref ob_7), .val (.ref ob_8), .val (.ref b9), .val .null] [.null, .null])) X11 hx rfl rfl rfl (pc0 := 169) (pc' := 172) (same := true) rfl (hb hby at_169) rfl (decide_eq_true rfl) (by decide) (by decide) k) ?_
      show Goes p.tables e below (T11.setTop (mkF m 172 #[.val (.long pl), .second, .val (.int pa), .val (.int pb), .val (.int pc0), .val (.int pf), .val (.int (0 : Int32)), .val (.int (0 : Int32)), .val .null, .val .null, .val (.ref ob_3), .val (.ref ob_4), .val (.ref ob_5), .val (.ref ob_6), .val (.ref ob_7), .val (.ref ob_8), .val (.ref b9), .val .null] [])) _
      refine Goes.by (fun _ k => XS.iconst X11.here hx rfl (hb hby at_172) k) ?_
      show Goes p.tables e below (T11.setTop (mkF m 173 #[.val (.long pl), .second, .val (.int pa), .val (.int pb), .val (.int pc0), .val (.int pf), .val (.int (0 : Int32)), .val (.int (0 : Int32)), .val .null, .val .null, .val (.ref ob_3), .val (.ref ob_4), .val (.ref ob_5), .val (.ref ob_6), .val (.ref ob_7), .val (.ref ob_8), .val (.ref b9), .val .null] [(.int (1 : Int32))])) _
      refine Goes.by (fun _ k => XS.goto X11.here hx rfl (pc0 := 173) (pc' := 177) rfl (hb hby at_173) (by decide) (by decide) k) ?_
      show Goes p.tables e below (T11.setTop (mkF m 177 #[.val (.long pl), .second, .val (.int pa), .val (.int pb), .val (.int pc0), .val (.int pf), .val (.int (0 : Int32)), .val (.int (0 : Int32)), .val .null, .val .null, .val (.ref ob_3), .val (.ref ob_4), .val (.ref ob_5), .val (.ref ob_6), .val (.ref ob_7), .val (.ref ob_8), .val (.ref b9), .val .null] [(.int (1 : Int32))])) _
      obtain ⟨fs, hr, hrun, hended, hW, hsame⟩ := X11.leave (v := some (.int (1 : Int32))) (fun h => by rw [Bd.returns] at h; cases h)
      refine ⟨_, _, retN X11 hx (t := .boolean) Bd.returns (by simp) (hb hby at_177) hr, hrun, hended, _, _, rfl, ?_, ⟨_, rfl⟩, hW, hsame.mono (by decide) (by decide)⟩
      show Q0 Z pl pa pb pc0 pf zc h0 n0 _ T11.heap _
      rw [e11]
      exact ⟨rfl, N11⟩
    · refine Goes.by (fun _ k => XS.ifNo X0.here hx rfl (hb hby at_18) rfl ((if0 _ _).trans (feq hc2).1) k) ?_
      show Goes p.tables e below (s₁.setTop (mkF m 21 #[.val (.long pl), .second, .val (.int pa), .val (.int pb), .val (.int pc0), .val (.int pf), .val (.int (0 : Int32)), .unset, .unset, .unset, .unset, .unset, .unset, .unset, .unset, .unset, .unset, .unset] [])) _
      refine Goes.by (fun _ k => XS.iconst X0.here hx rfl (hb hby at_21) k) ?_
      show Goes p.tables e below (s₁.setTop (mkF m 22 #[.val (.long pl), .second, .val (.int pa), .val (.int pb), .val (.int pc0), .val (.int pf), .val (.int (0 : Int32)), .unset, .unset, .unset, .unset, .unset, .unset, .unset, .unset, .unset, .unset, .unset] [(.int (1 : Int32))])) _
      refine Goes.by (fun _ k => XS.goto X0.here hx rfl (pc0 := 22) (pc' := 26) rfl (hb hby at_22) (by decide) (by decide) k) ?_
      show Goes p.tables e below (s₁.setTop (mkF m 26 #[.val (.long pl), .second, .val (.int pa), .val (.int pb), .val (.int pc0), .val (.int pf), .val (.int (0 : Int32)), .unset, .unset, .unset, .unset, .unset, .unset, .unset, .unset, .unset, .unset, .unset] [(.int (1 : Int32))])) _
      refine Goes.by (fun _ k => XS.istore X0.here hx rfl (hb hby at_26) rfl (l' := #[.val (.long pl), .second, .val (.int pa), .val (.int pb), .val (.int pc0), .val (.int pf), .val (.int (0 : Int32)), .val (.int (1 : Int32)), .unset, .unset, .unset, .unset, .unset, .unset, .unset, .unset, .unset, .unset]) rfl k) ?_
      show Goes p.tables e below (s₁.setTop (mkF m 28 #[.val (.long pl), .second, .val (.int pa), .val (.int pb), .val (.int pc0), .val (.int pf), .val (.int (0 : Int32)), .val (.int (1 : Int32)), .unset, .unset, .unset, .unset, .unset, .unset, .unset, .unset, .unset, .unset] [])) _
      refine Goes.by (fun _ k => XS.iload X0.here hx rfl (hb hby at_28) rfl k) ?_
      show Goes p.tables e below (s₁.setTop (mkF m 30 #[.val (.long pl), .second, .val (.int pa), .val (.int pb), .val (.int pc0), .val (.int pf), .val (.int (0 : Int32)), .val (.int (1 : Int32)), .unset, .unset, .unset, .unset, .unset, .unset, .unset, .unset, .unset, .unset] [(.int (0 : Int32))])) _
      refine Goes.by (fun _ k => XS.ifYes X0.here hx rfl (pc0 := 30) (pc' := 40) rfl (hb hby at_30) rfl ((if0 _ _).trans (teq (by decide : (0 : Int32) = (0 : Int32))).1) (by decide) (by decide) k) ?_
      show Goes p.tables e below (s₁.setTop (mkF m 40 #[.val (.long pl), .second, .val (.int pa), .val (.int pb), .val (.int pc0), .val (.int pf), .val (.int (0 : Int32)), .val (.int (1 : Int32)), .unset, .unset, .unset, .unset, .unset, .unset, .unset, .unset, .unset, .unset] [])) _
      refine Goes.by (fun _ k => XS.aconstNull X0.here hx rfl (hb hby at_40) k) ?_
      show Goes p.tables e below (s₁.setTop (mkF m 41 #[.val (.long pl), .second, .val (.int pa), .val (.int pb), .val (.int pc0), .val (.int pf), .val (.int (0 : Int32)), .val (.int (1 : Int32)), .unset, .unset, .unset, .unset, .unset, .unset, .unset, .unset, .unset, .unset] [.null])) _
      refine Goes.by (fun _ k => XS.astore X0.here hx rfl (hb hby at_41) rfl rfl (l' := #[.val (.long pl), .second, .val (.int pa), .val (.int pb), .val (.int pc0), .val (.int pf), .val (.int (0 : Int32)), .val (.int (1 : Int32)), .val .null, .unset, .unset, .unset, .unset, .unset, .unset, .unset, .unset, .unset]) rfl k) ?_
      show Goes p.tables e below (s₁.setTop (mkF m 43 #[.val (.long pl), .second, .val (.int pa), .val (.int pb), .val (.int pc0), .val (.int pf), .val (.int (0 : Int32)), .val (.int (1 : Int32)), .val .null, .unset, .unset, .unset, .unset, .unset, .unset, .unset, .unset, .unset] [])) _
      refine Goes.by (fun _ k => XS.iload X0.here hx rfl (hb hby at_43) rfl k) ?_
      show Goes p.tables e below (s₁.setTop (mkF m 45 #[.val (.long pl), .second, .val (.int pa), .val (.int pb), .val (.int pc0), .val (.int pf), .val (.int (0 : Int32)), .val (.int (1 : Int32)), .val .null, .unset, .unset, .unset, .unset, .unset, .unset, .unset, .unset, .unset] [(.int (1 : Int32))])) _
      refine Goes.by (fun _ k => XS.ifNo X0.here hx rfl (hb hby at_45) rfl ((if0 _ _).trans (feq (by decide : ¬ ((1 : Int32) = (0 : Int32)))).1) k) ?_
      show Goes p.tables e below (s₁.setTop (mkF m 48 #[.val (.long pl), .second, .val (.int pa), .val (.int pb), .val (.int pc0), .val (.int pf), .val (.int (0 : Int32)), .val (.int (1 : Int32)), .val .null, .unset, .unset, .unset, .unset, .unset, .unset, .unset, .unset, .unset] [])) _
      refine Goes.by (fun _ k => XS.iloadN X0.here hx rfl (hb hby at_48) rfl k) ?_
      show Goes p.tables e below (s₁.setTop (mkF m 49 #[.val (.long pl), .second, .val (.int pa), .val (.int pb), .val (.int pc0), .val (.int pf), .val (.int (0 : Int32)), .val (.int (1 : Int32)), .val .null, .unset, .unset, .unset, .unset, .unset, .unset, .unset, .unset, .unset] [(.int pb)])) _
      obtain ⟨_, _, ⟨T12, L12, k12, n12⟩, -, X12, ⟨Lc12, hQ12, l12, y12, z12⟩, st12⟩ := Jvm.LawKit.callS X0 hx (y := (⟨"org/unitspan/ead/DateElementStatedDatePinLaw", "str", "(I)Ljava/lang/String;"⟩ : MethodName)) hown (mvT hZ (hw _ (List.mem_of_getElem? (i := 0) rfl))) (mvT hZ (hw _ (List.mem_of_getElem? (i := 1) rfl))) (mvT hZ (hw _ (List.mem_of_getElem? (i := 2) rfl))) (mvT hZ (hw _ (List.mem_of_getElem? (i := 3) rfl))) (by decide) (backOf (W := 0) (rm1 l Z a0 hw [] pb zc h0 n0 Z0 O S_cs hzc) hZ (hw _ (List.mem_of_getElem? (i := 3) rfl)) (hw _ (List.mem_of_getElem? (i := 2) rfl)) (by decide) (by decide)) (g := (mkF m 49 #[.val (.long pl), .second, .val (.int pa), .val (.int pb), .val (.int pc0), .val (.int pf), .val (.int (0 : Int32)), .val (.int (1 : Int32)), .val .null, .unset, .unset, .unset, .unset, .unset, .unset, .unset, .unset, .unset] [(.int pb)])) rfl (by rw [hml]; rfl) (argsL := [(.int pb)]) (rest := []) (lenOf pd_2 rfl) rfl (by show 2 * 0 + _ ≤ _; exact Nat.le_of_eq rfl) (hb hby at_49) (fun _ _ => ⟨rfl, e0, (by decide : 0 + 3 ≤ _), (by decide : 0 + 8 ≤ _)⟩)
      dsimp only [Pt.U, Pt.locs, Pt.cells, Pt.slots] at X12 l12 y12 z12 st12 hQ12
      subst l12 y12 z12
      obtain ⟨ob_12, rfl, N12q, Kq12, po12_0, po12_1⟩ := hQ12
      have N12 := Fr.app N0 N12q
      refine Goes.by st12 ?_
      have Zs12 : n0 ≤ T12.heap.size := Nat.le_trans Z0 Kq12.1
      have K12 : Keep h0 T12.heap [] := (Keep.refl h0 []).trans Kq12 all0
      have sz_ob_12 : h0.size ≤ ob_12 := Nat.le_trans (Keep.refl h0 []).1 po12_1
      have g_ob_12 : n0 ≤ ob_12 := Nat.le_trans Z0 po12_1
      have O : Old Z n0 T12.heap := O.keep Kq12 all0
      have E_ob_12 : Exa Z T12.heap ob_12 "java/lang/String" := po12_0
      show Goes p.tables e below (T12.setTop (mkF m 52 #[.val (.long pl), .second, .val (.int pa), .val (.int pb), .val (.int pc0), .val (.int pf), .val (.int (0 : Int32)), .val (.int (1 : Int32)), .val .null, .unset, .unset, .unset, .unset, .unset, .unset, .unset, .unset, .unset] [(.ref ob_12)])) _
      refine Goes.by (fun _ k => XS.goto X12.here hx rfl (pc0 := 52) (pc' := 56) rfl (hb hby at_52) (by decide) (by decide) k) ?_
      show Goes p.tables e below (T12.setTop (mkF m 56 #[.val (.long pl), .second, .val (.int pa), .val (.int pb), .val (.int pc0), .val (.int pf), .val (.int (0 : Int32)), .val (.int (1 : Int32)), .val .null, .unset, .unset, .unset, .unset, .unset, .unset, .unset, .unset, .unset] [(.ref ob_12)])) _
      refine Goes.by (fun _ k => XS.astore X12.here hx rfl (hb hby at_56) rfl rfl (l' := #[.val (.long pl), .second, .val (.int pa), .val (.int pb), .val (.int pc0), .val (.int pf), .val (.int (0 : Int32)), .val (.int (1 : Int32)), .val .null, .val (.ref ob_12), .unset, .unset, .unset, .unset, .unset, .unset, .unset, .unset]) rfl k) ?_
      show Goes p.tables e below (T12.setTop (mkF m 58 #[.val (.long pl), .second, .val (.int pa), .val (.int pb), .val (.int pc0), .val (.int pf), .val (.int (0 : Int32)), .val (.int (1 : Int32)), .val .null, .val (.ref ob_12), .unset, .unset, .unset, .unset, .unset, .unset, .unset, .unset] [])) _
      refine Goes.by (fun _ k => XS.iload X12.here hx rfl (hb hby at_58) rfl k) ?_
      show Goes p.tables e below (T12.setTop (mkF m 60 #[.val (.long pl), .second, .val (.int pa), .val (.int pb), .val (.int pc0), .val (.int pf), .val (.int (0 : Int32)), .val (.int (1 : Int32)), .val .null, .val (.ref ob_12), .unset, .unset, .unset, .unset, .unset, .unset, .unset, .unset] [(.int pc0)])) _
      obtain ⟨_, _, ⟨T13, L13, k13, n13⟩, -, X13, ⟨Lc13, hQ13, l13, y13, z13⟩, st13⟩ := Jvm.LawKit.callS X12 hx (y := (⟨"org/unitspan/ead/DateElementStatedDatePinLaw", "str", "(I)Ljava/lang/String;"⟩ : MethodName)) hown (mvT hZ (hw _ (List.mem_of_getElem? (i := 0) rfl))) (mvT hZ (hw _ (List.mem_of_getElem? (i := 1) rfl))) (mvT hZ (hw _ (List.mem_of_getElem? (i := 2) rfl))) (mvT hZ (hw _ (List.mem_of_getElem? (i := 3) rfl))) (by decide) (backOf (W := 0) (rm1 l Z a0 hw [] pc0 zc T12.heap n0 Zs12 O S_cs hzc) hZ (hw _ (List.mem_of_getElem? (i := 3) rfl)) (hw _ (List.mem_of_getElem? (i := 2) rfl)) (by decide) (by decide)) (g := (mkF m 60 #[.val (.long pl), .second, .val (.int pa), .val (.int pb), .val (.int pc0), .val (.int pf), .val (.int (0 : Int32)), .val (.int (1 : Int32)), .val .null, .val (.ref ob_12), .unset, .unset, .unset, .unset, .unset, .unset, .unset, .unset] [(.int pc0)])) rfl (by rw [hml]; rfl) (argsL := [(.int pc0)]) (rest := []) (lenOf pd_2 rfl) rfl (by show 2 * 0 + _ ≤ _; exact Nat.le_of_eq rfl) (hb hby at_60) (fun _ _ => ⟨rfl, rfl, (by decide : 3 + 3 ≤ _), (by decide : 8 + 8 ≤ _)⟩)
      dsimp only [Pt.U, Pt.locs, Pt.cells, Pt.slots] at X13 l13 y13 z13 st13 hQ13
      subst l13 y13 z13
      obtain ⟨ob_13, rfl, N13q, Kq13, po13_0, po13_1⟩ := hQ13
      have N13 := Fr.app N12 N13q
      refine Goes.by st13 ?_
      have Zs13 : n0 ≤ T13.heap.size := Nat.le_trans Zs12 Kq13.1
      have K13 : Keep h0 T13.heap [] := K12.trans Kq13 all0
      have lt13_ob_12 := E_ob_12.lt
      have sz_ob_13 : h0.size ≤ ob_13 := Nat.le_trans K12.1 po13_1
      have g_ob_13 : n0 ≤ ob_13 := Nat.le_trans Zs12 po13_1
      have ne_ob_12_ob_13 : ob_12 ≠ ob_13 := Nat.ne_of_lt (Nat.lt_of_lt_of_le lt13_ob_12 po13_1)
      have O : Old Z n0 T13.heap := O.keep Kq13 all0
      have E_ob_12 : Exa Z T13.heap ob_12 "java/lang/String" := E_ob_12.keep Kq13
      have E_ob_13 : Exa Z T13.heap ob_13 "java/lang/String" := po13_0
      show Goes p.tables e below (T13.setTop (mkF m 63 #[.val (.long pl), .second, .val (.int pa), .val (.int pb), .val (.int pc0), .val (.int pf), .val (.int (0 : Int32)), .val (.int (1 : Int32)), .val .null, .val (.ref ob_12), .unset, .unset, .unset, .unset, .unset, .unset, .unset, .unset] [(.ref ob_13)])) _
      refine Goes.by (fun _ k => XS.astore X13.here hx rfl (hb hby at_63) rfl rfl (l' := #[.val (.long pl), .second, .val (.int pa), .val (.int pb), .val (.int pc0), .val (.int pf), .val (.int (0 : Int32)), .val (.int (1 : Int32)), .val .null, .val (.ref ob_12), .val (.ref ob_13), .unset, .unset, .unset, .unset, .unset, .unset, .unset]) rfl k) ?_
      show Goes p.tables e below (T13.setTop (mkF m 65 #[.val (.long pl), .second, .val (.int pa), .val (.int pb), .val (.int pc0), .val (.int pf), .val (.int (0 : Int32)), .val (.int (1 : Int32)), .val .null, .val (.ref ob_12), .val (.ref ob_13), .unset, .unset, .unset, .unset, .unset, .unset, .unset] [])) _
      refine Goes.by (fun _ k => XS.iload X13.here hx rfl (hb hby at_65) rfl k) ?_
      show Goes p.tables e below (T13.setTop (mkF m 67 #[.val (.long pl), .second, .val (.int pa), .val (.int pb), .val (.int pc0), .val (.int pf), .val (.int (0 : Int32)), .val (.int (1 : Int32)), .val .null, .val (.ref ob_12), .val (.ref ob_13), .unset, .unset, .unset, .unset, .unset, .unset, .unset] [(.int pc0)])) _
      refine Goes.by (fun _ k => XS.bipush X13.here hx rfl (hb hby at_67) k) ?_
      show Goes p.tables e below (T13.setTop (mkF m 69 #[.val (.long pl), .second, .val (.int pa), .val (.int pb), .val (.int pc0), .val (.int pf), .val (.int (0 : Int32)), .val (.int (1 : Int32)), .val .null, .val (.ref ob_12), .val (.ref ob_13), .unset, .unset, .unset, .unset, .unset, .unset, .unset] [(.int (16 : Int32)), (.int pc0)])) _
      refine Goes.by (fun _ k => XS.iushr X13.here hx rfl (hb hby at_69) rfl k) ?_
      show Goes p.tables e below (T13.setTop (mkF m 70 #[.val (.long pl), .second, .val (.int pa), .val (.int pb), .val (.int pc0), .val (.int pf), .val (.int (0 : Int32)), .val (.int (1 : Int32)), .val .null, .val (.ref ob_12), .val (.ref ob_13), .unset, .unset, .unset, .unset, .unset, .unset, .unset] [(.int ((pc0.toUInt32 >>> ((16 : Int32) &&& 31).toUInt32).toInt32))])) _
      obtain ⟨_, _, ⟨T14, L14, k14, n14⟩, -, X14, ⟨Lc14, hQ14, l14, y14, z14⟩, st14⟩ := Jvm.LawKit.callS X13 hx (y := (⟨"org/unitspan/ead/DateElementStatedDatePinLaw", "str", "(I)Ljava/lang/String;"⟩ : MethodName)) hown (mvT hZ (hw _ (List.mem_of_getElem? (i := 0) rfl))) (mvT hZ (hw _ (List.mem_of_getElem? (i := 1) rfl))) (mvT hZ (hw _ (List.mem_of_getElem? (i := 2) rfl))) (mvT hZ (hw _ (List.mem_of_getElem? (i := 3) rfl))) (by decide) (backOf (W := 0) (rm1 l Z a0 hw [] ((pc0.toUInt32 >>> ((16 : Int32) &&& 31).toUInt32).toInt32) zc T13.heap n0 Zs13 O S_cs hzc) hZ (hw _ (List.mem_of_getElem? (i := 3) rfl)) (hw _ (List.mem_of_getElem? (i := 2) rfl)) (by decide) (by decide)) (g := (mkF m 70 #[.val (.long pl), .second, .val (.int pa), .val (.int pb), .val (.int pc0), .val (.int pf), .val (.int (0 : Int32)), .val (.int (1 : Int32)), .val .null, .val (.ref ob_12), .val (.ref ob_13), .unset, .unset, .unset, .unset, .unset, .unset, .unset] [(.int ((pc0.toUInt32 >>> ((16 : Int32) &&& 31).toUInt32).toInt32))])) rfl (by rw [hml]; rfl) (argsL := [(.int ((pc0.toUInt32 >>> ((16 : Int32) &&& 31).toUInt32).toInt32))]) (rest := []) (lenOf pd_2 rfl) rfl (by show 2 * 0 + _ ≤ _; exact Nat.le_of_eq rfl) (hb hby at_70) (fun _ _ => ⟨rfl, rfl, (by decide : 6 + 3 ≤ _), (by decide : 16 + 8 ≤ _)⟩)
      dsimp only [Pt.U, Pt.locs, Pt.cells, Pt.slots] at X14 l14 y14 z14 st14 hQ14
      subst l14 y14 z14
      obtain ⟨ob_14, rfl, N14q, Kq14, po14_0, po14_1⟩ := hQ14
      have N14 := Fr.app N13 N14q
      refine Goes.by st14 ?_
      have Zs14 : n0 ≤ T14.heap.size := Nat.le_trans Zs13 Kq14.1
      have K14 : Keep h0 T14.heap [] := K13.trans Kq14 all0
      have lt14_ob_12 := E_ob_12.lt
      have lt14_ob_13 := E_ob_13.lt
      have sz_ob_14 : h0.size ≤ ob_14 := Nat.le_trans K13.1 po14_1
      have g_ob_14 : n0 ≤ ob_14 := Nat.le_trans Zs13 po14_1
      have ne_ob_12_ob_14 : ob_12 ≠ ob_14 := Nat.ne_of_lt (Nat.lt_of_lt_of_le lt14_ob_12 po14_1)
      have ne_ob_13_ob_14 : ob_13 ≠ ob_14 := Nat.ne_of_lt (Nat.lt_of_lt_of_le lt14_ob_13 po14_1)
      have O : Old Z n0 T14.heap := O.keep Kq14 all0
      have E_ob_12 : Exa Z T14.heap ob_12 "java/lang/String" := E_ob_12.keep Kq14
      have E_ob_13 : Exa Z T14.heap ob_13 "java/lang/String" := E_ob_13.keep Kq14
      have E_ob_14 : Exa Z T14.heap ob_14 "java/lang/String" := po14_0
      show Goes p.tables e below (T14.setTop (mkF m 73 #[.val (.long pl), .second, .val (.int pa), .val (.int pb), .val (.int pc0), .val (.int pf), .val (.int (0 : Int32)), .val (.int (1 : Int32)), .val .null, .val (.ref ob_12), .val (.ref ob_13), .unset, .unset, .unset, .unset, .unset, .unset, .unset] [(.ref ob_14)])) _
      refine Goes.by (fun _ k => XS.astore X14.here hx rfl (hb hby at_73) rfl rfl (l' := #[.val (.long pl), .second, .val (.int pa), .val (.int pb), .val (.int pc0), .val (.int pf), .val (.int (0 : Int32)), .val (.int (1 : Int32)), .val .null, .val (.ref ob_12), .val (.ref ob_13), .val (.ref ob_14), .unset, .unset, .unset, .unset, .unset, .unset]) rfl k) ?_
      show Goes p.tables e below (T14.setTop (mkF m 75 #[.val (.long pl), .second, .val (.int pa), .val (.int pb), .val (.int pc0), .val (.int pf), .val (.int (0 : Int32)), .val (.int (1 : Int32)), .val .null, .val (.ref ob_12), .val (.ref ob_13), .val (.ref ob_14), .unset, .unset, .unset, .unset, .unset, .unset] [])) _
      refine Goes.by (fun _ k => XS.iload X14.here hx rfl (hb hby at_75) rfl k) ?_
      show Goes p.tables e below (T14.setTop (mkF m 77 #[.val (.long pl), .second, .val (.int pa), .val (.int pb), .val (.int pc0), .val (.int pf), .val (.int (0 : Int32)), .val (.int (1 : Int32)), .val .null, .val (.ref ob_12), .val (.ref ob_13), .val (.ref ob_14), .unset, .unset, .unset, .unset, .unset, .unset] [(.int pc0)])) _
      refine Goes.by (fun _ k => XS.sipush X14.here hx rfl (hb hby at_77) k) ?_
      show Goes p.tables e below (T14.setTop (mkF m 80 #[.val (.long pl), .second, .val (.int pa), .val (.int pb), .val (.int pc0), .val (.int pf), .val (.int (0 : Int32)), .val (.int (1 : Int32)), .val .null, .val (.ref ob_12), .val (.ref ob_13), .val (.ref ob_14), .unset, .unset, .unset, .unset, .unset, .unset] [(.int (23130 : Int32)), (.int pc0)])) _
      refine Goes.by (fun _ k => XS.ixor X14.here hx rfl (hb hby at_80) rfl k) ?_
      show Goes p.tables e below (T14.setTop (mkF m 81 #[.val (.long pl), .second, .val (.int pa), .val (.int pb), .val (.int pc0), .val (.int pf), .val (.int (0 : Int32)), .val (.int (1 : Int32)), .val .null, .val (.ref ob_12), .val (.ref ob_13), .val (.ref ob_14), .unset, .unset, .unset, .unset, .unset, .unset] [(.int (pc0 ^^^ (23130 : Int32)))])) _
      obtain ⟨_, _, ⟨T15, L15, k15, n15⟩, -, X15, ⟨Lc15, hQ15, l15, y15, z15⟩, st15⟩ := Jvm.LawKit.callS X14 hx (y := (⟨"org/unitspan/ead/DateElementStatedDatePinLaw", "str", "(I)Ljava/lang/String;"⟩ : MethodName)) hown (mvT hZ (hw _ (List.mem_of_getElem? (i := 0) rfl))) (mvT hZ (hw _ (List.mem_of_getElem? (i := 1) rfl))) (mvT hZ (hw _ (List.mem_of_getElem? (i := 2) rfl))) (mvT hZ (hw _ (List.mem_of_getElem? (i := 3) rfl))) (by decide) (backOf (W := 0) (rm1 l Z a0 hw [] (pc0 ^^^ (23130 : Int32)) zc T14.heap n0 Zs14 O S_cs hzc) hZ (hw _ (List.mem_of_getElem? (i := 3) rfl)) (hw _ (List.mem_of_getElem? (i := 2) rfl)) (by decide) (by decide)) (g := (mkF m 81 #[.val (.long pl), .second, .val (.int pa), .val (.int pb), .val (.int pc0), .val (.int pf), .val (.int (0 : Int32)), .val (.int (1 : Int32)), .val .null, .val (.ref ob_12), .val (.ref ob_13), .val (.ref ob_14), .unset, .unset, .unset, .unset, .unset, .unset] [(.int (pc0 ^^^ (23130 : Int32)))])) rfl (by rw [hml]; rfl) (argsL := [(.int (pc0 ^^^ (23130 : Int32)))]) (rest := []) (lenOf pd_2 rfl) rfl (by show 2 * 0 + _ ≤ _; exact Nat.le_of_eq rfl) (hb hby at_81) (fun _ _ => ⟨rfl, rfl, (by decide : 9 + 3 ≤ _), (by decide : 24 + 8 ≤ _)⟩)
      dsimp only [Pt.U, Pt.locs, Pt.cells, Pt.slots] at X15 l15 y15 z15 st15 hQ15
      subst l15 y15 z15
      obtain ⟨ob_15, rfl, N15q, Kq15, po15_0, po15_1⟩ := hQ15
      have N15 := Fr.app N14 N15q
      refine Goes.by st15 ?_
      have Zs15 : n0 ≤ T15.heap.size := Nat.le_trans Zs14 Kq15.1
      have K15 : Keep h0 T15.heap [] := K14.trans Kq15 all0
      have lt15_ob_12 := E_ob_12.lt
      have lt15_ob_13 := E_ob_13.lt
      have lt15_ob_14 := E_ob_14.lt
      have sz_ob_15 : h0.size ≤ ob_15 := Nat.le_trans K14.1 po15_1
      have g_ob_15 : n0 ≤ ob_15 := Nat.le_trans Zs14 po15_1
      have ne_ob_12_ob_15 : ob_12 ≠ ob_15 := Nat.ne_of_lt (Nat.lt_of_lt_of_le lt15_ob_12 po15_1)
      have ne_ob_13_ob_15 : ob_13 ≠ ob_15 := Nat.ne_of_lt (Nat.lt_of_lt_of_le lt15_ob_13 po15_1)
      have ne_ob_14_ob_15 : ob_14 ≠ ob_15 := Nat.ne_of_lt (Nat.lt_of_lt_of_le lt15_ob_14 po15_1)
      have O : Old Z n0 T15.heap := O.keep Kq15 all0
      have E_ob_12 : Exa Z T15.heap ob_12 "java/lang/String" := E_ob_12.keep Kq15
      have E_ob_13 : Exa Z T15.heap ob_13 "java/lang/String" := E_ob_13.keep Kq15
      have E_ob_14 : Exa Z T15.heap ob_14 "java/lang/String" := E_ob_14.keep Kq15
      have E_ob_15 : Exa Z T15.heap ob_15 "java/lang/String" := po15_0
      show Goes p.tables e below (T15.setTop (mkF m 84 #[.val (.long pl), .second, .val (.int pa), .val (.int pb), .val (.int pc0), .val (.int pf), .val (.int (0 : Int32)), .val (.int (1 : Int32)), .val .null, .val (.ref ob_12), .val (.ref ob_13), .val (.ref ob_14), .unset, .unset, .unset, .unset, .unset, .unset] [(.ref ob_15)])) _
      refine Goes.by (fun _ k => XS.astore X15.here hx rfl (hb hby at_84) rfl rfl (l' := #[.val (.long pl), .second, .val (.int pa), .val (.int pb), .val (.int pc0), .val (.int pf), .val (.int (0 : Int32)), .val (.int (1 : Int32)), .val .null, .val (.ref ob_12), .val (.ref ob_13), .val (.ref ob_14), .val (.ref ob_15), .unset, .unset, .unset, .unset, .unset]) rfl k) ?_
      show Goes p.tables e below (T15.setTop (mkF m 86 #[.val (.long pl), .second, .val (.int pa), .val (.int pb), .val (.int pc0), .val (.int pf), .val (.int (0 : Int32)), .val (.int (1 : Int32)), .val .null, .val (.ref ob_12), .val (.ref ob_13), .val (.ref ob_14), .val (.ref ob_15), .unset, .unset, .unset, .unset, .unset] [])) _
      refine Goes.by (fun _ k => XS.iload X15.here hx rfl (hb hby at_86) rfl k) ?_
      show Goes p.tables e below (T15.setTop (mkF m 88 #[.val (.long pl), .second, .val (.int pa), .val (.int pb), .val (.int pc0), .val (.int pf), .val (.int (0 : Int32)), .val (.int (1 : Int32)), .val .null, .val (.ref ob_12), .val (.ref ob_13), .val (.ref ob_14), .val (.ref ob_15), .unset, .unset, .unset, .unset, .unset] [(.int pc0)])) _
      refine Goes.by (fun _ k => XS.iconst X15.here hx rfl (hb hby at_88) k) ?_
      show Goes p.tables e below (T15.setTop (mkF m 89 #[.val (.long pl), .second, .val (.int pa), .val (.int pb), .val (.int pc0), .val (.int pf), .val (.int (0 : Int32)), .val (.int (1 : Int32)), .val .null, .val (.ref ob_12), .val (.ref ob_13), .val (.ref ob_14), .val (.ref ob_15), .unset, .unset, .unset, .unset, .unset] [(.int (-1 : Int32)), (.int pc0)])) _
      refine Goes.by (fun _ k => XS.ixor X15.here hx rfl (hb hby at_89) rfl k) ?_
      show Goes p.tables e below (T15.setTop (mkF m 90 #[.val (.long pl), .second, .val (.int pa), .val (.int pb), .val (.int pc0), .val (.int pf), .val (.int (0 : Int32)), .val (.int (1 : Int32)), .val .null, .val (.ref ob_12), .val (.ref ob_13), .val (.ref ob_14), .val (.ref ob_15), .unset, .unset, .unset, .unset, .unset] [(.int (pc0 ^^^ (-1 : Int32)))])) _
      obtain ⟨_, _, ⟨T16, L16, k16, n16⟩, -, X16, ⟨Lc16, hQ16, l16, y16, z16⟩, st16⟩ := Jvm.LawKit.callS X15 hx (y := (⟨"org/unitspan/ead/DateElementStatedDatePinLaw", "str", "(I)Ljava/lang/String;"⟩ : MethodName)) hown (mvT hZ (hw _ (List.mem_of_getElem? (i := 0) rfl))) (mvT hZ (hw _ (List.mem_of_getElem? (i := 1) rfl))) (mvT hZ (hw _ (List.mem_of_getElem? (i := 2) rfl))) (mvT hZ (hw _ (List.mem_of_getElem? (i := 3) rfl))) (by decide) (backOf (W := 0) (rm1 l Z a0 hw [] (pc0 ^^^ (-1 : Int32)) zc T15.heap n0 Zs15 O S_cs hzc) hZ (hw _ (List.mem_of_getElem? (i := 3) rfl)) (hw _ (List.mem_of_getElem? (i := 2) rfl)) (by decide) (by decide)) (g := (mkF m 90 #[.val (.long pl), .second, .val (.int pa), .val (.int pb), .val (.int pc0), .val (.int pf), .val (.int (0 : Int32)), .val (.int (1 : Int32)), .val .null, .val (.ref ob_12), .val (.ref ob_13), .val (.ref ob_14), .val (.ref ob_15), .unset, .unset, .unset, .unset, .unset] [(.int (pc0 ^^^ (-1 : Int32)))])) rfl (by rw [hml]; rfl) (argsL := [(.int (pc0 ^^^ (-1 : Int32)))]) (rest := []) (lenOf pd_2 rfl) rfl (by show 2 * 0 + _ ≤ _; exact Nat.le_of_eq rfl) (hb hby at_90) (fun _ _ => ⟨rfl, rfl, (by decide : 12 + 3 ≤ _), (by decide : 32 + 8 ≤ _)⟩)
      dsimp only [Pt.U, Pt.locs, Pt.cells, Pt.slots] at X16 l16 y16 z16 st16 hQ16
      subst l16 y16 z16
      obtain ⟨ob_16, rfl, N16q, Kq16, po16_0, po16_1⟩ := hQ16
      have N16 := Fr.app N15 N16q
      refine Goes.by st16 ?_
      have Zs16 : n0 ≤ T16.heap.size := Nat.le_trans Zs15 Kq16.1
      have K16 : Keep h0 T16.heap [] := K15.trans Kq16 all0
      have lt16_ob_12 := E_ob_12.lt
      have lt16_ob_13 := E_ob_13.lt
      have lt16_ob_14 := E_ob_14.lt
      have lt16_ob_15 := E_ob_15.lt
      have sz_ob_16 : h0.size ≤ ob_16 := Nat.le_trans K15.1 po16_1
      have g_ob_16 : n0 ≤ ob_16 := Nat.le_trans Zs15 po16_1
      have ne_ob_12_ob_16 : ob_12 ≠ ob_16 := Nat.ne_of_lt (Nat.lt_of_lt_of_le lt16_ob_12 po16_1)
      have ne_ob_13_ob_16 : ob_13 ≠ ob_16 := Nat.ne_of_lt (Nat.lt_of_lt_of_le lt16_ob_13 po16_1)
      have ne_ob_14_ob_16 : ob_14 ≠ ob_16 := Nat.ne_of_lt (Nat.lt_of_lt_of_le lt16_ob_14 po16_1)
      have ne_ob_15_ob_16 : ob_15 ≠ ob_16 := Nat.ne_of_lt (Nat.lt_of_lt_of_le lt16_ob_15 po16_1)
      have O : Old Z n0 T16.heap := O.keep Kq16 all0
      have E_ob_12 : Exa Z T16.heap ob_12 "java/lang/String" := E_ob_12.keep Kq16
      have E_ob_13 : Exa Z T16.heap ob_13 "java/lang/String" := E_ob_13.keep Kq16
      have E_ob_14 : Exa Z T16.heap ob_14 "java/lang/String" := E_ob_14.keep Kq16
      have E_ob_15 : Exa Z T16.heap ob_15 "java/lang/String" := E_ob_15.keep Kq16
      have E_ob_16 : Exa Z T16.heap ob_16 "java/lang/String" := po16_0
      show Goes p.tables e below (T16.setTop (mkF m 93 #[.val (.long pl), .second, .val (.int pa), .val (.int pb), .val (.int pc0), .val (.int pf), .val (.int (0 : Int32)), .val (.int (1 : Int32)), .val .null, .val (.ref ob_12), .val (.ref ob_13), .val (.ref ob_14), .val (.ref ob_15), .unset, .unset, .unset, .unset, .unset] [(.ref ob_16)])) _
      refine Goes.by (fun _ k => XS.astore X16.here hx rfl (hb hby at_93) rfl rfl (l' := #[.val (.long pl), .second, .val (.int pa), .val (.int pb), .val (.int pc0), .val (.int pf), .val (.int (0 : Int32)), .val (.int (1 : Int32)), .val .null, .val (.ref ob_12), .val (.ref ob_13), .val (.ref ob_14), .val (.ref ob_15), .val (.ref ob_16), .unset, .unset, .unset, .unset]) rfl k) ?_
      show Goes p.tables e below (T16.setTop (mkF m 95 #[.val (.long pl), .second, .val (.int pa), .val (.int pb), .val (.int pc0), .val (.int pf), .val (.int (0 : Int32)), .val (.int (1 : Int32)), .val .null, .val (.ref ob_12), .val (.ref ob_13), .val (.ref ob_14), .val (.ref ob_15), .val (.ref ob_16), .unset, .unset, .unset, .unset] [])) _
      refine Goes.by (fun _ k => XS.iload X16.here hx rfl (hb hby at_95) rfl k) ?_
      show Goes p.tables e below (T16.setTop (mkF m 97 #[.val (.long pl), .second, .val (.int pa), .val (.int pb), .val (.int pc0), .val (.int pf), .val (.int (0 : Int32)), .val (.int (1 : Int32)), .val .null, .val (.ref ob_12), .val (.ref ob_13), .val (.ref ob_14), .val (.ref ob_15), .val (.ref ob_16), .unset, .unset, .unset, .unset] [(.int pc0)])) _
      refine Goes.by (fun _ k => XS.iconst X16.here hx rfl (hb hby at_97) k) ?_
      show Goes p.tables e below (T16.setTop (mkF m 98 #[.val (.long pl), .second, .val (.int pa), .val (.int pb), .val (.int pc0), .val (.int pf), .val (.int (0 : Int32)), .val (.int (1 : Int32)), .val .null, .val (.ref ob_12), .val (.ref ob_13), .val (.ref ob_14), .val (.ref ob_15), .val (.ref ob_16), .unset, .unset, .unset, .unset] [(.int (4 : Int32)), (.int pc0)])) _
      refine Goes.by (fun _ k => XS.iushr X16.here hx rfl (hb hby at_98) rfl k) ?_
      show Goes p.tables e below (T16.setTop (mkF m 99 #[.val (.long pl), .second, .val (.int pa), .val (.int pb), .val (.int pc0), .val (.int pf), .val (.int (0 : Int32)), .val (.int (1 : Int32)), .val .null, .val (.ref ob_12), .val (.ref ob_13), .val (.ref ob_14), .val (.ref ob_15), .val (.ref ob_16), .unset, .unset, .unset, .unset] [(.int ((pc0.toUInt32 >>> ((4 : Int32) &&& 31).toUInt32).toInt32))])) _
      obtain ⟨_, _, ⟨T17, L17, k17, n17⟩, -, X17, ⟨Lc17, hQ17, l17, y17, z17⟩, st17⟩ := Jvm.LawKit.callS X16 hx (y := (⟨"org/unitspan/ead/DateElementStatedDatePinLaw", "str", "(I)Ljava/lang/String;"⟩ : MethodName)) hown (mvT hZ (hw _ (List.mem_of_getElem? (i := 0) rfl))) (mvT hZ (hw _ (List.mem_of_getElem? (i := 1) rfl))) (mvT hZ (hw _ (List.mem_of_getElem? (i := 2) rfl))) (mvT hZ (hw _ (List.mem_of_getElem? (i := 3) rfl))) (by decide) (backOf (W := 0) (rm1 l Z a0 hw [] ((pc0.toUInt32 >>> ((4 : Int32) &&& 31).toUInt32).toInt32) zc T16.heap n0 Zs16 O S_cs hzc) hZ (hw _ (List.mem_of_getElem? (i := 3) rfl)) (hw _ (List.mem_of_getElem? (i := 2) rfl)) (by decide) (by decide)) (g := (mkF m 99 #[.val (.long pl), .second, .val (.int pa), .val (.int pb), .val (.int pc0), .val (.int pf), .val (.int (0 : Int32)), .val (.int (1 : Int32)), .val .null, .val (.ref ob_12), .val (.ref ob_13), .val (.ref ob_14), .val (.ref ob_15), .val (.ref ob_16), .unset, .unset, .unset, .unset] [(.int ((pc0.toUInt32 >>> ((4 : Int32) &&& 31).toUInt32).toInt32))])) rfl (by rw [hml]; rfl) (argsL := [(.int ((pc0.toUInt32 >>> ((4 : Int32) &&& 31).toUInt32).toInt32))]) (rest := []) (lenOf pd_2 rfl) rfl (by show 2 * 0 + _ ≤ _; exact Nat.le_of_eq rfl) (hb hby at_99) (fun _ _ => ⟨rfl, rfl, (by decide : 15 + 3 ≤ _), (by decide : 40 + 8 ≤ _)⟩)
      dsimp only [Pt.U, Pt.locs, Pt.cells, Pt.slots] at X17 l17 y17 z17 st17 hQ17
      subst l17 y17 z17
      obtain ⟨ob_17, rfl, N17q, Kq17, po17_0, po17_1⟩ := hQ17
      have N17 := Fr.app N16 N17q
      refine Goes.by st17 ?_
      have Zs17 : n0 ≤ T17.heap.size := Nat.le_trans Zs16 Kq17.1
      have K17 : Keep h0 T17.heap [] := K16.trans Kq17 all0
      have lt17_ob_12 := E_ob_12.lt
      have lt17_ob_13 := E_ob_13.lt
      have lt17_ob_14 := E_ob_14.lt
      have lt17_ob_15 := E_ob_15.lt
      have lt17_ob_16 := E_ob_16.lt
      have sz_ob_17 : h0.size ≤ ob_17 := Nat.le_trans K16.1 po17_1
      have g_ob_17 : n0 ≤ ob_17 := Nat.le_trans Zs16 po17_1
      have ne_ob_12_ob_17 : ob_12 ≠ ob_17 := Nat.ne_of_lt (Nat.lt_of_lt_of_le lt17_ob_12 po17_1)
      have ne_ob_13_ob_17 : ob_13 ≠ ob_17 := Nat.ne_of_lt (Nat.lt_of_lt_of_le lt17_ob_13 po17_1)
      have ne_ob_14_ob_17 : ob_14 ≠ ob_17 := Nat.ne_of_lt (Nat.lt_of_lt_of_le lt17_ob_14 po17_1)
      have ne_ob_15_ob_17 : ob_15 ≠ ob_17 := Nat.ne_of_lt (Nat.lt_of_lt_of_le lt17_ob_15 po17_1)
      have ne_ob_16_ob_17 : ob_16 ≠ ob_17 := Nat.ne_of_lt (Nat.lt_of_lt_of_le lt17_ob_16 po17_1)
      have O : Old Z n0 T17.heap := O.keep Kq17 all0
      have E_ob_12 : Exa Z T17.heap ob_12 "java/lang/String" := E_ob_12.keep Kq17
      have E_ob_13 : Exa Z T17.heap ob_13 "java/lang/String" := E_ob_13.keep Kq17
      have E_ob_14 : Exa Z T17.heap ob_14 "java/lang/String" := E_ob_14.keep Kq17
      have E_ob_15 : Exa Z T17.heap ob_15 "java/lang/String" := E_ob_15.keep Kq17
      have E_ob_16 : Exa Z T17.heap ob_16 "java/lang/String" := E_ob_16.keep Kq17
      have E_ob_17 : Exa Z T17.heap ob_17 "java/lang/String" := po17_0
      show Goes p.tables e below (T17.setTop (mkF m 102 #[.val (.long pl), .second, .val (.int pa), .val (.int pb), .val (.int pc0), .val (.int pf), .val (.int (0 : Int32)), .val (.int (1 : Int32)), .val .null, .val (.ref ob_12), .val (.ref ob_13), .val (.ref ob_14), .val (.ref ob_15), .val (.ref ob_16), .unset, .unset, .unset, .unset] [(.ref ob_17)])) _
      refine Goes.by (fun _ k => XS.astore X17.here hx rfl (hb hby at_102) rfl rfl (l' := #[.val (.long pl), .second, .val (.int pa), .val (.int pb), .val (.int pc0), .val (.int pf), .val (.int (0 : Int32)), .val (.int (1 : Int32)), .val .null, .val (.ref ob_12), .val (.ref ob_13), .val (.ref ob_14), .val (.ref ob_15), .val (.ref ob_16), .val (.ref ob_17), .unset, .unset, .unset]) rfl k) ?_
      show Goes p.tables e below (T17.setTop (mkF m 104 #[.val (.long pl), .second, .val (.int pa), .val (.int pb), .val (.int pc0), .val (.int pf), .val (.int (0 : Int32)), .val (.int (1 : Int32)), .val .null, .val (.ref ob_12), .val (.ref ob_13), .val (.ref ob_14), .val (.ref ob_15), .val (.ref ob_16), .val (.ref ob_17), .unset, .unset, .unset] [])) _
      refine Goes.by (fun _ k => XS.iload X17.here hx rfl (hb hby at_104) rfl k) ?_
      show Goes p.tables e below (T17.setTop (mkF m 106 #[.val (.long pl), .second, .val (.int pa), .val (.int pb), .val (.int pc0), .val (.int pf), .val (.int (0 : Int32)), .val (.int (1 : Int32)), .val .null, .val (.ref ob_12), .val (.ref ob_13), .val (.ref ob_14), .val (.ref ob_15), .val (.ref ob_16), .val (.ref ob_17), .unset, .unset, .unset] [(.int pc0)])) _
      refine Goes.by (fun _ k => XS.bipush X17.here hx rfl (hb hby at_106) k) ?_
      show Goes p.tables e below (T17.setTop (mkF m 108 #[.val (.long pl), .second, .val (.int pa), .val (.int pb), .val (.int pc0), .val (.int pf), .val (.int (0 : Int32)), .val (.int (1 : Int32)), .val .null, .val (.ref ob_12), .val (.ref ob_13), .val (.ref ob_14), .val (.ref ob_15), .val (.ref ob_16), .val (.ref ob_17), .unset, .unset, .unset] [(.int (12 : Int32)), (.int pc0)])) _
      refine Goes.by (fun _ k => XS.iushr X17.here hx rfl (hb hby at_108) rfl k) ?_
      show Goes p.tables e below (T17.setTop (mkF m 109 #[.val (.long pl), .second, .val (.int pa), .val (.int pb), .val (.int pc0), .val (.int pf), .val (.int (0 : Int32)), .val (.int (1 : Int32)), .val .null, .val (.ref ob_12), .val (.ref ob_13), .val (.ref ob_14), .val (.ref ob_15), .val (.ref ob_16), .val (.ref ob_17), .unset, .unset, .unset] [(.int ((pc0.toUInt32 >>> ((12 : Int32) &&& 31).toUInt32).toInt32))])) _
      obtain ⟨_, _, ⟨T18, L18, k18, n18⟩, -, X18, ⟨Lc18, hQ18, l18, y18, z18⟩, st18⟩ := Jvm.LawKit.callS X17 hx (y := (⟨"org/unitspan/ead/DateElementStatedDatePinLaw", "str", "(I)Ljava/lang/String;"⟩ : MethodName)) hown (mvT hZ (hw _ (List.mem_of_getElem? (i := 0) rfl))) (mvT hZ (hw _ (List.mem_of_getElem? (i := 1) rfl))) (mvT hZ (hw _ (List.mem_of_getElem? (i := 2) rfl))) (mvT hZ (hw _ (List.mem_of_getElem? (i := 3) rfl))) (by decide) (backOf (W := 0) (rm1 l Z a0 hw [] ((pc0.toUInt32 >>> ((12 : Int32) &&& 31).toUInt32).toInt32) zc T17.heap n0 Zs17 O S_cs hzc) hZ (hw _ (List.mem_of_getElem? (i := 3) rfl)) (hw _ (List.mem_of_getElem? (i := 2) rfl)) (by decide) (by decide)) (g := (mkF m 109 #[.val (.long pl), .second, .val (.int pa), .val (.int pb), .val (.int pc0), .val (.int pf), .val (.int (0 : Int32)), .val (.int (1 : Int32)), .val .null, .val (.ref ob_12), .val (.ref ob_13), .val (.ref ob_14), .val (.ref ob_15), .val (.ref ob_16), .val (.ref ob_17), .unset, .unset, .unset] [(.int ((pc0.toUInt32 >>> ((12 : Int32) &&& 31).toUInt32).toInt32))])) rfl (by rw [hml]; rfl) (argsL := [(.int ((pc0.toUInt32 >>> ((12 : Int32) &&& 31).toUInt32).toInt32))]) (rest := []) (lenOf pd_2 rfl) rfl (by show 2 * 0 + _ ≤ _; exact Nat.le_of_eq rfl) (hb hby at_109) (fun _ _ => ⟨rfl, rfl, (by decide : 18 + 3 ≤ _), (by decide : 48 + 8 ≤ _)⟩)
      dsimp only [Pt.U, Pt.locs, Pt.cells, Pt.slots] at X18 l18 y18 z18 st18 hQ18
      subst l18 y18 z18
      obtain ⟨ob_18, rfl, N18q, Kq18, po18_0, po18_1⟩ := hQ18
      have N18 := Fr.app N17 N18q
      refine Goes.by st18 ?_
      have Zs18 : n0 ≤ T18.heap.size := Nat.le_trans Zs17 Kq18.1
      have K18 : Keep h0 T18.heap [] := K17.trans Kq18 all0
      have lt18_ob_12 := E_ob_12.lt
      have lt18_ob_13 := E_ob_13.lt
      have lt18_ob_14 := E_ob_14.lt
      have lt18_ob_15 := E_ob_15.lt
      have lt18_ob_16 := E_ob_16.lt
      have lt18_ob_17 := E_ob_17.lt
      have sz_ob_18 : h0.size ≤ ob_18 := Nat.le_trans K17.1 po18_1
      have g_ob_18 : n0 ≤ ob_18 := Nat.le_trans Zs17 po18_1
      have ne_ob_12_ob_18 : ob_12 ≠ ob_18 := Nat.ne_of_lt (Nat.lt_of_lt_of_le lt18_ob_12 po18_1)
      have ne_ob_13_ob_18 : ob_13 ≠ ob_18 := Nat.ne_of_lt (Nat.lt_of_lt_of_le lt18_ob_13 po18_1)
      have ne_ob_14_ob_18 : ob_14 ≠ ob_18 := Nat.ne_of_lt (Nat.lt_of_lt_of_le lt18_ob_14 po18_1)
      have ne_ob_15_ob_18 : ob_15 ≠ ob_18 := Nat.ne_of_lt (Nat.lt_of_lt_of_le lt18_ob_15 po18_1)
      have ne_ob_16_ob_18 : ob_16 ≠ ob_18 := Nat.ne_of_lt (Nat.lt_of_lt_of_le lt18_ob_16 po18_1)
      have ne_ob_17_ob_18 : ob_17 ≠ ob_18 := Nat.ne_of_lt (Nat.lt_of_lt_of_le lt18_ob_17 po18_1)
      have O : Old Z n0 T18.heap := O.keep Kq18 all0
      have E_ob_12 : Exa Z T18.heap ob_12 "java/lang/String" := E_ob_12.keep Kq18
      have E_ob_13 : Exa Z T18.heap ob_13 "java/lang/String" := E_ob_13.keep Kq18
      have E_ob_14 : Exa Z T18.heap ob_14 "java/lang/String" := E_ob_14.keep Kq18
      have E_ob_15 : Exa Z T18.heap ob_15 "java/lang/String" := E_ob_15.keep Kq18
      have E_ob_16 : Exa Z T18.heap ob_16 "java/lang/String" := E_ob_16.keep Kq18
      have E_ob_17 : Exa Z T18.heap ob_17 "java/lang/String" := E_ob_17.keep Kq18
      have E_ob_18 : Exa Z T18.heap ob_18 "java/lang/String" := po18_0
      show Goes p.tables e below (T18.setTop (mkF m 112 #[.val (.long pl), .second, .val (.int pa), .val (.int pb), .val (.int pc0), .val (.int pf), .val (.int (0 : Int32)), .val (.int (1 : Int32)), .val .null, .val (.ref ob_12), .val (.ref ob_13), .val (.ref ob_14), .val (.ref ob_15), .val (.ref ob_16), .val (.ref ob_17), .unset, .unset, .unset] [(.ref ob_18)])) _
      refine Goes.by (fun _ k => XS.astore X18.here hx rfl (hb hby at_112) rfl rfl (l' := #[.val (.long pl), .second, .val (.int pa), .val (.int pb), .val (.int pc0), .val (.int pf), .val (.int (0 : Int32)), .val (.int (1 : Int32)), .val .null, .val (.ref ob_12), .val (.ref ob_13), .val (.ref ob_14), .val (.ref ob_15), .val (.ref ob_16), .val (.ref ob_17), .val (.ref ob_18), .unset, .unset]) rfl k) ?_
      show Goes p.tables e below (T18.setTop (mkF m 114 #[.val (.long pl), .second, .val (.int pa), .val (.int pb), .val (.int pc0), .val (.int pf), .val (.int (0 : Int32)), .val (.int (1 : Int32)), .val .null, .val (.ref ob_12), .val (.ref ob_13), .val (.ref ob_14), .val (.ref ob_15), .val (.ref ob_16), .val (.ref ob_17), .val (.ref ob_18), .unset, .unset] [])) _
      obtain ⟨T19, h19, X19, e19, E19, A19, D19, -, st19⟩ := newO X18 hx hZ hown (hw _ (List.mem_of_getElem? (i := 34) rfl)) (hw _ (List.mem_of_getElem? (i := 35) rfl)) (hw _ (List.mem_of_getElem? (i := 36) rfl)) rfl (g := (mkF m 114 #[.val (.long pl), .second, .val (.int pa), .val (.int pb), .val (.int pc0), .val (.int pf), .val (.int (0 : Int32)), .val (.int (1 : Int32)), .val .null, .val (.ref ob_12), .val (.ref ob_13), .val (.ref ob_14), .val (.ref ob_15), .val (.ref ob_16), .val (.ref ob_17), .val (.ref ob_18), .unset, .unset] [])) rfl (hb hby at_114) (by decide) (by decide)
      obtain ⟨b19, g19⟩ : ∃ z, z = T18.heap.size := ⟨_, rfl⟩
      rw [← g19] at A19 D19 st19
      have g_b19 : n0 ≤ b19 := Nat.le_trans Zs18 (Nat.le_of_eq g19.symm)
      have sz_b19 : h0.size ≤ b19 := Nat.le_trans K18.1 (Nat.le_of_eq g19.symm)
      have ne_ob_12_b19 : ob_12 ≠ b19 := Nat.ne_of_lt (Nat.lt_of_lt_of_le E_ob_12.lt (Nat.le_of_eq g19.symm))
      have ne_ob_13_b19 : ob_13 ≠ b19 := Nat.ne_of_lt (Nat.lt_of_lt_of_le E_ob_13.lt (Nat.le_of_eq g19.symm))
      have ne_ob_14_b19 : ob_14 ≠ b19 := Nat.ne_of_lt (Nat.lt_of_lt_of_le E_ob_14.lt (Nat.le_of_eq g19.symm))
      have ne_ob_15_b19 : ob_15 ≠ b19 := Nat.ne_of_lt (Nat.lt_of_lt_of_le E_ob_15.lt (Nat.le_of_eq g19.symm))
      have ne_ob_16_b19 : ob_16 ≠ b19 := Nat.ne_of_lt (Nat.lt_of_lt_of_le E_ob_16.lt (Nat.le_of_eq g19.symm))
      have ne_ob_17_b19 : ob_17 ≠ b19 := Nat.ne_of_lt (Nat.lt_of_lt_of_le E_ob_17.lt (Nat.le_of_eq g19.symm))
      have ne_ob_18_b19 : ob_18 ≠ b19 := Nat.ne_of_lt (Nat.lt_of_lt_of_le E_ob_18.lt (Nat.le_of_eq g19.symm))
      have Zs19 : n0 ≤ h19.size := Nat.le_trans Zs18 E19.1
      have K19 : Keep h0 h19 [] := K18.ext E19
      refine Goes.by st19 ?_
      have O : Old Z n0 h19 := O.ext E19
      have E_ob_12 : Exa Z h19 ob_12 "java/lang/String" := E_ob_12.ext E19
      have E_ob_13 : Exa Z h19 ob_13 "java/lang/String" := E_ob_13.ext E19
      have E_ob_14 : Exa Z h19 ob_14 "java/lang/String" := E_ob_14.ext E19
      have E_ob_15 : Exa Z h19 ob_15 "java/lang/String" := E_ob_15.ext E19
      have E_ob_16 : Exa Z h19 ob_16 "java/lang/String" := E_ob_16.ext E19
      have E_ob_17 : Exa Z h19 ob_17 "java/lang/String" := E_ob_17.ext E19
      have E_ob_18 : Exa Z h19 ob_18 "java/lang/String" := E_ob_18.ext E19
      have E_b19 : Exa Z h19 b19 "org/unitspan/ead/DateElement" := A19
      have F_b19_line : Fld Z h19 b19 "org/unitspan/ead/DateElement" "line" "J" (.long (0 : Int64)) := D19 (Or.inr (hw _ (List.mem_of_getElem? (i := 47) rfl))) (ty := .long) (by decide)
      have F_b19_name : Fld Z h19 b19 "org/unitspan/ead/DateElement" "name" "Ljava/lang/String;" .null := D19 (Or.inr (hw _ (List.mem_of_getElem? (i := 49) rfl))) (ty := (.object "java/lang/String")) (by decide)
      have F_b19_text : Fld Z h19 b19 "org/unitspan/ead/DateElement" "text" "Ljava/lang/String;" .null := D19 (Or.inr (hw _ (List.mem_of_getElem? (i := 51) rfl))) (ty := (.object "java/lang/String")) (by decide)
      have F_b19_normal : Fld Z h19 b19 "org/unitspan/ead/DateElement" "normal" "Ljava/lang/String;" .null := D19 (Or.inr (hw _ (List.mem_of_getElem? (i := 53) rfl))) (ty := (.object "java/lang/String")) (by decide)
      have F_b19_unitdateType : Fld Z h19 b19 "org/unitspan/ead/DateElement" "unitdateType" "Ljava/lang/String;" .null := D19 (Or.inr (hw _ (List.mem_of_getElem? (i := 55) rfl))) (ty := (.object "java/lang/String")) (by decide)
      have F_b19_standardDate : Fld Z h19 b19 "org/unitspan/ead/DateElement" "standardDate" "Ljava/lang/String;" .null := D19 (Or.inr (hw _ (List.mem_of_getElem? (i := 57) rfl))) (ty := (.object "java/lang/String")) (by decide)
      have F_b19_notBefore : Fld Z h19 b19 "org/unitspan/ead/DateElement" "notBefore" "Ljava/lang/String;" .null := D19 (Or.inr (hw _ (List.mem_of_getElem? (i := 59) rfl))) (ty := (.object "java/lang/String")) (by decide)
      have F_b19_notAfter : Fld Z h19 b19 "org/unitspan/ead/DateElement" "notAfter" "Ljava/lang/String;" .null := D19 (Or.inr (hw _ (List.mem_of_getElem? (i := 61) rfl))) (ty := (.object "java/lang/String")) (by decide)
      have F_b19_rangeStart : Fld Z h19 b19 "org/unitspan/ead/DateElement" "rangeStart" "Ljava/lang/String;" .null := D19 (Or.inr (hw _ (List.mem_of_getElem? (i := 63) rfl))) (ty := (.object "java/lang/String")) (by decide)
      show Goes p.tables e below (T19.setTop (mkF m 117 #[.val (.long pl), .second, .val (.int pa), .val (.int pb), .val (.int pc0), .val (.int pf), .val (.int (0 : Int32)), .val (.int (1 : Int32)), .val .null, .val (.ref ob_12), .val (.ref ob_13), .val (.ref ob_14), .val (.ref ob_15), .val (.ref ob_16), .val (.ref ob_17), .val (.ref ob_18), .unset, .unset] [(.ref b19)])) _
      refine Goes.by (fun _ k => XS.dup X19.here hx rfl (hb hby at_117) rfl rfl k) ?_
      show Goes p.tables e below (T19.setTop (mkF m 118 #[.val (.long pl), .second, .val (.int pa), .val (.int pb), .val (.int pc0), .val (.int pf), .val (.int (0 : Int32)), .val (.int (1 : Int32)), .val .null, .val (.ref ob_12), .val (.ref ob_13), .val (.ref ob_14), .val (.ref ob_15), .val (.ref ob_16), .val (.ref ob_17), .val (.ref ob_18), .unset, .unset] [(.ref b19), (.ref b19)])) _
      refine Goes.by (fun _ k => XS.lloadN X19.here hx rfl (hb hby at_118) rfl k) ?_
      show Goes p.tables e below (T19.setTop (mkF m 119 #[.val (.long pl), .second, .val (.int pa), .val (.int pb), .val (.int pc0), .val (.int pf), .val (.int (0 : Int32)), .val (.int (1 : Int32)), .val .null, .val (.ref ob_12), .val (.ref ob_13), .val (.ref ob_14), .val (.ref ob_15), .val (.ref ob_16), .val (.ref ob_17), .val (.ref ob_18), .unset, .unset] [(.long pl), (.ref b19), (.ref b19)])) _
      refine Goes.by (fun _ k => XS.aload X19.here hx rfl (hb hby at_119) rfl rfl k) ?_
      show Goes p.tables e below (T19.setTop (mkF m 121 #[.val (.long pl), .second, .val (.int pa), .val (.int pb), .val (.int pc0), .val (.int pf), .val (.int (0 : Int32)), .val (.int (1 : Int32)), .val .null, .val (.ref ob_12), .val (.ref ob_13), .val (.ref ob_14), .val (.ref ob_15), .val (.ref ob_16), .val (.ref ob_17), .val (.ref ob_18), .unset, .unset] [(.ref ob_13), (.long pl), (.ref b19), (.ref b19)])) _
      refine Goes.by (fun _ k => XS.aload X19.here hx rfl (hb hby at_121) rfl rfl k) ?_
      show Goes p.tables e below (T19.setTop (mkF m 123 #[.val (.long pl), .second, .val (.int pa), .val (.int pb), .val (.int pc0), .val (.int pf), .val (.int (0 : Int32)), .val (.int (1 : Int32)), .val .null, .val (.ref ob_12), .val (.ref ob_13), .val (.ref ob_14), .val (.ref ob_15), .val (.ref ob_16), .val (.ref ob_17), .val (.ref ob_18), .unset, .unset] [(.ref ob_14), (.ref ob_13), (.long pl), (.ref b19), (.ref b19)])) _
      refine Goes.by (fun _ k => XS.aload X19.here hx rfl (hb hby at_123) rfl rfl k) ?_
      show Goes p.tables e below (T19.setTop (mkF m 125 #[.val (.long pl), .second, .val (.int pa), .val (.int pb), .val (.int pc0), .val (.int pf), .val (.int (0 : Int32)), .val (.int (1 : Int32)), .val .null, .val (.ref ob_12), .val (.ref ob_13), .val (.ref ob_14), .val (.ref ob_15), .val (.ref ob_16), .val (.ref ob_17), .val (.ref ob_18), .unset, .unset] [.null, (.ref ob_14), (.ref ob_13), (.long pl), (.ref b19), (.ref b19)])) _
      refine Goes.by (fun _ k => XS.aload X19.here hx rfl (hb hby at_125) rfl rfl k) ?_
      show Goes p.tables e below (T19.setTop (mkF m 127 #[.val (.long pl), .second, .val (.int pa), .val (.int pb), .val (.int pc0), .val (.int pf), .val (.int (0 : Int32)), .val (.int (1 : Int32)), .val .null, .val (.ref ob_12), .val (.ref ob_13), .val (.ref ob_14), .val (.ref ob_15), .val (.ref ob_16), .val (.ref ob_17), .val (.ref ob_18), .unset, .unset] [(.ref ob_15), .null, (.ref ob_14), (.ref ob_13), (.long pl), (.ref b19), (.ref b19)])) _
      refine Goes.by (fun _ k => XS.aload X19.here hx rfl (hb hby at_127) rfl rfl k) ?_
      show Goes p.tables e below (T19.setTop (mkF m 129 #[.val (.long pl), .second, .val (.int pa), .val (.int pb), .val (.int pc0), .val (.int pf), .val (.int (0 : Int32)), .val (.int (1 : Int32)), .val .null, .val (.ref ob_12), .val (.ref ob_13), .val (.ref ob_14), .val (.ref ob_15), .val (.ref ob_16), .val (.ref ob_17), .val (.ref ob_18), .unset, .unset] [(.ref ob_12), (.ref ob_15), .null, (.ref ob_14), (.ref ob_13), (.long pl), (.ref b19), (.ref b19)])) _
      refine Goes.by (fun _ k => XS.aload X19.here hx rfl (hb hby at_129) rfl rfl k) ?_
      show Goes p.tables e below (T19.setTop (mkF m 131 #[.val (.long pl), .second, .val (.int pa), .val (.int pb), .val (.int pc0), .val (.int pf), .val (.int (0 : Int32)), .val (.int (1 : Int32)), .val .null, .val (.ref ob_12), .val (.ref ob_13), .val (.ref ob_14), .val (.ref ob_15), .val (.ref ob_16), .val (.ref ob_17), .val (.ref ob_18), .unset, .unset] [(.ref ob_16), (.ref ob_12), (.ref ob_15), .null, (.ref ob_14), (.ref ob_13), (.long pl), (.ref b19), (.ref b19)])) _
      refine Goes.by (fun _ k => XS.aload X19.here hx rfl (hb hby at_131) rfl rfl k) ?_
      show Goes p.tables e below (T19.setTop (mkF m 133 #[.val (.long pl), .second, .val (.int pa), .val (.int pb), .val (.int pc0), .val (.int pf), .val (.int (0 : Int32)), .val (.int (1 : Int32)), .val .null, .val (.ref ob_12), .val (.ref ob_13), .val (.ref ob_14), .val (.ref ob_15), .val (.ref ob_16), .val (.ref ob_17), .val (.ref ob_18), .unset, .unset] [(.ref ob_17), (.ref ob_16), (.ref ob_12), (.ref ob_15), .null, (.ref ob_14), (.ref ob_13), (.long pl), (.ref b19), (.ref b19)])) _
      refine Goes.by (fun _ k => XS.aload X19.here hx rfl (hb hby at_133) rfl rfl k) ?_
      show Goes p.tables e below (T19.setTop (mkF m 135 #[.val (.long pl), .second, .val (.int pa), .val (.int pb), .val (.int pc0), .val (.int pf), .val (.int (0 : Int32)), .val (.int (1 : Int32)), .val .null, .val (.ref ob_12), .val (.ref ob_13), .val (.ref ob_14), .val (.ref ob_15), .val (.ref ob_16), .val (.ref ob_17), .val (.ref ob_18), .unset, .unset] [(.ref ob_18), (.ref ob_17), (.ref ob_16), (.ref ob_12), (.ref ob_15), .null, (.ref ob_14), (.ref ob_13), (.long pl), (.ref b19), (.ref b19)])) _
      obtain ⟨_, _, ⟨T20, L20, k20, n20⟩, -, X20, ⟨Lc20, hQ20, l20, y20, z20⟩, st20⟩ := X19.specialBack hx (y := (⟨"org/unitspan/ead/DateElement", "<init>", "(JLjava/lang/String;Ljava/lang/String;Ljava/lang/String;Ljava/lang/String;Ljava/lang/String;Ljava/lang/String;Ljava/lang/String;Ljava/lang/String;)V"⟩ : MethodName)) rfl hown (mvT hZ (hw _ (List.mem_of_getElem? (i := 37) rfl))) (mvT hZ (hw _ (List.mem_of_getElem? (i := 38) rfl))) (mvT hZ (hw _ (List.mem_of_getElem? (i := 39) rfl))) (by decide) (backOf (W := 1) (rm8nr l Z a0 hw [] b19 pl ob_13 ob_14 ob_15 ob_12 ob_16 ob_17 ob_18 h19 n0 Zs19 E_b19 F_b19_line F_b19_name F_b19_text F_b19_normal F_b19_unitdateType F_b19_standardDate F_b19_notBefore F_b19_notAfter F_b19_rangeStart g_b19) hZ (hw _ (List.mem_of_getElem? (i := 39) rfl)) (hw _ (List.mem_of_getElem? (i := 36) rfl)) (by decide) (by decide)) (g := (mkF m 135 #[.val (.long pl), .second, .val (.int pa), .val (.int pb), .val (.int pc0), .val (.int pf), .val (.int (0 : Int32)), .val (.int (1 : Int32)), .val .null, .val (.ref ob_12), .val (.ref ob_13), .val (.ref ob_14), .val (.ref ob_15), .val (.ref ob_16), .val (.ref ob_17), .val (.ref ob_18), .unset, .unset] [(.ref ob_18), (.ref ob_17), (.ref ob_16), (.ref ob_12), (.ref ob_15), .null, (.ref ob_14), (.ref ob_13), (.long pl), (.ref b19), (.ref b19)])) rfl (by rw [hml]; rfl) (Steps.refl _) (a := b19) (argsL := [(.long pl), (.ref ob_13), (.ref ob_14), .null, (.ref ob_15), (.ref ob_12), (.ref ob_16), (.ref ob_17), (.ref ob_18)]) (rest := [(.ref b19)]) (lenOf pd_3 rfl) rfl (by show 2 * 0 + (1 + 0) ≤ _; decide) (hb hby at_135) (fun _ _ => ⟨rfl, e19, (by decide : 22 + 0 ≤ _), (by decide : 65 + 0 ≤ _)⟩)
      dsimp only [Pt.U, Pt.locs, Pt.cells, Pt.slots] at X20 l20 y20 z20 st20 hQ20
      subst l20 y20 z20
      obtain ⟨rfl, N20q, Kq20, po20_0, po20_1, po20_2⟩ := hQ20
      have N20 := Fr.app N18 N20q
      refine Goes.via st20 ?_
      have Zs20 : n0 ≤ T20.heap.size := Nat.le_trans Zs19 Kq20.1
      have K20 : Keep h0 T20.heap [] := K19.trans Kq20 (allS (Or.inr sz_b19) all0)
      have O : Old Z n0 T20.heap := O.keep Kq20 (allS g_b19 all0)
      have E_ob_12 : Exa Z T20.heap ob_12 "java/lang/String" := E_ob_12.keep Kq20
      have E_ob_13 : Exa Z T20.heap ob_13 "java/lang/String" := E_ob_13.keep Kq20
      have E_ob_14 : Exa Z T20.heap ob_14 "java/lang/String" := E_ob_14.keep Kq20
      have E_ob_15 : Exa Z T20.heap ob_15 "java/lang/String" := E_ob_15.keep Kq20
      have E_ob_16 : Exa Z T20.heap ob_16 "java/lang/String" := E_ob_16.keep Kq20
      have E_ob_17 : Exa Z T20.heap ob_17 "java/lang/String" := E_ob_17.keep Kq20
      have E_ob_18 : Exa Z T20.heap ob_18 "java/lang/String" := E_ob_18.keep Kq20
      have E_b19 : Exa Z T20.heap b19 "org/unitspan/ead/DateElement" := E_b19.keep Kq20
      have E_b19 : Exa Z T20.heap b19 "org/unitspan/ead/DateElement" := po20_0
      have F_b19_normal : Fld Z T20.heap b19 "org/unitspan/ead/DateElement" "normal" "Ljava/lang/String;" .null := po20_1
      have F_b19_standardDate : Fld Z T20.heap b19 "org/unitspan/ead/DateElement" "standardDate" "Ljava/lang/String;" (.ref ob_12) := po20_2
      show Goes p.tables e below (T20.setTop (mkF m 138 #[.val (.long pl), .second, .val (.int pa), .val (.int pb), .val (.int pc0), .val (.int pf), .val (.int (0 : Int32)), .val (.int (1 : Int32)), .val .null, .val (.ref ob_12), .val (.ref ob_13), .val (.ref ob_14), .val (.ref ob_15), .val (.ref ob_16), .val (.ref ob_17), .val (.ref ob_18), .unset, .unset] [(.ref b19)])) _
      refine Goes.by (fun _ k => XS.astore X20.here hx rfl (hb hby at_138) rfl rfl (l' := #[.val (.long pl), .second, .val (.int pa), .val (.int pb), .val (.int pc0), .val (.int pf), .val (.int (0 : Int32)), .val (.int (1 : Int32)), .val .null, .val (.ref ob_12), .val (.ref ob_13), .val (.ref ob_14), .val (.ref ob_15), .val (.ref ob_16), .val (.ref ob_17), .val (.ref ob_18), .val (.ref b19), .unset]) rfl k) ?_
      show Goes p.tables e below (T20.setTop (mkF m 140 #[.val (.long pl), .second, .val (.int pa), .val (.int pb), .val (.int pc0), .val (.int pf), .val (.int (0 : Int32)), .val (.int (1 : Int32)), .val .null, .val (.ref ob_12), .val (.ref ob_13), .val (.ref ob_14), .val (.ref ob_15), .val (.ref ob_16), .val (.ref ob_17), .val (.ref ob_18), .val (.ref b19), .unset] [])) _
      refine Goes.by (fun _ k => XS.aload X20.here hx rfl (hb hby at_140) rfl rfl k) ?_
      show Goes p.tables e below (T20.setTop (mkF m 142 #[.val (.long pl), .second, .val (.int pa), .val (.int pb), .val (.int pc0), .val (.int pf), .val (.int (0 : Int32)), .val (.int (1 : Int32)), .val .null, .val (.ref ob_12), .val (.ref ob_13), .val (.ref ob_14), .val (.ref ob_15), .val (.ref ob_16), .val (.ref ob_17), .val (.ref ob_18), .val (.ref b19), .unset] [(.ref b19)])) _
      obtain ⟨cq21, kq21, q21a, q21b, q21c⟩ := isOf hZ rfl E_b19
      obtain ⟨_, _, ⟨T21, L21, k21, n21⟩, -, X21, ⟨Lc21, hQ21, l21, y21, z21⟩, st21⟩ := X20.virtualBack hx (y := (⟨"org/unitspan/ead/DateElement", "statedDate", "()Ljava/lang/String;"⟩ : MethodName)) (z := (⟨"org/unitspan/ead/DateElement", "statedDate", "()Ljava/lang/String;"⟩ : MethodName)) hown (mvT hZ (hw _ (List.mem_of_getElem? (i := 64) rfl))) (mvT hZ (hw _ (List.mem_of_getElem? (i := 65) rfl))) (notFace_of_selects (args := #[]) (mvT hZ (hw _ (List.mem_of_getElem? (i := 67) rfl)))) (mvT hZ (hw _ (List.mem_of_getElem? (i := 67) rfl))) (mvT hZ (hw _ (List.mem_of_getElem? (i := 66) rfl))) (by decide) (backOf (W := 0) (rm10nr l Z a0 hw [] b19 ob_12 T20.heap n0 Zs20 F_b19_normal F_b19_standardDate) hZ (hw _ (List.mem_of_getElem? (i := 68) rfl)) (hw _ (List.mem_of_getElem? (i := 36) rfl)) (by decide) (by decide)) q21a q21c (g := (mkF m 142 #[.val (.long pl), .second, .val (.int pa), .val (.int pb), .val (.int pc0), .val (.int pf), .val (.int (0 : Int32)), .val (.int (1 : Int32)), .val .null, .val (.ref ob_12), .val (.ref ob_13), .val (.ref ob_14), .val (.ref ob_15), .val (.ref ob_16), .val (.ref ob_17), .val (.ref ob_18), .val (.ref b19), .unset] [(.ref b19)])) rfl (by rw [hml]; rfl) (Steps.refl _) (argsL := []) (rest := []) (lenOf pd_4 rfl) rfl (by show 2 * 0 + _ ≤ _; exact Nat.le_of_eq rfl) (hb hby at_142) (fun _ _ => ⟨rfl, rfl, (by decide : 22 + 0 ≤ _), (by decide : 65 + 0 ≤ _)⟩)
      dsimp only [Pt.U, Pt.locs, Pt.cells, Pt.slots] at X21 l21 y21 z21 st21 hQ21
      subst l21 y21 z21
      obtain ⟨rfl, N21q, e21⟩ := hQ21
      have N21 := Fr.app N20 N21q
      refine Goes.via st21 ?_
      show Goes p.tables e below (T21.setTop (mkF m 145 #[.val (.long pl), .second, .val (.int pa), .val (.int pb), .val (.int pc0), .val (.int pf), .val (.int (0 : Int32)), .val (.int (1 : Int32)), .val .null, .val (.ref ob_12), .val (.ref ob_13), .val (.ref ob_14), .val (.ref ob_15), .val (.ref ob_16), .val (.ref ob_17), .val (.ref ob_18), .val (.ref b19), .unset] [(.ref ob_12)])) _
      refine Goes.by (fun _ k => XS.astore X21.here hx rfl (hb hby at_145) rfl rfl (l' := #[.val (.long pl), .second, .val (.int pa), .val (.int pb), .val (.int pc0), .val (.int pf), .val (.int (0 : Int32)), .val (.int (1 : Int32)), .val .null, .val (.ref ob_12), .val (.ref ob_13), .val (.ref ob_14), .val (.ref ob_15), .val (.ref ob_16), .val (.ref ob_17), .val (.ref ob_18), .val (.ref b19), .val (.ref ob_12)]) rfl k) ?_
      show Goes p.tables e below (T21.setTop (mkF m 147 #[.val (.long pl), .second, .val (.int pa), .val (.int pb), .val (.int pc0), .val (.int pf), .val (.int (0 : Int32)), .val (.int (1 : Int32)), .val .null, .val (.ref ob_12), .val (.ref ob_13), .val (.ref ob_14), .val (.ref ob_15), .val (.ref ob_16), .val (.ref ob_17), .val (.ref ob_18), .val (.ref b19), .val (.ref ob_12)] [])) _
      refine Goes.by (fun _ k => XS.iload X21.here hx rfl (hb hby at_147) rfl k) ?_
      show Goes p.tables e below (T21.setTop (mkF m 149 #[.val (.long pl), .second, .val (.int pa), .val (.int pb), .val (.int pc0), .val (.int pf), .val (.int (0 : Int32)), .val (.int (1 : Int32)), .val .null, .val (.ref ob_12), .val (.ref ob_13), .val (.ref ob_14), .val (.ref ob_15), .val (.ref ob_16), .val (.ref ob_17), .val (.ref ob_18), .val (.ref b19), .val (.ref ob_12)] [(.int (0 : Int32))])) _
      refine Goes.by (fun _ k => XS.ifYes X21.here hx rfl (pc0 := 149) (pc' := 165) rfl (hb hby at_149) rfl ((if0 _ _).trans (teq (by decide : (0 : Int32) = (0 : Int32))).1) (by decide) (by decide) k) ?_
      show Goes p.tables e below (T21.setTop (mkF m 165 #[.val (.long pl), .second, .val (.int pa), .val (.int pb), .val (.int pc0), .val (.int pf), .val (.int (0 : Int32)), .val (.int (1 : Int32)), .val .null, .val (.ref ob_12), .val (.ref ob_13), .val (.ref ob_14), .val (.ref ob_15), .val (.ref ob_16), .val (.ref ob_17), .val (.ref ob_18), .val (.ref b19), .val (.ref ob_12)] [])) _
      refine Goes.by (fun _ k => XS.aload X21.here hx rfl (hb hby at_165) rfl rfl k) ?_
      show Goes p.tables e below (T21.setTop (mkF m 167 #[.val (.long pl), .second, .val (.int pa), .val (.int pb), .val (.int pc0), .val (.int pf), .val (.int (0 : Int32)), .val (.int (1 : Int32)), .val .null, .val (.ref ob_12), .val (.ref ob_13), .val (.ref ob_14), .val (.ref ob_15), .val (.ref ob_16), .val (.ref ob_17), .val (.ref ob_18), .val (.ref b19), .val (.ref ob_12)] [(.ref ob_12)])) _
      refine Goes.by (fun _ k => XS.aload X21.here hx rfl (hb hby at_167) rfl rfl k) ?_
      show Goes p.tables e below (T21.setTop (mkF m 169 #[.val (.long pl), .second, .val (.int pa), .val (.int pb), .val (.int pc0), .val (.int pf), .val (.int (0 : Int32)), .val (.int (1 : Int32)), .val .null, .val (.ref ob_12), .val (.ref ob_13), .val (.ref ob_14), .val (.ref ob_15), .val (.ref ob_16), .val (.ref ob_17), .val (.ref ob_18), .val (.ref b19), .val (.ref ob_12)] [(.ref ob_12), (.ref ob_12)])) _
      refine Goes.by (fun _ k => Jvm.RoadKit.acmp (g := (mkF m 169 #[.val (.long pl), .second, .val (.int pa), .val (.int pb), .val (.int pc0), .val (.int pf), .val (.int (0 : Int32)), .val (.int (1 : Int32)), .val .null, .val (.ref ob_12), .val (.ref ob_13), .val (.ref ob_14), .val (.ref ob_15), .val (.ref ob_16), .val (.ref ob_17), .val (.ref ob_18), .val (.ref b19), .val (.ref ob_12)] [(.ref ob_12), (.ref ob_12)])) X21 hx rfl rfl rfl (pc0 := 169) (pc' := 172) (same := true) rfl (hb hby at_169) rfl (decide_eq_true rfl) (by decide) (by decide) k) ?_
      show Goes p.tables e below (T21.setTop (mkF m 172 #[.val (.long pl), .second, .val (.int pa), .val (.int pb), .val (.int pc0), .val (.int pf), .val (.int (0 : Int32)), .val (.int (1 : Int32)), .val .null, .val (.ref ob_12), .val (.ref ob_13), .val (.ref ob_14), .val (.ref ob_15), .val (.ref ob_16), .val (.ref ob_17), .val (.ref ob_18), .val (.ref b19), .val (.ref ob_12)] [])) _
      refine Goes.by (fun _ k => XS.iconst X21.here hx rfl (hb hby at_172) k) ?_
      show Goes p.tables e below (T21.setTop (mkF m 173 #[.val (.long pl), .second, .val (.int pa), .val (.int pb), .val (.int pc0), .val (.int pf), .val (.int (0 : Int32)), .val (.int (1 : Int32)), .val .null, .val (.ref ob_12), .val (.ref ob_13), .val (.ref ob_14), .val (.ref ob_15), .val (.ref ob_16), .val (.ref ob_17), .val (.ref ob_18), .val (.ref b19), .val (.ref ob_12)] [(.int (1 : Int32))])) _
      refine Goes.by (fun _ k => XS.goto X21.here hx rfl (pc0 := 173) (pc' := 177) rfl (hb hby at_173) (by decide) (by decide) k) ?_
      show Goes p.tables e below (T21.setTop (mkF m 177 #[.val (.long pl), .second, .val (.int pa), .val (.int pb), .val (.int pc0), .val (.int pf), .val (.int (0 : Int32)), .val (.int (1 : Int32)), .val .null, .val (.ref ob_12), .val (.ref ob_13), .val (.ref ob_14), .val (.ref ob_15), .val (.ref ob_16), .val (.ref ob_17), .val (.ref ob_18), .val (.ref b19), .val (.ref ob_12)] [(.int (1 : Int32))])) _
      obtain ⟨fs, hr, hrun, hended, hW, hsame⟩ := X21.leave (v := some (.int (1 : Int32))) (fun h => by rw [Bd.returns] at h; cases h)
      refine ⟨_, _, retN X21 hx (t := .boolean) Bd.returns (by simp) (hb hby at_177) hr, hrun, hended, _, _, rfl, ?_, ⟨_, rfl⟩, hW, hsame.mono (by decide) (by decide)⟩
      show Q0 Z pl pa pb pc0 pf zc h0 n0 _ T21.heap _
      rw [e21]
      exact ⟨rfl, N21⟩
  · refine Goes.by (fun _ k => XS.ifNo X0.here hx rfl (hb hby at_4) rfl ((if0 _ _).trans (feq hc1).1) k) ?_
    show Goes p.tables e below (s₁.setTop (mkF m 7 #[.val (.long pl), .second, .val (.int pa), .val (.int pb), .val (.int pc0), .val (.int pf), .unset, .unset, .unset, .unset, .unset, .unset, .unset, .unset, .unset, .unset, .unset, .unset] [])) _
    refine Goes.by (fun _ k => XS.iconst X0.here hx rfl (hb hby at_7) k) ?_
    show Goes p.tables e below (s₁.setTop (mkF m 8 #[.val (.long pl), .second, .val (.int pa), .val (.int pb), .val (.int pc0), .val (.int pf), .unset, .unset, .unset, .unset, .unset, .unset, .unset, .unset, .unset, .unset, .unset, .unset] [(.int (1 : Int32))])) _
    refine Goes.by (fun _ k => XS.goto X0.here hx rfl (pc0 := 8) (pc' := 12) rfl (hb hby at_8) (by decide) (by decide) k) ?_
    show Goes p.tables e below (s₁.setTop (mkF m 12 #[.val (.long pl), .second, .val (.int pa), .val (.int pb), .val (.int pc0), .val (.int pf), .unset, .unset, .unset, .unset, .unset, .unset, .unset, .unset, .unset, .unset, .unset, .unset] [(.int (1 : Int32))])) _
    refine Goes.by (fun _ k => XS.istore X0.here hx rfl (hb hby at_12) rfl (l' := #[.val (.long pl), .second, .val (.int pa), .val (.int pb), .val (.int pc0), .val (.int pf), .val (.int (1 : Int32)), .unset, .unset, .unset, .unset, .unset, .unset, .unset, .unset, .unset, .unset, .unset]) rfl k) ?_
    show Goes p.tables e below (s₁.setTop (mkF m 14 #[.val (.long pl), .second, .val (.int pa), .val (.int pb), .val (.int pc0), .val (.int pf), .val (.int (1 : Int32)), .unset, .unset, .unset, .unset, .unset, .unset, .unset, .unset, .unset, .unset, .unset] [])) _
    refine Goes.by (fun _ k => XS.iload X0.here hx rfl (hb hby at_14) rfl k) ?_
    show Goes p.tables e below (s₁.setTop (mkF m 16 #[.val (.long pl), .second, .val (.int pa), .val (.int pb), .val (.int pc0), .val (.int pf), .val (.int (1 : Int32)), .unset, .unset, .unset, .unset, .unset, .unset, .unset, .unset, .unset, .unset, .unset] [(.int pf)])) _
    refine Goes.by (fun _ k => XS.iconst X0.here hx rfl (hb hby at_16) k) ?_
    show Goes p.tables e below (s₁.setTop (mkF m 17 #[.val (.long pl), .second, .val (.int pa), .val (.int pb), .val (.int pc0), .val (.int pf), .val (.int (1 : Int32)), .unset, .unset, .unset, .unset, .unset, .unset, .unset, .unset, .unset, .unset, .unset] [(.int (2 : Int32)), (.int pf)])) _
    refine Goes.by (fun _ k => XS.iand X0.here hx rfl (hb hby at_17) rfl k) ?_
    show Goes p.tables e below (s₁.setTop (mkF m 18 #[.val (.long pl), .second, .val (.int pa), .val (.int pb), .val (.int pc0), .val (.int pf), .val (.int (1 : Int32)), .unset, .unset, .unset, .unset, .unset, .unset, .unset, .unset, .unset, .unset, .unset] [(.int (pf &&& (2 : Int32)))])) _
    by_cases hc22 : (pf &&& (2 : Int32)) = (0 : Int32)
    · refine Goes.by (fun _ k => XS.ifYes X0.here hx rfl (pc0 := 18) (pc' := 25) rfl (hb hby at_18) rfl ((if0 _ _).trans (teq hc22).1) (by decide) (by decide) k) ?_
      show Goes p.tables e below (s₁.setTop (mkF m 25 #[.val (.long pl), .second, .val (.int pa), .val (.int pb), .val (.int pc0), .val (.int pf), .val (.int (1 : Int32)), .unset, .unset, .unset, .unset, .unset, .unset, .unset, .unset, .unset, .unset, .unset] [])) _
      refine Goes.by (fun _ k => XS.iconst X0.here hx rfl (hb hby at_25) k) ?_
      show Goes p.tables e below (s₁.setTop (mkF m 26 #[.val (.long pl), .second, .val (.int pa), .val (.int pb), .val (.int pc0), .val (.int pf), .val (.int (1 : Int32)), .unset, .unset, .unset, .unset, .unset, .unset, .unset, .unset, .unset, .unset, .unset] [(.int (0 : Int32))])) _
      refine Goes.by (fun _ k => XS.istore X0.here hx rfl (hb hby at_26) rfl (l' := #[.val (.long pl), .second, .val (.int pa), .val (.int pb), .val (.int pc0), .val (.int pf), .val (.int (1 : Int32)), .val (.int (0 : Int32)), .unset, .unset, .unset, .unset, .unset, .unset, .unset, .unset, .unset, .unset]) rfl k) ?_
      show Goes p.tables e below (s₁.setTop (mkF m 28 #[.val (.long pl), .second, .val (.int pa), .val (.int pb), .val (.int pc0), .val (.int pf), .val (.int (1 : Int32)), .val (.int (0 : Int32)), .unset, .unset, .unset, .unset, .unset, .unset, .unset, .unset, .unset, .unset] [])) _
      refine Goes.by (fun _ k => XS.iload X0.here hx rfl (hb hby at_28) rfl k) ?_
      show Goes p.tables e below (s₁.setTop (mkF m 30 #[.val (.long pl), .second, .val (.int pa), .val (.int pb), .val (.int pc0), .val (.int pf), .val (.int (1 : Int32)), .val (.int (0 : Int32)), .unset, .unset, .unset, .unset, .unset, .unset, .unset, .unset, .unset, .unset] [(.int (1 : Int32))])) _
      refine Goes.by (fun _ k => XS.ifNo X0.here hx rfl (hb hby at_30) rfl ((if0 _ _).trans (feq (by decide : ¬ ((1 : Int32) = (0 : Int32)))).1) k) ?_
      show Goes p.tables e below (s₁.setTop (mkF m 33 #[.val (.long pl), .second, .val (.int pa), .val (.int pb), .val (.int pc0), .val (.int pf), .val (.int (1 : Int32)), .val (.int (0 : Int32)), .unset, .unset, .unset, .unset, .unset, .unset, .unset, .unset, .unset, .unset] [])) _
      refine Goes.by (fun _ k => XS.iloadN X0.here hx rfl (hb hby at_33) rfl k) ?_
      show Goes p.tables e below (s₁.setTop (mkF m 34 #[.val (.long pl), .second, .val (.int pa), .val (.int pb), .val (.int pc0), .val (.int pf), .val (.int (1 : Int32)), .val (.int (0 : Int32)), .unset, .unset, .unset, .unset, .unset, .unset, .unset, .unset, .unset, .unset] [(.int pa)])) _
      obtain ⟨_, _, ⟨T23, L23, k23, n23⟩, -, X23, ⟨Lc23, hQ23, l23, y23, z23⟩, st23⟩ := Jvm.LawKit.callS X0 hx (y := (⟨"org/unitspan/ead/DateElementStatedDatePinLaw", "str", "(I)Ljava/lang/String;"⟩ : MethodName)) hown (mvT hZ (hw _ (List.mem_of_getElem? (i := 0) rfl))) (mvT hZ (hw _ (List.mem_of_getElem? (i := 1) rfl))) (mvT hZ (hw _ (List.mem_of_getElem? (i := 2) rfl))) (mvT hZ (hw _ (List.mem_of_getElem? (i := 3) rfl))) (by decide) (backOf (W := 0) (rm1 l Z a0 hw [] pa zc h0 n0 Z0 O S_cs hzc) hZ (hw _ (List.mem_of_getElem? (i := 3) rfl)) (hw _ (List.mem_of_getElem? (i := 2) rfl)) (by decide) (by decide)) (g := (mkF m 34 #[.val (.long pl), .second, .val (.int pa), .val (.int pb), .val (.int pc0), .val (.int pf), .val (.int (1 : Int32)), .val (.int (0 : Int32)), .unset, .unset, .unset, .unset, .unset, .unset, .unset, .unset, .unset, .unset] [(.int pa)])) rfl (by rw [hml]; rfl) (argsL := [(.int pa)]) (rest := []) (lenOf pd_2 rfl) rfl (by show 2 * 0 + _ ≤ _; exact Nat.le_of_eq rfl) (hb hby at_34) (fun _ _ => ⟨rfl, e0, (by decide : 0 + 3 ≤ _), (by decide : 0 + 8 ≤ _)⟩)
      dsimp only [Pt.U, Pt.locs, Pt.cells, Pt.slots] at X23 l23 y23 z23 st23 hQ23
      subst l23 y23 z23
      obtain ⟨ob_23, rfl, N23q, Kq23, po23_0, po23_1⟩ := hQ23
      have N23 := Fr.app N0 N23q
      refine Goes.by st23 ?_
      have Zs23 : n0 ≤ T23.heap.size := Nat.le_trans Z0 Kq23.1
      have K23 : Keep h0 T23.heap [] := (Keep.refl h0 []).trans Kq23 all0
      have sz_ob_23 : h0.size ≤ ob_23 := Nat.le_trans (Keep.refl h0 []).1 po23_1
      have g_ob_23 : n0 ≤ ob_23 := Nat.le_trans Z0 po23_1
      have O : Old Z n0 T23.heap := O.keep Kq23 all0
      have E_ob_23 : Exa Z T23.heap ob_23 "java/lang/String" := po23_0
      show Goes p.tables e below (T23.setTop (mkF m 37 #[.val (.long pl), .second, .val (.int pa), .val (.int pb), .val (.int pc0), .val (.int pf), .val (.int (1 : Int32)), .val (.int (0 : Int32)), .unset, .unset, .unset, .unset, .unset, .unset, .unset, .unset, .unset, .unset] [(.ref ob_23)])) _
      refine Goes.by (fun _ k => XS.goto X23.here hx rfl (pc0 := 37) (pc' := 41) rfl (hb hby at_37) (by decide) (by decide) k) ?_
      show Goes p.tables e below (T23.setTop (mkF m 41 #[.val (.long pl), .second, .val (.int pa), .val (.int pb), .val (.int pc0), .val (.int pf), .val (.int (1 : Int32)), .val (.int (0 : Int32)), .unset, .unset, .unset, .unset, .unset, .unset, .unset, .unset, .unset, .unset] [(.ref ob_23)])) _
      refine Goes.by (fun _ k => XS.astore X23.here hx rfl (hb hby at_41) rfl rfl (l' := #[.val (.long pl), .second, .val (.int pa), .val (.int pb), .val (.int pc0), .val (.int pf), .val (.int (1 : Int32)), .val (.int (0 : Int32)), .val (.ref ob_23), .unset, .unset, .unset, .unset, .unset, .unset, .unset, .unset, .unset]) rfl k) ?_
      show Goes p.tables e below (T23.setTop (mkF m 43 #[.val (.long pl), .second, .val (.int pa), .val (.int pb), .val (.int pc0), .val (.int pf), .val (.int (1 : Int32)), .val (.int (0 : Int32)), .val (.ref ob_23), .unset, .unset, .unset, .unset, .unset, .unset, .unset, .unset, .unset] [])) _
      refine Goes.by (fun _ k => XS.iload X23.here hx rfl (hb hby at_43) rfl k) ?_
      show Goes p.tables e below (T23.setTop (mkF m 45 #[.val (.long pl), .second, .val (.int pa), .val (.int pb), .val (.int pc0), .val (.int pf), .val (.int (1 : Int32)), .val (.int (0 : Int32)), .val (.ref ob_23), .unset, .unset, .unset, .unset, .unset, .unset, .unset, .unset, .unset] [(.int (0 : Int32))])) _
      refine Goes.by (fun _ k => XS.ifYes X23.here hx rfl (pc0 := 45) (pc' := 55) rfl (hb hby at_45) rfl ((if0 _ _).trans (teq (by decide : (0 : Int32) = (0 : Int32))).1) (by decide) (by decide) k) ?_
      show Goes p.tables e below (T23.setTop (mkF m 55 #[.val (.long pl), .second, .val (.int pa), .val (.int pb), .val (.int pc0), .val (.int pf), .val (.int (1 : Int32)), .val (.int (0 : Int32)), .val (.ref ob_23), .unset, .unset, .unset, .unset, .unset, .unset, .unset, .unset, .unset] [])) _
      refine Goes.by (fun _ k => XS.aconstNull X23.here hx rfl (hb hby at_55) k) ?_
      show Goes p.tables e below (T23.setTop (mkF m 56 #[.val (.long pl), .second, .val (.int pa), .val (.int pb), .val (.int pc0), .val (.int pf), .val (.int (1 : Int32)), .val (.int (0 : Int32)), .val (.ref ob_23), .unset, .unset, .unset, .unset, .unset, .unset, .unset, .unset, .unset] [.null])) _
      refine Goes.by (fun _ k => XS.astore X23.here hx rfl (hb hby at_56) rfl rfl (l' := #[.val (.long pl), .second, .val (.int pa), .val (.int pb), .val (.int pc0), .val (.int pf), .val (.int (1 : Int32)), .val (.int (0 : Int32)), .val (.ref ob_23), .val .null, .unset, .unset, .unset, .unset, .unset, .unset, .unset, .unset]) rfl k) ?_
      show Goes p.tables e below (T23.setTop (mkF m 58 #[.val (.long pl), .second, .val (.int pa), .val (.int pb), .val (.int pc0), .val (.int pf), .val (.int (1 : Int32)), .val (.int (0 : Int32)), .val (.ref ob_23), .val .null, .unset, .unset, .unset, .unset, .unset, .unset, .unset, .unset] [])) _
      refine Goes.by (fun _ k => XS.iload X23.here hx rfl (hb hby at_58) rfl k) ?_
      show Goes p.tables e below (T23.setTop (mkF m 60 #[.val (.long pl), .second, .val (.int pa), .val (.int pb), .val (.int pc0), .val (.int pf), .val (.int (1 : Int32)), .val (.int (0 : Int32)), .val (.ref ob_23), .val .null, .unset, .unset, .unset, .unset, .unset, .unset, .unset, .unset] [(.int pc0)])) _
      obtain ⟨_, _, ⟨T24, L24, k24, n24⟩, -, X24, ⟨Lc24, hQ24, l24, y24, z24⟩, st24⟩ := Jvm.LawKit.callS X23 hx (y := (⟨"org/unitspan/ead/DateElementStatedDatePinLaw", "str", "(I)Ljava/lang/String;"⟩ : MethodName)) hown (mvT hZ (hw _ (List.mem_of_getElem? (i := 0) rfl))) (mvT hZ (hw _ (List.mem_of_getElem? (i := 1) rfl))) (mvT hZ (hw _ (List.mem_of_getElem? (i := 2) rfl))) (mvT hZ (hw _ (List.mem_of_getElem? (i := 3) rfl))) (by decide) (backOf (W := 0) (rm1 l Z a0 hw [] pc0 zc T23.heap n0 Zs23 O S_cs hzc) hZ (hw _ (List.mem_of_getElem? (i := 3) rfl)) (hw _ (List.mem_of_getElem? (i := 2) rfl)) (by decide) (by decide)) (g := (mkF m 60 #[.val (.long pl), .second, .val (.int pa), .val (.int pb), .val (.int pc0), .val (.int pf), .val (.int (1 : Int32)), .val (.int (0 : Int32)), .val (.ref ob_23), .val .null, .unset, .unset, .unset, .unset, .unset, .unset, .unset, .unset] [(.int pc0)])) rfl (by rw [hml]; rfl) (argsL := [(.int pc0)]) (rest := []) (lenOf pd_2 rfl) rfl (by show 2 * 0 + _ ≤ _; exact Nat.le_of_eq rfl) (hb hby at_60) (fun _ _ => ⟨rfl, rfl, (by decide : 3 + 3 ≤ _), (by decide : 8 + 8 ≤ _)⟩)
      dsimp only [Pt.U, Pt.locs, Pt.cells, Pt.slots] at X24 l24 y24 z24 st24 hQ24
      subst l24 y24 z24
      obtain ⟨ob_24, rfl, N24q, Kq24, po24_0, po24_1⟩ := hQ24
      have N24 := Fr.app N23 N24q
      refine Goes.by st24 ?_
      have Zs24 : n0 ≤ T24.heap.size := Nat.le_trans Zs23 Kq24.1
      have K24 : Keep h0 T24.heap [] := K23.trans Kq24 all0
      have lt24_ob_23 := E_ob_23.lt
      have sz_ob_24 : h0.size ≤ ob_24 := Nat.le_trans K23.1 po24_1
      have g_ob_24 : n0 ≤ ob_24 := Nat.le_trans Zs23 po24_1
      have ne_ob_23_ob_24 : ob_23 ≠ ob_24 := Nat.ne_of_lt (Nat.lt_of_lt_of_le lt24_ob_23 po24_1)
      have O : Old Z n0 T24.heap := O.keep Kq24 all0
      have E_ob_23 : Exa Z T24.heap ob_23 "java/lang/String" := E_ob_23.keep Kq24
      have E_ob_24 : Exa Z T24.heap ob_24 "java/lang/String" := po24_0
      show Goes p.tables e below (T24.setTop (mkF m 63 #[.val (.long pl), .second, .val (.int pa), .val (.int pb), .val (.int pc0), .val (.int pf), .val (.int (1 : Int32)), .val (.int (0 : Int32)), .val (.ref ob_23), .val .null, .unset, .unset, .unset, .unset, .unset, .unset, .unset, .unset] [(.ref ob_24)])) _
      refine Goes.by (fun _ k => XS.astore X24.here hx rfl (hb hby at_63) rfl rfl (l' := #[.val (.long pl), .second, .val (.int pa), .val (.int pb), .val (.int pc0), .val (.int pf), .val (.int (1 : Int32)), .val (.int (0 : Int32)), .val (.ref ob_23), .val .null, .val (.ref ob_24), .unset, .unset, .unset, .unset, .unset, .unset, .unset]) rfl k) ?_
      show Goes p.tables e below (T24.setTop (mkF m 65 #[.val (.long pl), .second, .val (.int pa), .val (.int pb), .val (.int pc0), .val (.int pf), .val (.int (1 : Int32)), .val (.int (0 : Int32)), .val (.ref ob_23), .val .null, .val (.ref ob_24), .unset, .unset, .unset, .unset, .unset, .unset, .unset] [])) _
      refine Goes.by (fun _ k => XS.iload X24.here hx rfl (hb hby at_65) rfl k) ?_
      show Goes p.tables e below (T24.setTop (mkF m 67 #[.val (.long pl), .second, .val (.int pa), .val (.int pb), .val (.int pc0), .val (.int pf), .val (.int (1 : Int32)), .val (.int (0 : Int32)), .val (.ref ob_23), .val .null, .val (.ref ob_24), .unset, .unset, .unset, .unset, .unset, .unset, .unset] [(.int pc0)])) _
      refine Goes.by (fun _ k => XS.bipush X24.here hx rfl (hb hby at_67) k) ?_
      show Goes p.tables e below (T24.setTop (mkF m 69 #[.val (.long pl), .second, .val (.int pa), .val (.int pb), .val (.int pc0), .val (.int pf), .val (.int (1 : Int32)), .val (.int (0 : Int32)), .val (.ref ob_23), .val .null, .val (.ref ob_24), .unset, .unset, .unset, .unset, .unset, .unset, .unset] [(.int (16 : Int32)), (.int pc0)])) _
      refine Goes.by (fun _ k => XS.iushr X24.here hx rfl (hb hby at_69) rfl k) ?_
      show Goes p.tables e below (T24.setTop (mkF m 70 #[.val (.long pl), .second, .val (.int pa), .val (.int pb), .val (.int pc0), .val (.int pf), .val (.int (1 : Int32)), .val (.int (0 : Int32)), .val (.ref ob_23), .val .null, .val (.ref ob_24), .unset, .unset, .unset, .unset, .unset, .unset, .unset] [(.int ((pc0.toUInt32 >>> ((16 : Int32) &&& 31).toUInt32).toInt32))])) _
      obtain ⟨_, _, ⟨T25, L25, k25, n25⟩, -, X25, ⟨Lc25, hQ25, l25, y25, z25⟩, st25⟩ := Jvm.LawKit.callS X24 hx (y := (⟨"org/unitspan/ead/DateElementStatedDatePinLaw", "str", "(I)Ljava/lang/String;"⟩ : MethodName)) hown (mvT hZ (hw _ (List.mem_of_getElem? (i := 0) rfl))) (mvT hZ (hw _ (List.mem_of_getElem? (i := 1) rfl))) (mvT hZ (hw _ (List.mem_of_getElem? (i := 2) rfl))) (mvT hZ (hw _ (List.mem_of_getElem? (i := 3) rfl))) (by decide) (backOf (W := 0) (rm1 l Z a0 hw [] ((pc0.toUInt32 >>> ((16 : Int32) &&& 31).toUInt32).toInt32) zc T24.heap n0 Zs24 O S_cs hzc) hZ (hw _ (List.mem_of_getElem? (i := 3) rfl)) (hw _ (List.mem_of_getElem? (i := 2) rfl)) (by decide) (by decide)) (g := (mkF m 70 #[.val (.long pl), .second, .val (.int pa), .val (.int pb), .val (.int pc0), .val (.int pf), .val (.int (1 : Int32)), .val (.int (0 : Int32)), .val (.ref ob_23), .val .null, .val (.ref ob_24), .unset, .unset, .unset, .unset, .unset, .unset, .unset] [(.int ((pc0.toUInt32 >>> ((16 : Int32) &&& 31).toUInt32).toInt32))])) rfl (by rw [hml]; rfl) (argsL := [(.int ((pc0.toUInt32 >>> ((16 : Int32) &&& 31).toUInt32).toInt32))]) (rest := []) (lenOf pd_2 rfl) rfl (by show 2 * 0 + _ ≤ _; exact Nat.le_of_eq rfl) (hb hby at_70) (fun _ _ => ⟨rfl, rfl, (by decide : 6 + 3 ≤ _), (by decide : 16 + 8 ≤ _)⟩)
      dsimp only [Pt.U, Pt.locs, Pt.cells, Pt.slots] at X25 l25 y25 z25 st25 hQ25
      subst l25 y25 z25
      obtain ⟨ob_25, rfl, N25q, Kq25, po25_0, po25_1⟩ := hQ25
      have N25 := Fr.app N24 N25q
      refine Goes.by st25 ?_
      have Zs25 : n0 ≤ T25.heap.size := Nat.le_trans Zs24 Kq25.1
      have K25 : Keep h0 T25.heap [] := K24.trans Kq25 all0
      have lt25_ob_23 := E_ob_23.lt
      have lt25_ob_24 := E_ob_24.lt
      have sz_ob_25 : h0.size ≤ ob_25 := Nat.le_trans K24.1 po25_1
      have g_ob_25 : n0 ≤ ob_25 := Nat.le_trans Zs24 po25_1
      have ne_ob_23_ob_25 : ob_23 ≠ ob_25 := Nat.ne_of_lt (Nat.lt_of_lt_of_le lt25_ob_23 po25_1)
      have ne_ob_24_ob_25 : ob_24 ≠ ob_25 := Nat.ne_of_lt (Nat.lt_of_lt_of_le lt25_ob_24 po25_1)
      have O : Old Z n0 T25.heap := O.keep Kq25 all0
      have E_ob_23 : Exa Z T25.heap ob_23 "java/lang/String" := E_ob_23.keep Kq25
      have E_ob_24 : Exa Z T25.heap ob_24 "java/lang/String" := E_ob_24.keep Kq25
      have E_ob_25 : Exa Z T25.heap ob_25 "java/lang/String" := po25_0
      show Goes p.tables e below (T25.setTop (mkF m 73 #[.val (.long pl), .second, .val (.int pa), .val (.int pb), .val (.int pc0), .val (.int pf), .val (.int (1 : Int32)), .val (.int (0 : Int32)), .val (.ref ob_23), .val .null, .val (.ref ob_24), .unset, .unset, .unset, .unset, .unset, .unset, .unset] [(.ref ob_25)])) _
      refine Goes.by (fun _ k => XS.astore X25.here hx rfl (hb hby at_73) rfl rfl (l' := #[.val (.long pl), .second, .val (.int pa), .val (.int pb), .val (.int pc0), .val (.int pf), .val (.int (1 : Int32)), .val (.int (0 : Int32)), .val (.ref ob_23), .val .null, .val (.ref ob_24), .val (.ref ob_25), .unset, .unset, .unset, .unset, .unset, .unset]) rfl k) ?_
      show Goes p.tables e below (T25.setTop (mkF m 75 #[.val (.long pl), .second, .val (.int pa), .val (.int pb), .val (.int pc0), .val (.int pf), .val (.int (1 : Int32)), .val (.int (0 : Int32)), .val (.ref ob_23), .val .null, .val (.ref ob_24), .val (.ref ob_25), .unset, .unset, .unset, .unset, .unset, .unset] [])) _
      refine Goes.by (fun _ k => XS.iload X25.here hx rfl (hb hby at_75) rfl k) ?_
      show Goes p.tables e below (T25.setTop (mkF m 77 #[.val (.long pl), .second, .val (.int pa), .val (.int pb), .val (.int pc0), .val (.int pf), .val (.int (1 : Int32)), .val (.int (0 : Int32)), .val (.ref ob_23), .val .null, .val (.ref ob_24), .val (.ref ob_25), .unset, .unset, .unset, .unset, .unset, .unset] [(.int pc0)])) _
      refine Goes.by (fun _ k => XS.sipush X25.here hx rfl (hb hby at_77) k) ?_
      show Goes p.tables e below (T25.setTop (mkF m 80 #[.val (.long pl), .second, .val (.int pa), .val (.int pb), .val (.int pc0), .val (.int pf), .val (.int (1 : Int32)), .val (.int (0 : Int32)), .val (.ref ob_23), .val .null, .val (.ref ob_24), .val (.ref ob_25), .unset, .unset, .unset, .unset, .unset, .unset] [(.int (23130 : Int32)), (.int pc0)])) _
      refine Goes.by (fun _ k => XS.ixor X25.here hx rfl (hb hby at_80) rfl k) ?_
      show Goes p.tables e below (T25.setTop (mkF m 81 #[.val (.long pl), .second, .val (.int pa), .val (.int pb), .val (.int pc0), .val (.int pf), .val (.int (1 : Int32)), .val (.int (0 : Int32)), .val (.ref ob_23), .val .null, .val (.ref ob_24), .val (.ref ob_25), .unset, .unset, .unset, .unset, .unset, .unset] [(.int (pc0 ^^^ (23130 : Int32)))])) _
      obtain ⟨_, _, ⟨T26, L26, k26, n26⟩, -, X26, ⟨Lc26, hQ26, l26, y26, z26⟩, st26⟩ := Jvm.LawKit.callS X25 hx (y := (⟨"org/unitspan/ead/DateElementStatedDatePinLaw", "str", "(I)Ljava/lang/String;"⟩ : MethodName)) hown (mvT hZ (hw _ (List.mem_of_getElem? (i := 0) rfl))) (mvT hZ (hw _ (List.mem_of_getElem? (i := 1) rfl))) (mvT hZ (hw _ (List.mem_of_getElem? (i := 2) rfl))) (mvT hZ (hw _ (List.mem_of_getElem? (i := 3) rfl))) (by decide) (backOf (W := 0) (rm1 l Z a0 hw [] (pc0 ^^^ (23130 : Int32)) zc T25.heap n0 Zs25 O S_cs hzc) hZ (hw _ (List.mem_of_getElem? (i := 3) rfl)) (hw _ (List.mem_of_getElem? (i := 2) rfl)) (by decide) (by decide)) (g := (mkF m 81 #[.val (.long pl), .second, .val (.int pa), .val (.int pb), .val (.int pc0), .val (.int pf), .val (.int (1 : Int32)), .val (.int (0 : Int32)), .val (.ref ob_23), .val .null, .val (.ref ob_24), .val (.ref ob_25), .unset, .unset, .unset, .unset, .unset, .unset] [(.int (pc0 ^^^ (23130 : Int32)))])) rfl (by rw [hml]; rfl) (argsL := [(.int (pc0 ^^^ (23130 : Int32)))]) (rest := []) (lenOf pd_2 rfl) rfl (by show 2 * 0 + _ ≤ _; exact Nat.le_of_eq rfl) (hb hby at_81) (fun _ _ => ⟨rfl, rfl, (by decide : 9 + 3 ≤ _), (by decide : 24 + 8 ≤ _)⟩)
      dsimp only [Pt.U, Pt.locs, Pt.cells, Pt.slots] at X26 l26 y26 z26 st26 hQ26
      subst l26 y26 z26
      obtain ⟨ob_26, rfl, N26q, Kq26, po26_0, po26_1⟩ := hQ26
      have N26 := Fr.app N25 N26q
      refine Goes.by st26 ?_
      have Zs26 : n0 ≤ T26.heap.size := Nat.le_trans Zs25 Kq26.1
      have K26 : Keep h0 T26.heap [] := K25.trans Kq26 all0
      have lt26_ob_23 := E_ob_23.lt
      have lt26_ob_24 := E_ob_24.lt
      have lt26_ob_25 := E_ob_25.lt
      have sz_ob_26 : h0.size ≤ ob_26 := Nat.le_trans K25.1 po26_1
      have g_ob_26 : n0 ≤ ob_26 := Nat.le_trans Zs25 po26_1
      have ne_ob_23_ob_26 : ob_23 ≠ ob_26 := Nat.ne_of_lt (Nat.lt_of_lt_of_le lt26_ob_23 po26_1)
      have ne_ob_24_ob_26 : ob_24 ≠ ob_26 := Nat.ne_of_lt (Nat.lt_of_lt_of_le lt26_ob_24 po26_1)
      have ne_ob_25_ob_26 : ob_25 ≠ ob_26 := Nat.ne_of_lt (Nat.lt_of_lt_of_le lt26_ob_25 po26_1)
      have O : Old Z n0 T26.heap := O.keep Kq26 all0
      have E_ob_23 : Exa Z T26.heap ob_23 "java/lang/String" := E_ob_23.keep Kq26
      have E_ob_24 : Exa Z T26.heap ob_24 "java/lang/String" := E_ob_24.keep Kq26
      have E_ob_25 : Exa Z T26.heap ob_25 "java/lang/String" := E_ob_25.keep Kq26
      have E_ob_26 : Exa Z T26.heap ob_26 "java/lang/String" := po26_0
      show Goes p.tables e below (T26.setTop (mkF m 84 #[.val (.long pl), .second, .val (.int pa), .val (.int pb), .val (.int pc0), .val (.int pf), .val (.int (1 : Int32)), .val (.int (0 : Int32)), .val (.ref ob_23), .val .null, .val (.ref ob_24), .val (.ref ob_25), .unset, .unset, .unset, .unset, .unset, .unset] [(.ref ob_26)])) _
      refine Goes.by (fun _ k => XS.astore X26.here hx rfl (hb hby at_84) rfl rfl (l' := #[.val (.long pl), .second, .val (.int pa), .val (.int pb), .val (.int pc0), .val (.int pf), .val (.int (1 : Int32)), .val (.int (0 : Int32)), .val (.ref ob_23), .val .null, .val (.ref ob_24), .val (.ref ob_25), .val (.ref ob_26), .unset, .unset, .unset, .unset, .unset]) rfl k) ?_
      show Goes p.tables e below (T26.setTop (mkF m 86 #[.val (.long pl), .second, .val (.int pa), .val (.int pb), .val (.int pc0), .val (.int pf), .val (.int (1 : Int32)), .val (.int (0 : Int32)), .val (.ref ob_23), .val .null, .val (.ref ob_24), .val (.ref ob_25), .val (.ref ob_26), .unset, .unset, .unset, .unset, .unset] [])) _
      refine Goes.by (fun _ k => XS.iload X26.here hx rfl (hb hby at_86) rfl k) ?_
      show Goes p.tables e below (T26.setTop (mkF m 88 #[.val (.long pl), .second, .val (.int pa), .val (.int pb), .val (.int pc0), .val (.int pf), .val (.int (1 : Int32)), .val (.int (0 : Int32)), .val (.ref ob_23), .val .null, .val (.ref ob_24), .val (.ref ob_25), .val (.ref ob_26), .unset, .unset, .unset, .unset, .unset] [(.int pc0)])) _
      refine Goes.by (fun _ k => XS.iconst X26.here hx rfl (hb hby at_88) k) ?_
      show Goes p.tables e below (T26.setTop (mkF m 89 #[.val (.long pl), .second, .val (.int pa), .val (.int pb), .val (.int pc0), .val (.int pf), .val (.int (1 : Int32)), .val (.int (0 : Int32)), .val (.ref ob_23), .val .null, .val (.ref ob_24), .val (.ref ob_25), .val (.ref ob_26), .unset, .unset, .unset, .unset, .unset] [(.int (-1 : Int32)), (.int pc0)])) _
      refine Goes.by (fun _ k => XS.ixor X26.here hx rfl (hb hby at_89) rfl k) ?_
      show Goes p.tables e below (T26.setTop (mkF m 90 #[.val (.long pl), .second, .val (.int pa), .val (.int pb), .val (.int pc0), .val (.int pf), .val (.int (1 : Int32)), .val (.int (0 : Int32)), .val (.ref ob_23), .val .null, .val (.ref ob_24), .val (.ref ob_25), .val (.ref ob_26), .unset, .unset, .unset, .unset, .unset] [(.int (pc0 ^^^ (-1 : Int32)))])) _
      obtain ⟨_, _, ⟨T27, L27, k27, n27⟩, -, X27, ⟨Lc27, hQ27, l27, y27, z27⟩, st27⟩ := Jvm.LawKit.callS X26 hx (y := (⟨"org/unitspan/ead/DateElementStatedDatePinLaw", "str", "(I)Ljava/lang/String;"⟩ : MethodName)) hown (mvT hZ (hw _ (List.mem_of_getElem? (i := 0) rfl))) (mvT hZ (hw _ (List.mem_of_getElem? (i := 1) rfl))) (mvT hZ (hw _ (List.mem_of_getElem? (i := 2) rfl))) (mvT hZ (hw _ (List.mem_of_getElem? (i := 3) rfl))) (by decide) (backOf (W := 0) (rm1 l Z a0 hw [] (pc0 ^^^ (-1 : Int32)) zc T26.heap n0 Zs26 O S_cs hzc) hZ (hw _ (List.mem_of_getElem? (i := 3) rfl)) (hw _ (List.mem_of_getElem? (i := 2) rfl)) (by decide) (by decide)) (g := (mkF m 90 #[.val (.long pl), .second, .val (.int pa), .val (.int pb), .val (.int pc0), .val (.int pf), .val (.int (1 : Int32)), .val (.int (0 : Int32)), .val (.ref ob_23), .val .null, .val (.ref ob_24), .val (.ref ob_25), .val (.ref ob_26), .unset, .unset, .unset, .unset, .unset] [(.int (pc0 ^^^ (-1 : Int32)))])) rfl (by rw [hml]; rfl) (argsL := [(.int (pc0 ^^^ (-1 : Int32)))]) (rest := []) (lenOf pd_2 rfl) rfl (by show 2 * 0 + _ ≤ _; exact Nat.le_of_eq rfl) (hb hby at_90) (fun _ _ => ⟨rfl, rfl, (by decide : 12 + 3 ≤ _), (by decide : 32 + 8 ≤ _)⟩)
      dsimp only [Pt.U, Pt.locs, Pt.cells, Pt.slots] at X27 l27 y27 z27 st27 hQ27
      subst l27 y27 z27
      obtain ⟨ob_27, rfl, N27q, Kq27, po27_0, po27_1⟩ := hQ27
      have N27 := Fr.app N26 N27q
      refine Goes.by st27 ?_
      have Zs27 : n0 ≤ T27.heap.size := Nat.le_trans Zs26 Kq27.1
      have K27 : Keep h0 T27.heap [] := K26.trans Kq27 all0
      have lt27_ob_23 := E_ob_23.lt
      have lt27_ob_24 := E_ob_24.lt
      have lt27_ob_25 := E_ob_25.lt
      have lt27_ob_26 := E_ob_26.lt
      have sz_ob_27 : h0.size ≤ ob_27 := Nat.le_trans K26.1 po27_1
      have g_ob_27 : n0 ≤ ob_27 := Nat.le_trans Zs26 po27_1
      have ne_ob_23_ob_27 : ob_23 ≠ ob_27 := Nat.ne_of_lt (Nat.lt_of_lt_of_le lt27_ob_23 po27_1)
      have ne_ob_24_ob_27 : ob_24 ≠ ob_27 := Nat.ne_of_lt (Nat.lt_of_lt_of_le lt27_ob_24 po27_1)
      have ne_ob_25_ob_27 : ob_25 ≠ ob_27 := Nat.ne_of_lt (Nat.lt_of_lt_of_le lt27_ob_25 po27_1)
      have ne_ob_26_ob_27 : ob_26 ≠ ob_27 := Nat.ne_of_lt (Nat.lt_of_lt_of_le lt27_ob_26 po27_1)
      have O : Old Z n0 T27.heap := O.keep Kq27 all0
      have E_ob_23 : Exa Z T27.heap ob_23 "java/lang/String" := E_ob_23.keep Kq27
      have E_ob_24 : Exa Z T27.heap ob_24 "java/lang/String" := E_ob_24.keep Kq27
      have E_ob_25 : Exa Z T27.heap ob_25 "java/lang/String" := E_ob_25.keep Kq27
      have E_ob_26 : Exa Z T27.heap ob_26 "java/lang/String" := E_ob_26.keep Kq27
      have E_ob_27 : Exa Z T27.heap ob_27 "java/lang/String" := po27_0
      show Goes p.tables e below (T27.setTop (mkF m 93 #[.val (.long pl), .second, .val (.int pa), .val (.int pb), .val (.int pc0), .val (.int pf), .val (.int (1 : Int32)), .val (.int (0 : Int32)), .val (.ref ob_23), .val .null, .val (.ref ob_24), .val (.ref ob_25), .val (.ref ob_26), .unset, .unset, .unset, .unset, .unset] [(.ref ob_27)])) _
      refine Goes.by (fun _ k => XS.astore X27.here hx rfl (hb hby at_93) rfl rfl (l' := #[.val (.long pl), .second, .val (.int pa), .val (.int pb), .val (.int pc0), .val (.int pf), .val (.int (1 : Int32)), .val (.int (0 : Int32)), .val (.ref ob_23), .val .null, .val (.ref ob_24), .val (.ref ob_25), .val (.ref ob_26), .val (.ref ob_27), .unset, .unset, .unset, .unset]) rfl k) ?_
      show Goes p.tables e below (T27.setTop (mkF m 95 #[.val (.long pl), .second, .val (.int pa), .val (.int pb), .val (.int pc0), .val (.int pf), .val (.int (1 : Int32)), .val (.int (0 : Int32)), .val (.ref ob_23), .val .null, .val (.ref ob_24), .val (.ref ob_25), .val (.ref ob_26), .val (.ref ob_27), .unset, .unset, .unset, .unset] [])) _
      refine Goes.by (fun _ k => XS.iload X27.here hx rfl (hb hby at_95) rfl k) ?_
      show Goes p.tables e below (T27.setTop (mkF m 97 #[.val (.long pl), .second, .val (.int pa), .val (.int pb), .val (.int pc0), .val (.int pf), .val (.int (1 : Int32)), .val (.int (0 : Int32)), .val (.ref ob_23), .val .null, .val (.ref ob_24), .val (.ref ob_25), .val (.ref ob_26), .val (.ref ob_27), .unset, .unset, .unset, .unset] [(.int pc0)])) _
      refine Goes.by (fun _ k => XS.iconst X27.here hx rfl (hb hby at_97) k) ?_
      show Goes p.tables e below (T27.setTop (mkF m 98 #[.val (.long pl), .second, .val (.int pa), .val (.int pb), .val (.int pc0), .val (.int pf), .val (.int (1 : Int32)), .val (.int (0 : Int32)), .val (.ref ob_23), .val .null, .val (.ref ob_24), .val (.ref ob_25), .val (.ref ob_26), .val (.ref ob_27), .unset, .unset, .unset, .unset] [(.int (4 : Int32)), (.int pc0)])) _
      refine Goes.by (fun _ k => XS.iushr X27.here hx rfl (hb hby at_98) rfl k) ?_
      show Goes p.tables e below (T27.setTop (mkF m 99 #[.val (.long pl), .second, .val (.int pa), .val (.int pb), .val (.int pc0), .val (.int pf), .val (.int (1 : Int32)), .val (.int (0 : Int32)), .val (.ref ob_23), .val .null, .val (.ref ob_24), .val (.ref ob_25), .val (.ref ob_26), .val (.ref ob_27), .unset, .unset, .unset, .unset] [(.int ((pc0.toUInt32 >>> ((4 : Int32) &&& 31).toUInt32).toInt32))])) _
      obtain ⟨_, _, ⟨T28, L28, k28, n28⟩, -, X28, ⟨Lc28, hQ28, l28, y28, z28⟩, st28⟩ := Jvm.LawKit.callS X27 hx (y := (⟨"org/unitspan/ead/DateElementStatedDatePinLaw", "str", "(I)Ljava/lang/String;"⟩ : MethodName)) hown (mvT hZ (hw _ (List.mem_of_getElem? (i := 0) rfl))) (mvT hZ (hw _ (List.mem_of_getElem? (i := 1) rfl))) (mvT hZ (hw _ (List.mem_of_getElem? (i := 2) rfl))) (mvT hZ (hw _ (List.mem_of_getElem? (i := 3) rfl))) (by decide) (backOf (W := 0) (rm1 l Z a0 hw [] ((pc0.toUInt32 >>> ((4 : Int32) &&& 31).toUInt32).toInt32) zc T27.heap n0 Zs27 O S_cs hzc) hZ (hw _ (List.mem_of_getElem? (i := 3) rfl)) (hw _ (List.mem_of_getElem? (i := 2) rfl)) (by decide) (by decide)) (g := (mkF m 99 #[.val (.long pl), .second, .val (.int pa), .val (.int pb), .val (.int pc0), .val (.int pf), .val (.int (1 : Int32)), .val (.int (0 : Int32)), .val (.ref ob_23), .val .null, .val (.ref ob_24), .val (.ref ob_25), .val (.ref ob_26), .val (.ref ob_27), .unset, .unset, .unset, .unset] [(.int ((pc0.toUInt32 >>> ((4 : Int32) &&& 31).toUInt32).toInt32))])) rfl (by rw [hml]; rfl) (argsL := [(.int ((pc0.toUInt32 >>> ((4 : Int32) &&& 31).toUInt32).toInt32))]) (rest := []) (lenOf pd_2 rfl) rfl (by show 2 * 0 + _ ≤ _; exact Nat.le_of_eq rfl) (hb hby at_99) (fun _ _ => ⟨rfl, rfl, (by decide : 15 + 3 ≤ _), (by decide : 40 + 8 ≤ _)⟩)
      dsimp only [Pt.U, Pt.locs, Pt.cells, Pt.slots] at X28 l28 y28 z28 st28 hQ28
      subst l28 y28 z28
      obtain ⟨ob_28, rfl, N28q, Kq28, po28_0, po28_1⟩ := hQ28
      have N28 := Fr.app N27 N28q
      refine Goes.by st28 ?_
      have Zs28 : n0 ≤ T28.heap.size := Nat.le_trans Zs27 Kq28.1
      have K28 : Keep h0 T28.heap [] := K27.trans Kq28 all0
      have lt28_ob_23 := E_ob_23.lt
      have lt28_ob_24 := E_ob_24.lt
      have lt28_ob_25 := E_ob_25.lt
      have lt28_ob_26 := E_ob_26.lt
      have lt28_ob_27 := E_ob_27.lt
      have sz_ob_28 : h0.size ≤ ob_28 := Nat.le_trans K27.1 po28_1
      have g_ob_28 : n0 ≤ ob_28 := Nat.le_trans Zs27 po28_1
      have ne_ob_23_ob_28 : ob_23 ≠ ob_28 := Nat.ne_of_lt (Nat.lt_of_lt_of_le lt28_ob_23 po28_1)
      have ne_ob_24_ob_28 : ob_24 ≠ ob_28 := Nat.ne_of_lt (Nat.lt_of_lt_of_le lt28_ob_24 po28_1)
      have ne_ob_25_ob_28 : ob_25 ≠ ob_28 := Nat.ne_of_lt (Nat.lt_of_lt_of_le lt28_ob_25 po28_1)
      have ne_ob_26_ob_28 : ob_26 ≠ ob_28 := Nat.ne_of_lt (Nat.lt_of_lt_of_le lt28_ob_26 po28_1)
      have ne_ob_27_ob_28 : ob_27 ≠ ob_28 := Nat.ne_of_lt (Nat.lt_of_lt_of_le lt28_ob_27 po28_1)
      have O : Old Z n0 T28.heap := O.keep Kq28 all0
      have E_ob_23 : Exa Z T28.heap ob_23 "java/lang/String" := E_ob_23.keep Kq28
      have E_ob_24 : Exa Z T28.heap ob_24 "java/lang/String" := E_ob_24.keep Kq28
      have E_ob_25 : Exa Z T28.heap ob_25 "java/lang/String" := E_ob_25.keep Kq28
      have E_ob_26 : Exa Z T28.heap ob_26 "java/lang/String" := E_ob_26.keep Kq28
      have E_ob_27 : Exa Z T28.heap ob_27 "java/lang/String" := E_ob_27.keep Kq28
      have E_ob_28 : Exa Z T28.heap ob_28 "java/lang/String" := po28_0
      show Goes p.tables e below (T28.setTop (mkF m 102 #[.val (.long pl), .second, .val (.int pa), .val (.int pb), .val (.int pc0), .val (.int pf), .val (.int (1 : Int32)), .val (.int (0 : Int32)), .val (.ref ob_23), .val .null, .val (.ref ob_24), .val (.ref ob_25), .val (.ref ob_26), .val (.ref ob_27), .unset, .unset, .unset, .unset] [(.ref ob_28)])) _
      refine Goes.by (fun _ k => XS.astore X28.here hx rfl (hb hby at_102) rfl rfl (l' := #[.val (.long pl), .second, .val (.int pa), .val (.int pb), .val (.int pc0), .val (.int pf), .val (.int (1 : Int32)), .val (.int (0 : Int32)), .val (.ref ob_23), .val .null, .val (.ref ob_24), .val (.ref ob_25), .val (.ref ob_26), .val (.ref ob_27), .val (.ref ob_28), .unset, .unset, .unset]) rfl k) ?_
      show Goes p.tables e below (T28.setTop (mkF m 104 #[.val (.long pl), .second, .val (.int pa), .val (.int pb), .val (.int pc0), .val (.int pf), .val (.int (1 : Int32)), .val (.int (0 : Int32)), .val (.ref ob_23), .val .null, .val (.ref ob_24), .val (.ref ob_25), .val (.ref ob_26), .val (.ref ob_27), .val (.ref ob_28), .unset, .unset, .unset] [])) _
      refine Goes.by (fun _ k => XS.iload X28.here hx rfl (hb hby at_104) rfl k) ?_
      show Goes p.tables e below (T28.setTop (mkF m 106 #[.val (.long pl), .second, .val (.int pa), .val (.int pb), .val (.int pc0), .val (.int pf), .val (.int (1 : Int32)), .val (.int (0 : Int32)), .val (.ref ob_23), .val .null, .val (.ref ob_24), .val (.ref ob_25), .val (.ref ob_26), .val (.ref ob_27), .val (.ref ob_28), .unset, .unset, .unset] [(.int pc0)])) _
      refine Goes.by (fun _ k => XS.bipush X28.here hx rfl (hb hby at_106) k) ?_
      show Goes p.tables e below (T28.setTop (mkF m 108 #[.val (.long pl), .second, .val (.int pa), .val (.int pb), .val (.int pc0), .val (.int pf), .val (.int (1 : Int32)), .val (.int (0 : Int32)), .val (.ref ob_23), .val .null, .val (.ref ob_24), .val (.ref ob_25), .val (.ref ob_26), .val (.ref ob_27), .val (.ref ob_28), .unset, .unset, .unset] [(.int (12 : Int32)), (.int pc0)])) _
      refine Goes.by (fun _ k => XS.iushr X28.here hx rfl (hb hby at_108) rfl k) ?_
      show Goes p.tables e below (T28.setTop (mkF m 109 #[.val (.long pl), .second, .val (.int pa), .val (.int pb), .val (.int pc0), .val (.int pf), .val (.int (1 : Int32)), .val (.int (0 : Int32)), .val (.ref ob_23), .val .null, .val (.ref ob_24), .val (.ref ob_25), .val (.ref ob_26), .val (.ref ob_27), .val (.ref ob_28), .unset, .unset, .unset] [(.int ((pc0.toUInt32 >>> ((12 : Int32) &&& 31).toUInt32).toInt32))])) _
      obtain ⟨_, _, ⟨T29, L29, k29, n29⟩, -, X29, ⟨Lc29, hQ29, l29, y29, z29⟩, st29⟩ := Jvm.LawKit.callS X28 hx (y := (⟨"org/unitspan/ead/DateElementStatedDatePinLaw", "str", "(I)Ljava/lang/String;"⟩ : MethodName)) hown (mvT hZ (hw _ (List.mem_of_getElem? (i := 0) rfl))) (mvT hZ (hw _ (List.mem_of_getElem? (i := 1) rfl))) (mvT hZ (hw _ (List.mem_of_getElem? (i := 2) rfl))) (mvT hZ (hw _ (List.mem_of_getElem? (i := 3) rfl))) (by decide) (backOf (W := 0) (rm1 l Z a0 hw [] ((pc0.toUInt32 >>> ((12 : Int32) &&& 31).toUInt32).toInt32) zc T28.heap n0 Zs28 O S_cs hzc) hZ (hw _ (List.mem_of_getElem? (i := 3) rfl)) (hw _ (List.mem_of_getElem? (i := 2) rfl)) (by decide) (by decide)) (g := (mkF m 109 #[.val (.long pl), .second, .val (.int pa), .val (.int pb), .val (.int pc0), .val (.int pf), .val (.int (1 : Int32)), .val (.int (0 : Int32)), .val (.ref ob_23), .val .null, .val (.ref ob_24), .val (.ref ob_25), .val (.ref ob_26), .val (.ref ob_27), .val (.ref ob_28), .unset, .unset, .unset] [(.int ((pc0.toUInt32 >>> ((12 : Int32) &&& 31).toUInt32).toInt32))])) rfl (by rw [hml]; rfl) (argsL := [(.int ((pc0.toUInt32 >>> ((12 : Int32) &&& 31).toUInt32).toInt32))]) (rest := []) (lenOf pd_2 rfl) rfl (by show 2 * 0 + _ ≤ _; exact Nat.le_of_eq rfl) (hb hby at_109) (fun _ _ => ⟨rfl, rfl, (by decide : 18 + 3 ≤ _), (by decide : 48 + 8 ≤ _)⟩)
      dsimp only [Pt.U, Pt.locs, Pt.cells, Pt.slots] at X29 l29 y29 z29 st29 hQ29
      subst l29 y29 z29
      obtain ⟨ob_29, rfl, N29q, Kq29, po29_0, po29_1⟩ := hQ29
      have N29 := Fr.app N28 N29q
      refine Goes.by st29 ?_
      have Zs29 : n0 ≤ T29.heap.size := Nat.le_trans Zs28 Kq29.1
      have K29 : Keep h0 T29.heap [] := K28.trans Kq29 all0
      have lt29_ob_23 := E_ob_23.lt
      have lt29_ob_24 := E_ob_24.lt
      have lt29_ob_25 := E_ob_25.lt
      have lt29_ob_26 := E_ob_26.lt
      have lt29_ob_27 := E_ob_27.lt
      have lt29_ob_28 := E_ob_28.lt
      have sz_ob_29 : h0.size ≤ ob_29 := Nat.le_trans K28.1 po29_1
      have g_ob_29 : n0 ≤ ob_29 := Nat.le_trans Zs28 po29_1
      have ne_ob_23_ob_29 : ob_23 ≠ ob_29 := Nat.ne_of_lt (Nat.lt_of_lt_of_le lt29_ob_23 po29_1)
      have ne_ob_24_ob_29 : ob_24 ≠ ob_29 := Nat.ne_of_lt (Nat.lt_of_lt_of_le lt29_ob_24 po29_1)
      have ne_ob_25_ob_29 : ob_25 ≠ ob_29 := Nat.ne_of_lt (Nat.lt_of_lt_of_le lt29_ob_25 po29_1)
      have ne_ob_26_ob_29 : ob_26 ≠ ob_29 := Nat.ne_of_lt (Nat.lt_of_lt_of_le lt29_ob_26 po29_1)
      have ne_ob_27_ob_29 : ob_27 ≠ ob_29 := Nat.ne_of_lt (Nat.lt_of_lt_of_le lt29_ob_27 po29_1)
      have ne_ob_28_ob_29 : ob_28 ≠ ob_29 := Nat.ne_of_lt (Nat.lt_of_lt_of_le lt29_ob_28 po29_1)
      have O : Old Z n0 T29.heap := O.keep Kq29 all0
      have E_ob_23 : Exa Z T29.heap ob_23 "java/lang/String" := E_ob_23.keep Kq29
      have E_ob_24 : Exa Z T29.heap ob_24 "java/lang/String" := E_ob_24.keep Kq29
      have E_ob_25 : Exa Z T29.heap ob_25 "java/lang/String" := E_ob_25.keep Kq29
      have E_ob_26 : Exa Z T29.heap ob_26 "java/lang/String" := E_ob_26.keep Kq29
      have E_ob_27 : Exa Z T29.heap ob_27 "java/lang/String" := E_ob_27.keep Kq29
      have E_ob_28 : Exa Z T29.heap ob_28 "java/lang/String" := E_ob_28.keep Kq29
      have E_ob_29 : Exa Z T29.heap ob_29 "java/lang/String" := po29_0
      show Goes p.tables e below (T29.setTop (mkF m 112 #[.val (.long pl), .second, .val (.int pa), .val (.int pb), .val (.int pc0), .val (.int pf), .val (.int (1 : Int32)), .val (.int (0 : Int32)), .val (.ref ob_23), .val .null, .val (.ref ob_24), .val (.ref ob_25), .val (.ref ob_26), .val (.ref ob_27), .val (.ref ob_28), .unset, .unset, .unset] [(.ref ob_29)])) _
      refine Goes.by (fun _ k => XS.astore X29.here hx rfl (hb hby at_112) rfl rfl (l' := #[.val (.long pl), .second, .val (.int pa), .val (.int pb), .val (.int pc0), .val (.int pf), .val (.int (1 : Int32)), .val (.int (0 : Int32)), .val (.ref ob_23), .val .null, .val (.ref ob_24), .val (.ref ob_25), .val (.ref ob_26), .val (.ref ob_27), .val (.ref ob_28), .val (.ref ob_29), .unset, .unset]) rfl k) ?_
      show Goes p.tables e below (T29.setTop (mkF m 114 #[.val (.long pl), .second, .val (.int pa), .val (.int pb), .val (.int pc0), .val (.int pf), .val (.int (1 : Int32)), .val (.int (0 : Int32)), .val (.ref ob_23), .val .null, .val (.ref ob_24), .val (.ref ob_25), .val (.ref ob_26), .val (.ref ob_27), .val (.ref ob_28), .val (.ref ob_29), .unset, .unset] [])) _
      obtain ⟨T30, h30, X30, e30, E30, A30, D30, -, st30⟩ := newO X29 hx hZ hown (hw _ (List.mem_of_getElem? (i := 34) rfl)) (hw _ (List.mem_of_getElem? (i := 35) rfl)) (hw _ (List.mem_of_getElem? (i := 36) rfl)) rfl (g := (mkF m 114 #[.val (.long pl), .second, .val (.int pa), .val (.int pb), .val (.int pc0), .val (.int pf), .val (.int (1 : Int32)), .val (.int (0 : Int32)), .val (.ref ob_23), .val .null, .val (.ref ob_24), .val (.ref ob_25), .val (.ref ob_26), .val (.ref ob_27), .val (.ref ob_28), .val (.ref ob_29), .unset, .unset] [])) rfl (hb hby at_114) (by decide) (by decide)
      obtain ⟨b30, g30⟩ : ∃ z, z = T29.heap.size := ⟨_, rfl⟩
      rw [← g30] at A30 D30 st30
      have g_b30 : n0 ≤ b30 := Nat.le_trans Zs29 (Nat.le_of_eq g30.symm)
      have sz_b30 : h0.size ≤ b30 := Nat.le_trans K29.1 (Nat.le_of_eq g30.symm)
      have ne_ob_23_b30 : ob_23 ≠ b30 := Nat.ne_of_lt (Nat.lt_of_lt_of_le E_ob_23.lt (Nat.le_of_eq g30.symm))
      have ne_ob_24_b30 : ob_24 ≠ b30 := Nat.ne_of_lt (Nat.lt_of_lt_of_le E_ob_24.lt (Nat.le_of_eq g30.symm))
      have ne_ob_25_b30 : ob_25 ≠ b30 := Nat.ne_of_lt (Nat.lt_of_lt_of_le E_ob_25.lt (Nat.le_of_eq g30.symm))
      have ne_ob_26_b30 : ob_26 ≠ b30 := Nat.ne_of_lt (Nat.lt_of_lt_of_le E_ob_26.lt (Nat.le_of_eq g30.symm))
      have ne_ob_27_b30 : ob_27 ≠ b30 := Nat.ne_of_lt (Nat.lt_of_lt_of_le E_ob_27.lt (Nat.le_of_eq g30.symm))
      have ne_ob_28_b30 : ob_28 ≠ b30 := Nat.ne_of_lt (Nat.lt_of_lt_of_le E_ob_28.lt (Nat.le_of_eq g30.symm))
      have ne_ob_29_b30 : ob_29 ≠ b30 := Nat.ne_of_lt (Nat.lt_of_lt_of_le E_ob_29.lt (Nat.le_of_eq g30.symm))
      have Zs30 : n0 ≤ h30.size := Nat.le_trans Zs29 E30.1
      have K30 : Keep h0 h30 [] := K29.ext E30
      refine Goes.by st30 ?_
      have O : Old Z n0 h30 := O.ext E30
      have E_ob_23 : Exa Z h30 ob_23 "java/lang/String" := E_ob_23.ext E30
      have E_ob_24 : Exa Z h30 ob_24 "java/lang/String" := E_ob_24.ext E30
      have E_ob_25 : Exa Z h30 ob_25 "java/lang/String" := E_ob_25.ext E30
      have E_ob_26 : Exa Z h30 ob_26 "java/lang/String" := E_ob_26.ext E30
      have E_ob_27 : Exa Z h30 ob_27 "java/lang/String" := E_ob_27.ext E30
      have E_ob_28 : Exa Z h30 ob_28 "java/lang/String" := E_ob_28.ext E30
      have E_ob_29 : Exa Z h30 ob_29 "java/lang/String" := E_ob_29.ext E30
      have E_b30 : Exa Z h30 b30 "org/unitspan/ead/DateElement" := A30
      have F_b30_line : Fld Z h30 b30 "org/unitspan/ead/DateElement" "line" "J" (.long (0 : Int64)) := D30 (Or.inr (hw _ (List.mem_of_getElem? (i := 47) rfl))) (ty := .long) (by decide)
      have F_b30_name : Fld Z h30 b30 "org/unitspan/ead/DateElement" "name" "Ljava/lang/String;" .null := D30 (Or.inr (hw _ (List.mem_of_getElem? (i := 49) rfl))) (ty := (.object "java/lang/String")) (by decide)
      have F_b30_text : Fld Z h30 b30 "org/unitspan/ead/DateElement" "text" "Ljava/lang/String;" .null := D30 (Or.inr (hw _ (List.mem_of_getElem? (i := 51) rfl))) (ty := (.object "java/lang/String")) (by decide)
      have F_b30_normal : Fld Z h30 b30 "org/unitspan/ead/DateElement" "normal" "Ljava/lang/String;" .null := D30 (Or.inr (hw _ (List.mem_of_getElem? (i := 53) rfl))) (ty := (.object "java/lang/String")) (by decide)
      have F_b30_unitdateType : Fld Z h30 b30 "org/unitspan/ead/DateElement" "unitdateType" "Ljava/lang/String;" .null := D30 (Or.inr (hw _ (List.mem_of_getElem? (i := 55) rfl))) (ty := (.object "java/lang/String")) (by decide)
      have F_b30_standardDate : Fld Z h30 b30 "org/unitspan/ead/DateElement" "standardDate" "Ljava/lang/String;" .null := D30 (Or.inr (hw _ (List.mem_of_getElem? (i := 57) rfl))) (ty := (.object "java/lang/String")) (by decide)
      have F_b30_notBefore : Fld Z h30 b30 "org/unitspan/ead/DateElement" "notBefore" "Ljava/lang/String;" .null := D30 (Or.inr (hw _ (List.mem_of_getElem? (i := 59) rfl))) (ty := (.object "java/lang/String")) (by decide)
      have F_b30_notAfter : Fld Z h30 b30 "org/unitspan/ead/DateElement" "notAfter" "Ljava/lang/String;" .null := D30 (Or.inr (hw _ (List.mem_of_getElem? (i := 61) rfl))) (ty := (.object "java/lang/String")) (by decide)
      have F_b30_rangeStart : Fld Z h30 b30 "org/unitspan/ead/DateElement" "rangeStart" "Ljava/lang/String;" .null := D30 (Or.inr (hw _ (List.mem_of_getElem? (i := 63) rfl))) (ty := (.object "java/lang/String")) (by decide)
      show Goes p.tables e below (T30.setTop (mkF m 117 #[.val (.long pl), .second, .val (.int pa), .val (.int pb), .val (.int pc0), .val (.int pf), .val (.int (1 : Int32)), .val (.int (0 : Int32)), .val (.ref ob_23), .val .null, .val (.ref ob_24), .val (.ref ob_25), .val (.ref ob_26), .val (.ref ob_27), .val (.ref ob_28), .val (.ref ob_29), .unset, .unset] [(.ref b30)])) _
      refine Goes.by (fun _ k => XS.dup X30.here hx rfl (hb hby at_117) rfl rfl k) ?_
      show Goes p.tables e below (T30.setTop (mkF m 118 #[.val (.long pl), .second, .val (.int pa), .val (.int pb), .val (.int pc0), .val (.int pf), .val (.int (1 : Int32)), .val (.int (0 : Int32)), .val (.ref ob_23), .val .null, .val (.ref ob_24), .val (.ref ob_25), .val (.ref ob_26), .val (.ref ob_27), .val (.ref ob_28), .val (.ref ob_29), .unset, .unset] [(.ref b30), (.ref b30)])) _
      refine Goes.by (fun _ k => XS.lloadN X30.here hx rfl (hb hby at_118) rfl k) ?_
      show Goes p.tables e below (T30.setTop (mkF m 119 #[.val (.long pl), .second, .val (.int pa), .val (.int pb), .val (.int pc0), .val (.int pf), .val (.int (1 : Int32)), .val (.int (0 : Int32)), .val (.ref ob_23), .val .null, .val (.ref ob_24), .val (.ref ob_25), .val (.ref ob_26), .val (.ref ob_27), .val (.ref ob_28), .val (.ref ob_29), .unset, .unset] [(.long pl), (.ref b30), (.ref b30)])) _
      refine Goes.by (fun _ k => XS.aload X30.here hx rfl (hb hby at_119) rfl rfl k) ?_
      show Goes p.tables e below (T30.setTop (mkF m 121 #[.val (.long pl), .second, .val (.int pa), .val (.int pb), .val (.int pc0), .val (.int pf), .val (.int (1 : Int32)), .val (.int (0 : Int32)), .val (.ref ob_23), .val .null, .val (.ref ob_24), .val (.ref ob_25), .val (.ref ob_26), .val (.ref ob_27), .val (.ref ob_28), .val (.ref ob_29), .unset, .unset] [(.ref ob_24), (.long pl), (.ref b30), (.ref b30)])) _
      refine Goes.by (fun _ k => XS.aload X30.here hx rfl (hb hby at_121) rfl rfl k) ?_
      show Goes p.tables e below (T30.setTop (mkF m 123 #[.val (.long pl), .second, .val (.int pa), .val (.int pb), .val (.int pc0), .val (.int pf), .val (.int (1 : Int32)), .val (.int (0 : Int32)), .val (.ref ob_23), .val .null, .val (.ref ob_24), .val (.ref ob_25), .val (.ref ob_26), .val (.ref ob_27), .val (.ref ob_28), .val (.ref ob_29), .unset, .unset] [(.ref ob_25), (.ref ob_24), (.long pl), (.ref b30), (.ref b30)])) _
      refine Goes.by (fun _ k => XS.aload X30.here hx rfl (hb hby at_123) rfl rfl k) ?_
      show Goes p.tables e below (T30.setTop (mkF m 125 #[.val (.long pl), .second, .val (.int pa), .val (.int pb), .val (.int pc0), .val (.int pf), .val (.int (1 : Int32)), .val (.int (0 : Int32)), .val (.ref ob_23), .val .null, .val (.ref ob_24), .val (.ref ob_25), .val (.ref ob_26), .val (.ref ob_27), .val (.ref ob_28), .val (.ref ob_29), .unset, .unset] [(.ref ob_23), (.ref ob_25), (.ref ob_24), (.long pl), (.ref b30), (.ref b30)])) _
      refine Goes.by (fun _ k => XS.aload X30.here hx rfl (hb hby at_125) rfl rfl k) ?_
      show Goes p.tables e below (T30.setTop (mkF m 127 #[.val (.long pl), .second, .val (.int pa), .val (.int pb), .val (.int pc0), .val (.int pf), .val (.int (1 : Int32)), .val (.int (0 : Int32)), .val (.ref ob_23), .val .null, .val (.ref ob_24), .val (.ref ob_25), .val (.ref ob_26), .val (.ref ob_27), .val (.ref ob_28), .val (.ref ob_29), .unset, .unset] [(.ref ob_26), (.ref ob_23), (.ref ob_25), (.ref ob_24), (.long pl), (.ref b30), (.ref b30)])) _
      refine Goes.by (fun _ k => XS.aload X30.here hx rfl (hb hby at_127) rfl rfl k) ?_
      show Goes p.tables e below (T30.setTop (mkF m 129 #[.val (.long pl), .second, .val (.int pa), .val (.int pb), .val (.int pc0), .val (.int pf), .val (.int (1 : Int32)), .val (.int (0 : Int32)), .val (.ref ob_23), .val .null, .val (.ref ob_24), .val (.ref ob_25), .val (.ref ob_26), .val (.ref ob_27), .val (.ref ob_28), .val (.ref ob_29), .unset, .unset] [.null, (.ref ob_26), (.ref ob_23), (.ref ob_25), (.ref ob_24), (.long pl), (.ref b30), (.ref b30)])) _
      refine Goes.by (fun _ k => XS.aload X30.here hx rfl (hb hby at_129) rfl rfl k) ?_
      show Goes p.tables e below (T30.setTop (mkF m 131 #[.val (.long pl), .second, .val (.int pa), .val (.int pb), .val (.int pc0), .val (.int pf), .val (.int (1 : Int32)), .val (.int (0 : Int32)), .val (.ref ob_23), .val .null, .val (.ref ob_24), .val (.ref ob_25), .val (.ref ob_26), .val (.ref ob_27), .val (.ref ob_28), .val (.ref ob_29), .unset, .unset] [(.ref ob_27), .null, (.ref ob_26), (.ref ob_23), (.ref ob_25), (.ref ob_24), (.long pl), (.ref b30), (.ref b30)])) _
      refine Goes.by (fun _ k => XS.aload X30.here hx rfl (hb hby at_131) rfl rfl k) ?_
      show Goes p.tables e below (T30.setTop (mkF m 133 #[.val (.long pl), .second, .val (.int pa), .val (.int pb), .val (.int pc0), .val (.int pf), .val (.int (1 : Int32)), .val (.int (0 : Int32)), .val (.ref ob_23), .val .null, .val (.ref ob_24), .val (.ref ob_25), .val (.ref ob_26), .val (.ref ob_27), .val (.ref ob_28), .val (.ref ob_29), .unset, .unset] [(.ref ob_28), (.ref ob_27), .null, (.ref ob_26), (.ref ob_23), (.ref ob_25), (.ref ob_24), (.long pl), (.ref b30), (.ref b30)])) _
      refine Goes.by (fun _ k => XS.aload X30.here hx rfl (hb hby at_133) rfl rfl k) ?_
      show Goes p.tables e below (T30.setTop (mkF m 135 #[.val (.long pl), .second, .val (.int pa), .val (.int pb), .val (.int pc0), .val (.int pf), .val (.int (1 : Int32)), .val (.int (0 : Int32)), .val (.ref ob_23), .val .null, .val (.ref ob_24), .val (.ref ob_25), .val (.ref ob_26), .val (.ref ob_27), .val (.ref ob_28), .val (.ref ob_29), .unset, .unset] [(.ref ob_29), (.ref ob_28), (.ref ob_27), .null, (.ref ob_26), (.ref ob_23), (.ref ob_25), (.ref ob_24), (.long pl), (.ref b30), (.ref b30)])) _
      obtain ⟨_, _, ⟨T31, L31, k31, n31⟩, -, X31, ⟨Lc31, hQ31, l31, y31, z31⟩, st31⟩ := X30.specialBack hx (y := (⟨"org/unitspan/ead/DateElement", "<init>", "(JLjava/lang/String;Ljava/lang/String;Ljava/lang/String;Ljava/lang/String;Ljava/lang/String;Ljava/lang/String;Ljava/lang/String;Ljava/lang/String;)V"⟩ : MethodName)) rfl hown (mvT hZ (hw _ (List.mem_of_getElem? (i := 37) rfl))) (mvT hZ (hw _ (List.mem_of_getElem? (i := 38) rfl))) (mvT hZ (hw _ (List.mem_of_getElem? (i := 39) rfl))) (by decide) (backOf (W := 1) (rm8rn l Z a0 hw [] b30 pl ob_24 ob_25 ob_23 ob_26 ob_27 ob_28 ob_29 h30 n0 Zs30 E_b30 F_b30_line F_b30_name F_b30_text F_b30_normal F_b30_unitdateType F_b30_standardDate F_b30_notBefore F_b30_notAfter F_b30_rangeStart g_b30) hZ (hw _ (List.mem_of_getElem? (i := 39) rfl)) (hw _ (List.mem_of_getElem? (i := 36) rfl)) (by decide) (by decide)) (g := (mkF m 135 #[.val (.long pl), .second, .val (.int pa), .val (.int pb), .val (.int pc0), .val (.int pf), .val (.int (1 : Int32)), .val (.int (0 : Int32)), .val (.ref ob_23), .val .null, .val (.ref ob_24), .val (.ref ob_25), .val (.ref ob_26), .val (.ref ob_27), .val (.ref ob_28), .val (.ref ob_29), .unset, .unset] [(.ref ob_29), (.ref ob_28), (.ref ob_27), .null, (.ref ob_26), (.ref ob_23), (.ref ob_25), (.ref ob_24), (.long pl), (.ref b30), (.ref b30)])) rfl (by rw [hml]; rfl) (Steps.refl _) (a := b30) (argsL := [(.long pl), (.ref ob_24), (.ref ob_25), (.ref ob_23), (.ref ob_26), .null, (.ref ob_27), (.ref ob_28), (.ref ob_29)]) (rest := [(.ref b30)]) (lenOf pd_3 rfl) rfl (by show 2 * 0 + (1 + 0) ≤ _; decide) (hb hby at_135) (fun _ _ => ⟨rfl, e30, (by decide : 22 + 0 ≤ _), (by decide : 65 + 0 ≤ _)⟩)
      dsimp only [Pt.U, Pt.locs, Pt.cells, Pt.slots] at X31 l31 y31 z31 st31 hQ31
      subst l31 y31 z31
      obtain ⟨rfl, N31q, Kq31, po31_0, po31_1, po31_2⟩ := hQ31
      have N31 := Fr.app N29 N31q
      refine Goes.via st31 ?_
      have Zs31 : n0 ≤ T31.heap.size := Nat.le_trans Zs30 Kq31.1
      have K31 : Keep h0 T31.heap [] := K30.trans Kq31 (allS (Or.inr sz_b30) all0)
      have O : Old Z n0 T31.heap := O.keep Kq31 (allS g_b30 all0)
      have E_ob_23 : Exa Z T31.heap ob_23 "java/lang/String" := E_ob_23.keep Kq31
      have E_ob_24 : Exa Z T31.heap ob_24 "java/lang/String" := E_ob_24.keep Kq31
      have E_ob_25 : Exa Z T31.heap ob_25 "java/lang/String" := E_ob_25.keep Kq31
      have E_ob_26 : Exa Z T31.heap ob_26 "java/lang/String" := E_ob_26.keep Kq31
      have E_ob_27 : Exa Z T31.heap ob_27 "java/lang/String" := E_ob_27.keep Kq31
      have E_ob_28 : Exa Z T31.heap ob_28 "java/lang/String" := E_ob_28.keep Kq31
      have E_ob_29 : Exa Z T31.heap ob_29 "java/lang/String" := E_ob_29.keep Kq31
      have E_b30 : Exa Z T31.heap b30 "org/unitspan/ead/DateElement" := E_b30.keep Kq31
      have E_b30 : Exa Z T31.heap b30 "org/unitspan/ead/DateElement" := po31_0
      have F_b30_normal : Fld Z T31.heap b30 "org/unitspan/ead/DateElement" "normal" "Ljava/lang/String;" (.ref ob_23) := po31_1
      have F_b30_standardDate : Fld Z T31.heap b30 "org/unitspan/ead/DateElement" "standardDate" "Ljava/lang/String;" .null := po31_2
      show Goes p.tables e below (T31.setTop (mkF m 138 #[.val (.long pl), .second, .val (.int pa), .val (.int pb), .val (.int pc0), .val (.int pf), .val (.int (1 : Int32)), .val (.int (0 : Int32)), .val (.ref ob_23), .val .null, .val (.ref ob_24), .val (.ref ob_25), .val (.ref ob_26), .val (.ref ob_27), .val (.ref ob_28), .val (.ref ob_29), .unset, .unset] [(.ref b30)])) _
      refine Goes.by (fun _ k => XS.astore X31.here hx rfl (hb hby at_138) rfl rfl (l' := #[.val (.long pl), .second, .val (.int pa), .val (.int pb), .val (.int pc0), .val (.int pf), .val (.int (1 : Int32)), .val (.int (0 : Int32)), .val (.ref ob_23), .val .null, .val (.ref ob_24), .val (.ref ob_25), .val (.ref ob_26), .val (.ref ob_27), .val (.ref ob_28), .val (.ref ob_29), .val (.ref b30), .unset]) rfl k) ?_
      show Goes p.tables e below (T31.setTop (mkF m 140 #[.val (.long pl), .second, .val (.int pa), .val (.int pb), .val (.int pc0), .val (.int pf), .val (.int (1 : Int32)), .val (.int (0 : Int32)), .val (.ref ob_23), .val .null, .val (.ref ob_24), .val (.ref ob_25), .val (.ref ob_26), .val (.ref ob_27), .val (.ref ob_28), .val (.ref ob_29), .val (.ref b30), .unset] [])) _
      refine Goes.by (fun _ k => XS.aload X31.here hx rfl (hb hby at_140) rfl rfl k) ?_
      show Goes p.tables e below (T31.setTop (mkF m 142 #[.val (.long pl), .second, .val (.int pa), .val (.int pb), .val (.int pc0), .val (.int pf), .val (.int (1 : Int32)), .val (.int (0 : Int32)), .val (.ref ob_23), .val .null, .val (.ref ob_24), .val (.ref ob_25), .val (.ref ob_26), .val (.ref ob_27), .val (.ref ob_28), .val (.ref ob_29), .val (.ref b30), .unset] [(.ref b30)])) _
      obtain ⟨cq32, kq32, q32a, q32b, q32c⟩ := isOf hZ rfl E_b30
      obtain ⟨_, _, ⟨T32, L32, k32, n32⟩, -, X32, ⟨Lc32, hQ32, l32, y32, z32⟩, st32⟩ := X31.virtualBack hx (y := (⟨"org/unitspan/ead/DateElement", "statedDate", "()Ljava/lang/String;"⟩ : MethodName)) (z := (⟨"org/unitspan/ead/DateElement", "statedDate", "()Ljava/lang/String;"⟩ : MethodName)) hown (mvT hZ (hw _ (List.mem_of_getElem? (i := 64) rfl))) (mvT hZ (hw _ (List.mem_of_getElem? (i := 65) rfl))) (notFace_of_selects (args := #[]) (mvT hZ (hw _ (List.mem_of_getElem? (i := 67) rfl)))) (mvT hZ (hw _ (List.mem_of_getElem? (i := 67) rfl))) (mvT hZ (hw _ (List.mem_of_getElem? (i := 66) rfl))) (by decide) (backOf (W := 0) (rm10rn l Z a0 hw [] b30 ob_23 T31.heap n0 Zs31 F_b30_normal F_b30_standardDate) hZ (hw _ (List.mem_of_getElem? (i := 68) rfl)) (hw _ (List.mem_of_getElem? (i := 36) rfl)) (by decide) (by decide)) q32a q32c (g := (mkF m 142 #[.val (.long pl), .second, .val (.int pa), .val (.int pb), .val (.int pc0), .val (.int pf), .val (.int (1 : Int32)), .val (.int (0 : Int32)), .val (.ref ob_23), .val .null, .val (.ref ob_24), .val (.ref ob_25), .val (.ref ob_26), .val (.ref ob_27), .val (.ref ob_28), .val (.ref ob_29), .val (.ref b30), .unset] [(.ref b30)])) rfl (by rw [hml]; rfl) (Steps.refl _) (argsL := []) (rest := []) (lenOf pd_4 rfl) rfl (by show 2 * 0 + _ ≤ _; exact Nat.le_of_eq rfl) (hb hby at_142) (fun _ _ => ⟨rfl, rfl, (by decide : 22 + 0 ≤ _), (by decide : 65 + 0 ≤ _)⟩)
      dsimp only [Pt.U, Pt.locs, Pt.cells, Pt.slots] at X32 l32 y32 z32 st32 hQ32
      subst l32 y32 z32
      obtain ⟨rfl, N32q, e32⟩ := hQ32
      have N32 := Fr.app N31 N32q
      refine Goes.via st32 ?_
      show Goes p.tables e below (T32.setTop (mkF m 145 #[.val (.long pl), .second, .val (.int pa), .val (.int pb), .val (.int pc0), .val (.int pf), .val (.int (1 : Int32)), .val (.int (0 : Int32)), .val (.ref ob_23), .val .null, .val (.ref ob_24), .val (.ref ob_25), .val (.ref ob_26), .val (.ref ob_27), .val (.ref ob_28), .val (.ref ob_29), .val (.ref b30), .unset] [(.ref ob_23)])) _
      refine Goes.by (fun _ k => XS.astore X32.here hx rfl (hb hby at_145) rfl rfl (l' := #[.val (.long pl), .second, .val (.int pa), .val (.int pb), .val (.int pc0), .val (.int pf), .val (.int (1 : Int32)), .val (.int (0 : Int32)), .val (.ref ob_23), .val .null, .val (.ref ob_24), .val (.ref ob_25), .val (.ref ob_26), .val (.ref ob_27), .val (.ref ob_28), .val (.ref ob_29), .val (.ref b30), .val (.ref ob_23)]) rfl k) ?_
      show Goes p.tables e below (T32.setTop (mkF m 147 #[.val (.long pl), .second, .val (.int pa), .val (.int pb), .val (.int pc0), .val (.int pf), .val (.int (1 : Int32)), .val (.int (0 : Int32)), .val (.ref ob_23), .val .null, .val (.ref ob_24), .val (.ref ob_25), .val (.ref ob_26), .val (.ref ob_27), .val (.ref ob_28), .val (.ref ob_29), .val (.ref b30), .val (.ref ob_23)] [])) _
      refine Goes.by (fun _ k => XS.iload X32.here hx rfl (hb hby at_147) rfl k) ?_
      show Goes p.tables e below (T32.setTop (mkF m 149 #[.val (.long pl), .second, .val (.int pa), .val (.int pb), .val (.int pc0), .val (.int pf), .val (.int (1 : Int32)), .val (.int (0 : Int32)), .val (.ref ob_23), .val .null, .val (.ref ob_24), .val (.ref ob_25), .val (.ref ob_26), .val (.ref ob_27), .val (.ref ob_28), .val (.ref ob_29), .val (.ref b30), .val (.ref ob_23)] [(.int (1 : Int32))])) _
      refine Goes.by (fun _ k => XS.ifNo X32.here hx rfl (hb hby at_149) rfl ((if0 _ _).trans (feq (by decide : ¬ ((1 : Int32) = (0 : Int32)))).1) k) ?_
      show Goes p.tables e below (T32.setTop (mkF m 152 #[.val (.long pl), .second, .val (.int pa), .val (.int pb), .val (.int pc0), .val (.int pf), .val (.int (1 : Int32)), .val (.int (0 : Int32)), .val (.ref ob_23), .val .null, .val (.ref ob_24), .val (.ref ob_25), .val (.ref ob_26), .val (.ref ob_27), .val (.ref ob_28), .val (.ref ob_29), .val (.ref b30), .val (.ref ob_23)] [])) _
      refine Goes.by (fun _ k => XS.aload X32.here hx rfl (hb hby at_152) rfl rfl k) ?_
      show Goes p.tables e below (T32.setTop (mkF m 154 #[.val (.long pl), .second, .val (.int pa), .val (.int pb), .val (.int pc0), .val (.int pf), .val (.int (1 : Int32)), .val (.int (0 : Int32)), .val (.ref ob_23), .val .null, .val (.ref ob_24), .val (.ref ob_25), .val (.ref ob_26), .val (.ref ob_27), .val (.ref ob_28), .val (.ref ob_29), .val (.ref b30), .val (.ref ob_23)] [(.ref ob_23)])) _
      refine Goes.by (fun _ k => XS.aload X32.here hx rfl (hb hby at_154) rfl rfl k) ?_
      show Goes p.tables e below (T32.setTop (mkF m 156 #[.val (.long pl), .second, .val (.int pa), .val (.int pb), .val (.int pc0), .val (.int pf), .val (.int (1 : Int32)), .val (.int (0 : Int32)), .val (.ref ob_23), .val .null, .val (.ref ob_24), .val (.ref ob_25), .val (.ref ob_26), .val (.ref ob_27), .val (.ref ob_28), .val (.ref ob_29), .val (.ref b30), .val (.ref ob_23)] [(.ref ob_23), (.ref ob_23)])) _
      refine Goes.by (fun _ k => Jvm.RoadKit.acmp (g := (mkF m 156 #[.val (.long pl), .second, .val (.int pa), .val (.int pb), .val (.int pc0), .val (.int pf), .val (.int (1 : Int32)), .val (.int (0 : Int32)), .val (.ref ob_23), .val .null, .val (.ref ob_24), .val (.ref ob_25), .val (.ref ob_26), .val (.ref ob_27), .val (.ref ob_28), .val (.ref ob_29), .val (.ref b30), .val (.ref ob_23)] [(.ref ob_23), (.ref ob_23)])) X32 hx rfl rfl rfl (pc0 := 156) (pc' := 159) (same := true) rfl (hb hby at_156) rfl (decide_eq_true rfl) (by decide) (by decide) k) ?_
      show Goes p.tables e below (T32.setTop (mkF m 159 #[.val (.long pl), .second, .val (.int pa), .val (.int pb), .val (.int pc0), .val (.int pf), .val (.int (1 : Int32)), .val (.int (0 : Int32)), .val (.ref ob_23), .val .null, .val (.ref ob_24), .val (.ref ob_25), .val (.ref ob_26), .val (.ref ob_27), .val (.ref ob_28), .val (.ref ob_29), .val (.ref b30), .val (.ref ob_23)] [])) _
      refine Goes.by (fun _ k => XS.iconst X32.here hx rfl (hb hby at_159) k) ?_
      show Goes p.tables e below (T32.setTop (mkF m 160 #[.val (.long pl), .second, .val (.int pa), .val (.int pb), .val (.int pc0), .val (.int pf), .val (.int (1 : Int32)), .val (.int (0 : Int32)), .val (.ref ob_23), .val .null, .val (.ref ob_24), .val (.ref ob_25), .val (.ref ob_26), .val (.ref ob_27), .val (.ref ob_28), .val (.ref ob_29), .val (.ref b30), .val (.ref ob_23)] [(.int (1 : Int32))])) _
      refine Goes.by (fun _ k => XS.goto X32.here hx rfl (pc0 := 160) (pc' := 164) rfl (hb hby at_160) (by decide) (by decide) k) ?_
      show Goes p.tables e below (T32.setTop (mkF m 164 #[.val (.long pl), .second, .val (.int pa), .val (.int pb), .val (.int pc0), .val (.int pf), .val (.int (1 : Int32)), .val (.int (0 : Int32)), .val (.ref ob_23), .val .null, .val (.ref ob_24), .val (.ref ob_25), .val (.ref ob_26), .val (.ref ob_27), .val (.ref ob_28), .val (.ref ob_29), .val (.ref b30), .val (.ref ob_23)] [(.int (1 : Int32))])) _
      obtain ⟨fs, hr, hrun, hended, hW, hsame⟩ := X32.leave (v := some (.int (1 : Int32))) (fun h => by rw [Bd.returns] at h; cases h)
      refine ⟨_, _, retN X32 hx (t := .boolean) Bd.returns (by simp) (hb hby at_164) hr, hrun, hended, _, _, rfl, ?_, ⟨_, rfl⟩, hW, hsame.mono (by decide) (by decide)⟩
      show Q0 Z pl pa pb pc0 pf zc h0 n0 _ T32.heap _
      rw [e32]
      exact ⟨rfl, N32⟩
    · refine Goes.by (fun _ k => XS.ifNo X0.here hx rfl (hb hby at_18) rfl ((if0 _ _).trans (feq hc22).1) k) ?_
      show Goes p.tables e below (s₁.setTop (mkF m 21 #[.val (.long pl), .second, .val (.int pa), .val (.int pb), .val (.int pc0), .val (.int pf), .val (.int (1 : Int32)), .unset, .unset, .unset, .unset, .unset, .unset, .unset, .unset, .unset, .unset, .unset] [])) _
      refine Goes.by (fun _ k => XS.iconst X0.here hx rfl (hb hby at_21) k) ?_
      show Goes p.tables e below (s₁.setTop (mkF m 22 #[.val (.long pl), .second, .val (.int pa), .val (.int pb), .val (.int pc0), .val (.int pf), .val (.int (1 : Int32)), .unset, .unset, .unset, .unset, .unset, .unset, .unset, .unset, .unset, .unset, .unset] [(.int (1 : Int32))])) _
      refine Goes.by (fun _ k => XS.goto X0.here hx rfl (pc0 := 22) (pc' := 26) rfl (hb hby at_22) (by decide) (by decide) k) ?_
      show Goes p.tables e below (s₁.setTop (mkF m 26 #[.val (.long pl), .second, .val (.int pa), .val (.int pb), .val (.int pc0), .val (.int pf), .val (.int (1 : Int32)), .unset, .unset, .unset, .unset, .unset, .unset, .unset, .unset, .unset, .unset, .unset] [(.int (1 : Int32))])) _
      refine Goes.by (fun _ k => XS.istore X0.here hx rfl (hb hby at_26) rfl (l' := #[.val (.long pl), .second, .val (.int pa), .val (.int pb), .val (.int pc0), .val (.int pf), .val (.int (1 : Int32)), .val (.int (1 : Int32)), .unset, .unset, .unset, .unset, .unset, .unset, .unset, .unset, .unset, .unset]) rfl k) ?_
      show Goes p.tables e below (s₁.setTop (mkF m 28 #[.val (.long pl), .second, .val (.int pa), .val (.int pb), .val (.int pc0), .val (.int pf), .val (.int (1 : Int32)), .val (.int (1 : Int32)), .unset, .unset, .unset, .unset, .unset, .unset, .unset, .unset, .unset, .unset] [])) _
      refine Goes.by (fun _ k => XS.iload X0.here hx rfl (hb hby at_28) rfl k) ?_
      show Goes p.tables e below (s₁.setTop (mkF m 30 #[.val (.long pl), .second, .val (.int pa), .val (.int pb), .val (.int pc0), .val (.int pf), .val (.int (1 : Int32)), .val (.int (1 : Int32)), .unset, .unset, .unset, .unset, .unset, .unset, .unset, .unset, .unset, .unset] [(.int (1 : Int32))])) _
      refine Goes.by (fun _ k => XS.ifNo X0.here hx rfl (hb hby at_30) rfl ((if0 _ _).trans (feq (by decide : ¬ ((1 : Int32) = (0 : Int32)))).1) k) ?_
      show Goes p.tables e below (s₁.setTop (mkF m 33 #[.val (.long pl), .second, .val (.int pa), .val (.int pb), .val (.int pc0), .val (.int pf), .val (.int (1 : Int32)), .val (.int (1 : Int32)), .unset, .unset, .unset, .unset, .unset, .unset, .unset, .unset, .unset, .unset] [])) _
      refine Goes.by (fun _ k => XS.iloadN X0.here hx rfl (hb hby at_33) rfl k) ?_
      show Goes p.tables e below (s₁.setTop (mkF m 34 #[.val (.long pl), .second, .val (.int pa), .val (.int pb), .val (.int pc0), .val (.int pf), .val (.int (1 : Int32)), .val (.int (1 : Int32)), .unset, .unset, .unset, .unset, .unset, .unset, .unset, .unset, .unset, .unset] [(.int pa)])) _
      obtain ⟨_, _, ⟨T33, L33, k33, n33⟩, -, X33, ⟨Lc33, hQ33, l33, y33, z33⟩, st33⟩ := Jvm.LawKit.callS X0 hx (y := (⟨"org/unitspan/ead/DateElementStatedDatePinLaw", "str", "(I)Ljava/lang/String;"⟩ : MethodName)) hown (mvT hZ (hw _ (List.mem_of_getElem? (i := 0) rfl))) (mvT hZ (hw _ (List.mem_of_getElem? (i := 1) rfl))) (mvT hZ (hw _ (List.mem_of_getElem? (i := 2) rfl))) (mvT hZ (hw _ (List.mem_of_getElem? (i := 3) rfl))) (by decide) (backOf (W := 0) (rm1 l Z a0 hw [] pa zc h0 n0 Z0 O S_cs hzc) hZ (hw _ (List.mem_of_getElem? (i := 3) rfl)) (hw _ (List.mem_of_getElem? (i := 2) rfl)) (by decide) (by decide)) (g := (mkF m 34 #[.val (.long pl), .second, .val (.int pa), .val (.int pb), .val (.int pc0), .val (.int pf), .val (.int (1 : Int32)), .val (.int (1 : Int32)), .unset, .unset, .unset, .unset, .unset, .unset, .unset, .unset, .unset, .unset] [(.int pa)])) rfl (by rw [hml]; rfl) (argsL := [(.int pa)]) (rest := []) (lenOf pd_2 rfl) rfl (by show 2 * 0 + _ ≤ _; exact Nat.le_of_eq rfl) (hb hby at_34) (fun _ _ => ⟨rfl, e0, (by decide : 0 + 3 ≤ _), (by decide : 0 + 8 ≤ _)⟩)
      dsimp only [Pt.U, Pt.locs, Pt.cells, Pt.slots] at X33 l33 y33 z33 st33 hQ33
      subst l33 y33 z33
      obtain ⟨ob_33, rfl, N33q, Kq33, po33_0, po33_1⟩ := hQ33
      have N33 := Fr.app N0 N33q
      refine Goes.by st33 ?_
      have Zs33 : n0 ≤ T33.heap.size := Nat.le_trans Z0 Kq33.1
      have K33 : Keep h0 T33.heap [] := (Keep.refl h0 []).trans Kq33 all0
      have sz_ob_33 : h0.size ≤ ob_33 := Nat.le_trans (Keep.refl h0 []).1 po33_1
      have g_ob_33 : n0 ≤ ob_33 := Nat.le_trans Z0 po33_1
      have O : Old Z n0 T33.heap := O.keep Kq33 all0
      have E_ob_33 : Exa Z T33.heap ob_33 "java/lang/String" := po33_0
      show Goes p.tables e below (T33.setTop (mkF m 37 #[.val (.long pl), .second, .val (.int pa), .val (.int pb), .val (.int pc0), .val (.int pf), .val (.int (1 : Int32)), .val (.int (1 : Int32)), .unset, .unset, .unset, .unset, .unset, .unset, .unset, .unset, .unset, .unset] [(.ref ob_33)])) _
      refine Goes.by (fun _ k => XS.goto X33.here hx rfl (pc0 := 37) (pc' := 41) rfl (hb hby at_37) (by decide) (by decide) k) ?_
      show Goes p.tables e below (T33.setTop (mkF m 41 #[.val (.long pl), .second, .val (.int pa), .val (.int pb), .val (.int pc0), .val (.int pf), .val (.int (1 : Int32)), .val (.int (1 : Int32)), .unset, .unset, .unset, .unset, .unset, .unset, .unset, .unset, .unset, .unset] [(.ref ob_33)])) _
      refine Goes.by (fun _ k => XS.astore X33.here hx rfl (hb hby at_41) rfl rfl (l' := #[.val (.long pl), .second, .val (.int pa), .val (.int pb), .val (.int pc0), .val (.int pf), .val (.int (1 : Int32)), .val (.int (1 : Int32)), .val (.ref ob_33), .unset, .unset, .unset, .unset, .unset, .unset, .unset, .unset, .unset]) rfl k) ?_
      show Goes p.tables e below (T33.setTop (mkF m 43 #[.val (.long pl), .second, .val (.int pa), .val (.int pb), .val (.int pc0), .val (.int pf), .val (.int (1 : Int32)), .val (.int (1 : Int32)), .val (.ref ob_33), .unset, .unset, .unset, .unset, .unset, .unset, .unset, .unset, .unset] [])) _
      refine Goes.by (fun _ k => XS.iload X33.here hx rfl (hb hby at_43) rfl k) ?_
      show Goes p.tables e below (T33.setTop (mkF m 45 #[.val (.long pl), .second, .val (.int pa), .val (.int pb), .val (.int pc0), .val (.int pf), .val (.int (1 : Int32)), .val (.int (1 : Int32)), .val (.ref ob_33), .unset, .unset, .unset, .unset, .unset, .unset, .unset, .unset, .unset] [(.int (1 : Int32))])) _
      refine Goes.by (fun _ k => XS.ifNo X33.here hx rfl (hb hby at_45) rfl ((if0 _ _).trans (feq (by decide : ¬ ((1 : Int32) = (0 : Int32)))).1) k) ?_
      show Goes p.tables e below (T33.setTop (mkF m 48 #[.val (.long pl), .second, .val (.int pa), .val (.int pb), .val (.int pc0), .val (.int pf), .val (.int (1 : Int32)), .val (.int (1 : Int32)), .val (.ref ob_33), .unset, .unset, .unset, .unset, .unset, .unset, .unset, .unset, .unset] [])) _
      refine Goes.by (fun _ k => XS.iloadN X33.here hx rfl (hb hby at_48) rfl k) ?_
      show Goes p.tables e below (T33.setTop (mkF m 49 #[.val (.long pl), .second, .val (.int pa), .val (.int pb), .val (.int pc0), .val (.int pf), .val (.int (1 : Int32)), .val (.int (1 : Int32)), .val (.ref ob_33), .unset, .unset, .unset, .unset, .unset, .unset, .unset, .unset, .unset] [(.int pb)])) _
      obtain ⟨_, _, ⟨T34, L34, k34, n34⟩, -, X34, ⟨Lc34, hQ34, l34, y34, z34⟩, st34⟩ := Jvm.LawKit.callS X33 hx (y := (⟨"org/unitspan/ead/DateElementStatedDatePinLaw", "str", "(I)Ljava/lang/String;"⟩ : MethodName)) hown (mvT hZ (hw _ (List.mem_of_getElem? (i := 0) rfl))) (mvT hZ (hw _ (List.mem_of_getElem? (i := 1) rfl))) (mvT hZ (hw _ (List.mem_of_getElem? (i := 2) rfl))) (mvT hZ (hw _ (List.mem_of_getElem? (i := 3) rfl))) (by decide) (backOf (W := 0) (rm1 l Z a0 hw [] pb zc T33.heap n0 Zs33 O S_cs hzc) hZ (hw _ (List.mem_of_getElem? (i := 3) rfl)) (hw _ (List.mem_of_getElem? (i := 2) rfl)) (by decide) (by decide)) (g := (mkF m 49 #[.val (.long pl), .second, .val (.int pa), .val (.int pb), .val (.int pc0), .val (.int pf), .val (.int (1 : Int32)), .val (.int (1 : Int32)), .val (.ref ob_33), .unset, .unset, .unset, .unset, .unset, .unset, .unset, .unset, .unset] [(.int pb)])) rfl (by rw [hml]; rfl) (argsL := [(.int pb)]) (rest := []) (lenOf pd_2 rfl) rfl (by show 2 * 0 + _ ≤ _; exact Nat.le_of_eq rfl) (hb hby at_49) (fun _ _ => ⟨rfl, rfl, (by decide : 3 + 3 ≤ _), (by decide : 8 + 8 ≤ _)⟩)
      dsimp only [Pt.U, Pt.locs, Pt.cells, Pt.slots] at X34 l34 y34 z34 st34 hQ34
      subst l34 y34 z34
      obtain ⟨ob_34, rfl, N34q, Kq34, po34_0, po34_1⟩ := hQ34
      have N34 := Fr.app N33 N34q
      refine Goes.by st34 ?_
      have Zs34 : n0 ≤ T34.heap.size := Nat.le_trans Zs33 Kq34.1
      have K34 : Keep h0 T34.heap [] := K33.trans Kq34 all0
      have lt34_ob_33 := E_ob_33.lt
      have sz_ob_34 : h0.size ≤ ob_34 := Nat.le_trans K33.1 po34_1
      have g_ob_34 : n0 ≤ ob_34 := Nat.le_trans Zs33 po34_1
      have ne_ob_33_ob_34 : ob_33 ≠ ob_34 := Nat.ne_of_lt (Nat.lt_of_lt_of_le lt34_ob_33 po34_1)
      have O : Old Z n0 T34.heap := O.keep Kq34 all0
      have E_ob_33 : Exa Z T34.heap ob_33 "java/lang/String" := E_ob_33.keep Kq34
      have E_ob_34 : Exa Z T34.heap ob_34 "java/lang/String" := po34_0
      show Goes p.tables e below (T34.setTop (mkF m 52 #[.val (.long pl), .second, .val (.int pa), .val (.int pb), .val (.int pc0), .val (.int pf), .val (.int (1 : Int32)), .val (.int (1 : Int32)), .val (.ref ob_33), .unset, .unset, .unset, .unset, .unset, .unset, .unset, .unset, .unset] [(.ref ob_34)])) _
      refine Goes.by (fun _ k => XS.goto X34.here hx rfl (pc0 := 52) (pc' := 56) rfl (hb hby at_52) (by decide) (by decide) k) ?_
      show Goes p.tables e below (T34.setTop (mkF m 56 #[.val (.long pl), .second, .val (.int pa), .val (.int pb), .val (.int pc0), .val (.int pf), .val (.int (1 : Int32)), .val (.int (1 : Int32)), .val (.ref ob_33), .unset, .unset, .unset, .unset, .unset, .unset, .unset, .unset, .unset] [(.ref ob_34)])) _
      refine Goes.by (fun _ k => XS.astore X34.here hx rfl (hb hby at_56) rfl rfl (l' := #[.val (.long pl), .second, .val (.int pa), .val (.int pb), .val (.int pc0), .val (.int pf), .val (.int (1 : Int32)), .val (.int (1 : Int32)), .val (.ref ob_33), .val (.ref ob_34), .unset, .unset, .unset, .unset, .unset, .unset, .unset, .unset]) rfl k) ?_
      show Goes p.tables e below (T34.setTop (mkF m 58 #[.val (.long pl), .second, .val (.int pa), .val (.int pb), .val (.int pc0), .val (.int pf), .val (.int (1 : Int32)), .val (.int (1 : Int32)), .val (.ref ob_33), .val (.ref ob_34), .unset, .unset, .unset, .unset, .unset, .unset, .unset, .unset] [])) _
      refine Goes.by (fun _ k => XS.iload X34.here hx rfl (hb hby at_58) rfl k) ?_
      show Goes p.tables e below (T34.setTop (mkF m 60 #[.val (.long pl), .second, .val (.int pa), .val (.int pb), .val (.int pc0), .val (.int pf), .val (.int (1 : Int32)), .val (.int (1 : Int32)), .val (.ref ob_33), .val (.ref ob_34), .unset, .unset, .unset, .unset, .unset, .unset, .unset, .unset] [(.int pc0)])) _
      obtain ⟨_, _, ⟨T35, L35, k35, n35⟩, -, X35, ⟨Lc35, hQ35, l35, y35, z35⟩, st35⟩ := Jvm.LawKit.callS X34 hx (y := (⟨"org/unitspan/ead/DateElementStatedDatePinLaw", "str", "(I)Ljava/lang/String;"⟩ : MethodName)) hown (mvT hZ (hw _ (List.mem_of_getElem? (i := 0) rfl))) (mvT hZ (hw _ (List.mem_of_getElem? (i := 1) rfl))) (mvT hZ (hw _ (List.mem_of_getElem? (i := 2) rfl))) (mvT hZ (hw _ (List.mem_of_getElem? (i := 3) rfl))) (by decide) (backOf (W := 0) (rm1 l Z a0 hw [] pc0 zc T34.heap n0 Zs34 O S_cs hzc) hZ (hw _ (List.mem_of_getElem? (i := 3) rfl)) (hw _ (List.mem_of_getElem? (i := 2) rfl)) (by decide) (by decide)) (g := (mkF m 60 #[.val (.long pl), .second, .val (.int pa), .val (.int pb), .val (.int pc0), .val (.int pf), .val (.int (1 : Int32)), .val (.int (1 : Int32)), .val (.ref ob_33), .val (.ref ob_34), .unset, .unset, .unset, .unset, .unset, .unset, .unset, .unset] [(.int pc0)])) rfl (by rw [hml]; rfl) (argsL := [(.int pc0)]) (rest := []) (lenOf pd_2 rfl) rfl (by show 2 * 0 + _ ≤ _; exact Nat.le_of_eq rfl) (hb hby at_60) (fun _ _ => ⟨rfl, rfl, (by decide : 6 + 3 ≤ _), (by decide : 16 + 8 ≤ _)⟩)
      dsimp only [Pt.U, Pt.locs, Pt.cells, Pt.slots] at X35 l35 y35 z35 st35 hQ35
      subst l35 y35 z35
      obtain ⟨ob_35, rfl, N35q, Kq35, po35_0, po35_1⟩ := hQ35
      have N35 := Fr.app N34 N35q
      refine Goes.by st35 ?_
      have Zs35 : n0 ≤ T35.heap.size := Nat.le_trans Zs34 Kq35.1
      have K35 : Keep h0 T35.heap [] := K34.trans Kq35 all0
      have lt35_ob_33 := E_ob_33.lt
      have lt35_ob_34 := E_ob_34.lt
      have sz_ob_35 : h0.size ≤ ob_35 := Nat.le_trans K34.1 po35_1
      have g_ob_35 : n0 ≤ ob_35 := Nat.le_trans Zs34 po35_1
      have ne_ob_33_ob_35 : ob_33 ≠ ob_35 := Nat.ne_of_lt (Nat.lt_of_lt_of_le lt35_ob_33 po35_1)
      have ne_ob_34_ob_35 : ob_34 ≠ ob_35 := Nat.ne_of_lt (Nat.lt_of_lt_of_le lt35_ob_34 po35_1)
      have O : Old Z n0 T35.heap := O.keep Kq35 all0
      have E_ob_33 : Exa Z T35.heap ob_33 "java/lang/String" := E_ob_33.keep Kq35
      have E_ob_34 : Exa Z T35.heap ob_34 "java/lang/String" := E_ob_34.keep Kq35
      have E_ob_35 : Exa Z T35.heap ob_35 "java/lang/String" := po35_0
      show Goes p.tables e below (T35.setTop (mkF m 63 #[.val (.long pl), .second, .val (.int pa), .val (.int pb), .val (.int pc0), .val (.int pf), .val (.int (1 : Int32)), .val (.int (1 : Int32)), .val (.ref ob_33), .val (.ref ob_34), .unset, .unset, .unset, .unset, .unset, .unset, .unset, .unset] [(.ref ob_35)])) _
      refine Goes.by (fun _ k => XS.astore X35.here hx rfl (hb hby at_63) rfl rfl (l' := #[.val (.long pl), .second, .val (.int pa), .val (.int pb), .val (.int pc0), .val (.int pf), .val (.int (1 : Int32)), .val (.int (1 : Int32)), .val (.ref ob_33), .val (.ref ob_34), .val (.ref ob_35), .unset, .unset, .unset, .unset, .unset, .unset, .unset]) rfl k) ?_
      show Goes p.tables e below (T35.setTop (mkF m 65 #[.val (.long pl), .second, .val (.int pa), .val (.int pb), .val (.int pc0), .val (.int pf), .val (.int (1 : Int32)), .val (.int (1 : Int32)), .val (.ref ob_33), .val (.ref ob_34), .val (.ref ob_35), .unset, .unset, .unset, .unset, .unset, .unset, .unset] [])) _
      refine Goes.by (fun _ k => XS.iload X35.here hx rfl (hb hby at_65) rfl k) ?_
      show Goes p.tables e below (T35.setTop (mkF m 67 #[.val (.long pl), .second, .val (.int pa), .val (.int pb), .val (.int pc0), .val (.int pf), .val (.int (1 : Int32)), .val (.int (1 : Int32)), .val (.ref ob_33), .val (.ref ob_34), .val (.ref ob_35), .unset, .unset, .unset, .unset, .unset, .unset, .unset] [(.int pc0)])) _
      refine Goes.by (fun _ k => XS.bipush X35.here hx rfl (hb hby at_67) k) ?_
      show Goes p.tables e below (T35.setTop (mkF m 69 #[.val (.long pl), .second, .val (.int pa), .val (.int pb), .val (.int pc0), .val (.int pf), .val (.int (1 : Int32)), .val (.int (1 : Int32)), .val (.ref ob_33), .val (.ref ob_34), .val (.ref ob_35), .unset, .unset, .unset, .unset, .unset, .unset, .unset] [(.int (16 : Int32)), (.int pc0)])) _
      refine Goes.by (fun _ k => XS.iushr X35.here hx rfl (hb hby at_69) rfl k) ?_
      show Goes p.tables e below (T35.setTop (mkF m 70 #[.val (.long pl), .second, .val (.int pa), .val (.int pb), .val (.int pc0), .val (.int pf), .val (.int (1 : Int32)), .val (.int (1 : Int32)), .val (.ref ob_33), .val (.ref ob_34), .val (.ref ob_35), .unset, .unset, .unset, .unset, .unset, .unset, .unset] [(.int ((pc0.toUInt32 >>> ((16 : Int32) &&& 31).toUInt32).toInt32))])) _
      obtain ⟨_, _, ⟨T36, L36, k36, n36⟩, -, X36, ⟨Lc36, hQ36, l36, y36, z36⟩, st36⟩ := Jvm.LawKit.callS X35 hx (y := (⟨"org/unitspan/ead/DateElementStatedDatePinLaw", "str", "(I)Ljava/lang/String;"⟩ : MethodName)) hown (mvT hZ (hw _ (List.mem_of_getElem? (i := 0) rfl))) (mvT hZ (hw _ (List.mem_of_getElem? (i := 1) rfl))) (mvT hZ (hw _ (List.mem_of_getElem? (i := 2) rfl))) (mvT hZ (hw _ (List.mem_of_getElem? (i := 3) rfl))) (by decide) (backOf (W := 0) (rm1 l Z a0 hw [] ((pc0.toUInt32 >>> ((16 : Int32) &&& 31).toUInt32).toInt32) zc T35.heap n0 Zs35 O S_cs hzc) hZ (hw _ (List.mem_of_getElem? (i := 3) rfl)) (hw _ (List.mem_of_getElem? (i := 2) rfl)) (by decide) (by decide)) (g := (mkF m 70 #[.val (.long pl), .second, .val (.int pa), .val (.int pb), .val (.int pc0), .val (.int pf), .val (.int (1 : Int32)), .val (.int (1 : Int32)), .val (.ref ob_33), .val (.ref ob_34), .val (.ref ob_35), .unset, .unset, .unset, .unset, .unset, .unset, .unset] [(.int ((pc0.toUInt32 >>> ((16 : Int32) &&& 31).toUInt32).toInt32))])) rfl (by rw [hml]; rfl) (argsL := [(.int ((pc0.toUInt32 >>> ((16 : Int32) &&& 31).toUInt32).toInt32))]) (rest := []) (lenOf pd_2 rfl) rfl (by show 2 * 0 + _ ≤ _; exact Nat.le_of_eq rfl) (hb hby at_70) (fun _ _ => ⟨rfl, rfl, (by decide : 9 + 3 ≤ _), (by decide : 24 + 8 ≤ _)⟩)
      dsimp only [Pt.U, Pt.locs, Pt.cells, Pt.slots] at X36 l36 y36 z36 st36 hQ36
      subst l36 y36 z36
      obtain ⟨ob_36, rfl, N36q, Kq36, po36_0, po36_1⟩ := hQ36
      have N36 := Fr.app N35 N36q
      refine Goes.by st36 ?_
      have Zs36 : n0 ≤ T36.heap.size := Nat.le_trans Zs35 Kq36.1
      have K36 : Keep h0 T36.heap [] := K35.trans Kq36 all0
      have lt36_ob_33 := E_ob_33.lt
      have lt36_ob_34 := E_ob_34.lt
      have lt36_ob_35 := E_ob_35.lt
      have sz_ob_36 : h0.size ≤ ob_36 := Nat.le_trans K35.1 po36_1
      have g_ob_36 : n0 ≤ ob_36 := Nat.le_trans Zs35 po36_1
      have ne_ob_33_ob_36 : ob_33 ≠ ob_36 := Nat.ne_of_lt (Nat.lt_of_lt_of_le lt36_ob_33 po36_1)
      have ne_ob_34_ob_36 : ob_34 ≠ ob_36 := Nat.ne_of_lt (Nat.lt_of_lt_of_le lt36_ob_34 po36_1)
      have ne_ob_35_ob_36 : ob_35 ≠ ob_36 := Nat.ne_of_lt (Nat.lt_of_lt_of_le lt36_ob_35 po36_1)
      have O : Old Z n0 T36.heap := O.keep Kq36 all0
      have E_ob_33 : Exa Z T36.heap ob_33 "java/lang/String" := E_ob_33.keep Kq36
      have E_ob_34 : Exa Z T36.heap ob_34 "java/lang/String" := E_ob_34.keep Kq36
      have E_ob_35 : Exa Z T36.heap ob_35 "java/lang/String" := E_ob_35.keep Kq36
      have E_ob_36 : Exa Z T36.heap ob_36 "java/lang/String" := po36_0
      show Goes p.tables e below (T36.setTop (mkF m 73 #[.val (.long pl), .second, .val (.int pa), .val (.int pb), .val (.int pc0), .val (.int pf), .val (.int (1 : Int32)), .val (.int (1 : Int32)), .val (.ref ob_33), .val (.ref ob_34), .val (.ref ob_35), .unset, .unset, .unset, .unset, .unset, .unset, .unset] [(.ref ob_36)])) _
      refine Goes.by (fun _ k => XS.astore X36.here hx rfl (hb hby at_73) rfl rfl (l' := #[.val (.long pl), .second, .val (.int pa), .val (.int pb), .val (.int pc0), .val (.int pf), .val (.int (1 : Int32)), .val (.int (1 : Int32)), .val (.ref ob_33), .val (.ref ob_34), .val (.ref ob_35), .val (.ref ob_36), .unset, .unset, .unset, .unset, .unset, .unset]) rfl k) ?_
      show Goes p.tables e below (T36.setTop (mkF m 75 #[.val (.long pl), .second, .val (.int pa), .val (.int pb), .val (.int pc0), .val (.int pf), .val (.int (1 : Int32)), .val (.int (1 : Int32)), .val (.ref ob_33), .val (.ref ob_34), .val (.ref ob_35), .val (.ref ob_36), .unset, .unset, .unset, .unset, .unset, .unset] [])) _
      refine Goes.by (fun _ k => XS.iload X36.here hx rfl (hb hby at_75) rfl k) ?_
      show Goes p.tables e below (T36.setTop (mkF m 77 #[.val (.long pl), .second, .val (.int pa), .val (.int pb), .val (.int pc0), .val (.int pf), .val (.int (1 : Int32)), .val (.int (1 : Int32)), .val (.ref ob_33), .val (.ref ob_34), .val (.ref ob_35), .val (.ref ob_36), .unset, .unset, .unset, .unset, .unset, .unset] [(.int pc0)])) _
      refine Goes.by (fun _ k => XS.sipush X36.here hx rfl (hb hby at_77) k) ?_
      show Goes p.tables e below (T36.setTop (mkF m 80 #[.val (.long pl), .second, .val (.int pa), .val (.int pb), .val (.int pc0), .val (.int pf), .val (.int (1 : Int32)), .val (.int (1 : Int32)), .val (.ref ob_33), .val (.ref ob_34), .val (.ref ob_35), .val (.ref ob_36), .unset, .unset, .unset, .unset, .unset, .unset] [(.int (23130 : Int32)), (.int pc0)])) _
      refine Goes.by (fun _ k => XS.ixor X36.here hx rfl (hb hby at_80) rfl k) ?_
      show Goes p.tables e below (T36.setTop (mkF m 81 #[.val (.long pl), .second, .val (.int pa), .val (.int pb), .val (.int pc0), .val (.int pf), .val (.int (1 : Int32)), .val (.int (1 : Int32)), .val (.ref ob_33), .val (.ref ob_34), .val (.ref ob_35), .val (.ref ob_36), .unset, .unset, .unset, .unset, .unset, .unset] [(.int (pc0 ^^^ (23130 : Int32)))])) _
      obtain ⟨_, _, ⟨T37, L37, k37, n37⟩, -, X37, ⟨Lc37, hQ37, l37, y37, z37⟩, st37⟩ := Jvm.LawKit.callS X36 hx (y := (⟨"org/unitspan/ead/DateElementStatedDatePinLaw", "str", "(I)Ljava/lang/String;"⟩ : MethodName)) hown (mvT hZ (hw _ (List.mem_of_getElem? (i := 0) rfl))) (mvT hZ (hw _ (List.mem_of_getElem? (i := 1) rfl))) (mvT hZ (hw _ (List.mem_of_getElem? (i := 2) rfl))) (mvT hZ (hw _ (List.mem_of_getElem? (i := 3) rfl))) (by decide) (backOf (W := 0) (rm1 l Z a0 hw [] (pc0 ^^^ (23130 : Int32)) zc T36.heap n0 Zs36 O S_cs hzc) hZ (hw _ (List.mem_of_getElem? (i := 3) rfl)) (hw _ (List.mem_of_getElem? (i := 2) rfl)) (by decide) (by decide)) (g := (mkF m 81 #[.val (.long pl), .second, .val (.int pa), .val (.int pb), .val (.int pc0), .val (.int pf), .val (.int (1 : Int32)), .val (.int (1 : Int32)), .val (.ref ob_33), .val (.ref ob_34), .val (.ref ob_35), .val (.ref ob_36), .unset, .unset, .unset, .unset, .unset, .unset] [(.int (pc0 ^^^ (23130 : Int32)))])) rfl (by rw [hml]; rfl) (argsL := [(.int (pc0 ^^^ (23130 : Int32)))]) (rest := []) (lenOf pd_2 rfl) rfl (by show 2 * 0 + _ ≤ _; exact Nat.le_of_eq rfl) (hb hby at_81) (fun _ _ => ⟨rfl, rfl, (by decide : 12 + 3 ≤ _), (by decide : 32 + 8 ≤ _)⟩)
      dsimp only [Pt.U, Pt.locs, Pt.cells, Pt.slots] at X37 l37 y37 z37 st37 hQ37
      subst l37 y37 z37
      obtain ⟨ob_37, rfl, N37q, Kq37, po37_0, po37_1⟩ := hQ37
      have N37 := Fr.app N36 N37q
      refine Goes.by st37 ?_
      have Zs37 : n0 ≤ T37.heap.size := Nat.le_trans Zs36 Kq37.1
      have K37 : Keep h0 T37.heap [] := K36.trans Kq37 all0
      have lt37_ob_33 := E_ob_33.lt
      have lt37_ob_34 := E_ob_34.lt
      have lt37_ob_35 := E_ob_35.lt
      have lt37_ob_36 := E_ob_36.lt
      have sz_ob_37 : h0.size ≤ ob_37 := Nat.le_trans K36.1 po37_1
      have g_ob_37 : n0 ≤ ob_37 := Nat.le_trans Zs36 po37_1
      have ne_ob_33_ob_37 : ob_33 ≠ ob_37 := Nat.ne_of_lt (Nat.lt_of_lt_of_le lt37_ob_33 po37_1)
      have ne_ob_34_ob_37 : ob_34 ≠ ob_37 := Nat.ne_of_lt (Nat.lt_of_lt_of_le lt37_ob_34 po37_1)
      have ne_ob_35_ob_37 : ob_35 ≠ ob_37 := Nat.ne_of_lt (Nat.lt_of_lt_of_le lt37_ob_35 po37_1)
      have ne_ob_36_ob_37 : ob_36 ≠ ob_37 := Nat.ne_of_lt (Nat.lt_of_lt_of_le lt37_ob_36 po37_1)
      have O : Old Z n0 T37.heap := O.keep Kq37 all0
      have E_ob_33 : Exa Z T37.heap ob_33 "java/lang/String" := E_ob_33.keep Kq37
      have E_ob_34 : Exa Z T37.heap ob_34 "java/lang/String" := E_ob_34.keep Kq37
      have E_ob_35 : Exa Z T37.heap ob_35 "java/lang/String" := E_ob_35.keep Kq37
      have E_ob_36 : Exa Z T37.heap ob_36 "java/lang/String" := E_ob_36.keep Kq37
      have E_ob_37 : Exa Z T37.heap ob_37 "java/lang/String" := po37_0
      show Goes p.tables e below (T37.setTop (mkF m 84 #[.val (.long pl), .second, .val (.int pa), .val (.int pb), .val (.int pc0), .val (.int pf), .val (.int (1 : Int32)), .val (.int (1 : Int32)), .val (.ref ob_33), .val (.ref ob_34), .val (.ref ob_35), .val (.ref ob_36), .unset, .unset, .unset, .unset, .unset, .unset] [(.ref ob_37)])) _
      refine Goes.by (fun _ k => XS.astore X37.here hx rfl (hb hby at_84) rfl rfl (l' := #[.val (.long pl), .second, .val (.int pa), .val (.int pb), .val (.int pc0), .val (.int pf), .val (.int (1 : Int32)), .val (.int (1 : Int32)), .val (.ref ob_33), .val (.ref ob_34), .val (.ref ob_35), .val (.ref ob_36), .val (.ref ob_37), .unset, .unset, .unset, .unset, .unset]) rfl k) ?_
      show Goes p.tables e below (T37.setTop (mkF m 86 #[.val (.long pl), .second, .val (.int pa), .val (.int pb), .val (.int pc0), .val (.int pf), .val (.int (1 : Int32)), .val (.int (1 : Int32)), .val (.ref ob_33), .val (.ref ob_34), .val (.ref ob_35), .val (.ref ob_36), .val (.ref ob_37), .unset, .unset, .unset, .unset, .unset] [])) _
      refine Goes.by (fun _ k => XS.iload X37.here hx rfl (hb hby at_86) rfl k) ?_
      show Goes p.tables e below (T37.setTop (mkF m 88 #[.val (.long pl), .second, .val (.int pa), .val (.int pb), .val (.int pc0), .val (.int pf), .val (.int (1 : Int32)), .val (.int (1 : Int32)), .val (.ref ob_33), .val (.ref ob_34), .val (.ref ob_35), .val (.ref ob_36), .val (.ref ob_37), .unset, .unset, .unset, .unset, .unset] [(.int pc0)])) _
      refine Goes.by (fun _ k => XS.iconst X37.here hx rfl (hb hby at_88) k) ?_
      show Goes p.tables e below (T37.setTop (mkF m 89 #[.val (.long pl), .second, .val (.int pa), .val (.int pb), .val (.int pc0), .val (.int pf), .val (.int (1 : Int32)), .val (.int (1 : Int32)), .val (.ref ob_33), .val (.ref ob_34), .val (.ref ob_35), .val (.ref ob_36), .val (.ref ob_37), .unset, .unset, .unset, .unset, .unset] [(.int (-1 : Int32)), (.int pc0)])) _
      refine Goes.by (fun _ k => XS.ixor X37.here hx rfl (hb hby at_89) rfl k) ?_
      show Goes p.tables e below (T37.setTop (mkF m 90 #[.val (.long pl), .second, .val (.int pa), .val (.int pb), .val (.int pc0), .val (.int pf), .val (.int (1 : Int32)), .val (.int (1 : Int32)), .val (.ref ob_33), .val (.ref ob_34), .val (.ref ob_35), .val (.ref ob_36), .val (.ref ob_37), .unset, .unset, .unset, .unset, .unset] [(.int (pc0 ^^^ (-1 : Int32)))])) _
      obtain ⟨_, _, ⟨T38, L38, k38, n38⟩, -, X38, ⟨Lc38, hQ38, l38, y38, z38⟩, st38⟩ := Jvm.LawKit.callS X37 hx (y := (⟨"org/unitspan/ead/DateElementStatedDatePinLaw", "str", "(I)Ljava/lang/String;"⟩ : MethodName)) hown (mvT hZ (hw _ (List.mem_of_getElem? (i := 0) rfl))) (mvT hZ (hw _ (List.mem_of_getElem? (i := 1) rfl))) (mvT hZ (hw _ (List.mem_of_getElem? (i := 2) rfl))) (mvT hZ (hw _ (List.mem_of_getElem? (i := 3) rfl))) (by decide) (backOf (W := 0) (rm1 l Z a0 hw [] (pc0 ^^^ (-1 : Int32)) zc T37.heap n0 Zs37 O S_cs hzc) hZ (hw _ (List.mem_of_getElem? (i := 3) rfl)) (hw _ (List.mem_of_getElem? (i := 2) rfl)) (by decide) (by decide)) (g := (mkF m 90 #[.val (.long pl), .second, .val (.int pa), .val (.int pb), .val (.int pc0), .val (.int pf), .val (.int (1 : Int32)), .val (.int (1 : Int32)), .val (.ref ob_33), .val (.ref ob_34), .val (.ref ob_35), .val (.ref ob_36), .val (.ref ob_37), .unset, .unset, .unset, .unset, .unset] [(.int (pc0 ^^^ (-1 : Int32)))])) rfl (by rw [hml]; rfl) (argsL := [(.int (pc0 ^^^ (-1 : Int32)))]) (rest := []) (lenOf pd_2 rfl) rfl (by show 2 * 0 + _ ≤ _; exact Nat.le_of_eq rfl) (hb hby at_90) (fun _ _ => ⟨rfl, rfl, (by decide : 15 + 3 ≤ _), (by decide : 40 + 8 ≤ _)⟩)
      dsimp only [Pt.U, Pt.locs, Pt.cells, Pt.slots] at X38 l38 y38 z38 st38 hQ38
      subst l38 y38 z38
      obtain ⟨ob_38, rfl, N38q, Kq38, po38_0, po38_1⟩ := hQ38
      have N38 := Fr.app N37 N38q
      refine Goes.by st38 ?_
      have Zs38 : n0 ≤ T38.heap.size := Nat.le_trans Zs37 Kq38.1
      have K38 : Keep h0 T38.heap [] := K37.trans Kq38 all0
      have lt38_ob_33 := E_ob_33.lt
      have lt38_ob_34 := E_ob_34.lt
      have lt38_ob_35 := E_ob_35.lt
      have lt38_ob_36 := E_ob_36.lt
      have lt38_ob_37 := E_ob_37.lt
      have sz_ob_38 : h0.size ≤ ob_38 := Nat.le_trans K37.1 po38_1
      have g_ob_38 : n0 ≤ ob_38 := Nat.le_trans Zs37 po38_1
      have ne_ob_33_ob_38 : ob_33 ≠ ob_38 := Nat.ne_of_lt (Nat.lt_of_lt_of_le lt38_ob_33 po38_1)
      have ne_ob_34_ob_38 : ob_34 ≠ ob_38 := Nat.ne_of_lt (Nat.lt_of_lt_of_le lt38_ob_34 po38_1)
      have ne_ob_35_ob_38 : ob_35 ≠ ob_38 := Nat.ne_of_lt (Nat.lt_of_lt_of_le lt38_ob_35 po38_1)
      have ne_ob_36_ob_38 : ob_36 ≠ ob_38 := Nat.ne_of_lt (Nat.lt_of_lt_of_le lt38_ob_36 po38_1)
      have ne_ob_37_ob_38 : ob_37 ≠ ob_38 := Nat.ne_of_lt (Nat.lt_of_lt_of_le lt38_ob_37 po38_1)
      have O : Old Z n0 T38.heap := O.keep Kq38 all0
      have E_ob_33 : Exa Z T38.heap ob_33 "java/lang/String" := E_ob_33.keep Kq38
      have E_ob_34 : Exa Z T38.heap ob_34 "java/lang/String" := E_ob_34.keep Kq38
      have E_ob_35 : Exa Z T38.heap ob_35 "java/lang/String" := E_ob_35.keep Kq38
      have E_ob_36 : Exa Z T38.heap ob_36 "java/lang/String" := E_ob_36.keep Kq38
      have E_ob_37 : Exa Z T38.heap ob_37 "java/lang/String" := E_ob_37.keep Kq38
      have E_ob_38 : Exa Z T38.heap ob_38 "java/lang/String" := po38_0
      show Goes p.tables e below (T38.setTop (mkF m 93 #[.val (.long pl), .second, .val (.int pa), .val (.int pb), .val (.int pc0), .val (.int pf), .val (.int (1 : Int32)), .val (.int (1 : Int32)), .val (.ref ob_33), .val (.ref ob_34), .val (.ref ob_35), .val (.ref ob_36), .val (.ref ob_37), .unset, .unset, .unset, .unset, .unset] [(.ref ob_38)])) _
      refine Goes.by (fun _ k => XS.astore X38.here hx rfl (hb hby at_93) rfl rfl (l' := #[.val (.long pl), .second, .val (.int pa), .val (.int pb), .val (.int pc0), .val (.int pf), .val (.int (1 : Int32)), .val (.int (1 : Int32)), .val (.ref ob_33), .val (.ref ob_34), .val (.ref ob_35), .val (.ref ob_36), .val (.ref ob_37), .val (.ref ob_38), .unset, .unset, .unset, .unset]) rfl k) ?_
      show Goes p.tables e below (T38.setTop (mkF m 95 #[.val (.long pl), .second, .val (.int pa), .val (.int pb), .val (.int pc0), .val (.int pf), .val (.int (1 : Int32)), .val (.int (1 : Int32)), .val (.ref ob_33), .val (.ref ob_34), .val (.ref ob_35), .val (.ref ob_36), .val (.ref ob_37), .val (.ref ob_38), .unset, .unset, .unset, .unset] [])) _
      refine Goes.by (fun _ k => XS.iload X38.here hx rfl (hb hby at_95) rfl k) ?_
      show Goes p.tables e below (T38.setTop (mkF m 97 #[.val (.long pl), .second, .val (.int pa), .val (.int pb), .val (.int pc0), .val (.int pf), .val (.int (1 : Int32)), .val (.int (1 : Int32)), .val (.ref ob_33), .val (.ref ob_34), .val (.ref ob_35), .val (.ref ob_36), .val (.ref ob_37), .val (.ref ob_38), .unset, .unset, .unset, .unset] [(.int pc0)])) _
      refine Goes.by (fun _ k => XS.iconst X38.here hx rfl (hb hby at_97) k) ?_
      show Goes p.tables e below (T38.setTop (mkF m 98 #[.val (.long pl), .second, .val (.int pa), .val (.int pb), .val (.int pc0), .val (.int pf), .val (.int (1 : Int32)), .val (.int (1 : Int32)), .val (.ref ob_33), .val (.ref ob_34), .val (.ref ob_35), .val (.ref ob_36), .val (.ref ob_37), .val (.ref ob_38), .unset, .unset, .unset, .unset] [(.int (4 : Int32)), (.int pc0)])) _
      refine Goes.by (fun _ k => XS.iushr X38.here hx rfl (hb hby at_98) rfl k) ?_
      show Goes p.tables e below (T38.setTop (mkF m 99 #[.val (.long pl), .second, .val (.int pa), .val (.int pb), .val (.int pc0), .val (.int pf), .val (.int (1 : Int32)), .val (.int (1 : Int32)), .val (.ref ob_33), .val (.ref ob_34), .val (.ref ob_35), .val (.ref ob_36), .val (.ref ob_37), .val (.ref ob_38), .unset, .unset, .unset, .unset] [(.int ((pc0.toUInt32 >>> ((4 : Int32) &&& 31).toUInt32).toInt32))])) _
      obtain ⟨_, _, ⟨T39, L39, k39, n39⟩, -, X39, ⟨Lc39, hQ39, l39, y39, z39⟩, st39⟩ := Jvm.LawKit.callS X38 hx (y := (⟨"org/unitspan/ead/DateElementStatedDatePinLaw", "str", "(I)Ljava/lang/String;"⟩ : MethodName)) hown (mvT hZ (hw _ (List.mem_of_getElem? (i := 0) rfl))) (mvT hZ (hw _ (List.mem_of_getElem? (i := 1) rfl))) (mvT hZ (hw _ (List.mem_of_getElem? (i := 2) rfl))) (mvT hZ (hw _ (List.mem_of_getElem? (i := 3) rfl))) (by decide) (backOf (W := 0) (rm1 l Z a0 hw [] ((pc0.toUInt32 >>> ((4 : Int32) &&& 31).toUInt32).toInt32) zc T38.heap n0 Zs38 O S_cs hzc) hZ (hw _ (List.mem_of_getElem? (i := 3) rfl)) (hw _ (List.mem_of_getElem? (i := 2) rfl)) (by decide) (by decide)) (g := (mkF m 99 #[.val (.long pl), .second, .val (.int pa), .val (.int pb), .val (.int pc0), .val (.int pf), .val (.int (1 : Int32)), .val (.int (1 : Int32)), .val (.ref ob_33), .val (.ref ob_34), .val (.ref ob_35), .val (.ref ob_36), .val (.ref ob_37), .val (.ref ob_38), .unset, .unset, .unset, .unset] [(.int ((pc0.toUInt32 >>> ((4 : Int32) &&& 31).toUInt32).toInt32))])) rfl (by rw [hml]; rfl) (argsL := [(.int ((pc0.toUInt32 >>> ((4 : Int32) &&& 31).toUInt32).toInt32))]) (rest := []) (lenOf pd_2 rfl) rfl (by show 2 * 0 + _ ≤ _; exact Nat.le_of_eq rfl) (hb hby at_99) (fun _ _ => ⟨rfl, rfl, (by decide : 18 + 3 ≤ _), (by decide : 48 + 8 ≤ _)⟩)
      dsimp only [Pt.U, Pt.locs, Pt.cells, Pt.slots] at X39 l39 y39 z39 st39 hQ39
      subst l39 y39 z39
      obtain ⟨ob_39, rfl, N39q, Kq39, po39_0, po39_1⟩ := hQ39
      have N39 := Fr.app N38 N39q
      refine Goes.by st39 ?_
      have Zs39 : n0 ≤ T39.heap.size := Nat.le_trans Zs38 Kq39.1
      have K39 : Keep h0 T39.heap [] := K38.trans Kq39 all0
      have lt39_ob_33 := E_ob_33.lt
      have lt39_ob_34 := E_ob_34.lt
      have lt39_ob_35 := E_ob_35.lt
      have lt39_ob_36 := E_ob_36.lt
      have lt39_ob_37 := E_ob_37.lt
      have lt39_ob_38 := E_ob_38.lt
      have sz_ob_39 : h0.size ≤ ob_39 := Nat.le_trans K38.1 po39_1
      have g_ob_39 : n0 ≤ ob_39 := Nat.le_trans Zs38 po39_1
      have ne_ob_33_ob_39 : ob_33 ≠ ob_39 := Nat.ne_of_lt (Nat.lt_of_lt_of_le lt39_ob_33 po39_1)
      have ne_ob_34_ob_39 : ob_34 ≠ ob_39 := Nat.ne_of_lt (Nat.lt_of_lt_of_le lt39_ob_34 po39_1)
      have ne_ob_35_ob_39 : ob_35 ≠ ob_39 := Nat.ne_of_lt (Nat.lt_of_lt_of_le lt39_ob_35 po39_1)
      have ne_ob_36_ob_39 : ob_36 ≠ ob_39 := Nat.ne_of_lt (Nat.lt_of_lt_of_le lt39_ob_36 po39_1)
      have ne_ob_37_ob_39 : ob_37 ≠ ob_39 := Nat.ne_of_lt (Nat.lt_of_lt_of_le lt39_ob_37 po39_1)
      have ne_ob_38_ob_39 : ob_38 ≠ ob_39 := Nat.ne_of_lt (Nat.lt_of_lt_of_le lt39_ob_38 po39_1)
      have O : Old Z n0 T39.heap := O.keep Kq39 all0
      have E_ob_33 : Exa Z T39.heap ob_33 "java/lang/String" := E_ob_33.keep Kq39
      have E_ob_34 : Exa Z T39.heap ob_34 "java/lang/String" := E_ob_34.keep Kq39
      have E_ob_35 : Exa Z T39.heap ob_35 "java/lang/String" := E_ob_35.keep Kq39
      have E_ob_36 : Exa Z T39.heap ob_36 "java/lang/String" := E_ob_36.keep Kq39
      have E_ob_37 : Exa Z T39.heap ob_37 "java/lang/String" := E_ob_37.keep Kq39
      have E_ob_38 : Exa Z T39.heap ob_38 "java/lang/String" := E_ob_38.keep Kq39
      have E_ob_39 : Exa Z T39.heap ob_39 "java/lang/String" := po39_0
      show Goes p.tables e below (T39.setTop (mkF m 102 #[.val (.long pl), .second, .val (.int pa), .val (.int pb), .val (.int pc0), .val (.int pf), .val (.int (1 : Int32)), .val (.int (1 : Int32)), .val (.ref ob_33), .val (.ref ob_34), .val (.ref ob_35), .val (.ref ob_36), .val (.ref ob_37), .val (.ref ob_38), .unset, .unset, .unset, .unset] [(.ref ob_39)])) _
      refine Goes.by (fun _ k => XS.astore X39.here hx rfl (hb hby at_102) rfl rfl (l' := #[.val (.long pl), .second, .val (.int pa), .val (.int pb), .val (.int pc0), .val (.int pf), .val (.int (1 : Int32)), .val (.int (1 : Int32)), .val (.ref ob_33), .val (.ref ob_34), .val (.ref ob_35), .val (.ref ob_36), .val (.ref ob_37), .val (.ref ob_38), .val (.ref ob_39), .unset, .unset, .unset]) rfl k) ?_
      show Goes p.tables e below (T39.setTop (mkF m 104 #[.val (.long pl), .second, .val (.int pa), .val (.int pb), .val (.int pc0), .val (.int pf), .val (.int (1 : Int32)), .val (.int (1 : Int32)), .val (.ref ob_33), .val (.ref ob_34), .val (.ref ob_35), .val (.ref ob_36), .val (.ref ob_37), .val (.ref ob_38), .val (.ref ob_39), .unset, .unset, .unset] [])) _
      refine Goes.by (fun _ k => XS.iload X39.here hx rfl (hb hby at_104) rfl k) ?_
      show Goes p.tables e below (T39.setTop (mkF m 106 #[.val (.long pl), .second, .val (.int pa), .val (.int pb), .val (.int pc0), .val (.int pf), .val (.int (1 : Int32)), .val (.int (1 : Int32)), .val (.ref ob_33), .val (.ref ob_34), .val (.ref ob_35), .val (.ref ob_36), .val (.ref ob_37), .val (.ref ob_38), .val (.ref ob_39), .unset, .unset, .unset] [(.int pc0)])) _
      refine Goes.by (fun _ k => XS.bipush X39.here hx rfl (hb hby at_106) k) ?_
      show Goes p.tables e below (T39.setTop (mkF m 108 #[.val (.long pl), .second, .val (.int pa), .val (.int pb), .val (.int pc0), .val (.int pf), .val (.int (1 : Int32)), .val (.int (1 : Int32)), .val (.ref ob_33), .val (.ref ob_34), .val (.ref ob_35), .val (.ref ob_36), .val (.ref ob_37), .val (.ref ob_38), .val (.ref ob_39), .unset, .unset, .unset] [(.int (12 : Int32)), (.int pc0)])) _
      refine Goes.by (fun _ k => XS.iushr X39.here hx rfl (hb hby at_108) rfl k) ?_
      show Goes p.tables e below (T39.setTop (mkF m 109 #[.val (.long pl), .second, .val (.int pa), .val (.int pb), .val (.int pc0), .val (.int pf), .val (.int (1 : Int32)), .val (.int (1 : Int32)), .val (.ref ob_33), .val (.ref ob_34), .val (.ref ob_35), .val (.ref ob_36), .val (.ref ob_37), .val (.ref ob_38), .val (.ref ob_39), .unset, .unset, .unset] [(.int ((pc0.toUInt32 >>> ((12 : Int32) &&& 31).toUInt32).toInt32))])) _
      obtain ⟨_, _, ⟨T40, L40, k40, n40⟩, -, X40, ⟨Lc40, hQ40, l40, y40, z40⟩, st40⟩ := Jvm.LawKit.callS X39 hx (y := (⟨"org/unitspan/ead/DateElementStatedDatePinLaw", "str", "(I)Ljava/lang/String;"⟩ : MethodName)) hown (mvT hZ (hw _ (List.mem_of_getElem? (i := 0) rfl))) (mvT hZ (hw _ (List.mem_of_getElem? (i := 1) rfl))) (mvT hZ (hw _ (List.mem_of_getElem? (i := 2) rfl))) (mvT hZ (hw _ (List.mem_of_getElem? (i := 3) rfl))) (by decide) (backOf (W := 0) (rm1 l Z a0 hw [] ((pc0.toUInt32 >>> ((12 : Int32) &&& 31).toUInt32).toInt32) zc T39.heap n0 Zs39 O S_cs hzc) hZ (hw _ (List.mem_of_getElem? (i := 3) rfl)) (hw _ (List.mem_of_getElem? (i := 2) rfl)) (by decide) (by decide)) (g := (mkF m 109 #[.val (.long pl), .second, .val (.int pa), .val (.int pb), .val (.int pc0), .val (.int pf), .val (.int (1 : Int32)), .val (.int (1 : Int32)), .val (.ref ob_33), .val (.ref ob_34), .val (.ref ob_35), .val (.ref ob_36), .val (.ref ob_37), .val (.ref ob_38), .val (.ref ob_39), .unset, .unset, .unset] [(.int ((pc0.toUInt32 >>> ((12 : Int32) &&& 31).toUInt32).toInt32))])) rfl (by rw [hml]; rfl) (argsL := [(.int ((pc0.toUInt32 >>> ((12 : Int32) &&& 31).toUInt32).toInt32))]) (rest := []) (lenOf pd_2 rfl) rfl (by show 2 * 0 + _ ≤ _; exact Nat.le_of_eq rfl) (hb hby at_109) (fun _ _ => ⟨rfl, rfl, (by decide : 21 + 3 ≤ _), (by decide : 56 + 8 ≤ _)⟩)
      dsimp only [Pt.U, Pt.locs, Pt.cells, Pt.slots] at X40 l40 y40 z40 st40 hQ40
      subst l40 y40 z40
      obtain ⟨ob_40, rfl, N40q, Kq40, po40_0, po40_1⟩ := hQ40
      have N40 := Fr.app N39 N40q
      refine Goes.by st40 ?_
      have Zs40 : n0 ≤ T40.heap.size := Nat.le_trans Zs39 Kq40.1
      have K40 : Keep h0 T40.heap [] := K39.trans Kq40 all0
      have lt40_ob_33 := E_ob_33.lt
      have lt40_ob_34 := E_ob_34.lt
      have lt40_ob_35 := E_ob_35.lt
      have lt40_ob_36 := E_ob_36.lt
      have lt40_ob_37 := E_ob_37.lt
      have lt40_ob_38 := E_ob_38.lt
      have lt40_ob_39 := E_ob_39.lt
      have sz_ob_40 : h0.size ≤ ob_40 := Nat.le_trans K39.1 po40_1
      have g_ob_40 : n0 ≤ ob_40 := Nat.le_trans Zs39 po40_1
      have ne_ob_33_ob_40 : ob_33 ≠ ob_40 := Nat.ne_of_lt (Nat.lt_of_lt_of_le lt40_ob_33 po40_1)
      have ne_ob_34_ob_40 : ob_34 ≠ ob_40 := Nat.ne_of_lt (Nat.lt_of_lt_of_le lt40_ob_34 po40_1)
      have ne_ob_35_ob_40 : ob_35 ≠ ob_40 := Nat.ne_of_lt (Nat.lt_of_lt_of_le lt40_ob_35 po40_1)
      have ne_ob_36_ob_40 : ob_36 ≠ ob_40 := Nat.ne_of_lt (Nat.lt_of_lt_of_le lt40_ob_36 po40_1)
      have ne_ob_37_ob_40 : ob_37 ≠ ob_40 := Nat.ne_of_lt (Nat.lt_of_lt_of_le lt40_ob_37 po40_1)
      have ne_ob_38_ob_40 : ob_38 ≠ ob_40 := Nat.ne_of_lt (Nat.lt_of_lt_of_le lt40_ob_38 po40_1)
      have ne_ob_39_ob_40 : ob_39 ≠ ob_40 := Nat.ne_of_lt (Nat.lt_of_lt_of_le lt40_ob_39 po40_1)
      have O : Old Z n0 T40.heap := O.keep Kq40 all0
      have E_ob_33 : Exa Z T40.heap ob_33 "java/lang/String" := E_ob_33.keep Kq40
      have E_ob_34 : Exa Z T40.heap ob_34 "java/lang/String" := E_ob_34.keep Kq40
      have E_ob_35 : Exa Z T40.heap ob_35 "java/lang/String" := E_ob_35.keep Kq40
      have E_ob_36 : Exa Z T40.heap ob_36 "java/lang/String" := E_ob_36.keep Kq40
      have E_ob_37 : Exa Z T40.heap ob_37 "java/lang/String" := E_ob_37.keep Kq40
      have E_ob_38 : Exa Z T40.heap ob_38 "java/lang/String" := E_ob_38.keep Kq40
      have E_ob_39 : Exa Z T40.heap ob_39 "java/lang/String" := E_ob_39.keep Kq40
      have E_ob_40 : Exa Z T40.heap ob_40 "java/lang/String" := po40_0
      show Goes p.tables e below (T40.setTop (mkF m 112 #[.val (.long pl), .second, .val (.int pa), .val (.int pb), .val (.int pc0), .val (.int pf), .val (.int (1 : Int32)), .val (.int (1 : Int32)), .val (.ref ob_33), .val (.ref ob_34), .val (.ref ob_35), .val (.ref ob_36), .val (.ref ob_37), .val (.ref ob_38), .val (.ref ob_39), .unset, .unset, .unset] [(.ref ob_40)])) _
      refine Goes.by (fun _ k => XS.astore X40.here hx rfl (hb hby at_112) rfl rfl (l' := #[.val (.long pl), .second, .val (.int pa), .val (.int pb), .val (.int pc0), .val (.int pf), .val (.int (1 : Int32)), .val (.int (1 : Int32)), .val (.ref ob_33), .val (.ref ob_34), .val (.ref ob_35), .val (.ref ob_36), .val (.ref ob_37), .val (.ref ob_38), .val (.ref ob_39), .val (.ref ob_40), .unset, .unset]) rfl k) ?_
      show Goes p.tables e below (T40.setTop (mkF m 114 #[.val (.long pl), .second, .val (.int pa), .val (.int pb), .val (.int pc0), .val (.int pf), .val (.int (1 : Int32)), .val (.int (1 : Int32)), .val (.ref ob_33), .val (.ref ob_34), .val (.ref ob_35), .val (.ref ob_36), .val (.ref ob_37), .val (.ref ob_38), .val (.ref ob_39), .val (.ref ob_40), .unset, .unset] [])) _
      obtain ⟨T41, h41, X41, e41, E41, A41, D41, -, st41⟩ := newO X40 hx hZ hown (hw _ (List.mem_of_getElem? (i := 34) rfl)) (hw _ (List.mem_of_getElem? (i := 35) rfl)) (hw _ (List.mem_of_getElem? (i := 36) rfl)) rfl (g := (mkF m 114 #[.val (.long pl), .second, .val (.int pa), .val (.int pb), .val (.int pc0), .val (.int pf), .val (.int (1 : Int32)), .val (.int (1 : Int32)), .val (.ref ob_33), .val (.ref ob_34), .val (.ref ob_35), .val (.ref ob_36), .val (.ref ob_37), .val (.ref ob_38), .val (.ref ob_39), .val (.ref ob_40), .unset, .unset] [])) rfl (hb hby at_114) (by decide) (by decide)
      obtain ⟨b41, g41⟩ : ∃ z, z = T40.heap.size := ⟨_, rfl⟩
      rw [← g41] at A41 D41 st41
      have g_b41 : n0 ≤ b41 := Nat.le_trans Zs40 (Nat.le_of_eq g41.symm)
      have sz_b41 : h0.size ≤ b41 := Nat.le_trans K40.1 (Nat.le_of_eq g41.symm)
      have ne_ob_33_b41 : ob_33 ≠ b41 := Nat.ne_of_lt (Nat.lt_of_lt_of_le E_ob_33.lt (Nat.le_of_eq g41.symm))
      have ne_ob_34_b41 : ob_34 ≠ b41 := Nat.ne_of_lt (Nat.lt_of_lt_of_le E_ob_34.lt (Nat.le_of_eq g41.symm))
      have ne_ob_35_b41 : ob_35 ≠ b41 := Nat.ne_of_lt (Nat.lt_of_lt_of_le E_ob_35.lt (Nat.le_of_eq g41.symm))
      have ne_ob_36_b41 : ob_36 ≠ b41 := Nat.ne_of_lt (Nat.lt_of_lt_of_le E_ob_36.lt (Nat.le_of_eq g41.symm))
      have ne_ob_37_b41 : ob_37 ≠ b41 := Nat.ne_of_lt (Nat.lt_of_lt_of_le E_ob_37.lt (Nat.le_of_eq g41.symm))
      have ne_ob_38_b41 : ob_38 ≠ b41 := Nat.ne_of_lt (Nat.lt_of_lt_of_le E_ob_38.lt (Nat.le_of_eq g41.symm))
      have ne_ob_39_b41 : ob_39 ≠ b41 := Nat.ne_of_lt (Nat.lt_of_lt_of_le E_ob_39.lt (Nat.le_of_eq g41.symm))
      have ne_ob_40_b41 : ob_40 ≠ b41 := Nat.ne_of_lt (Nat.lt_of_lt_of_le E_ob_40.lt (Nat.le_of_eq g41.symm))
      have Zs41 : n0 ≤ h41.size := Nat.le_trans Zs40 E41.1
      have K41 : Keep h0 h41 [] := K40.ext E41
      refine Goes.by st41 ?_
      have O : Old Z n0 h41 := O.ext E41
      have E_ob_33 : Exa Z h41 ob_33 "java/lang/String" := E_ob_33.ext E41
      have E_ob_34 : Exa Z h41 ob_34 "java/lang/String" := E_ob_34.ext E41
      have E_ob_35 : Exa Z h41 ob_35 "java/lang/String" := E_ob_35.ext E41
      have E_ob_36 : Exa Z h41 ob_36 "java/lang/String" := E_ob_36.ext E41
      have E_ob_37 : Exa Z h41 ob_37 "java/lang/String" := E_ob_37.ext E41
      have E_ob_38 : Exa Z h41 ob_38 "java/lang/String" := E_ob_38.ext E41
      have E_ob_39 : Exa Z h41 ob_39 "java/lang/String" := E_ob_39.ext E41
      have E_ob_40 : Exa Z h41 ob_40 "java/lang/String" := E_ob_40.ext E41
      have E_b41 : Exa Z h41 b41 "org/unitspan/ead/DateElement" := A41
      have F_b41_line : Fld Z h41 b41 "org/unitspan/ead/DateElement" "line" "J" (.long (0 : Int64)) := D41 (Or.inr (hw _ (List.mem_of_getElem? (i := 47) rfl))) (ty := .long) (by decide)
      have F_b41_name : Fld Z h41 b41 "org/unitspan/ead/DateElement" "name" "Ljava/lang/String;" .null := D41 (Or.inr (hw _ (List.mem_of_getElem? (i := 49) rfl))) (ty := (.object "java/lang/String")) (by decide)
      have F_b41_text : Fld Z h41 b41 "org/unitspan/ead/DateElement" "text" "Ljava/lang/String;" .null := D41 (Or.inr (hw _ (List.mem_of_getElem? (i := 51) rfl))) (ty := (.object "java/lang/String")) (by decide)
      have F_b41_normal : Fld Z h41 b41 "org/unitspan/ead/DateElement" "normal" "Ljava/lang/String;" .null := D41 (Or.inr (hw _ (List.mem_of_getElem? (i := 53) rfl))) (ty := (.object "java/lang/String")) (by decide)
      have F_b41_unitdateType : Fld Z h41 b41 "org/unitspan/ead/DateElement" "unitdateType" "Ljava/lang/String;" .null := D41 (Or.inr (hw _ (List.mem_of_getElem? (i := 55) rfl))) (ty := (.object "java/lang/String")) (by decide)
      have F_b41_standardDate : Fld Z h41 b41 "org/unitspan/ead/DateElement" "standardDate" "Ljava/lang/String;" .null := D41 (Or.inr (hw _ (List.mem_of_getElem? (i := 57) rfl))) (ty := (.object "java/lang/String")) (by decide)
      have F_b41_notBefore : Fld Z h41 b41 "org/unitspan/ead/DateElement" "notBefore" "Ljava/lang/String;" .null := D41 (Or.inr (hw _ (List.mem_of_getElem? (i := 59) rfl))) (ty := (.object "java/lang/String")) (by decide)
      have F_b41_notAfter : Fld Z h41 b41 "org/unitspan/ead/DateElement" "notAfter" "Ljava/lang/String;" .null := D41 (Or.inr (hw _ (List.mem_of_getElem? (i := 61) rfl))) (ty := (.object "java/lang/String")) (by decide)
      have F_b41_rangeStart : Fld Z h41 b41 "org/unitspan/ead/DateElement" "rangeStart" "Ljava/lang/String;" .null := D41 (Or.inr (hw _ (List.mem_of_getElem? (i := 63) rfl))) (ty := (.object "java/lang/String")) (by decide)
      show Goes p.tables e below (T41.setTop (mkF m 117 #[.val (.long pl), .second, .val (.int pa), .val (.int pb), .val (.int pc0), .val (.int pf), .val (.int (1 : Int32)), .val (.int (1 : Int32)), .val (.ref ob_33), .val (.ref ob_34), .val (.ref ob_35), .val (.ref ob_36), .val (.ref ob_37), .val (.ref ob_38), .val (.ref ob_39), .val (.ref ob_40), .unset, .unset] [(.ref b41)])) _
      refine Goes.by (fun _ k => XS.dup X41.here hx rfl (hb hby at_117) rfl rfl k) ?_
      show Goes p.tables e below (T41.setTop (mkF m 118 #[.val (.long pl), .second, .val (.int pa), .val (.int pb), .val (.int pc0), .val (.int pf), .val (.int (1 : Int32)), .val (.int (1 : Int32)), .val (.ref ob_33), .val (.ref ob_34), .val (.ref ob_35), .val (.ref ob_36), .val (.ref ob_37), .val (.ref ob_38), .val (.ref ob_39), .val (.ref ob_40), .unset, .unset] [(.ref b41), (.ref b41)])) _
      refine Goes.by (fun _ k => XS.lloadN X41.here hx rfl (hb hby at_118) rfl k) ?_
      show Goes p.tables e below (T41.setTop (mkF m 119 #[.val (.long pl), .second, .val (.int pa), .val (.int pb), .val (.int pc0), .val (.int pf), .val (.int (1 : Int32)), .val (.int (1 : Int32)), .val (.ref ob_33), .val (.ref ob_34), .val (.ref ob_35), .val (.ref ob_36), .val (.ref ob_37), .val (.ref ob_38), .val (.ref ob_39), .val (.ref ob_40), .unset, .unset] [(.long pl), (.ref b41), (.ref b41)])) _
      refine Goes.by (fun _ k => XS.aload X41.here hx rfl (hb hby at_119) rfl rfl k) ?_
      show Goes p.tables e below (T41.setTop (mkF m 121 #[.val (.long pl), .second, .val (.int pa), .val (.int pb), .val (.int pc0), .val (.int pf), .val (.int (1 : Int32)), .val (.int (1 : Int32)), .val (.ref ob_33), .val (.ref ob_34), .val (.ref ob_35), .val (.ref ob_36), .val (.ref ob_37), .val (.ref ob_38), .val (.ref ob_39), .val (.ref ob_40), .unset, .unset] [(.ref ob_35), (.long pl), (.ref b41), (.ref b41)])) _
      refine Goes.by (fun _ k => XS.aload X41.here hx rfl (hb hby at_121) rfl rfl k) ?_
      show Goes p.tables e below (T41.setTop (mkF m 123 #[.val (.long pl), .second, .val (.int pa), .val (.int pb), .val (.int pc0), .val (.int pf), .val (.int (1 : Int32)), .val (.int (1 : Int32)), .val (.ref ob_33), .val (.ref ob_34), .val (.ref ob_35), .val (.ref ob_36), .val (.ref ob_37), .val (.ref ob_38), .val (.ref ob_39), .val (.ref ob_40), .unset, .unset] [(.ref ob_36), (.ref ob_35), (.long pl), (.ref b41), (.ref b41)])) _
      refine Goes.by (fun _ k => XS.aload X41.here hx rfl (hb hby at_123) rfl rfl k) ?_
      show Goes p.tables e below (T41.setTop (mkF m 125 #[.val (.long pl), .second, .val (.int pa), .val (.int pb), .val (.int pc0), .val (.int pf), .val (.int (1 : Int32)), .val (.int (1 : Int32)), .val (.ref ob_33), .val (.ref ob_34), .val (.ref ob_35), .val (.ref ob_36), .val (.ref ob_37), .val (.ref ob_38), .val (.ref ob_39), .val (.ref ob_40), .unset, .unset] [(.ref ob_33), (.ref ob_36), (.ref ob_35), (.long pl), (.ref b41), (.ref b41)])) _
      refine Goes.by (fun _ k => XS.aload X41.here hx rfl (hb hby at_125) rfl rfl k) ?_
      show Goes p.tables e below (T41.setTop (mkF m 127 #[.val (.long pl), .second, .val (.int pa), .val (.int pb), .val (.int pc0), .val (.int pf), .val (.int (1 : Int32)), .val (.int (1 : Int32)), .val (.ref ob_33), .val (.ref ob_34), .val (.ref ob_35), .val (.ref ob_36), .val (.ref ob_37), .val (.ref ob_38), .val (.ref ob_39), .val (.ref ob_40), .unset, .unset] [(.ref ob_37), (.ref ob_33), (.ref ob_36), (.ref ob_35), (.long pl), (.ref b41), (.ref b41)])) _
      refine Goes.by (fun _ k => XS.aload X41.here hx rfl (hb hby at_127) rfl rfl k) ?_
      show Goes p.tables e below (T41.setTop (mkF m 129 #[.val (.long pl), .second, .val (.int pa), .val (.int pb), .val (.int pc0), .val (.int pf), .val (.int (1 : Int32)), .val (.int (1 : Int32)), .val (.ref ob_33), .val (.ref ob_34), .val (.ref ob_35), .val (.ref ob_36), .val (.ref ob_37), .val (.ref ob_38), .val (.ref ob_39), .val (.ref ob_40), .unset, .unset] [(.ref ob_34), (.ref ob_37), (.ref ob_33), (.ref ob_36), (.ref ob_35), (.long pl), (.ref b41), (.ref b41)])) _
      refine Goes.by (fun _ k => XS.aload X41.here hx rfl (hb hby at_129) rfl rfl k) ?_
      show Goes p.tables e below (T41.setTop (mkF m 131 #[.val (.long pl), .second, .val (.int pa), .val (.int pb), .val (.int pc0), .val (.int pf), .val (.int (1 : Int32)), .val (.int (1 : Int32)), .val (.ref ob_33), .val (.ref ob_34), .val (.ref ob_35), .val (.ref ob_36), .val (.ref ob_37), .val (.ref ob_38), .val (.ref ob_39), .val (.ref ob_40), .unset, .unset] [(.ref ob_38), (.ref ob_34), (.ref ob_37), (.ref ob_33), (.ref ob_36), (.ref ob_35), (.long pl), (.ref b41), (.ref b41)])) _
      refine Goes.by (fun _ k => XS.aload X41.here hx rfl (hb hby at_131) rfl rfl k) ?_
      show Goes p.tables e below (T41.setTop (mkF m 133 #[.val (.long pl), .second, .val (.int pa), .val (.int pb), .val (.int pc0), .val (.int pf), .val (.int (1 : Int32)), .val (.int (1 : Int32)), .val (.ref ob_33), .val (.ref ob_34), .val (.ref ob_35), .val (.ref ob_36), .val (.ref ob_37), .val (.ref ob_38), .val (.ref ob_39), .val (.ref ob_40), .unset, .unset] [(.ref ob_39), (.ref ob_38), (.ref ob_34), (.ref ob_37), (.ref ob_33), (.ref ob_36), (.ref ob_35), (.long pl), (.ref b41), (.ref b41)])) _
      refine Goes.by (fun _ k => XS.aload X41.here hx rfl (hb hby at_133) rfl rfl k) ?_
      show Goes p.tables e below (T41.setTop (mkF m 135 #[.val (.long pl), .second, .val (.int pa), .val (.int pb), .val (.int pc0), .val (.int pf), .val (.int (1 : Int32)), .val (.int (1 : Int32)), .val (.ref ob_33), .val (.ref ob_34), .val (.ref ob_35), .val (.ref ob_36), .val (.ref ob_37), .val (.ref ob_38), .val (.ref ob_39), .val (.ref ob_40), .unset, .unset] [(.ref ob_40), (.ref ob_39), (.ref ob_38), (.ref ob_34), (.ref ob_37), (.ref ob_33), (.ref ob_36), (.ref ob_35), (.long pl), (.ref b41), (.ref b41)])) _
      obtain ⟨_, _, ⟨T42, L42, k42, n42⟩, -, X42, ⟨Lc42, hQ42, l42, y42, z42⟩, st42⟩ := X41.specialBack hx (y := (⟨"org/unitspan/ead/DateElement", "<init>", "(JLjava/lang/String;Ljava/lang/String;Ljava/lang/String;Ljava/lang/String;Ljava/lang/String;Ljava/lang/String;Ljava/lang/String;Ljava/lang/String;)V"⟩ : MethodName)) rfl hown (mvT hZ (hw _ (List.mem_of_getElem? (i := 37) rfl))) (mvT hZ (hw _ (List.mem_of_getElem? (i := 38) rfl))) (mvT hZ (hw _ (List.mem_of_getElem? (i := 39) rfl))) (by decide) (backOf (W := 1) (rm8rr l Z a0 hw [] b41 pl ob_35 ob_36 ob_33 ob_37 ob_34 ob_38 ob_39 ob_40 h41 n0 Zs41 E_b41 F_b41_line F_b41_name F_b41_text F_b41_normal F_b41_unitdateType F_b41_standardDate F_b41_notBefore F_b41_notAfter F_b41_rangeStart g_b41) hZ (hw _ (List.mem_of_getElem? (i := 39) rfl)) (hw _ (List.mem_of_getElem? (i := 36) rfl)) (by decide) (by decide)) (g := (mkF m 135 #[.val (.long pl), .second, .val (.int pa), .val (.int pb), .val (.int pc0), .val (.int pf), .val (.int (1 : Int32)), .val (.int (1 : Int32)), .val (.ref ob_33), .val (.ref ob_34), .val (.ref ob_35), .val (.ref ob_36), .val (.ref ob_37), .val (.ref ob_38), .val (.ref ob_39), .val (.ref ob_40), .unset, .unset] [(.ref ob_40), (.ref ob_39), (.ref ob_38), (.ref ob_34), (.ref ob_37), (.ref ob_33), (.ref ob_36), (.ref ob_35), (.long pl), (.ref b41), (.ref b41)])) rfl (by rw [hml]; rfl) (Steps.refl _) (a := b41) (argsL := [(.long pl), (.ref ob_35), (.ref ob_36), (.ref ob_33), (.ref ob_37), (.ref ob_34), (.ref ob_38), (.ref ob_39), (.ref ob_40)]) (rest := [(.ref b41)]) (lenOf pd_3 rfl) rfl (by show 2 * 0 + (1 + 0) ≤ _; decide) (hb hby at_135) (fun _ _ => ⟨rfl, e41, (by decide : 25 + 0 ≤ _), (by decide : 73 + 0 ≤ _)⟩)
      dsimp only [Pt.U, Pt.locs, Pt.cells, Pt.slots] at X42 l42 y42 z42 st42 hQ42
      subst l42 y42 z42
      obtain ⟨rfl, N42q, Kq42, po42_0, po42_1, po42_2⟩ := hQ42
      have N42 := Fr.app N40 N42q
      refine Goes.via st42 ?_
      have Zs42 : n0 ≤ T42.heap.size := Nat.le_trans Zs41 Kq42.1
      have K42 : Keep h0 T42.heap [] := K41.trans Kq42 (allS (Or.inr sz_b41) all0)
      have O : Old Z n0 T42.heap := O.keep Kq42 (allS g_b41 all0)
      have E_ob_33 : Exa Z T42.heap ob_33 "java/lang/String" := E_ob_33.keep Kq42
      have E_ob_34 : Exa Z T42.heap ob_34 "java/lang/String" := E_ob_34.keep Kq42
      have E_ob_35 : Exa Z T42.heap ob_35 "java/lang/String" := E_ob_35.keep Kq42
      have E_ob_36 : Exa Z T42.heap ob_36 "java/lang/String" := E_ob_36.keep Kq42
      have E_ob_37 : Exa Z T42.heap ob_37 "java/lang/String" := E_ob_37.keep Kq42
      have E_ob_38 : Exa Z T42.heap ob_38 "java/lang/String" := E_ob_38.keep Kq42
      have E_ob_39 : Exa Z T42.heap ob_39 "java/lang/String" := E_ob_39.keep Kq42
      have E_ob_40 : Exa Z T42.heap ob_40 "java/lang/String" := E_ob_40.keep Kq42
      have E_b41 : Exa Z T42.heap b41 "org/unitspan/ead/DateElement" := E_b41.keep Kq42
      have E_b41 : Exa Z T42.heap b41 "org/unitspan/ead/DateElement" := po42_0
      have F_b41_normal : Fld Z T42.heap b41 "org/unitspan/ead/DateElement" "normal" "Ljava/lang/String;" (.ref ob_33) := po42_1
      have F_b41_standardDate : Fld Z T42.heap b41 "org/unitspan/ead/DateElement" "standardDate" "Ljava/lang/String;" (.ref ob_34) := po42_2
      show Goes p.tables e below (T42.setTop (mkF m 138 #[.val (.long pl), .second, .val (.int pa), .val (.int pb), .val (.int pc0), .val (.int pf), .val (.int (1 : Int32)), .val (.int (1 : Int32)), .val (.ref ob_33), .val (.ref ob_34), .val (.ref ob_35), .val (.ref ob_36), .val (.ref ob_37), .val (.ref ob_38), .val (.ref ob_39), .val (.ref ob_40), .unset, .unset] [(.ref b41)])) _
      refine Goes.by (fun _ k => XS.astore X42.here hx rfl (hb hby at_138) rfl rfl (l' := #[.val (.long pl), .second, .val (.int pa), .val (.int pb), .val (.int pc0), .val (.int pf), .val (.int (1 : Int32)), .val (.int (1 : Int32)), .val (.ref ob_33), .val (.ref ob_34), .val (.ref ob_35), .val (.ref ob_36), .val (.ref ob_37), .val (.ref ob_38), .val (.ref ob_39), .val (.ref ob_40), .val (.ref b41), .unset]) rfl k) ?_
      show Goes p.tables e below (T42.setTop (mkF m 140 #[.val (.long pl), .second, .val (.int pa), .val (.int pb), .val (.int pc0), .val (.int pf), .val (.int (1 : Int32)), .val (.int (1 : Int32)), .val (.ref ob_33), .val (.ref ob_34), .val (.ref ob_35), .val (.ref ob_36), .val (.ref ob_37), .val (.ref ob_38), .val (.ref ob_39), .val (.ref ob_40), .val (.ref b41), .unset] [])) _
      refine Goes.by (fun _ k => XS.aload X42.here hx rfl (hb hby at_140) rfl rfl k) ?_
      show Goes p.tables e below (T42.setTop (mkF m 142 #[.val (.long pl), .second, .val (.int pa), .val (.int pb), .val (.int pc0), .val (.int pf), .val (.int (1 : Int32)), .val (.int (1 : Int32)), .val (.ref ob_33), .val (.ref ob_34), .val (.ref ob_35), .val (.ref ob_36), .val (.ref ob_37), .val (.ref ob_38), .val (.ref ob_39), .val (.ref ob_40), .val (.ref b41), .unset] [(.ref b41)])) _
      obtain ⟨cq43, kq43, q43a, q43b, q43c⟩ := isOf hZ rfl E_b41
      obtain ⟨_, _, ⟨T43, L43, k43, n43⟩, -, X43, ⟨Lc43, hQ43, l43, y43, z43⟩, st43⟩ := X42.virtualBack hx (y := (⟨"org/unitspan/ead/DateElement", "statedDate", "()Ljava/lang/String;"⟩ : MethodName)) (z := (⟨"org/unitspan/ead/DateElement", "statedDate", "()Ljava/lang/String;"⟩ : MethodName)) hown (mvT hZ (hw _ (List.mem_of_getElem? (i := 64) rfl))) (mvT hZ (hw _ (List.mem_of_getElem? (i := 65) rfl))) (notFace_of_selects (args := #[]) (mvT hZ (hw _ (List.mem_of_getElem? (i := 67) rfl)))) (mvT hZ (hw _ (List.mem_of_getElem? (i := 67) rfl))) (mvT hZ (hw _ (List.mem_of_getElem? (i := 66) rfl))) (by decide) (backOf (W := 0) (rm10rr l Z a0 hw [] b41 ob_33 ob_34 T42.heap n0 Zs42 F_b41_normal F_b41_standardDate) hZ (hw _ (List.mem_of_getElem? (i := 68) rfl)) (hw _ (List.mem_of_getElem? (i := 36) rfl)) (by decide) (by decide)) q43a q43c (g := (mkF m 142 #[.val (.long pl), .second, .val (.int pa), .val (.int pb), .val (.int pc0), .val (.int pf), .val (.int (1 : Int32)), .val (.int (1 : Int32)), .val (.ref ob_33), .val (.ref ob_34), .val (.ref ob_35), .val (.ref ob_36), .val (.ref ob_37), .val (.ref ob_38), .val (.ref ob_39), .val (.ref ob_40), .val (.ref b41), .unset] [(.ref b41)])) rfl (by rw [hml]; rfl) (Steps.refl _) (argsL := []) (rest := []) (lenOf pd_4 rfl) rfl (by show 2 * 0 + _ ≤ _; exact Nat.le_of_eq rfl) (hb hby at_142) (fun _ _ => ⟨rfl, rfl, (by decide : 25 + 0 ≤ _), (by decide : 73 + 0 ≤ _)⟩)
      dsimp only [Pt.U, Pt.locs, Pt.cells, Pt.slots] at X43 l43 y43 z43 st43 hQ43
      subst l43 y43 z43
      obtain ⟨rfl, N43q, e43⟩ := hQ43
      have N43 := Fr.app N42 N43q
      refine Goes.via st43 ?_
      show Goes p.tables e below (T43.setTop (mkF m 145 #[.val (.long pl), .second, .val (.int pa), .val (.int pb), .val (.int pc0), .val (.int pf), .val (.int (1 : Int32)), .val (.int (1 : Int32)), .val (.ref ob_33), .val (.ref ob_34), .val (.ref ob_35), .val (.ref ob_36), .val (.ref ob_37), .val (.ref ob_38), .val (.ref ob_39), .val (.ref ob_40), .val (.ref b41), .unset] [(.ref ob_33)])) _
      refine Goes.by (fun _ k => XS.astore X43.here hx rfl (hb hby at_145) rfl rfl (l' := #[.val (.long pl), .second, .val (.int pa), .val (.int pb), .val (.int pc0), .val (.int pf), .val (.int (1 : Int32)), .val (.int (1 : Int32)), .val (.ref ob_33), .val (.ref ob_34), .val (.ref ob_35), .val (.ref ob_36), .val (.ref ob_37), .val (.ref ob_38), .val (.ref ob_39), .val (.ref ob_40), .val (.ref b41), .val (.ref ob_33)]) rfl k) ?_
      show Goes p.tables e below (T43.setTop (mkF m 147 #[.val (.long pl), .second, .val (.int pa), .val (.int pb), .val (.int pc0), .val (.int pf), .val (.int (1 : Int32)), .val (.int (1 : Int32)), .val (.ref ob_33), .val (.ref ob_34), .val (.ref ob_35), .val (.ref ob_36), .val (.ref ob_37), .val (.ref ob_38), .val (.ref ob_39), .val (.ref ob_40), .val (.ref b41), .val (.ref ob_33)] [])) _
      refine Goes.by (fun _ k => XS.iload X43.here hx rfl (hb hby at_147) rfl k) ?_
      show Goes p.tables e below (T43.setTop (mkF m 149 #[.val (.long pl), .second, .val (.int pa), .val (.int pb), .val (.int pc0), .val (.int pf), .val (.int (1 : Int32)), .val (.int (1 : Int32)), .val (.ref ob_33), .val (.ref ob_34), .val (.ref ob_35), .val (.ref ob_36), .val (.ref ob_37), .val (.ref ob_38), .val (.ref ob_39), .val (.ref ob_40), .val (.ref b41), .val (.ref ob_33)] [(.int (1 : Int32))])) _
      refine Goes.by (fun _ k => XS.ifNo X43.here hx rfl (hb hby at_149) rfl ((if0 _ _).trans (feq (by decide : ¬ ((1 : Int32) = (0 : Int32)))).1) k) ?_
      show Goes p.tables e below (T43.setTop (mkF m 152 #[.val (.long pl), .second, .val (.int pa), .val (.int pb), .val (.int pc0), .val (.int pf), .val (.int (1 : Int32)), .val (.int (1 : Int32)), .val (.ref ob_33), .val (.ref ob_34), .val (.ref ob_35), .val (.ref ob_36), .val (.ref ob_37), .val (.ref ob_38), .val (.ref ob_39), .val (.ref ob_40), .val (.ref b41), .val (.ref ob_33)] [])) _
      refine Goes.by (fun _ k => XS.aload X43.here hx rfl (hb hby at_152) rfl rfl k) ?_
      show Goes p.tables e below (T43.setTop (mkF m 154 #[.val (.long pl), .second, .val (.int pa), .val (.int pb), .val (.int pc0), .val (.int pf), .val (.int (1 : Int32)), .val (.int (1 : Int32)), .val (.ref ob_33), .val (.ref ob_34), .val (.ref ob_35), .val (.ref ob_36), .val (.ref ob_37), .val (.ref ob_38), .val (.ref ob_39), .val (.ref ob_40), .val (.ref b41), .val (.ref ob_33)] [(.ref ob_33)])) _
      refine Goes.by (fun _ k => XS.aload X43.here hx rfl (hb hby at_154) rfl rfl k) ?_
      show Goes p.tables e below (T43.setTop (mkF m 156 #[.val (.long pl), .second, .val (.int pa), .val (.int pb), .val (.int pc0), .val (.int pf), .val (.int (1 : Int32)), .val (.int (1 : Int32)), .val (.ref ob_33), .val (.ref ob_34), .val (.ref ob_35), .val (.ref ob_36), .val (.ref ob_37), .val (.ref ob_38), .val (.ref ob_39), .val (.ref ob_40), .val (.ref b41), .val (.ref ob_33)] [(.ref ob_33), (.ref ob_33)])) _
      refine Goes.by (fun _ k => Jvm.RoadKit.acmp (g := (mkF m 156 #[.val (.long pl), .second, .val (.int pa), .val (.int pb), .val (.int pc0), .val (.int pf), .val (.int (1 : Int32)), .val (.int (1 : Int32)), .val (.ref ob_33), .val (.ref ob_34), .val (.ref ob_35), .val (.ref ob_36), .val (.ref ob_37), .val (.ref ob_38), .val (.ref ob_39), .val (.ref ob_40), .val (.ref b41), .val (.ref ob_33)] [(.ref ob_33), (.ref ob_33)])) X43 hx rfl rfl rfl (pc0 := 156) (pc' := 159) (same := true) rfl (hb hby at_156) rfl (decide_eq_true rfl) (by decide) (by decide) k) ?_
      show Goes p.tables e below (T43.setTop (mkF m 159 #[.val (.long pl), .second, .val (.int pa), .val (.int pb), .val (.int pc0), .val (.int pf), .val (.int (1 : Int32)), .val (.int (1 : Int32)), .val (.ref ob_33), .val (.ref ob_34), .val (.ref ob_35), .val (.ref ob_36), .val (.ref ob_37), .val (.ref ob_38), .val (.ref ob_39), .val (.ref ob_40), .val (.ref b41), .val (.ref ob_33)] [])) _
      refine Goes.by (fun _ k => XS.iconst X43.here hx rfl (hb hby at_159) k) ?_
      show Goes p.tables e below (T43.setTop (mkF m 160 #[.val (.long pl), .second, .val (.int pa), .val (.int pb), .val (.int pc0), .val (.int pf), .val (.int (1 : Int32)), .val (.int (1 : Int32)), .val (.ref ob_33), .val (.ref ob_34), .val (.ref ob_35), .val (.ref ob_36), .val (.ref ob_37), .val (.ref ob_38), .val (.ref ob_39), .val (.ref ob_40), .val (.ref b41), .val (.ref ob_33)] [(.int (1 : Int32))])) _
      refine Goes.by (fun _ k => XS.goto X43.here hx rfl (pc0 := 160) (pc' := 164) rfl (hb hby at_160) (by decide) (by decide) k) ?_
      show Goes p.tables e below (T43.setTop (mkF m 164 #[.val (.long pl), .second, .val (.int pa), .val (.int pb), .val (.int pc0), .val (.int pf), .val (.int (1 : Int32)), .val (.int (1 : Int32)), .val (.ref ob_33), .val (.ref ob_34), .val (.ref ob_35), .val (.ref ob_36), .val (.ref ob_37), .val (.ref ob_38), .val (.ref ob_39), .val (.ref ob_40), .val (.ref b41), .val (.ref ob_33)] [(.int (1 : Int32))])) _
      obtain ⟨fs, hr, hrun, hended, hW, hsame⟩ := X43.leave (v := some (.int (1 : Int32))) (fun h => by rw [Bd.returns] at h; cases h)
      refine ⟨_, _, retN X43 hx (t := .boolean) Bd.returns (by simp) (hb hby at_164) hr, hrun, hended, _, _, rfl, ?_, ⟨_, rfl⟩, hW, hsame.mono (by decide) (by decide)⟩
      show Q0 Z pl pa pb pc0 pf zc h0 n0 _ T43.heap _
      rw [e43]
      exact ⟨rfl, N43⟩
set_option maxRecDepth 65536 in
set_option maxHeartbeats 40000000 in
theorem comes_1 {Post : Tables → Env → Array Value → State → Outcome → State → Prop} (hpost : ∀ tb e args s v u, (limb_1_1.after args s (.returned v) u = true ∧ limb_1_2.after args s (.returned v) u = true ∧ True) → FrameEnd s (.returned v) u (Jvm.fieldLocs frame_1_writes args s ++ Jvm.arrayLocs frame_1_arrays args s ++ Jvm.staticLocs frame_1_statics s) 64 256 → Post tb e args s (.returned v) u) :
    ArmFor flags0 classFile x code maxLocals ret World_1 tables_1 room_1 Calls_1 rest_1 Pre_1 Post := by
  intro l hfl _ _ p e ha hc hk s m args below hf hA hF happ hP
  obtain ⟨hcalls, hrest, hpre⟩ := hP
  obtain ⟨-, -, -, hnamed, -, -, -, hat⟩ := (Spec.applies_iff hf).mp happ
  obtain ⟨hg, hn⟩ := and_e (Cond.before_iff.mp (show (Jvm.Cond.and given_1 narrow_1).before args s = true from hpre))
  obtain ⟨g1, g2⟩ := and_e hg
  obtain ⟨g3, g4⟩ := and_e g2
  obtain ⟨g5, g6⟩ := and_e g4
  obtain ⟨g7, g8⟩ := and_e g6
  obtain ⟨g9, g10⟩ := and_e g8
  obtain ⟨w0, w1, w2, w3, w4, rfl⟩ : ∃ w0 w1 w2 w3 w4 : Value, args = #[w0, w1, w2, w3, w4] := by
    have hs : args.size = 5 := by simpa [Cond.value, given_1] using g1
    obtain ⟨L⟩ := args
    match L, hs with
    | [w0, w1, w2, w3, w4], _ => exact ⟨w0, w1, w2, w3, w4, rfl⟩
  have hw := fun d (hd : d ∈ tables_1) => atoms_spec (ws := Jvm.Cond.code x code maxLocals ret :: tables_1) hat d (List.mem_cons_of_mem _ hd)
  have hfit : Fit s := fun {y c} hc i hi => by
    obtain ⟨ha, rfl⟩ := Array.getElem?_eq_some_iff.mp hc
    have q := List.all_eq_true.mp ((Array.all_eq_true_iff_forall_mem.mp hF) _ (Array.getElem_mem ha)) i (List.mem_range.mpr hi)
    simpa [Array.getElem?_eq_getElem hi] using q
  obtain ⟨hsets, hown0⟩ := atoms_of _ (rest_1_c_eq ▸ (show rest_1_c.before _ s = true from hrest))
  have hr0 := Cond.before_iff.mp hown0
  obtain ⟨i0, ei0⟩ := isL_v g3
  obtain rfl : w0 = (.long i0) := Option.some.inj ei0
  obtain ⟨i1, ei1⟩ := is_v g5
  obtain rfl : w1 = (.int i1) := Option.some.inj ei1
  obtain ⟨i2, ei2⟩ := is_v g7
  obtain rfl : w2 = (.int i2) := Option.some.inj ei2
  obtain ⟨i3, ei3⟩ := is_v g9
  obtain rfl : w3 = (.int i3) := Option.some.inj ei3
  obtain ⟨i4, ei4⟩ := is_v g10
  obtain rfl : w4 = (.int i4) := Option.some.inj ei4
  have n5 := not_v (Cond.before_iff.mp (hsets _ (List.mem_of_getElem? (i := 2) rfl)))
  obtain ⟨zc, ezc⟩ := is_v (Cond.before_iff.mp (hsets _ (List.mem_of_getElem? (i := 1) rfl)))
  have S_cs : Sta s s.heap "java/lang/String" "COMPACT_STRINGS" "Z" (.int zc) := Sta.start ezc (Or.inl (hsets _ (List.mem_of_getElem? (i := 0) rfl)))
  have hzc : ¬ zc = 0 := gotF (Cond.eq_ints ezc (Term.int_eval (0))) n5
  obtain ⟨n, o, h1, h2, h3, _, L, rfl, ⟨hv0, N⟩, hq⟩ := rm0 l s _ hw tables_1 i0 i1 i2 i3 i4 zc s.heap s.heap.size (Nat.le_refl _) (Old.start s) S_cs hzc p e ha hc hk s m _ below hf ((Spec.applies_iff_loose hf).mp happ).1 ⟨rfl, State.Warmed39.refl s, rfl⟩ trivial
  subst hv0
  refine ⟨n, _, h1, h2, h3, hpost _ _ _ _ _ _ ⟨Cond.after_iff.mpr rfl, Cond.after_iff.mpr (eq_i res_at (Term.int_eval (1)) rfl), trivial⟩ ⟨hq.1, hq.2.1, (hq.2.2.sift fun y hy => Or.inr (N y hy)).mono (by decide) (by decide)⟩⟩
theorem main_1_1 : Claimed_1_1 := comes_1 fun _ _ _ _ _ _ h hF => ⟨h.1, hF⟩
theorem main_1_2 : Claimed_1_2 := comes_1 fun _ _ _ _ _ _ h hF => ⟨h.2.1, hF⟩
end Jvm.Pilot.@@N@@
namespace Jvm.Pilot.@@N@@
open Jvm Jvm.ClassFile Sem Op Lib Jvm.Free Jvm.Stand Jvm.Pilot.@@N@@.Jvm.D
/-! MADE BY PROGRAM (witnessworld.py) out of the Statement's table words and the real class files: 21 classes; the members and pool entries that the words name. The judged class is class 1, her method 2. -/
namespace start1
open Jvm.ClassFile
def u (s : String) : CpInfo := .utf8 (stringToUtf16 s)
/-- a pool by its gaps: so many unusable entries, then the entry; so many at the end -/
def gap : Nat → List CpInfo → List CpInfo
  | 0, r => r
  | n + 1, r => .unusable :: gap n r
def poolList (es : List (Nat × CpInfo)) (last : Nat) : List CpInfo := es.foldr (fun e r => gap e.1 (e.2 :: r)) (gap last [])
def pool (es : List (Nat × CpInfo)) (last : Nat) : Array CpInfo := ⟨poolList es last⟩
def fileOf (pool : Array CpInfo) (this : Nat) (attrs : Array Attribute := #[]) (ms : Array MethodInfo := #[]) (fl : Nat := 33) (sup : Nat := 0) (ifs : Array Nat := #[]) (fds : Array FieldInfo := #[]) : ClassFile where
  minorVersion := 0
  majorVersion := 65
  constantPool := pool
  accessFlags := fl
  thisClass := this
  superClass := sup
  interfaces := ifs
  fields := fds
  methods := ms
  attributes := attrs
def plain (name : String) (sup : Option ClassId) : Class where
  name := name
  kind := .ordinary
  loader := none
  accessFlags := 33
  super := sup
  interfaces := #[]
  cf := none
  fields := #[]
  methods := #[]
  instanceTypes := #[]
  staticTypes := #[]
  resolved := #[]
  callSites := []
  init := .initialized
  statics := none
  mirror := none

def pool0 : Array CpInfo := pool [(5, u "<init>"), (0, u "()V"), (1, .class_ 10), (1, u "java/lang/Object")] 113

def k0c0 : Code := { maxStack := 0, maxLocals := 1, code := object_method_1_code, exceptionTable := #[], attributes := #[] }
def k0m0 : Method := { name := "<init>", desc := "()V", sig := { parameters := [], returnType := none }, accessFlags := 1, code := some k0c0 }
/-- java/lang/Object -/
def k0 : Class := { plain "java/lang/Object" none with
  accessFlags := 33
  interfaces := #[]
  cf := some (fileOf pool0 8 #[] #[{ accessFlags := 1, nameIndex := 5, descriptorIndex := 6, attributes := #[] }] 33 0 #[] #[])
  fields := #[]
  methods := #[k0m0]
  instanceTypes := #[]
  staticTypes := #[]
  resolved := Array.replicate 124 none
  statics := none }

def pool1 : Array CpInfo := pool [(2, .class_ 4), (1, u "java/lang/Object"), (0, u "<init>"), (0, u "()V"), (0, .class_ 8), (0, u "java/lang/String"), (0, .methodref 7 10), (0, .nameAndType 5 11), (0, u "([C)V"), (0, .methodref 13 14), (0, .class_ 15), (0, .nameAndType 16 17), (0, u "org/unitspan/ead/DateElementStatedDatePinLaw"), (0, u "str"), (0, u "(I)Ljava/lang/String;"), (0, .class_ 19), (0, u "org/unitspan/ead/DateElement"), (0, .methodref 18 21), (0, .nameAndType 5 22), (0, u "(JLjava/lang/String;Ljava/lang/String;Ljava/lang/String;Ljava/lang/String;Ljava/lang/String;Ljava/lang/String;Ljava/lang/String;Ljava/lang/String;)V"), (0, .methodref 18 24), (0, .nameAndType 25 26), (0, u "statedDate"), (0, u "()Ljava/lang/String;"), (2, u "law"), (0, u "(JIIII)Z")] 3

def k1m0 : Method := { name := "<init>", desc := "()V", sig := { parameters := [], returnType := none }, accessFlags := 1, code := none }
def k1c1 : Code := { maxStack := 4, maxLocals := 2, code := method_2_code, exceptionTable := #[], attributes := #[] }
def k1m1 : Method := { name := "str", desc := "(I)Ljava/lang/String;", sig := { parameters := [.int], returnType := some (.object "java/lang/String") }, accessFlags := 10, code := some k1c1 }
def k1c2 : Code := { maxStack := 12, maxLocals := 18, code := code, exceptionTable := #[], attributes := #[] }
def k1m2 : Method := { name := "law", desc := "(JIIII)Z", sig := { parameters := [.long, .int, .int, .int, .int], returnType := some .boolean }, accessFlags := 9, code := some k1c2 }
/-- org/unitspan/ead/DateElementStatedDatePinLaw -/
def k1 : Class := { plain "org/unitspan/ead/DateElementStatedDatePinLaw" (some 0) with
  accessFlags := 49
  interfaces := #[]
  cf := some (fileOf pool1 13 #[] #[{ accessFlags := 1, nameIndex := 5, descriptorIndex := 6, attributes := #[] }, { accessFlags := 10, nameIndex := 16, descriptorIndex := 17, attributes := #[] }, { accessFlags := 9, nameIndex := 29, descriptorIndex := 30, attributes := #[] }] 49 2 #[] #[])
  fields := #[]
  methods := #[k1m0, k1m1, k1m2]
  instanceTypes := #[]
  staticTypes := #[]
  resolved := Array.replicate 34 none
  statics := none }

def pool2 : Array CpInfo := pool [(1, .class_ 2), (0, u "java/io/Serializable"), (0, .class_ 4), (0, u "java/lang/Object")] 2

/-- java/io/Serializable -/
def k2 : Class := { plain "java/io/Serializable" (some 0) with
  accessFlags := 1537
  interfaces := #[]
  cf := some (fileOf pool2 1 #[] #[] 1537 3 #[] #[])
  fields := #[]
  methods := #[]
  instanceTypes := #[]
  staticTypes := #[]
  resolved := Array.replicate 7 none
  statics := none }

def pool3 : Array CpInfo := pool [(1, .class_ 2), (0, u "java/lang/Comparable"), (0, .class_ 4), (0, u "java/lang/Object")] 7

/-- java/lang/Comparable -/
def k3 : Class := { plain "java/lang/Comparable" (some 0) with
  accessFlags := 1537
  interfaces := #[]
  cf := some (fileOf pool3 1 #[] #[] 1537 3 #[] #[])
  fields := #[]
  methods := #[]
  instanceTypes := #[]
  staticTypes := #[]
  resolved := Array.replicate 12 none
  statics := none }

def pool4 : Array CpInfo := pool [(2, .class_ 4), (1, u "java/lang/CharSequence"), (42, .class_ 48), (0, u "java/lang/CharSequence$1CodePointIterator"), (10, .class_ 60), (0, u "java/lang/CharSequence$1CharIterator"), (5, .class_ 67), (0, u "java/lang/Object")] 63

/-- java/lang/CharSequence -/
def k4 : Class := { plain "java/lang/CharSequence" (some 0) with
  accessFlags := 1537
  interfaces := #[]
  cf := some (fileOf pool4 2 #[.nestMembers #[47, 59]] #[] 1537 66 #[] #[])
  fields := #[]
  methods := #[]
  instanceTypes := #[]
  staticTypes := #[]
  resolved := Array.replicate 131 none
  statics := none }

def pool5 : Array CpInfo := pool [(1, .class_ 2), (0, u "java/lang/constant/Constable"), (0, .class_ 4), (0, u "java/lang/Object")] 6

/-- java/lang/constant/Constable -/
def k5 : Class := { plain "java/lang/constant/Constable" (some 0) with
  accessFlags := 1537
  interfaces := #[]
  cf := some (fileOf pool5 1 #[] #[] 1537 3 #[] #[])
  fields := #[]
  methods := #[]
  instanceTypes := #[]
  staticTypes := #[]
  resolved := Array.replicate 11 none
  statics := none }

def pool6 : Array CpInfo := pool [(1, .class_ 2), (0, u "java/lang/constant/ConstantDesc"), (0, .class_ 4), (0, u "java/lang/Object")] 32

/-- java/lang/constant/ConstantDesc -/
def k6 : Class := { plain "java/lang/constant/ConstantDesc" (some 0) with
  accessFlags := 1537
  interfaces := #[]
  cf := some (fileOf pool6 1 #[] #[] 1537 3 #[] #[])
  fields := #[]
  methods := #[]
  instanceTypes := #[]
  staticTypes := #[]
  resolved := Array.replicate 37 none
  statics := none }

def pool7 : Array CpInfo := pool [(1, .methodref 2 3), (0, .class_ 4), (0, .nameAndType 5 6), (0, u "java/lang/Object"), (0, u "<init>"), (0, u "()V"), (2, .fieldref 10 11), (0, .class_ 12), (0, .nameAndType 13 14), (0, u "java/lang/String"), (0, u "value"), (0, u "[B"), (0, .fieldref 10 16), (0, .nameAndType 17 18), (0, u "coder"), (0, u "B"), (2, u "hash"), (0, u "I"), (2, u "hashIsZero"), (0, u "Z"), (0, .methodref 10 28), (0, .nameAndType 5 29), (0, u "([CIILjava/lang/Void;)V"), (8, .fieldref 10 39), (0, .nameAndType 40 26), (0, u "COMPACT_STRINGS"), (1, .class_ 44), (1, u "java/lang/StringUTF16"), (0, u "compress"), (1, .methodref 42 48), (0, .nameAndType 49 50), (0, u "coderFromArrayLen"), (0, u "([BI)B"), (126, .methodref 42 178), (0, .nameAndType 45 179), (0, u "([CII)[B"), (395, .class_ 576), (0, u "java/lang/CharSequence"), (22, u "CASE_INSENSITIVE_ORDER"), (0, u "Ljava/util/Comparator;"), (409, u "([C)V"), (90, u "serialPersistentFields"), (0, u "[Ljava/io/ObjectStreamField;"), (0, .class_ 1104), (0, u "java/lang/String$CaseInsensitiveComparator"), (1, .class_ 1107), (0, u "java/io/Serializable"), (0, .class_ 1109), (0, u "java/lang/Comparable"), (0, .class_ 1111), (0, u "java/lang/constant/Constable"), (0, .class_ 1113), (0, u "java/lang/constant/ConstantDesc"), (2, u "serialVersionUID"), (0, u "J"), (3, u "REPL"), (0, u "C"), (2, u "LATIN1"), (1, u "UTF16")] 323

def k7m0 : Method := { name := "<init>", desc := "()V", sig := { parameters := [], returnType := none }, accessFlags := 1, code := none }
def k7c1 : Code := { maxStack := 5, maxLocals := 2, code := jdk_42_method_3_code, exceptionTable := #[], attributes := #[] }
def k7m1 : Method := { name := "<init>", desc := "([C)V", sig := { parameters := [(.array .char)], returnType := none }, accessFlags := 1, code := some k7c1 }
def k7c2 : Code := { maxStack := 4, maxLocals := 6, code := jdk_42_method_149_code, exceptionTable := #[], attributes := #[] }
def k7m2 : Method := { name := "<init>", desc := "([CIILjava/lang/Void;)V", sig := { parameters := [(.array .char), .int, .int, (.object "java/lang/Void")], returnType := none }, accessFlags := 2, code := some k7c2 }
/-- java/lang/String -/
def k7 : Class := { plain "java/lang/String" (some 0) with
  accessFlags := 49
  interfaces := #[2, 3, 4, 5, 6]
  cf := some (fileOf pool7 10 #[.nestMembers #[1103]] #[{ accessFlags := 1, nameIndex := 5, descriptorIndex := 6, attributes := #[] }, { accessFlags := 1, nameIndex := 5, descriptorIndex := 1010, attributes := #[] }, { accessFlags := 2, nameIndex := 5, descriptorIndex := 29, attributes := #[] }] 49 2 #[1106, 1108, 575, 1110, 1112] #[{ accessFlags := 18, nameIndex := 13, descriptorIndex := 14, attributes := #[] }, { accessFlags := 18, nameIndex := 17, descriptorIndex := 18, attributes := #[] }, { accessFlags := 2, nameIndex := 21, descriptorIndex := 22, attributes := #[] }, { accessFlags := 2, nameIndex := 25, descriptorIndex := 26, attributes := #[] }, { accessFlags := 26, nameIndex := 1116, descriptorIndex := 1117, attributes := #[] }, { accessFlags := 24, nameIndex := 40, descriptorIndex := 26, attributes := #[] }, { accessFlags := 26, nameIndex := 1101, descriptorIndex := 1102, attributes := #[] }, { accessFlags := 26, nameIndex := 1121, descriptorIndex := 1122, attributes := #[] }, { accessFlags := 25, nameIndex := 599, descriptorIndex := 600, attributes := #[] }, { accessFlags := 24, nameIndex := 1125, descriptorIndex := 18, attributes := #[] }, { accessFlags := 24, nameIndex := 1127, descriptorIndex := 18, attributes := #[] }])
  fields := #[{ name := "value", type := (.array .byte), accessFlags := 18, slot := 0, constantValue := 0 }, { name := "coder", type := .byte, accessFlags := 18, slot := 1, constantValue := 0 }, { name := "hash", type := .int, accessFlags := 2, slot := 2, constantValue := 0 }, { name := "hashIsZero", type := .boolean, accessFlags := 2, slot := 3, constantValue := 0 }, { name := "serialVersionUID", type := .long, accessFlags := 26, slot := 0, constantValue := 0 }, { name := "COMPACT_STRINGS", type := .boolean, accessFlags := 24, slot := 1, constantValue := 0 }, { name := "serialPersistentFields", type := (.array (.object "java/io/ObjectStreamField")), accessFlags := 26, slot := 2, constantValue := 0 }, { name := "REPL", type := .char, accessFlags := 26, slot := 3, constantValue := 0 }, { name := "CASE_INSENSITIVE_ORDER", type := (.object "java/util/Comparator"), accessFlags := 25, slot := 4, constantValue := 0 }, { name := "LATIN1", type := .byte, accessFlags := 24, slot := 5, constantValue := 0 }, { name := "UTF16", type := .byte, accessFlags := 24, slot := 6, constantValue := 0 }]
  methods := #[k7m0, k7m1, k7m2]
  instanceTypes := #[(.array .byte), .byte, .int, .boolean]
  staticTypes := #[.long, .boolean, (.array (.object "java/io/ObjectStreamField")), .char, (.object "java/util/Comparator"), .byte, .byte]
  resolved := Array.replicate 1451 none
  statics := some 0 }

def pool8 : Array CpInfo := pool [(6, .class_ 8), (1, u "java/lang/Object"), (0, u "<init>"), (0, u "()V"), (1, .class_ 14), (1, u "java/lang/StringUTF16"), (31, u "$assertionsDisabled"), (0, u "Z"), (13, u "HI_BYTE_SHIFT"), (0, u "I"), (2, u "LO_BYTE_SHIFT"), (49, .methodref 12 116), (0, .nameAndType 117 118), (0, u "compress"), (0, u "([CI[BII)I"), (3, u "([CII)[B"), (138, u "coderFromArrayLen"), (0, u "([BI)B"), (106, .class_ 371), (1, u "java/lang/StringUTF16$LinesSpliterator"), (58, u "MAX_LENGTH"), (196, .class_ 628), (0, u "java/lang/StringUTF16$CodePointsSpliterator"), (0, .class_ 630), (0, u "java/lang/StringUTF16$CharsSpliterator")] 4

def k8m0 : Method := { name := "<init>", desc := "()V", sig := { parameters := [], returnType := none }, accessFlags := 0, code := none }
def k8c1 : Code := { maxStack := 2, maxLocals := 2, code := jdk_52_method_15_code, exceptionTable := #[], attributes := #[] }
def k8m1 : Method := { name := "coderFromArrayLen", desc := "([BI)B", sig := { parameters := [(.array .byte), .int], returnType := some .byte }, accessFlags := 8, code := some k8c1 }
def k8c2 : Code := { maxStack := 5, maxLocals := 6, code := jdk_52_method_16_code, exceptionTable := #[], attributes := #[] }
def k8m2 : Method := { name := "compress", desc := "([CII)[B", sig := { parameters := [(.array .char), .int, .int], returnType := some (.array .byte) }, accessFlags := 9, code := some k8c2 }
def k8c3 : Code := { maxStack := 3, maxLocals := 7, code := jdk_52_method_21_code, exceptionTable := #[], attributes := #[] }
def k8m3 : Method := { name := "compress", desc := "([CI[BII)I", sig := { parameters := [(.array .char), .int, (.array .byte), .int, .int], returnType := some .int }, accessFlags := 9, code := some k8c3 }
/-- java/lang/StringUTF16 -/
def k8 : Class := { plain "java/lang/StringUTF16" (some 0) with
  accessFlags := 48
  interfaces := #[]
  cf := some (fileOf pool8 12 #[.nestMembers #[627, 629, 369]] #[{ accessFlags := 0, nameIndex := 9, descriptorIndex := 10, attributes := #[] }, { accessFlags := 8, nameIndex := 261, descriptorIndex := 262, attributes := #[] }, { accessFlags := 9, nameIndex := 117, descriptorIndex := 122, attributes := #[] }, { accessFlags := 9, nameIndex := 117, descriptorIndex := 118, attributes := #[] }] 48 6 #[] #[{ accessFlags := 26, nameIndex := 61, descriptorIndex := 62, attributes := #[] }, { accessFlags := 26, nameIndex := 65, descriptorIndex := 62, attributes := #[] }, { accessFlags := 24, nameIndex := 430, descriptorIndex := 62, attributes := #[] }, { accessFlags := 4120, nameIndex := 46, descriptorIndex := 47, attributes := #[] }])
  fields := #[{ name := "HI_BYTE_SHIFT", type := .int, accessFlags := 26, slot := 0, constantValue := 0 }, { name := "LO_BYTE_SHIFT", type := .int, accessFlags := 26, slot := 1, constantValue := 0 }, { name := "MAX_LENGTH", type := .int, accessFlags := 24, slot := 2, constantValue := 0 }, { name := "$assertionsDisabled", type := .boolean, accessFlags := 4120, slot := 3, constantValue := 0 }]
  methods := #[k8m0, k8m1, k8m2, k8m3]
  instanceTypes := #[]
  staticTypes := #[.int, .int, .int, .boolean]
  resolved := Array.replicate 635 none
  statics := none }

def pool9 : Array CpInfo := pool [(1, .methodref 2 3), (0, .class_ 4), (0, .nameAndType 5 6), (0, u "java/lang/Object"), (0, u "<init>"), (0, u "()V"), (0, .class_ 8), (0, u "java/lang/Record")] 13

def k9c0 : Code := { maxStack := 1, maxLocals := 1, code := jdk_30_method_1_code, exceptionTable := #[], attributes := #[] }
def k9m0 : Method := { name := "<init>", desc := "()V", sig := { parameters := [], returnType := none }, accessFlags := 4, code := some k9c0 }
/-- java/lang/Record -/
def k9 : Class := { plain "java/lang/Record" (some 0) with
  accessFlags := 1057
  interfaces := #[]
  cf := some (fileOf pool9 7 #[] #[{ accessFlags := 4, nameIndex := 5, descriptorIndex := 6, attributes := #[] }] 1057 2 #[] #[])
  fields := #[]
  methods := #[k9m0]
  instanceTypes := #[]
  staticTypes := #[]
  resolved := Array.replicate 22 none
  statics := none }

def pool10 : Array CpInfo := pool [(1, .methodref 2 3), (0, .class_ 4), (0, .nameAndType 5 6), (0, u "java/lang/Record"), (0, u "<init>"), (0, u "()V"), (0, .fieldref 8 9), (0, .class_ 10), (0, .nameAndType 11 12), (0, u "org/unitspan/ead/DateElement"), (0, u "line"), (0, u "J"), (0, .fieldref 8 14), (0, .nameAndType 15 16), (0, u "name"), (0, u "Ljava/lang/String;"), (0, .fieldref 8 18), (0, .nameAndType 19 16), (0, u "text"), (0, .fieldref 8 21), (0, .nameAndType 22 16), (0, u "normal"), (0, .fieldref 8 24), (0, .nameAndType 25 16), (0, u "unitdateType"), (0, .fieldref 8 27), (0, .nameAndType 28 16), (0, u "standardDate"), (0, .fieldref 8 30), (0, .nameAndType 31 16), (0, u "notBefore"), (0, .fieldref 8 33), (0, .nameAndType 34 16), (0, u "notAfter"), (0, .fieldref 8 36), (0, .nameAndType 37 16), (0, u "rangeStart"), (2, u "(JLjava/lang/String;Ljava/lang/String;Ljava/lang/String;Ljava/lang/String;Ljava/lang/String;Ljava/lang/String;Ljava/lang/String;Ljava/lang/String;)V"), (83, u "DATESINGLE"), (1, u "FROMDATE"), (0, u "TODATE"), (7, u "statedDate"), (0, u "()Ljava/lang/String;"), (7, .class_ 145), (0, u "org/unitspan/ead/DateElement$Nested")] 27

def k10c0 : Code := { maxStack := 3, maxLocals := 11, code := prog_38_method_2_code, exceptionTable := #[], attributes := #[] }
def k10m0 : Method := { name := "<init>", desc := "(JLjava/lang/String;Ljava/lang/String;Ljava/lang/String;Ljava/lang/String;Ljava/lang/String;Ljava/lang/String;Ljava/lang/String;Ljava/lang/String;)V", sig := { parameters := [.long, (.object "java/lang/String"), (.object "java/lang/String"), (.object "java/lang/String"), (.object "java/lang/String"), (.object "java/lang/String"), (.object "java/lang/String"), (.object "java/lang/String"), (.object "java/lang/String")], returnType := none }, accessFlags := 1, code := some k10c0 }
def k10c1 : Code := { maxStack := 1, maxLocals := 1, code := prog_38_method_5_code, exceptionTable := #[], attributes := #[] }
def k10m1 : Method := { name := "statedDate", desc := "()Ljava/lang/String;", sig := { parameters := [], returnType := some (.object "java/lang/String") }, accessFlags := 1, code := some k10c1 }
/-- org/unitspan/ead/DateElement -/
def k10 : Class := { plain "org/unitspan/ead/DateElement" (some 9) with
  accessFlags := 49
  interfaces := #[]
  cf := some (fileOf pool10 8 #[.nestMembers #[144]] #[{ accessFlags := 1, nameIndex := 5, descriptorIndex := 40, attributes := #[] }, { accessFlags := 1, nameIndex := 135, descriptorIndex := 136, attributes := #[] }] 49 2 #[] #[{ accessFlags := 18, nameIndex := 11, descriptorIndex := 12, attributes := #[] }, { accessFlags := 18, nameIndex := 15, descriptorIndex := 16, attributes := #[] }, { accessFlags := 18, nameIndex := 19, descriptorIndex := 16, attributes := #[] }, { accessFlags := 18, nameIndex := 22, descriptorIndex := 16, attributes := #[] }, { accessFlags := 18, nameIndex := 25, descriptorIndex := 16, attributes := #[] }, { accessFlags := 18, nameIndex := 28, descriptorIndex := 16, attributes := #[] }, { accessFlags := 18, nameIndex := 31, descriptorIndex := 16, attributes := #[] }, { accessFlags := 18, nameIndex := 34, descriptorIndex := 16, attributes := #[] }, { accessFlags := 18, nameIndex := 37, descriptorIndex := 16, attributes := #[] }, { accessFlags := 24, nameIndex := 124, descriptorIndex := 16, attributes := #[] }, { accessFlags := 24, nameIndex := 126, descriptorIndex := 16, attributes := #[] }, { accessFlags := 24, nameIndex := 127, descriptorIndex := 16, attributes := #[] }])
  fields := #[{ name := "line", type := .long, accessFlags := 18, slot := 0, constantValue := 0 }, { name := "name", type := (.object "java/lang/String"), accessFlags := 18, slot := 1, constantValue := 0 }, { name := "text", type := (.object "java/lang/String"), accessFlags := 18, slot := 2, constantValue := 0 }, { name := "normal", type := (.object "java/lang/String"), accessFlags := 18, slot := 3, constantValue := 0 }, { name := "unitdateType", type := (.object "java/lang/String"), accessFlags := 18, slot := 4, constantValue := 0 }, { name := "standardDate", type := (.object "java/lang/String"), accessFlags := 18, slot := 5, constantValue := 0 }, { name := "notBefore", type := (.object "java/lang/String"), accessFlags := 18, slot := 6, constantValue := 0 }, { name := "notAfter", type := (.object "java/lang/String"), accessFlags := 18, slot := 7, constantValue := 0 }, { name := "rangeStart", type := (.object "java/lang/String"), accessFlags := 18, slot := 8, constantValue := 0 }, { name := "DATESINGLE", type := (.object "java/lang/String"), accessFlags := 24, slot := 0, constantValue := 0 }, { name := "FROMDATE", type := (.object "java/lang/String"), accessFlags := 24, slot := 1, constantValue := 0 }, { name := "TODATE", type := (.object "java/lang/String"), accessFlags := 24, slot := 2, constantValue := 0 }]
  methods := #[k10m0, k10m1]
  instanceTypes := #[.long, (.object "java/lang/String"), (.object "java/lang/String"), (.object "java/lang/String"), (.object "java/lang/String"), (.object "java/lang/String"), (.object "java/lang/String"), (.object "java/lang/String"), (.object "java/lang/String")]
  staticTypes := #[(.object "java/lang/String"), (.object "java/lang/String"), (.object "java/lang/String")]
  resolved := Array.replicate 173 none
  statics := none }

def pool11 : Array CpInfo := pool [(4, .class_ 6), (1, u "java/lang/Object"), (0, u "<init>"), (0, u "()V"), (5, .class_ 16), (1, u "java/lang/StringLatin1"), (104, u "$assertionsDisabled"), (0, u "Z"), (98, .class_ 223), (1, u "java/lang/StringLatin1$LinesSpliterator"), (166, .class_ 391), (0, u "java/lang/StringLatin1$CharsSpliterator")] 3

def k11m0 : Method := { name := "<init>", desc := "()V", sig := { parameters := [], returnType := none }, accessFlags := 0, code := none }
/-- java/lang/StringLatin1 -/
def k11 : Class := { plain "java/lang/StringLatin1" (some 0) with
  accessFlags := 48
  interfaces := #[]
  cf := some (fileOf pool11 14 #[.nestMembers #[390, 221]] #[{ accessFlags := 0, nameIndex := 7, descriptorIndex := 8, attributes := #[] }] 48 4 #[] #[{ accessFlags := 4120, nameIndex := 121, descriptorIndex := 122, attributes := #[] }])
  fields := #[{ name := "$assertionsDisabled", type := .boolean, accessFlags := 4120, slot := 0, constantValue := 0 }]
  methods := #[k11m0]
  instanceTypes := #[]
  staticTypes := #[.boolean]
  resolved := Array.replicate 395 none
  statics := none }

def pool12 : Array CpInfo := pool [(2, .class_ 4), (1, u "java/lang/Object"), (0, u "<init>"), (0, u "()V"), (17, .class_ 26), (1, u "jdk/internal/util/Preconditions"), (28, .class_ 56), (0, u "jdk/internal/util/Preconditions$4"), (57, .class_ 115), (0, u "jdk/internal/util/Preconditions$1"), (7, u "SIOOBE_FORMATTER"), (0, u "Ljava/util/function/BiFunction;"), (0, .class_ 126), (0, u "jdk/internal/util/Preconditions$2"), (3, u "AIOOBE_FORMATTER"), (0, .class_ 132), (0, u "jdk/internal/util/Preconditions$3"), (3, u "IOOBE_FORMATTER")] 57

def k12m0 : Method := { name := "<init>", desc := "()V", sig := { parameters := [], returnType := none }, accessFlags := 1, code := none }
/-- jdk/internal/util/Preconditions -/
def k12 : Class := { plain "jdk/internal/util/Preconditions" (some 0) with
  accessFlags := 33
  interfaces := #[]
  cf := some (fileOf pool12 24 #[.nestMembers #[55, 131, 125, 114]] #[{ accessFlags := 1, nameIndex := 5, descriptorIndex := 6, attributes := #[] }] 33 2 #[] #[{ accessFlags := 25, nameIndex := 123, descriptorIndex := 124, attributes := #[] }, { accessFlags := 25, nameIndex := 130, descriptorIndex := 124, attributes := #[] }, { accessFlags := 25, nameIndex := 136, descriptorIndex := 124, attributes := #[] }])
  fields := #[{ name := "SIOOBE_FORMATTER", type := (.object "java/util/function/BiFunction"), accessFlags := 25, slot := 0, constantValue := 0 }, { name := "AIOOBE_FORMATTER", type := (.object "java/util/function/BiFunction"), accessFlags := 25, slot := 1, constantValue := 0 }, { name := "IOOBE_FORMATTER", type := (.object "java/util/function/BiFunction"), accessFlags := 25, slot := 2, constantValue := 0 }]
  methods := #[k12m0]
  instanceTypes := #[]
  staticTypes := #[(.object "java/util/function/BiFunction"), (.object "java/util/function/BiFunction"), (.object "java/util/function/BiFunction")]
  resolved := Array.replicate 194 none
  statics := some 1 }

def pool13 : Array CpInfo := pool [(9, u "<init>"), (6, .class_ 18), (1, u "java/lang/Object"), (0, u "()V"), (1, .class_ 23), (1, u "jdk/internal/util/ArraysSupport"), (0, u "LOG2_ARRAY_LONG_INDEX_SCALE"), (0, u "I"), (2, u "U"), (0, u "Ljdk/internal/misc/Unsafe;"), (8, u "BIG_ENDIAN"), (0, u "Z"), (8, u "LOG2_BYTE_BIT_SIZE"), (4, u "LOG2_ARRAY_INT_INDEX_SCALE"), (54, u "JLA"), (0, u "Ljdk/internal/access/JavaLangAccess;"), (11, u "LOG2_ARRAY_BOOLEAN_INDEX_SCALE"), (9, u "LOG2_ARRAY_BYTE_INDEX_SCALE"), (5, u "LOG2_ARRAY_CHAR_INDEX_SCALE"), (5, u "LOG2_ARRAY_SHORT_INDEX_SCALE"), (18, u "LOG2_ARRAY_FLOAT_INDEX_SCALE"), (24, u "LOG2_ARRAY_DOUBLE_INDEX_SCALE"), (89, u "T_BOOLEAN"), (2, u "T_CHAR"), (1, u "T_FLOAT"), (1, u "T_DOUBLE"), (1, u "T_BYTE"), (1, u "T_SHORT"), (1, u "T_INT"), (1, u "T_LONG"), (1, u "SOFT_MAX_ARRAY_LENGTH")] 83

def k13m0 : Method := { name := "<init>", desc := "()V", sig := { parameters := [], returnType := none }, accessFlags := 2, code := none }
/-- jdk/internal/util/ArraysSupport -/
def k13 : Class := { plain "jdk/internal/util/ArraysSupport" (some 0) with
  accessFlags := 33
  interfaces := #[]
  cf := some (fileOf pool13 21 #[] #[{ accessFlags := 2, nameIndex := 9, descriptorIndex := 19, attributes := #[] }] 33 16 #[] #[{ accessFlags := 24, nameIndex := 28, descriptorIndex := 29, attributes := #[] }, { accessFlags := 26, nameIndex := 38, descriptorIndex := 39, attributes := #[] }, { accessFlags := 25, nameIndex := 121, descriptorIndex := 25, attributes := #[] }, { accessFlags := 25, nameIndex := 131, descriptorIndex := 25, attributes := #[] }, { accessFlags := 25, nameIndex := 137, descriptorIndex := 25, attributes := #[] }, { accessFlags := 25, nameIndex := 143, descriptorIndex := 25, attributes := #[] }, { accessFlags := 25, nameIndex := 53, descriptorIndex := 25, attributes := #[] }, { accessFlags := 25, nameIndex := 24, descriptorIndex := 25, attributes := #[] }, { accessFlags := 25, nameIndex := 162, descriptorIndex := 25, attributes := #[] }, { accessFlags := 25, nameIndex := 187, descriptorIndex := 25, attributes := #[] }, { accessFlags := 26, nameIndex := 48, descriptorIndex := 25, attributes := #[] }, { accessFlags := 25, nameIndex := 277, descriptorIndex := 25, attributes := #[] }, { accessFlags := 25, nameIndex := 280, descriptorIndex := 25, attributes := #[] }, { accessFlags := 25, nameIndex := 282, descriptorIndex := 25, attributes := #[] }, { accessFlags := 25, nameIndex := 284, descriptorIndex := 25, attributes := #[] }, { accessFlags := 25, nameIndex := 286, descriptorIndex := 25, attributes := #[] }, { accessFlags := 25, nameIndex := 288, descriptorIndex := 25, attributes := #[] }, { accessFlags := 25, nameIndex := 290, descriptorIndex := 25, attributes := #[] }, { accessFlags := 25, nameIndex := 292, descriptorIndex := 25, attributes := #[] }, { accessFlags := 26, nameIndex := 108, descriptorIndex := 109, attributes := #[] }, { accessFlags := 25, nameIndex := 294, descriptorIndex := 25, attributes := #[] }])
  fields := #[{ name := "U", type := (.object "jdk/internal/misc/Unsafe"), accessFlags := 24, slot := 0, constantValue := 0 }, { name := "BIG_ENDIAN", type := .boolean, accessFlags := 26, slot := 1, constantValue := 0 }, { name := "LOG2_ARRAY_BOOLEAN_INDEX_SCALE", type := .int, accessFlags := 25, slot := 2, constantValue := 0 }, { name := "LOG2_ARRAY_BYTE_INDEX_SCALE", type := .int, accessFlags := 25, slot := 3, constantValue := 0 }, { name := "LOG2_ARRAY_CHAR_INDEX_SCALE", type := .int, accessFlags := 25, slot := 4, constantValue := 0 }, { name := "LOG2_ARRAY_SHORT_INDEX_SCALE", type := .int, accessFlags := 25, slot := 5, constantValue := 0 }, { name := "LOG2_ARRAY_INT_INDEX_SCALE", type := .int, accessFlags := 25, slot := 6, constantValue := 0 }, { name := "LOG2_ARRAY_LONG_INDEX_SCALE", type := .int, accessFlags := 25, slot := 7, constantValue := 0 }, { name := "LOG2_ARRAY_FLOAT_INDEX_SCALE", type := .int, accessFlags := 25, slot := 8, constantValue := 0 }, { name := "LOG2_ARRAY_DOUBLE_INDEX_SCALE", type := .int, accessFlags := 25, slot := 9, constantValue := 0 }, { name := "LOG2_BYTE_BIT_SIZE", type := .int, accessFlags := 26, slot := 10, constantValue := 0 }, { name := "T_BOOLEAN", type := .int, accessFlags := 25, slot := 11, constantValue := 0 }, { name := "T_CHAR", type := .int, accessFlags := 25, slot := 12, constantValue := 0 }, { name := "T_FLOAT", type := .int, accessFlags := 25, slot := 13, constantValue := 0 }, { name := "T_DOUBLE", type := .int, accessFlags := 25, slot := 14, constantValue := 0 }, { name := "T_BYTE", type := .int, accessFlags := 25, slot := 15, constantValue := 0 }, { name := "T_SHORT", type := .int, accessFlags := 25, slot := 16, constantValue := 0 }, { name := "T_INT", type := .int, accessFlags := 25, slot := 17, constantValue := 0 }, { name := "T_LONG", type := .int, accessFlags := 25, slot := 18, constantValue := 0 }, { name := "JLA", type := (.object "jdk/internal/access/JavaLangAccess"), accessFlags := 26, slot := 19, constantValue := 0 }, { name := "SOFT_MAX_ARRAY_LENGTH", type := .int, accessFlags := 25, slot := 20, constantValue := 0 }]
  methods := #[k13m0]
  instanceTypes := #[]
  staticTypes := #[(.object "jdk/internal/misc/Unsafe"), .boolean, .int, .int, .int, .int, .int, .int, .int, .int, .int, .int, .int, .int, .int, .int, .int, .int, .int, (.object "jdk/internal/access/JavaLangAccess"), .int]
  resolved := Array.replicate 378 none
  statics := none }

def pool14 : Array CpInfo := pool [(1, u "java/lang/Cloneable"), (0, .class_ 1), (0, u "java/lang/Object"), (0, .class_ 3)] 3

/-- java/lang/Cloneable -/
def k14 : Class := { plain "java/lang/Cloneable" (some 0) with
  accessFlags := 1537
  interfaces := #[]
  cf := some (fileOf pool14 2 #[] #[] 1537 4 #[] #[])
  fields := #[]
  methods := #[]
  instanceTypes := #[]
  staticTypes := #[]
  resolved := Array.replicate 8 none
  statics := none }

/-- the primitive byte -/
def k15 : Class := { plain "byte" none with kind := .primitive 'B', accessFlags := 0x411 }
/-- [B -/
def k16 : Class := { plain "[B" (some 0) with kind := .array 15 .byte, interfaces := #[14, 2], accessFlags := 1041 }

/-- the primitive char -/
def k17 : Class := { plain "char" none with kind := .primitive 'C', accessFlags := 0x411 }
/-- [C -/
def k18 : Class := { plain "[C" (some 0) with kind := .array 17 .char, interfaces := #[14, 2], accessFlags := 1041 }

/-- the primitive int -/
def k19 : Class := { plain "int" none with kind := .primitive 'I', accessFlags := 0x411 }
/-- [I -/
def k20 : Class := { plain "[I" (some 0) with kind := .array 19 .int, interfaces := #[14, 2], accessFlags := 1041 }

def heap : Heap := #[{ cls := 7, slots := #[.long 0, .int 1, .null, .int 0, .null, .int 0, .int 0], vm := .statics 7 },
  { cls := 12, slots := #[.null, .null, .null], vm := .statics 12 }]
def classes : Array Class := #[k0, k1, k2, k3, k4, k5, k6, k7, k8, k9, k10, k11, k12, k13, k14, k15, k16, k17, k18, k19, k20]
def interned : List (Array UInt16 × Addr) := []
def slotsUsed : Nat := 10
def theMethod : MethodId := ⟨1, 2⟩
def args0 : Array Value := #[.long 5, .int 6, .int 7, .int 27, .int 2]
def aboutOver (below : List Frame) : State where
  vm := { classes := classes, interned := interned.toArray }
  heap := heap
  slotsUsed := slotsUsed
  threads := #[{ frames := .invoking theMethod args0 :: below }]
def below0 : List Frame := [.native { method := ⟨0, 0⟩, args := #[] }]
def about1 : State := aboutOver below0
def p0 : Program := .bare "" "" ""
def e0 : Env := launch0.env 0 0 0
theorem w_frames : about1.frames = Frame.invoking theMethod args0 :: below0 := rfl
set_option maxRecDepth 65536 in
theorem w_args : argsFit about1.vm theMethod args0 = true := by decide +kernel
set_option maxRecDepth 65536 in
theorem w_heap : heapFits about1 = true := by decide +kernel
set_option maxRecDepth 65536 in
theorem w_runnable : about1.curStatus? = some .runnable := by decide +kernel
set_option maxRecDepth 65536 in
theorem w_alone : about1.alone = true := by decide +kernel
set_option maxRecDepth 65536 in
theorem w_named : about1.methodNamed? x = some theMethod := by decide +kernel
set_option maxRecDepth 65536 in
theorem w_hears : about1.hears theMethod below0 = true := by decide +kernel
set_option maxRecDepth 65536 in
theorem w_ripe : about1.ripe theMethod args0 below0 = true := by decide +kernel
theorem w_running : about1.status = .running := rfl
set_option maxRecDepth 65536 in
theorem w_room : about1.hasRoom e0.platform room_1 = true :=
  launch0.hasRoom_least _ room_1 (by decide +kernel) (by decide +kernel) (by decide +kernel) (by decide +kernel) (by decide +kernel) (by decide +kernel)
theorem allAtoms_all (ts : List Jvm.Cond) (a : Array Jvm.Value) (st : Jvm.State) : (allAtoms ts).before a st = ts.all (fun c => c.before a st) := by
  induction ts with
  | nil => rfl
  | cons c t ih =>
    show (Jvm.Cond.and c (allAtoms t)).before a st = _
    rw [Jvm.Cond.before_and, ih, List.all_cons]
def words1 : List Jvm.Cond := Jvm.Cond.code x code maxLocals ret :: tables_1
/-- a 'code' word, met by the world's own term for the bytes: nothing is compared byte by byte -/
theorem code_word {y : MethodName} {bytes : ByteArray} {mx : Nat} {rt : Option FieldType} {a : Array Value} {s : State} {m : MethodId} {meth : Method} {c : Code} (h1 : s.methodNamed? y = some m) (h2 : s.vm.method? m = some meth) (h3 : meth.code = some c) (h4 : c.code = bytes)
    (h5 : (c.maxLocals == mx && c.exceptionTable.isEmpty && decide (c.maxStack ≤ mostOperands) && decide (meth.sig.returnType = rt) && !meth.locks && decide (parseMethodDescriptor y.desc = some meth.sig)) = true) : (Jvm.Cond.code y bytes mx rt).before a s = true := by
  simp only [Bool.and_eq_true, beq_iff_eq, Bool.not_eq_true', decide_eq_true_eq] at h5
  obtain ⟨⟨⟨⟨⟨g1, g2⟩, g3⟩, g4⟩, g5⟩, g6⟩ := h5
  simp [Cond.before, Cond.holds, Cond.value, h1, h2, h3, h4, g1, g2, g3, g4, g5, g6]
def isCode : Jvm.Cond → Bool
  | .code _ _ _ _ => true
  | _ => false
theorem all_split {L : List Jvm.Cond} {P : Jvm.Cond → Bool} (h1 : L.all (fun c => isCode c || P c) = true) (h2 : ∀ c ∈ L.filter isCode, P c = true) : L.all P = true := by
  refine List.all_eq_true.mpr fun c hc => ?_
  have h := List.all_eq_true.mp h1 c hc
  rcases Bool.eq_false_or_eq_true (isCode c) with hi | hi
  · exact h2 c (List.mem_filter.mpr ⟨hc, hi⟩)
  · simpa [hi] using h
set_option maxRecDepth 65536 in
theorem w_c0 : (Jvm.Cond.code x code maxLocals ret).before args0 about1 = true := code_word (m := ⟨1, 2⟩) (meth := k1m2) (c := k1c2) (by decide +kernel) rfl rfl rfl (by decide +kernel)
set_option maxRecDepth 65536 in
theorem w_c1 : (Jvm.Cond.code ({ cls := "org/unitspan/ead/DateElementStatedDatePinLaw", name := "str", desc := "(I)Ljava/lang/String;" } : Jvm.MethodName) method_2_code (2 : Nat) (Option.some (Jvm.ClassFile.FieldType.object "java/lang/String"))).before args0 about1 = true := code_word (m := ⟨1, 1⟩) (meth := k1m1) (c := k1c1) (by decide +kernel) rfl rfl rfl (by decide +kernel)
set_option maxRecDepth 65536 in
theorem w_c2 : (Jvm.Cond.code ({ cls := "java/lang/String", name := "<init>", desc := "([C)V" } : Jvm.MethodName) jdk_42_method_3_code (2 : Nat) (Option.none : Option Jvm.ClassFile.FieldType)).before args0 about1 = true := code_word (m := ⟨7, 1⟩) (meth := k7m1) (c := k7c1) (by decide +kernel) rfl rfl rfl (by decide +kernel)
set_option maxRecDepth 65536 in
theorem w_c3 : (Jvm.Cond.code ({ cls := "java/lang/String", name := "<init>", desc := "([CIILjava/lang/Void;)V" } : Jvm.MethodName) jdk_42_method_149_code (6 : Nat) (Option.none : Option Jvm.ClassFile.FieldType)).before args0 about1 = true := code_word (m := ⟨7, 2⟩) (meth := k7m2) (c := k7c2) (by decide +kernel) rfl rfl rfl (by decide +kernel)
set_option maxRecDepth 65536 in
theorem w_c4 : (Jvm.Cond.code ({ cls := "java/lang/Object", name := "<init>", desc := "()V" } : Jvm.MethodName) object_method_1_code (1 : Nat) (Option.none : Option Jvm.ClassFile.FieldType)).before args0 about1 = true := code_word (m := ⟨0, 0⟩) (meth := k0m0) (c := k0c0) (by decide +kernel) rfl rfl rfl (by decide +kernel)
set_option maxRecDepth 65536 in
theorem w_c5 : (Jvm.Cond.code ({ cls := "java/lang/StringUTF16", name := "compress", desc := "([CII)[B" } : Jvm.MethodName) jdk_52_method_16_code (6 : Nat) (Option.some (Jvm.ClassFile.FieldType.array Jvm.ClassFile.FieldType.byte))).before args0 about1 = true := code_word (m := ⟨8, 2⟩) (meth := k8m2) (c := k8c2) (by decide +kernel) rfl rfl rfl (by decide +kernel)
set_option maxRecDepth 65536 in
theorem w_c6 : (Jvm.Cond.code ({ cls := "java/lang/StringUTF16", name := "compress", desc := "([CI[BII)I" } : Jvm.MethodName) jdk_52_method_21_code (7 : Nat) (Option.some Jvm.ClassFile.FieldType.int)).before args0 about1 = true := code_word (m := ⟨8, 3⟩) (meth := k8m3) (c := k8c3) (by decide +kernel) rfl rfl rfl (by decide +kernel)
set_option maxRecDepth 65536 in
theorem w_c7 : (Jvm.Cond.code ({ cls := "java/lang/StringUTF16", name := "coderFromArrayLen", desc := "([BI)B" } : Jvm.MethodName) jdk_52_method_15_code (2 : Nat) (Option.some Jvm.ClassFile.FieldType.byte)).before args0 about1 = true := code_word (m := ⟨8, 1⟩) (meth := k8m1) (c := k8c1) (by decide +kernel) rfl rfl rfl (by decide +kernel)
set_option maxRecDepth 65536 in
theorem w_c8 : (Jvm.Cond.code ({ cls := "org/unitspan/ead/DateElement", name := "<init>", desc := "(JLjava/lang/String;Ljava/lang/String;Ljava/lang/String;Ljava/lang/String;Ljava/lang/String;Ljava/lang/String;Ljava/lang/String;Ljava/lang/String;)V" } : Jvm.MethodName) prog_38_method_2_code (11 : Nat) (Option.none : Option Jvm.ClassFile.FieldType)).before args0 about1 = true := code_word (m := ⟨10, 0⟩) (meth := k10m0) (c := k10c0) (by decide +kernel) rfl rfl rfl (by decide +kernel)
set_option maxRecDepth 65536 in
theorem w_c9 : (Jvm.Cond.code ({ cls := "java/lang/Record", name := "<init>", desc := "()V" } : Jvm.MethodName) jdk_30_method_1_code (1 : Nat) (Option.none : Option Jvm.ClassFile.FieldType)).before args0 about1 = true := code_word (m := ⟨9, 0⟩) (meth := k9m0) (c := k9c0) (by decide +kernel) rfl rfl rfl (by decide +kernel)
set_option maxRecDepth 65536 in
theorem w_c10 : (Jvm.Cond.code ({ cls := "org/unitspan/ead/DateElement", name := "statedDate", desc := "()Ljava/lang/String;" } : Jvm.MethodName) prog_38_method_5_code (1 : Nat) (Option.some (Jvm.ClassFile.FieldType.object "java/lang/String"))).before args0 about1 = true := code_word (m := ⟨10, 1⟩) (meth := k10m1) (c := k10c1) (by decide +kernel) rfl rfl rfl (by decide +kernel)
def codes1 : List Jvm.Cond := [Jvm.Cond.code x code maxLocals ret, Jvm.Cond.code ({ cls := "org/unitspan/ead/DateElementStatedDatePinLaw", name := "str", desc := "(I)Ljava/lang/String;" } : Jvm.MethodName) method_2_code (2 : Nat) (Option.some (Jvm.ClassFile.FieldType.object "java/lang/String")), Jvm.Cond.code ({ cls := "java/lang/String", name := "<init>", desc := "([C)V" } : Jvm.MethodName) jdk_42_method_3_code (2 : Nat) (Option.none : Option Jvm.ClassFile.FieldType), Jvm.Cond.code ({ cls := "java/lang/String", name := "<init>", desc := "([CIILjava/lang/Void;)V" } : Jvm.MethodName) jdk_42_method_149_code (6 : Nat) (Option.none : Option Jvm.ClassFile.FieldType), Jvm.Cond.code ({ cls := "java/lang/Object", name := "<init>", desc := "()V" } : Jvm.MethodName) object_method_1_code (1 : Nat) (Option.none : Option Jvm.ClassFile.FieldType), Jvm.Cond.code ({ cls := "java/lang/StringUTF16", name := "compress", desc := "([CII)[B" } : Jvm.MethodName) jdk_52_method_16_code (6 : Nat) (Option.some (Jvm.ClassFile.FieldType.array Jvm.ClassFile.FieldType.byte)), Jvm.Cond.code ({ cls := "java/lang/StringUTF16", name := "compress", desc := "([CI[BII)I" } : Jvm.MethodName) jdk_52_method_21_code (7 : Nat) (Option.some Jvm.ClassFile.FieldType.int), Jvm.Cond.code ({ cls := "java/lang/StringUTF16", name := "coderFromArrayLen", desc := "([BI)B" } : Jvm.MethodName) jdk_52_method_15_code (2 : Nat) (Option.some Jvm.ClassFile.FieldType.byte), Jvm.Cond.code ({ cls := "org/unitspan/ead/DateElement", name := "<init>", desc := "(JLjava/lang/String;Ljava/lang/String;Ljava/lang/String;Ljava/lang/String;Ljava/lang/String;Ljava/lang/String;Ljava/lang/String;Ljava/lang/String;)V" } : Jvm.MethodName) prog_38_method_2_code (11 : Nat) (Option.none : Option Jvm.ClassFile.FieldType), Jvm.Cond.code ({ cls := "java/lang/Record", name := "<init>", desc := "()V" } : Jvm.MethodName) jdk_30_method_1_code (1 : Nat) (Option.none : Option Jvm.ClassFile.FieldType), Jvm.Cond.code ({ cls := "org/unitspan/ead/DateElement", name := "statedDate", desc := "()Ljava/lang/String;" } : Jvm.MethodName) prog_38_method_5_code (1 : Nat) (Option.some (Jvm.ClassFile.FieldType.object "java/lang/String"))]
set_option maxRecDepth 65536 in
theorem codes_eq : words1.filter isCode = codes1 := rfl
theorem w_codes : ∀ c ∈ words1.filter isCode, c.before args0 about1 = true := by
  rw [codes_eq]
  intro c hc
  simp only [codes1, List.mem_cons, List.not_mem_nil, or_false] at hc
  rcases hc with rfl | rfl | rfl | rfl | rfl | rfl | rfl | rfl | rfl | rfl | rfl
  · exact w_c0
  · exact w_c1
  · exact w_c2
  · exact w_c3
  · exact w_c4
  · exact w_c5
  · exact w_c6
  · exact w_c7
  · exact w_c8
  · exact w_c9
  · exact w_c10
set_option maxRecDepth 65536 in
theorem w_t1 : (words1.take 24).all (fun c => isCode c || c.before args0 about1) = true := by decide +kernel
set_option maxRecDepth 65536 in
theorem w_t2 : ((words1.drop 24).take 24).all (fun c => isCode c || c.before args0 about1) = true := by decide +kernel
set_option maxRecDepth 65536 in
theorem w_t3 : ((words1.drop 24).drop 24).all (fun c => isCode c || c.before args0 about1) = true := by decide +kernel
theorem w_tables : (allAtoms (Jvm.Cond.code x code maxLocals ret :: tables_1)).before args0 about1 = true := by
  rw [allAtoms_all]
  show words1.all (fun c => c.before args0 about1) = true
  refine all_split ?_ w_codes
  rw [← List.take_append_drop 24 words1, List.all_append, w_t1, ← List.take_append_drop 24 (words1.drop 24), List.all_append, w_t2, w_t3]
  rfl
set_option maxRecDepth 65536 in
theorem w_rest : rest_1_c.before args0 about1 = true := by decide +kernel
set_option maxRecDepth 65536 in
theorem w_case : (Jvm.Cond.and given_1 narrow_1).before args0 about1 = true := by decide +kernel
theorem w_applies : (headSpec (Jvm.Cond.code x code maxLocals ret :: tables_1) room_1).applies x e0.platform about1 = true :=
  (Spec.applies_iff w_frames).mpr ⟨w_running, w_runnable, w_alone, w_named, w_hears, w_ripe, w_room, w_tables⟩
theorem atStart : AtStart classFile x code maxLocals ret World_1 tables_1 room_1 Calls_1 rest_1 Pre_1 launch0 p0 e0 about1 theMethod args0 below0 :=
  ⟨lists_1, trivial, launch0.admits_env _ _ _, launch0.least_env, fairChoices_fair.cas, fairChoices_fair.clock, w_frames, w_args, w_heap, w_applies, trivial, w_rest, w_case⟩
end start1
theorem witness_1 : WitnessClaimed_1 := ⟨start1.p0, start1.e0, start1.about1, start1.theMethod, start1.args0, start1.below0, start1.atStart⟩
end Jvm.Pilot.@@N@@

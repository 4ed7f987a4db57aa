import JvmDerived
import JvmDerived.Pilot.@@N@@Statement
import JvmDerived.Pilot.@@N@@Code
set_option linter.unusedVariables false
set_option linter.unusedSimpArgs false
namespace Jvm.Pilot.@@N@@.OwnKit
open Jvm Sem ClassFile Op Lib Jvm.Stand Jvm.Free Jvm.LawKit Jvm.RoadKit
section New
variable {p : Program} {l : Launch} {e : Env} {R : Room} {s : State} {m : MethodId} {args : Array Value} {below : List Frame} {meth : Method} {c : Code} {T : State} {locs : List Loc} {cells slots : Nat}
theorem retI (X : Stand p l e R s m args below meth c T locs cells slots) (hx : p.tables.exec = Jvm.exec) {pc : Nat} {Ls : Array Slot} {z : Int32} {rest : List Value} (hret : meth.sig.returnType = some .int) (hd : decode c.code pc = .ok (.ireturn, 1)) {fs : List Frame}
    (hl : ∀ (f : JFrame) (acts : List Action), f.method = m → f.locked = none → f.entered = [] → (doReturn e (T.setTop f) acts (some (.int z))).1 = T.setFrames fs) : Steps p.tables e below (T.setTop (mkF m pc Ls (.int z :: rest))) (T.setFrames fs) :=
  retOut X hx hret rfl (Or.inl ⟨rfl, Or.inl rfl, _, rfl⟩) hd hl
theorem lremM {g : JFrame} {target : State} (X : Stand p l e R s m args below meth c T locs cells slots) (hx : p.tables.exec = Jvm.exec) (hg : g.method = m) {x y : Int64} {rest : List Value} (hd : decode c.code g.pc = .ok (.lrem, 1)) (hs : g.stack = .long y :: .long x :: rest) (hy : y ≠ 0)
    (hr : Steps p.tables e below (T.setTop { g with pc := g.pc + 1, stack := .long (x % y) :: rest }) target) : Steps p.tables e below (T.setTop g) target := by
  have q : x - x / y * y = x % y := by
    have g1 := rng64 (x % y)
    have g2 : (x % y).toInt = x.toInt.tmod y.toInt := Int64.toInt_mod x y
    have g3 := Int.tmod_def x.toInt y.toInt
    have g4 : (x / y).toInt = (x.toInt.tdiv y.toInt).bmod (2 ^ 64) := Int64.toInt_div x y
    apply Int64.toInt_inj.mp
    rw [Int64.toInt_sub, Int64.toInt_mul, g4, Int.bmod_mul_bmod, Int.sub_bmod_bmod, Int.mul_comm (x.toInt.tdiv y.toInt), ← g3, ← g2]
    exact Int.bmod_eq_of_le_mul_two (by omega) (by omega)
  exact XS.lrem X.here hx hg hd hs hy (by rw [q]; exact hr)
end New
/-- from here the run ends, and as G says -/
def Goes (tb : Tables) (e : Env) (below : List Frame) (t : State) (G : State → Outcome → Prop) : Prop := ∃ s₂ o, Steps tb e below t s₂ ∧ s₂.status = .running ∧ Ended s₂ below o ∧ G s₂ o
variable {tb : Tables} {e : Env} {below : List Frame} {t t' : State} {G : State → Outcome → Prop}
theorem Goes.by (k : ∀ u, Steps tb e below t' u → Steps tb e below t u) (h : Goes tb e below t' G) : Goes tb e below t G := by
  obtain ⟨s₂, o, h1, h2⟩ := h; exact ⟨s₂, o, k _ h1, h2⟩
theorem Goes.via (k : Steps tb e below t t') (h : Goes tb e below t' G) : Goes tb e below t G := by
  obtain ⟨s₂, o, h1, h2⟩ := h; exact ⟨s₂, o, k.trans h1, h2⟩
theorem Goes.cut {α : Type} {K : α → State} {C : α → Prop} (h1 : (∀ x, C x → Goes tb e below (K x) G) → Goes tb e below t G) (h2 : ∀ x, C x → Goes tb e below (K x) G) : Goes tb e below t G := h1 h2
theorem Goes.loop {α : Type} (μ : α → Nat) {K : α → State} {C : α → Prop} (step : ∀ x, C x → (∀ y, μ y < μ x → C y → Goes tb e below (K y) G) → Goes tb e below (K x) G) : ∀ x, C x → Goes tb e below (K x) G := by
  intro x
  induction hn : μ x using Nat.strongRecOn generalizing x with
  | _ n ih => intro hC; exact step x hC (fun y hy hCy => ih (μ y) (hn ▸ hy) y rfl hCy)
theorem jl_t {x y : Int64} (h : x < y) : ifCond.holds .lt (lcmpW x y) = true ∧ ifCond.holds .ge (lcmpW x y) = false := ⟨(if0 _ _).trans (tlt ((lw_lt x y).mpr h)).1, (if0 _ _).trans (tlt ((lw_lt x y).mpr h)).2.1⟩
theorem jl_f {x y : Int64} (h : ¬ x < y) : ifCond.holds .lt (lcmpW x y) = false ∧ ifCond.holds .ge (lcmpW x y) = true := ⟨(if0 _ _).trans (flt (fun q => h ((lw_lt x y).mp q))).1, (if0 _ _).trans (flt (fun q => h ((lw_lt x y).mp q))).2.1⟩
theorem jg_t {x y : Int64} (h : y < x) : ifCond.holds .gt (lcmpW x y) = true ∧ ifCond.holds .le (lcmpW x y) = false := ⟨(if0 _ _).trans (tlt ((lw_gt x y).mpr h)).2.2.1, (if0 _ _).trans (tlt ((lw_gt x y).mpr h)).2.2.2⟩
theorem jg_f {x y : Int64} (h : ¬ y < x) : ifCond.holds .gt (lcmpW x y) = false ∧ ifCond.holds .le (lcmpW x y) = true := ⟨(if0 _ _).trans (flt (fun q => h ((lw_gt x y).mp q))).2.2.1, (if0 _ _).trans (flt (fun q => h ((lw_gt x y).mp q))).2.2.2⟩
theorem je_t {x y : Int64} (h : x = y) : ifCond.holds .eq (lcmpW x y) = true ∧ ifCond.holds .ne (lcmpW x y) = false := ⟨(if0 _ _).trans (teq ((lw_eq x y).mpr h)).1, (if0 _ _).trans (teq ((lw_eq x y).mpr h)).2⟩
theorem je_f {x y : Int64} (h : ¬ x = y) : ifCond.holds .eq (lcmpW x y) = false ∧ ifCond.holds .ne (lcmpW x y) = true := ⟨(if0 _ _).trans (feq (fun q => h ((lw_eq x y).mp q))).1, (if0 _ _).trans (feq (fun q => h ((lw_eq x y).mp q))).2⟩
theorem selP {Z s : State} {a0 args : Array Value} {y : MethodName} {n : Nat} (hZ : Z.Warmed39 s.vm) (wi : (Cond.instantiable y.cls n).before a0 Z = true) (wp : (Cond.privateMethod y).before a0 Z = true) (win : (Cond.instanceMethod y).before a0 Z = true) (hy : y.cls ≠ "java/lang/invoke/MethodHandle" ∧ y.cls ≠ "java/lang/invoke/VarHandle") : (Cond.selects y.cls y y).before args s = true := by
  have w1 : (Cond.instantiable y.cls n).before args s = true := mv hZ wi
  obtain ⟨c, k, h1, h2, -, h4, -⟩ := Cond.instantiable_spec w1
  rw [Bool.or_eq_false_iff] at h4
  exact selects_self_of_private h1 h2 h4.1 (Cond.privateMethod_at (mvP hZ wp (args := args))) (mv hZ win) hy
theorem catR {v : Value} (h : v.isRef = true) : v.category = 1 := by cases v <;> first | rfl | (cases h)
theorem narR {t : FieldType} {w : Value} (h : t.isReference = true) : narrow t w = w := by cases t <;> first | (cases h; done) | (cases w <;> rfl)
end Jvm.Pilot.@@N@@.OwnKit
namespace Jvm.Pilot.@@N@@.OwnKit
open Jvm Sem ClassFile Op Lib Jvm.Stand Jvm.Free Jvm.LawKit Jvm.RoadKit
/-- one place of a function turned -/
def up {α : Type} (f : Nat → α) (i : Nat) (v : α) : Nat → α := fun j => if j = i then v else f j
/-- an array of n places; place j holds f j -/
def Ar (Z : State) (h : Heap) (a : Addr) (ty : FieldType) (n : Nat) (f : Nat → Value) : Prop := ∃ c : Cell, Arr Z h a c ty ∧ c.slots.size = n ∧ n < 2 ^ 31 ∧ ∀ j, j < n → c.slots[j]? = some (f j) ∧ fits ty (f j) = true
def AI (Z : State) (h : Heap) (a : Addr) (ty : FieldType) (n : Nat) (f : Nat → Int32) : Prop := Ar Z h a ty n (fun j => .int (f j))
def AJ (Z : State) (h : Heap) (a : Addr) (n : Nat) (f : Nat → Int64) : Prop := Ar Z h a .long n (fun j => .long (f j))
section Facts
variable {Z : State} {h h' : Heap} {a b : Addr} {ty : FieldType} {n sl : Nat} {f : Nat → Value} {g : Nat → Int32} {k : Nat → Int64} {v : Value} {ws : List Addr}
theorem up_at {α : Type} (f : Nat → α) (i : Nat) (v : α) : up f i v i = v := if_pos rfl
theorem up_ne {α : Type} (f : Nat → α) {i j : Nat} (v : α) (q : j ≠ i) : up f i v j = f j := if_neg q
theorem Ar.lt (A : Ar Z h a ty n f) : a < h.size := by obtain ⟨c, A, -⟩ := A; exact A.lt
theorem Ar.ext (A : Ar Z h a ty n f) (E : Ext h h') : Ar Z h' a ty n f := by obtain ⟨c, A, r⟩ := A; exact ⟨c, A.ext E, r⟩
theorem Ar.other (A : Ar Z h b ty n f) (W : Wr h h' a sl v) (q : b ≠ a) : Ar Z h' b ty n f := by obtain ⟨c, A, r⟩ := A; exact ⟨c, A.other W q, r⟩
theorem Ar.keep (A : Ar Z h a ty n f) (K : Keep h h' ws) (q : a ∉ ws) : Ar Z h' a ty n f := by obtain ⟨c, A, r⟩ := A; exact ⟨c, ⟨K.2.1 a c A.1 q, A.2⟩, r⟩
theorem own_setSlot (c : Cell) (i : Nat) (v : Value) : (c.setSlot i v).slots = c.slots.setIfInBounds i v := rfl
theorem Ar.wr (A : Ar Z h a ty n f) (W : Wr h h' a sl v) (hf : fits ty v = true) : Ar Z h' a ty n (up f sl v) := by
  obtain ⟨c, A, S, M, G⟩ := A
  refine ⟨c.setSlot sl v, A.same W, by rw [sz_set]; exact S, M, fun j hj => ?_⟩
  by_cases q : j = sl
  · subst q; rw [up_at, own_setSlot, Array.getElem?_setIfInBounds_self_of_lt (by omega)]; exact ⟨rfl, hf⟩
  · rw [up_ne f v q, own_setSlot, Array.getElem?_setIfInBounds_ne (Ne.symm q)]; exact G j hj
theorem Ar.congr {f' : Nat → Value} (A : Ar Z h a ty n f) (q : ∀ j, j < n → f j = f' j) : Ar Z h a ty n f' := by
  obtain ⟨c, A, S, M, G⟩ := A; exact ⟨c, A, S, M, fun j hj => by rw [← q j hj]; exact G j hj⟩
theorem AI.lt (A : AI Z h a ty n g) : a < h.size := Ar.lt A
theorem AI.ext (A : AI Z h a ty n g) (E : Ext h h') : AI Z h' a ty n g := Ar.ext A E
theorem AI.other (A : AI Z h b ty n g) (W : Wr h h' a sl v) (q : b ≠ a) : AI Z h' b ty n g := Ar.other A W q
theorem AI.keep (A : AI Z h a ty n g) (K : Keep h h' ws) (q : a ∉ ws) : AI Z h' a ty n g := Ar.keep A K q
theorem AI.wr {x : Int32} (A : AI Z h a ty n g) (W : Wr h h' a sl (.int x)) (hf : fits ty (.int x) = true) : AI Z h' a ty n (up g sl x) :=
  (Ar.wr A W hf).congr fun j _ => by simp only [up]; split <;> rfl
theorem AI.congr {g' : Nat → Int32} (A : AI Z h a ty n g) (q : ∀ j, j < n → g j = g' j) : AI Z h a ty n g' := Ar.congr A fun j hj => by rw [q j hj]
theorem AJ.lt (A : AJ Z h a n k) : a < h.size := Ar.lt A
theorem AJ.ext (A : AJ Z h a n k) (E : Ext h h') : AJ Z h' a n k := Ar.ext A E
theorem AJ.other (A : AJ Z h b n k) (W : Wr h h' a sl v) (q : b ≠ a) : AJ Z h' b n k := Ar.other A W q
theorem AJ.keep (A : AJ Z h a n k) (K : Keep h h' ws) (q : a ∉ ws) : AJ Z h' a n k := Ar.keep A K q
theorem AJ.wr {x : Int64} (A : AJ Z h a n k) (W : Wr h h' a sl (.long x)) : AJ Z h' a n (up k sl x) :=
  (Ar.wr A W rfl).congr fun j _ => by simp only [up]; split <;> rfl
theorem AJ.congr {k' : Nat → Int64} (A : AJ Z h a n k) (q : ∀ j, j < n → k j = k' j) : AJ Z h a n k' := Ar.congr A fun j hj => by rw [q j hj]
theorem Ar.bound (A : Ar Z h a ty n f) : n < 2 ^ 31 := by obtain ⟨c, A, S, M, G⟩ := A; exact M
theorem eqv_r {Z : State} {args : Array Value} {X F : Term} {idx : List Nat} {y : Addr} (hF : F.eval args Z none idx Z = some (.ref y)) (h : (Cond.eq X F).value args Z none Z idx = some true) : X.eval args Z none idx Z = some (.ref y) := by
  obtain ⟨x, y', e1, e2, k1, k2⟩ := cmp_v (Or.inl h)
  cases hF.symm.trans e2
  exact e1.trans (congrArg some (gotT (eq_R e1 hF k2.2 rfl) h))
theorem own_lenA (t : Term) (args : Array Value) (first s : State) (o : Option Outcome) (idx : List Nat) : (Term.length t).eval args first o idx s = ((t.eval args first o idx s).bind fun v => match v with | .ref a => ((s.arrayAt? a).bind fun c => if c.slots.size < 2 ^ 31 then some (.int c.slots.size.toInt32) else none) | _ => none) := rfl
theorem own_sized {t : Term} {args : Array Value} {s : State} {a : Addr} {c : Cell} {z : Int32} {n : Nat} (ht : t.eval args s none [] s = some (.ref a)) (ha : s.arrayAt? a = some c) (h : (Term.length t).eval args s none [] s = some (.int z)) (hz : z.toInt = (n : Int)) : c.slots.size = n := by
  rw [own_lenA, ht, Option.bind_some] at h
  dsimp only at h
  rw [ha, Option.bind_some] at h
  by_cases q : c.slots.size < 2 ^ 31
  · rw [if_pos q] at h
    have e5 := Value.int.inj (Option.some.inj h)
    have e6 := len_toInt q
    rw [e5] at e6
    omega
  · rw [if_neg q] at h; cases h
theorem ixo {j : Int32} {i n : Nat} (hj : j.toInt = (i : Int)) (hi : i < n) : ¬ (j < 0 ∨ n ≤ j.toNatClampNeg) ∧ j.toNatClampNeg = i := by
  have e0 : (0 : Int32).toInt = 0 := rfl
  have q : j.toNatClampNeg = i := by rw [Int32.toNatClampNeg, hj]; rfl
  refine ⟨fun z => z.elim (fun u => ?_) fun u => ?_, q⟩
  · rw [Int32.lt_iff_toInt_lt] at u; omega
  · omega
theorem lenI {n : Nat} {z : Int32} (hz : z.toInt = (n : Int)) : n.toInt32 = z := by
  apply Int32.toInt_inj.mp
  have r := rng32 z
  rw [hz]; exact Int32.toInt_ofNat_of_lt (by omega)
theorem Ar.arv (A : Ar Z h a ty n f) : ∃ k, Arv Z h a k ty (Int32.ofNat n) ((List.range n).map f) (f 0) := by
  obtain ⟨c, A, S, M, G⟩ := A
  have e0 : (0 : Int32).toInt = 0 := rfl
  have hz : (Int32.ofNat n).toInt = (n : Int) := Int32.toInt_ofNat_of_lt (by omega)
  have hq : (Int32.ofNat n).toNatClampNeg = n := by rw [Int32.toNatClampNeg, hz]; rfl
  have hg : ∀ i, i < n → ((List.range n).map f).getD i (f 0) = f i := fun i hi => by
    rw [List.getD_eq_getElem?_getD, List.getElem?_map, List.getElem?_range hi]; rfl
  refine ⟨c.cls, c, A, rfl, by rw [hq]; exact S, by rw [Int32.lt_iff_toInt_lt, hz]; omega, fun i hi => ?_, fun i hi => ?_⟩
  · rw [hg i (by omega)]; exact (G i (by omega)).1
  · rw [hg i (by omega)]; exact (G i (by omega)).2
theorem Ar.of_arv {k : ClassId} {z : Int32} {vs : List Value} {d : Value} (A : Arv Z h a k ty z vs d) (hz : z.toInt = (n : Int)) : Ar Z h a ty n (fun j => vs.getD j d) := by
  obtain ⟨c, A, q, S, N, H, G⟩ := A
  have hq : z.toNatClampNeg = n := by rw [Int32.toNatClampNeg, hz]; rfl
  have r := rng32 z
  exact ⟨c, A, by rw [S, hq], by omega, fun j hj => ⟨H j (by omega), G j (by omega)⟩⟩
end Facts
section Steps
variable {p : Program} {l : Launch} {e : Env} {R : Room} {s : State} {m : MethodId} {args : Array Value} {below : List Frame} {meth : Method} {c : Code} {T : State} {locs : List Loc} {cells slots : Nat} {Z : State} {h : Heap} {a : Addr} {n i : Nat} {j : Int32} {rest : List Value} {fr : JFrame} {target : State}
theorem ldI {f : Nat → Int32} {v : Int32} (X : Stand p l e R s m args below meth c T locs cells slots) (hx : p.tables.exec = Jvm.exec) (hZ : Z.Warmed39 s.vm) (eT : T.heap = h) (A : AI Z h a .int n f) (hj : j.toInt = (i : Int)) (hi : i < n) (hv : v = f i) (hg : fr.method = m) (hs : fr.stack = .int j :: .ref a :: rest) (hd : decode c.code fr.pc = .ok (.iaload, 1))
    (hr : Steps p.tables e below (T.setTop { fr with pc := fr.pc + 1, stack := .int v :: rest }) target) : Steps p.tables e below (T.setTop fr) target := by
  obtain ⟨cl, A, S, M, G⟩ := A
  obtain ⟨q1, q2⟩ := ixo hj hi
  exact X.iaload hx (j := j) (v := .int v) (by rw [eT]; exact A.1) (State.isArrayOf_alike hZ.alike A.2.1) A.2.2 (by rw [S]; exact q1) (by rw [q2, hv]; exact (G i hi).1) hg hs hd _ hr
theorem ldB {f : Nat → Int32} {v : Int32} (X : Stand p l e R s m args below meth c T locs cells slots) (hx : p.tables.exec = Jvm.exec) (hZ : Z.Warmed39 s.vm) (eT : T.heap = h) (A : AI Z h a .byte n f) (hj : j.toInt = (i : Int)) (hi : i < n) (hv : v = f i) (hg : fr.method = m) (hs : fr.stack = .int j :: .ref a :: rest) (hd : decode c.code fr.pc = .ok (.baload, 1))
    (hr : Steps p.tables e below (T.setTop { fr with pc := fr.pc + 1, stack := .int v :: rest }) target) : Steps p.tables e below (T.setTop fr) target := by
  obtain ⟨cl, A, S, M, G⟩ := A
  obtain ⟨q1, q2⟩ := ixo hj hi
  exact X.baloadBytes hx (j := j) (v := .int v) (by rw [eT]; exact A.1) (State.isArrayOf_alike hZ.alike A.2.1) A.2.2 (by rw [S]; exact q1) (by rw [q2, hv]; exact (G i hi).1) hg hs hd _ hr
theorem ldJ {f : Nat → Int64} {v : Int64} (X : Stand p l e R s m args below meth c T locs cells slots) (hx : p.tables.exec = Jvm.exec) (hZ : Z.Warmed39 s.vm) (eT : T.heap = h) (A : AJ Z h a n f) (hj : j.toInt = (i : Int)) (hi : i < n) (hv : v = f i) (hg : fr.method = m) (hs : fr.stack = .int j :: .ref a :: rest) (hd : decode c.code fr.pc = .ok (.laload, 1))
    (hr : Steps p.tables e below (T.setTop { fr with pc := fr.pc + 1, stack := .long v :: rest }) target) : Steps p.tables e below (T.setTop fr) target := by
  obtain ⟨cl, A, S, M, G⟩ := A
  obtain ⟨q1, q2⟩ := ixo hj hi
  exact X.laload hx (j := j) (v := .long v) (by rw [eT]; exact A.1) (State.isArrayOf_alike hZ.alike A.2.1) A.2.2 (by rw [S]; exact q1) (by rw [q2, hv]; exact (G i hi).1) hg hs hd _ hr
theorem ldR {ty : FieldType} {f : Nat → Value} {v : Value} (X : Stand p l e R s m args below meth c T locs cells slots) (hx : p.tables.exec = Jvm.exec) (hZ : Z.Warmed39 s.vm) (eT : T.heap = h) (A : Ar Z h a ty n f) (hty : ty.isReference = true) (hj : j.toInt = (i : Int)) (hi : i < n) (hv : v = f i) (hg : fr.method = m) (hs : fr.stack = .int j :: .ref a :: rest) (hd : decode c.code fr.pc = .ok (.aaload, 1))
    (hr : Steps p.tables e below (T.setTop { fr with pc := fr.pc + 1, stack := v :: rest }) target) : Steps p.tables e below (T.setTop fr) target := by
  obtain ⟨cl, A, S, M, G⟩ := A
  obtain ⟨q1, q2⟩ := ixo hj hi
  exact X.aaload hx (j := j) (v := v) (by rw [eT]; exact A.1) (State.isArrayOf_alike hZ.alike A.2.1) hty A.2.2 (by rw [S]; exact q1) (by rw [q2, hv]; exact (G i hi).1) hg hs hd _ hr
/-- an array's clone -/
theorem cloneAr {a0 : Array Value} {own ad : String} {index : Nat} {ty : FieldType} {f : Nat → Value} {W cap : Nat} (X : Stand p l e R s m args below meth c T locs cells slots) (hx : p.tables.exec = Jvm.exec) (hZ : Z.Warmed39 s.vm) (hown : s.vm.findClass own = some m.cls)
    (w1 : (Cond.methodLink own index ⟨ad, "clone", "()Ljava/lang/Object;"⟩).before a0 Z = true) (w2 : (Cond.sameMethod ad "java/lang/Object" "clone" "()Ljava/lang/Object;").before a0 Z = true) (w3 : (Cond.native ⟨"java/lang/Object", "clone", "()Ljava/lang/Object;"⟩).before a0 Z = true)
    (w4 : (Cond.instanceMethod ⟨"java/lang/Object", "clone", "()Ljava/lang/Object;"⟩).before a0 Z = true) (w5 : (Cond.selects ad ⟨ad, "clone", "()Ljava/lang/Object;"⟩ ⟨"java/lang/Object", "clone", "()Ljava/lang/Object;"⟩).before a0 Z = true) (w6 : (Cond.castable ad "java/lang/Cloneable").before a0 Z = true)
    (eT : T.heap = h) (A : Ar Z h a ty n f) (E : Exa Z h a ad) (hg : fr.method = m) (hsize : fr.locals.size = c.maxLocals) (hs : fr.stack = .ref a :: rest) (hd : decode c.code fr.pc = .ok (.invokevirtual index, 3))
    (hf : 1 ≤ R.frames) (hW : 2 * fr.monitorRoom + (rest.map fun v => v.category).sum ≤ W) (hl : W + 14 ≤ R.locals) (hcap : n ≤ cap) (hc : cells + 1 ≤ R.cells) (hsl : slots + cap ≤ R.slots) :
    ∃ T' h', Stand p l e R s m args below meth c T' locs (cells + 1) (slots + cap) ∧ T'.heap = h' ∧ Ext h h' ∧ Ar Z h' h.size ty n f ∧ Exa Z h' h.size ad ∧
      ∀ target, Steps p.tables e below (T'.setTop { fr with pc := fr.pc + 3, stack := .ref h.size :: rest }) target → Steps p.tables e below (T.setTop fr) target := by
  obtain ⟨cl, A, S, M, G⟩ := A
  have FC : FitC Z cl := fitC_of A fun i hi v hv => by
    have q := G i (by omega)
    rw [q.1] at hv; cases hv; exact q.2
  obtain ⟨T', h', X', e', ex, A', E', st⟩ := cloneA X hx hZ hown w1 w2 w3 w4 w5 w6 eT A E FC hg hsize hs hd hf hW hl (by omega) hc hsl
  exact ⟨T', h', X', e', ex, ⟨cloneOf cl, A', S, M, G⟩, E', st⟩
theorem alen {ty : FieldType} {f : Nat → Value} {z : Int32} (X : Stand p l e R s m args below meth c T locs cells slots) (hx : p.tables.exec = Jvm.exec) (hZ : Z.Warmed39 s.vm) (eT : T.heap = h) (A : Ar Z h a ty n f) (hz : z.toInt = (n : Int)) (hg : fr.method = m) (hs : fr.stack = .ref a :: rest) (hd : decode c.code fr.pc = .ok (.arraylength, 1))
    (hr : Steps p.tables e below (T.setTop { fr with pc := fr.pc + 1, stack := .int z :: rest }) target) : Steps p.tables e below (T.setTop fr) target := by
  obtain ⟨cl, A, S, M, G⟩ := A
  exact X.arraylength hx (by rw [eT]; exact A.1) (State.isArrayOf_alike hZ.alike A.2.1) hg hs hd _ (by rw [S, lenI hz]; exact hr)
theorem stAI {f : Nat → Int32} {x : Int32} (X : Stand p l e R s m args below meth c T locs cells slots) (hx : p.tables.exec = Jvm.exec) (hZ : Z.Warmed39 s.vm) (eT : T.heap = h) (A : AI Z h a .int n f) (hj : j.toInt = (i : Int)) (hi : i < n) (hg : fr.method = m) (hs : fr.stack = .int x :: .int j :: .ref a :: rest) (hd : decode c.code fr.pc = .ok (.iastore, 1)) :
    ∃ T' h', Stand p l e R s m args below meth c T' (locs ++ [⟨a, i⟩]) cells slots ∧ T'.heap = h' ∧ Wr h h' a i (.int x) ∧ AI Z h' a .int n (up f i x) ∧ ∀ target, Steps p.tables e below (T'.setTop { fr with pc := fr.pc + 1, stack := rest }) target → Steps p.tables e below (T.setTop fr) target := by
  have A0 := A
  obtain ⟨cl, A, S, M, G⟩ := A
  obtain ⟨q1, q2⟩ := ixo hj hi
  obtain ⟨T', h', X', e', W', st⟩ := stI X hx hZ eT A (j := j) (by rw [S]; exact q1) hg hs hd
  rw [q2] at X' W'
  exact ⟨T', h', X', e', W', A0.wr W' rfl, st⟩
theorem stAB {f : Nat → Int32} {x : Int32} (X : Stand p l e R s m args below meth c T locs cells slots) (hx : p.tables.exec = Jvm.exec) (hZ : Z.Warmed39 s.vm) (eT : T.heap = h) (A : AI Z h a .byte n f) (hj : j.toInt = (i : Int)) (hi : i < n) (hg : fr.method = m) (hs : fr.stack = .int x :: .int j :: .ref a :: rest) (hd : decode c.code fr.pc = .ok (.bastore, 1)) :
    ∃ T' h', Stand p l e R s m args below meth c T' (locs ++ [⟨a, i⟩]) cells slots ∧ T'.heap = h' ∧ Wr h h' a i (.int x.toInt8.toInt32) ∧ AI Z h' a .byte n (up f i x.toInt8.toInt32) ∧ ∀ target, Steps p.tables e below (T'.setTop { fr with pc := fr.pc + 1, stack := rest }) target → Steps p.tables e below (T.setTop fr) target := by
  have A0 := A
  obtain ⟨cl, A, S, M, G⟩ := A
  obtain ⟨q1, q2⟩ := ixo hj hi
  obtain ⟨T', h', X', e', W', st⟩ := stB X hx hZ eT A (j := j) (by rw [S]; exact q1) hg hs hd
  rw [q2] at X' W'
  exact ⟨T', h', X', e', W', A0.wr W' (fits_nar_byte x), st⟩
theorem stAC {f : Nat → Int32} {x : Int32} (X : Stand p l e R s m args below meth c T locs cells slots) (hx : p.tables.exec = Jvm.exec) (hZ : Z.Warmed39 s.vm) (eT : T.heap = h) (A : AI Z h a .char n f) (hj : j.toInt = (i : Int)) (hi : i < n) (hg : fr.method = m) (hs : fr.stack = .int x :: .int j :: .ref a :: rest) (hd : decode c.code fr.pc = .ok (.castore, 1)) :
    ∃ T' h', Stand p l e R s m args below meth c T' (locs ++ [⟨a, i⟩]) cells slots ∧ T'.heap = h' ∧ Wr h h' a i (.int (nar .char x)) ∧ AI Z h' a .char n (up f i (nar .char x)) ∧ ∀ target, Steps p.tables e below (T'.setTop { fr with pc := fr.pc + 1, stack := rest }) target → Steps p.tables e below (T.setTop fr) target := by
  have A0 := A
  obtain ⟨cl, A, S, M, G⟩ := A
  obtain ⟨q1, q2⟩ := ixo hj hi
  obtain ⟨T', h', X', e', W', st⟩ := stC X hx hZ eT A (j := j) (by rw [S]; exact q1) hg hs hd
  rw [q2] at X' W'
  exact ⟨T', h', X', e', W', A0.wr W' (fits_nar_char x), st⟩
theorem stAJ {f : Nat → Int64} {x : Int64} (X : Stand p l e R s m args below meth c T locs cells slots) (hx : p.tables.exec = Jvm.exec) (hZ : Z.Warmed39 s.vm) (eT : T.heap = h) (A : AJ Z h a n f) (hj : j.toInt = (i : Int)) (hi : i < n) (hg : fr.method = m) (hs : fr.stack = .long x :: .int j :: .ref a :: rest) (hd : decode c.code fr.pc = .ok (.lastore, 1)) :
    ∃ T' h', Stand p l e R s m args below meth c T' (locs ++ [⟨a, i⟩]) cells slots ∧ T'.heap = h' ∧ Wr h h' a i (.long x) ∧ AJ Z h' a n (up f i x) ∧ ∀ target, Steps p.tables e below (T'.setTop { fr with pc := fr.pc + 1, stack := rest }) target → Steps p.tables e below (T.setTop fr) target := by
  have A0 := A
  obtain ⟨cl, A, S, M, G⟩ := A
  obtain ⟨q1, q2⟩ := ixo hj hi
  obtain ⟨T', h', X', e', W', st⟩ := stJ X hx hZ eT A (j := j) (by rw [S]; exact q1) hg hs hd
  rw [q2] at X' W'
  exact ⟨T', h', X', e', W', A0.wr W', st⟩
theorem nwA {a0 : Array Value} {aty : ArrayType} {z : Int32} {cap : Nat} (X : Stand p l e R s m args below meth c T locs cells slots) (hx : p.tables.exec = Jvm.exec) (hZ : Z.Warmed39 s.vm) (w : (Cond.arrayClass (newarray.typeOf aty)).before a0 Z = true) (eT : T.heap = h) (hz : z.toInt = (n : Int)) (hcap : n ≤ cap) (hb : cap * 8 ≤ 536870912) (hc : cells + 1 ≤ R.cells) (hl : slots + cap ≤ R.slots) (hg : fr.method = m) (hs : fr.stack = .int z :: rest) (hd : decode c.code fr.pc = .ok (.newarray aty, 2)) :
    ∃ T' h', Stand p l e R s m args below meth c T' locs (cells + 1) (slots + cap) ∧ T'.heap = h' ∧ Ext h h' ∧ Ar Z h' h.size (newarray.typeOf aty) n (fun _ => defaultValue (newarray.typeOf aty)) ∧ ∀ target, Steps p.tables e below (T'.setTop { fr with pc := fr.pc + 2, stack := .ref h.size :: rest }) target → Steps p.tables e below (T.setTop fr) target := by
  have e0 : (0 : Int32).toInt = 0 := rfl
  have q : z.toNatClampNeg = n := by rw [Int32.toNatClampNeg, hz]; rfl
  have qn : ¬ z < 0 := by rw [Int32.lt_iff_toInt_lt]; omega
  have r := rng32 z
  obtain ⟨T', h', cA, X', e', E', A', st⟩ := newP X hx hZ w eT hg hd hs qn (cap := cap) (by omega) hb hc hl
  refine ⟨T', h', X', e', E', ⟨_, A', by rw [sz_new, q], by omega, fun i hi => ⟨?_, by cases aty <;> rfl⟩⟩, st⟩
  simp [newA, q, hi]
/-- System.arraycopy of the first k places -/
theorem cpAr {a0 : Array Value} {own : String} {index : Nat} {b : Addr} {ty : FieldType} {n1 n2 k : Nat} {f1 f2 : Nat → Value} {nn : Int32} {n0 W : Nat} (X : Stand p l e R s m args below meth c T locs cells slots) (hx : p.tables.exec = Jvm.exec) (hZ : Z.Warmed39 s.vm) (hown : s.vm.findClass own = some m.cls)
    (w1 : (Cond.methodLink own index Jvm.Stand.acN).before a0 Z = true) (w2 : (Cond.native Jvm.Stand.acN).before a0 Z = true) (w3 : (Cond.static Jvm.Stand.acN).before a0 Z = true) (w4 : (Cond.initialized "java/lang/System").before a0 Z = true) (eT : T.heap = h)
    (A : Ar Z h a ty n1 f1) (B : Ar Z h b ty n2 f2) (hty : refKind ty = false) (hk : nn.toInt = (k : Int)) (h4 : k ≤ n1) (h5 : k ≤ n2) (N : Fr n0 locs) (ge : n0 ≤ b)
    (hg : fr.method = m) (hsize : fr.locals.size = c.maxLocals) (hs : fr.stack = .int nn :: .int 0 :: .ref b :: .int 0 :: .ref a :: rest) (hd : decode c.code fr.pc = .ok (.invokestatic index, 3))
    (hf : 1 ≤ R.frames) (hW : 2 * fr.monitorRoom + (rest.map fun v => v.category).sum ≤ W) (hlo : W + (nativeFrameWords "java/lang/System" "arraycopy" 5 + 11) ≤ R.locals) :
    ∃ T' h' L, Stand p l e R s m args below meth c T' L cells slots ∧ T'.heap = h' ∧ Fr n0 L ∧ Keep h h' [b] ∧ Ar Z h' b ty n2 (fun j => if j < k then f1 j else f2 j) ∧
      ∀ target, Steps p.tables e below (T'.setTop { fr with pc := fr.pc + 3, stack := rest }) target → Steps p.tables e below (T.setTop fr) target := by
  obtain ⟨ka, A'⟩ := A.arv
  obtain ⟨kb, B'⟩ := B.arv
  have m1 := A.bound
  have m2 := B.bound
  have e0 : (0 : Int32).toInt = 0 := rfl
  have z0 : (0 : Int32).toNatClampNeg = 0 := rfl
  have hkk : nn.toNatClampNeg = k := by rw [Int32.toNatClampNeg, hk]; rfl
  have q1 : (Int32.ofNat n1).toInt = (n1 : Int) := Int32.toInt_ofNat_of_lt (by omega)
  have q2 : (Int32.ofNat n2).toInt = (n2 : Int) := Int32.toInt_ofNat_of_lt (by omega)
  have p1 : (Int32.ofNat n1).toNatClampNeg = n1 := by rw [Int32.toNatClampNeg, q1]; rfl
  have p2 : (Int32.ofNat n2).toNatClampNeg = n2 := by rw [Int32.toNatClampNeg, q2]; rfl
  obtain ⟨T', h', L', X', e', N', K', B2, st⟩ := cpA X hx hZ hown w1 w2 w3 w4 eT A' B' (Or.inl ⟨rfl, hty⟩) (sp := 0) (dp := 0) (nn := nn) (by decide) (by decide) (by rw [Int32.lt_iff_toInt_lt]; omega) (by rw [z0, hkk, p1]; omega) (by rw [z0, hkk, p2]; omega) rfl (by rw [z0, hkk, List.length_map, List.length_range]; omega) N ge hg hsize hs hd hf hW hlo
  refine ⟨T', h', L', X', e', N', K', (Ar.of_arv B2 q2).congr fun j hj => ?_, st⟩
  simp only [z0, hkk, List.take_zero, List.nil_append, Nat.zero_add, List.getD_eq_getElem?_getD]
  by_cases c1 : j < k
  · rw [if_pos c1, List.getElem?_append_left (by simpa using c1)]
    simp [c1, show j < n1 by omega]
  · rw [if_neg c1, List.getElem?_append_right (by simpa using c1)]
    simp [show k + (j - k) = j by omega, hj]
end Steps
end Jvm.Pilot.@@N@@.OwnKit
namespace Jvm.Pilot.@@N@@.OwnKit
open Jvm Sem ClassFile Op Lib Jvm.Stand Jvm.Free Jvm.LawKit Jvm.RoadKit
/-- an array of arrays of longs: n places, place j holds f j -/
def Lv (Z : State) (h : Heap) (a : Addr) (n : Nat) (f : Nat → Value) : Prop := ∃ c : Cell, Arr Z h a c (.array .long) ∧ c.slots.size = n ∧ n < 2 ^ 31 ∧ (∀ j, j < n → c.slots[j]? = some (f j) ∧ fits (.array .long) (f j) = true) ∧ OvrA Z c.cls .long "[J"
section Facts
variable {Z : State} {h h' : Heap} {a b : Addr} {n sl : Nat} {f : Nat → Value} {v : Value} {ws : List Addr}
theorem Lv.ar (A : Lv Z h a n f) : Ar Z h a (.array .long) n f := by obtain ⟨c, A, S, M, G, O⟩ := A; exact ⟨c, A, S, M, G⟩
theorem Lv.lt (A : Lv Z h a n f) : a < h.size := A.ar.lt
theorem Lv.ext (A : Lv Z h a n f) (E : Ext h h') : Lv Z h' a n f := by obtain ⟨c, A, r⟩ := A; exact ⟨c, A.ext E, r⟩
theorem Lv.other (A : Lv Z h b n f) (W : Wr h h' a sl v) (q : b ≠ a) : Lv Z h' b n f := by obtain ⟨c, A, r⟩ := A; exact ⟨c, A.other W q, r⟩
theorem Lv.wr (A : Lv Z h a n f) (W : Wr h h' a sl v) (hf : fits (.array .long) v = true) : Lv Z h' a n (up f sl v) := by
  obtain ⟨c, A, S, M, G, O⟩ := A
  refine ⟨c.setSlot sl v, A.same W, by rw [sz_set]; exact S, M, fun j hj => ?_, O⟩
  by_cases q : j = sl
  · subst q; rw [up_at, own_setSlot, Array.getElem?_setIfInBounds_self_of_lt (by omega)]; exact ⟨rfl, hf⟩
  · rw [up_ne f v q, own_setSlot, Array.getElem?_setIfInBounds_ne (Ne.symm q)]; exact G j hj
end Facts
section Steps
variable {p : Program} {l : Launch} {e : Env} {R : Room} {s : State} {m : MethodId} {args : Array Value} {below : List Frame} {meth : Method} {c : Code} {T : State} {locs : List Loc} {cells slots : Nat} {Z : State} {h : Heap} {a : Addr} {n i : Nat} {j : Int32} {rest : List Value} {fr : JFrame} {target : State}
theorem nwJ {a0 : Array Value} {z : Int32} {cap : Nat} (X : Stand p l e R s m args below meth c T locs cells slots) (hx : p.tables.exec = Jvm.exec) (hZ : Z.Warmed39 s.vm) (w : (Cond.arrayClass .long).before a0 Z = true) (eT : T.heap = h) (hz : z.toInt = (n : Int)) (hcap : n ≤ cap) (hb : cap * 8 ≤ 536870912) (hc : cells + 1 ≤ R.cells) (hl : slots + cap ≤ R.slots) (hg : fr.method = m) (hs : fr.stack = .int z :: rest) (hd : decode c.code fr.pc = .ok (.newarray .long, 2)) :
    ∃ T' h', Stand p l e R s m args below meth c T' locs (cells + 1) (slots + cap) ∧ T'.heap = h' ∧ Ext h h' ∧ AJ Z h' h.size n (fun _ => (0 : Int64)) ∧ Exa Z h' h.size "[J" ∧ ∀ target, Steps p.tables e below (T'.setTop { fr with pc := fr.pc + 2, stack := .ref h.size :: rest }) target → Steps p.tables e below (T.setTop fr) target := by
  have e0 : (0 : Int32).toInt = 0 := rfl
  have q : z.toNatClampNeg = n := by rw [Int32.toNatClampNeg, hz]; rfl
  have qn : ¬ z < 0 := by rw [Int32.lt_iff_toInt_lt]; omega
  have r := rng32 z
  obtain ⟨T', h', cA, X', e', E', A', Ex, st⟩ := newPE X hx hZ (aty := .long) w eT hg hd hs qn (cap := cap) (by omega) hb hc hl (ad := "[J") (by decide)
  refine ⟨T', h', X', e', E', ⟨_, A', by rw [sz_new, q], by omega, fun i hi => ⟨?_, rfl⟩⟩, Ex, st⟩
  simp [newA, q, hi]; rfl
theorem nwL {a0 : Array Value} {own : String} {index : Nat} {z : Int32} {cap : Nat} (X : Stand p l e R s m args below meth c T locs cells slots) (hx : p.tables.exec = Jvm.exec) (hZ : Z.Warmed39 s.vm) (hown : s.vm.findClass own = some m.cls) (w1 : (Cond.classLink own index "[J").before a0 Z = true) (w2 : (Cond.arrayOver (.array .long)).before a0 Z = true) (eT : T.heap = h) (hz : z.toInt = (n : Int)) (hcap : n ≤ cap) (hb : cap * 8 ≤ 536870912) (hc : cells + 1 ≤ R.cells) (hl : slots + cap ≤ R.slots) (hg : fr.method = m) (hs : fr.stack = .int z :: rest) (hd : decode c.code fr.pc = .ok (.anewarray index, 3)) :
    ∃ T' h', Stand p l e R s m args below meth c T' locs (cells + 1) (slots + cap) ∧ T'.heap = h' ∧ Ext h h' ∧ Lv Z h' h.size n (fun _ => .null) ∧ ∀ target, Steps p.tables e below (T'.setTop { fr with pc := fr.pc + 3, stack := .ref h.size :: rest }) target → Steps p.tables e below (T.setTop fr) target := by
  have e0 : (0 : Int32).toInt = 0 := rfl
  have q : z.toNatClampNeg = n := by rw [Int32.toNatClampNeg, hz]; rfl
  have qn : ¬ z < 0 := by rw [Int32.lt_iff_toInt_lt]; omega
  have r := rng32 z
  obtain ⟨T', h', cA, X', e', E', A', Ex, O, st⟩ := newRA X hx hZ hown (C := "[J") (ty := .long) (by decide) w1 w2 eT hg hd hs qn (cap := cap) (by omega) hb hc hl (ad := "[[J") (by decide)
  refine ⟨T', h', X', e', E', ⟨_, A', by rw [sz_new, q], by omega, fun i hi => ⟨?_, rfl⟩, O⟩, st⟩
  simp [newA, q, hi]; rfl
theorem stL {f : Nat → Value} {y : Addr} (X : Stand p l e R s m args below meth c T locs cells slots) (hx : p.tables.exec = Jvm.exec) (hZ : Z.Warmed39 s.vm) (eT : T.heap = h) (A : Lv Z h a n f) (E : Exa Z h y "[J") (hj : j.toInt = (i : Int)) (hi : i < n) (hg : fr.method = m) (hs : fr.stack = .ref y :: .int j :: .ref a :: rest) (hd : decode c.code fr.pc = .ok (.aastore, 1)) :
    ∃ T' h', Stand p l e R s m args below meth c T' (locs ++ [⟨a, i⟩]) cells slots ∧ T'.heap = h' ∧ Wr h h' a i (.ref y) ∧ Lv Z h' a n (up f i (.ref y)) ∧ ∀ target, Steps p.tables e below (T'.setTop { fr with pc := fr.pc + 1, stack := rest }) target → Steps p.tables e below (T.setTop fr) target := by
  have A0 := A
  obtain ⟨cl, A, S, M, G, O⟩ := A
  obtain ⟨q1, q2⟩ := ixo hj hi
  obtain ⟨T', h', X', e', W', st⟩ := stR X hx hZ eT A (j := j) (by rw [S]; exact q1) rfl (Sto.ofVA A rfl O (Ins.self E)) hg hs hd
  rw [q2] at X' W'
  exact ⟨T', h', X', e', W', A0.wr W' rfl, st⟩
end Steps
end Jvm.Pilot.@@N@@.OwnKit
namespace Jvm.Pilot.@@N@@.OwnKit
open Jvm Sem ClassFile Op Lib Jvm.Stand Jvm.Free Jvm.LawKit Jvm.RoadKit
def bit (v : Int64) (k : Nat) : Bool := v.toBitVec.getLsbD k
def fromB (n : Int32) : Int64 := (-1 : Int64) <<< (n &&& 0x3f).toInt64
def upB (n : Int32) : Int64 := ((-1 : Int64).toUInt64 >>> (((63 : Int32) - (n &&& (63 : Int32))) &&& 0x3f).toInt64.toUInt64).toInt64
def oneB (n : Int32) : Int64 := (1 : Int64) <<< (n &&& 0x3f).toInt64
theorem sh_at (n : Int32) (k : Nat) (h : n.toInt = (k : Int)) : (n &&& 0x3f).toInt64 = Int64.ofNat (k % 64) := by
  have a := c_mask n 63 6 (by decide) (by decide)
  apply Int64.toInt_inj.mp
  rw [c_i2l]
  show (n &&& 63).toInt = _
  rw [a, Int64.toInt_ofNat_of_lt (by omega), h]
  omega
theorem t_one : ∀ m k : Fin 64, ((1 : Int64) <<< Int64.ofNat m.val).toBitVec.getLsbD k.val = decide (k.val = m.val) := by decide +kernel
theorem t_from : ∀ m k : Fin 64, ((-1 : Int64) <<< Int64.ofNat m.val).toBitVec.getLsbD k.val = decide (m.val ≤ k.val) := by decide +kernel
theorem t_up : ∀ m k : Fin 64, (((-1 : Int64).toUInt64 >>> (Int64.ofNat m.val).toUInt64).toInt64).toBitVec.getLsbD k.val = decide (k.val + m.val ≤ 63) := by decide +kernel
theorem bit_one (n : Int32) (a k : Nat) (h : n.toInt = (a : Int)) (hk : k < 64) : bit (oneB n) k = decide (k = a % 64) := by
  rw [bit, oneB, sh_at n a h]; exact t_one ⟨a % 64, by omega⟩ ⟨k, hk⟩
theorem bit_from (n : Int32) (a k : Nat) (h : n.toInt = (a : Int)) (hk : k < 64) : bit (fromB n) k = decide (a % 64 ≤ k) := by
  rw [bit, fromB, sh_at n a h]; exact t_from ⟨a % 64, by omega⟩ ⟨k, hk⟩
theorem bit_up (n : Int32) (a k : Nat) (h : n.toInt = (a : Int)) (hk : k < 64) : bit (upB n) k = decide (k ≤ a % 64) := by
  have q : ((63 : Int32) - (n &&& (63 : Int32))).toInt = ((63 - a % 64 : Nat) : Int) := by
    have b := c_mask n 63 6 (by decide) (by decide)
    have c := c_isub 63 (n &&& 63)
    have e : (63 : Int32).toInt = 63 := rfl
    have r := rng32 (63 - (n &&& 63))
    rw [e, b, h] at c
    omega
  rw [bit, upB, sh_at _ _ q]
  have := t_up ⟨(63 - a % 64) % 64, by omega⟩ ⟨k, hk⟩
  rw [this]
  show decide (k + (63 - a % 64) % 64 ≤ 63) = _
  apply decide_eq_decide.mpr
  omega
theorem bit_or (u v : Int64) (k : Nat) : bit (u ||| v) k = (bit u k || bit v k) := by
  rw [bit, Int64.toBitVec_or, BitVec.getLsbD_or]; rfl
theorem bit_and (u v : Int64) (k : Nat) : bit (u &&& v) k = (bit u k && bit v k) := by
  rw [bit, Int64.toBitVec_and, BitVec.getLsbD_and]; rfl
theorem bit_ne (v : Int64) : ¬ v = (0 : Int64) ↔ ∃ k, k < 64 ∧ bit v k = true := by
  constructor
  · intro h
    apply Classical.byContradiction
    intro q
    apply h
    apply Int64.toBitVec_inj.mp
    apply BitVec.eq_of_getLsbD_eq
    intro i hi
    have z : (0 : Int64).toBitVec.getLsbD i = false := by
      show (0#64).getLsbD i = false
      exact BitVec.getLsbD_zero
    rw [z]
    cases hb : v.toBitVec.getLsbD i with
    | false => rfl
    | true => exact absurd ⟨i, hi, hb⟩ q
  · rintro ⟨k, hk, hb⟩ rfl
    have z : bit (0 : Int64) k = false := BitVec.getLsbD_zero
    rw [z] at hb; cases hb
/-- the words of g stand for the set S -/
def Rep (w : Nat) (g : Nat → Int64) (S : Nat → Prop) : Prop := ∀ x, x / 64 < w → (bit (g (x / 64)) (x % 64) = true ↔ S x)
def Up (S : Nat → Prop) (y : Nat) : Prop := ∃ k, k < 64 ∧ S (64 * y + k)
def Add (S : Nat → Prop) (n x : Nat) : Prop := S x ∨ x = n
def Has2 (S : Nat → Prop) (lo hi : Nat) : Prop := ∃ x, lo ≤ x ∧ x ≤ hi ∧ S x
section Sets
variable {w : Nat} {g : Nat → Int64} {S S' : Nat → Prop}
theorem Rep.congr (h : Rep w g S) (q : ∀ x, S x ↔ S' x) : Rep w g S' := fun x hx => (h x hx).trans (q x)
theorem Rep.word (h : Rep w g S) {y : Nat} (hy : y < w) : ¬ g y = (0 : Int64) ↔ Up S y := by
  rw [bit_ne]
  constructor
  · rintro ⟨k, hk, hb⟩
    have a : (64 * y + k) / 64 = y := by omega
    have b : (64 * y + k) % 64 = k := by omega
    exact ⟨k, hk, (h (64 * y + k) (by omega)).mp (by rw [a, b]; exact hb)⟩
  · rintro ⟨k, hk, hs⟩
    have a : (64 * y + k) / 64 = y := by omega
    have b : (64 * y + k) % 64 = k := by omega
    have := (h (64 * y + k) (by omega)).mpr hs
    rw [a, b] at this
    exact ⟨k, hk, this⟩
theorem Rep.add (h : Rep w g S) (n : Int32) (a : Nat) (ha : n.toInt = (a : Int)) (hw : a / 64 < w) : Rep w (up g (a / 64) (g (a / 64) ||| oneB n)) (Add S a) := by
  intro x hx
  by_cases q : x / 64 = a / 64
  · rw [q, up_at, bit_or, bit_one n a (x % 64) ha (by omega), Bool.or_eq_true, decide_eq_true_eq, ← q, h x hx]
    constructor
    · rintro (u | u)
      · exact Or.inl u
      · exact Or.inr (by omega)
    · rintro (u | u)
      · exact Or.inl u
      · exact Or.inr (by rw [u])
  · rw [up_ne _ _ q, h x hx]
    exact ⟨Or.inl, fun u => u.elim id fun z => absurd (by rw [z]) q⟩
theorem Up.add (S : Nat → Prop) (a y : Nat) : Up (Add S a) y ↔ Add (Up S) (a / 64) y := by
  constructor
  · rintro ⟨k, hk, hs | hs⟩
    · exact Or.inl ⟨k, hk, hs⟩
    · exact Or.inr (by omega)
  · rintro (⟨k, hk, hs⟩ | hs)
    · exact ⟨k, hk, Or.inl hs⟩
    · exact ⟨a % 64, by omega, Or.inr (by omega)⟩
theorem Add.old {a : Nat} (h : S a) (x : Nat) : S x ↔ Add S a x := ⟨Or.inl, fun u => u.elim id fun z => z ▸ h⟩
theorem Up.congr (q : ∀ x, S x ↔ S' x) (y : Nat) : Up S y ↔ Up S' y := ⟨fun ⟨k, hk, h⟩ => ⟨k, hk, (q _).mp h⟩, fun ⟨k, hk, h⟩ => ⟨k, hk, (q _).mpr h⟩⟩
/-- one word: the bits from lo to hi -/
theorem Rep.same (h : Rep w g S) (lo hi : Int32) (a b : Nat) (ha : lo.toInt = (a : Int)) (hb : hi.toInt = (b : Int)) (hw : a / 64 < w) (he : a / 64 = b / 64) : ¬ ((g (a / 64) &&& fromB lo) &&& upB hi) = (0 : Int64) ↔ Has2 S a b := by
  rw [bit_ne]
  constructor
  · rintro ⟨k, hk, hb2⟩
    rw [bit_and, bit_and, bit_from lo a k ha hk, bit_up hi b k hb hk, Bool.and_eq_true, Bool.and_eq_true, decide_eq_true_eq, decide_eq_true_eq] at hb2
    have e1 : (64 * (a / 64) + k) / 64 = a / 64 := by omega
    have e2 : (64 * (a / 64) + k) % 64 = k := by omega
    have := (h (64 * (a / 64) + k) (by omega)).mp (by rw [e1, e2]; exact hb2.1.1)
    exact ⟨_, by omega, by omega, this⟩
  · rintro ⟨x, h1, h2, hs⟩
    have e1 : x / 64 = a / 64 := by omega
    have := (h x (by omega)).mpr hs
    rw [e1] at this
    refine ⟨x % 64, by omega, ?_⟩
    rw [bit_and, bit_and, bit_from lo a (x % 64) ha (by omega), bit_up hi b (x % 64) hb (by omega), this, Bool.and_eq_true, Bool.and_eq_true, decide_eq_true_eq, decide_eq_true_eq]
    exact ⟨⟨rfl, by omega⟩, by omega⟩
theorem Rep.lowW (h : Rep w g S) (lo : Int32) (a : Nat) (ha : lo.toInt = (a : Int)) (hw : a / 64 < w) : ¬ (g (a / 64) &&& fromB lo) = (0 : Int64) ↔ Has2 S a (64 * (a / 64) + 63) := by
  rw [bit_ne]
  constructor
  · rintro ⟨k, hk, hb2⟩
    rw [bit_and, bit_from lo a k ha hk, Bool.and_eq_true, decide_eq_true_eq] at hb2
    have e1 : (64 * (a / 64) + k) / 64 = a / 64 := by omega
    have e2 : (64 * (a / 64) + k) % 64 = k := by omega
    have := (h (64 * (a / 64) + k) (by omega)).mp (by rw [e1, e2]; exact hb2.1)
    exact ⟨_, by omega, by omega, this⟩
  · rintro ⟨x, h1, h2, hs⟩
    have e1 : x / 64 = a / 64 := by omega
    have := (h x (by omega)).mpr hs
    rw [e1] at this
    refine ⟨x % 64, by omega, ?_⟩
    rw [bit_and, bit_from lo a (x % 64) ha (by omega), this, Bool.and_eq_true, decide_eq_true_eq]
    exact ⟨rfl, by omega⟩
theorem Rep.highW (h : Rep w g S) (hi : Int32) (b : Nat) (hb : hi.toInt = (b : Int)) (hw : b / 64 < w) : ¬ (g (b / 64) &&& upB hi) = (0 : Int64) ↔ Has2 S (64 * (b / 64)) b := by
  rw [bit_ne]
  constructor
  · rintro ⟨k, hk, hb2⟩
    rw [bit_and, bit_up hi b k hb hk, Bool.and_eq_true, decide_eq_true_eq] at hb2
    have e1 : (64 * (b / 64) + k) / 64 = b / 64 := by omega
    have e2 : (64 * (b / 64) + k) % 64 = k := by omega
    have := (h (64 * (b / 64) + k) (by omega)).mp (by rw [e1, e2]; exact hb2.1)
    exact ⟨_, by omega, by omega, this⟩
  · rintro ⟨x, h1, h2, hs⟩
    have e1 : x / 64 = b / 64 := by omega
    have := (h x (by omega)).mpr hs
    rw [e1] at this
    refine ⟨x % 64, by omega, ?_⟩
    rw [bit_and, bit_up hi b (x % 64) hb (by omega), this, Bool.and_eq_true, decide_eq_true_eq]
    exact ⟨rfl, by omega⟩
theorem Has2.split (a b : Nat) (hab : a / 64 < b / 64) : Has2 S a b ↔ Has2 S a (64 * (a / 64) + 63) ∨ Has2 S (64 * (b / 64)) b ∨ Has2 (Up S) (a / 64 + 1) (b / 64 - 1) := by
  constructor
  · rintro ⟨x, h1, h2, hs⟩
    by_cases c1 : x / 64 = a / 64
    · exact Or.inl ⟨x, h1, by omega, hs⟩
    by_cases c2 : x / 64 = b / 64
    · exact Or.inr (Or.inl ⟨x, by omega, h2, hs⟩)
    · exact Or.inr (Or.inr ⟨x / 64, by omega, by omega, x % 64, by omega, by rw [show 64 * (x / 64) + x % 64 = x by omega]; exact hs⟩)
  · rintro (⟨x, h1, h2, hs⟩ | ⟨x, h1, h2, hs⟩ | ⟨y, h1, h2, k, hk, hs⟩)
    · exact ⟨x, h1, by omega, hs⟩
    · exact ⟨x, by omega, h2, hs⟩
    · exact ⟨_, by omega, by omega, hs⟩
end Sets
end Jvm.Pilot.@@N@@.OwnKit
namespace Jvm.Pilot.@@N@@
open Jvm Jvm.ClassFile Sem Op Lib Jvm.Free Jvm.Stand Jvm.LawKit Jvm.RoadKit Bundle Jvm.Pilot.@@N@@.Jvm.D Jvm.Pilot.@@N@@.OwnKit
theorem own_sh6 (n : Int32) (a : Nat) (h : n.toInt = (a : Int)) : ((n.toUInt32>>>((6:Int32)&&&31).toUInt32).toInt32).toInt = ((a / 64 : Nat) : Int) := by
  have q := c_iushr n 6 6 (by decide) (by decide)
  have r := rng32 n
  omega
theorem own_w1 (n : Int32) (a : Nat) (h : n.toInt = (a : Int)) : (((n.toUInt32>>>((6:Int32)&&&31).toUInt32).toInt32) + (1:Int32)).toInt = ((a / 64 + 1 : Nat) : Int) := by
  have q := own_sh6 n a h
  have b := c_iadd ((n.toUInt32>>>((6:Int32)&&&31).toUInt32).toInt32) 1
  have e1 : (1:Int32).toInt = 1 := rfl
  have r := rng32 (((n.toUInt32>>>((6:Int32)&&&31).toUInt32).toInt32) + 1)
  have r' := rng32 n
  rw [e1] at b
  omega
theorem own_gt1 {x : Int32} {w : Nat} (h : x.toInt = (w : Int)) (hw : 1 < w) : (1:Int32) < x := by
  rw [Int32.lt_iff_toInt_lt]; have e1 : (1:Int32).toInt = 1 := rfl; omega
theorem own_le1 {x : Int32} {w : Nat} (h : x.toInt = (w : Int)) (hw : w ≤ 1) : ¬ (1:Int32) < x := by
  rw [Int32.lt_iff_toInt_lt]; have e1 : (1:Int32).toInt = 1 := rfl; omega
theorem own_w2 {nb : Nat} (h : nb ≤ 16384) : ((nb / 64 + 1) / 64 + 1) / 64 + 1 ≤ 1 := by omega
theorem own_c64 {nb : Nat} (h : (nb / 64 + 1) / 64 + 1 ≤ 1) : nb / 64 + 1 ≤ 64 := by omega
theorem own_c257 {nb : Nat} (h : nb ≤ 16384) : nb / 64 + 1 ≤ 257 := by omega
theorem own_c5 {nb : Nat} (h : nb ≤ 16384) : (nb / 64 + 1) / 64 + 1 ≤ 5 := by omega
theorem d1_0 : decode prog_96_method_1_code 0 = .ok (.aload_n 0, 1) := by decide +kernel
theorem d1_1 : decode prog_96_method_1_code 1 = .ok (.invokespecial 1, 3) := by decide +kernel
theorem d1_4 : decode prog_96_method_1_code 4 = .ok (.iconst 1, 1) := by decide +kernel
theorem d1_5 : decode prog_96_method_1_code 5 = .ok (.istore_n 2, 1) := by decide +kernel
theorem d1_6 : decode prog_96_method_1_code 6 = .ok (.iload_n 1, 1) := by decide +kernel
theorem d1_7 : decode prog_96_method_1_code 7 = .ok (.bipush 6, 2) := by decide +kernel
theorem d1_9 : decode prog_96_method_1_code 9 = .ok (.iushr, 1) := by decide +kernel
theorem d1_10 : decode prog_96_method_1_code 10 = .ok (.iconst 1, 1) := by decide +kernel
theorem d1_11 : decode prog_96_method_1_code 11 = .ok (.iadd, 1) := by decide +kernel
theorem d1_12 : decode prog_96_method_1_code 12 = .ok (.istore_n 3, 1) := by decide +kernel
theorem d1_13 : decode prog_96_method_1_code 13 = .ok (.iload_n 3, 1) := by decide +kernel
theorem d1_14 : decode prog_96_method_1_code 14 = .ok (.iconst 1, 1) := by decide +kernel
theorem d1_15 : decode prog_96_method_1_code 15 = .ok (.if_icmp .le 16, 3) := by decide +kernel
theorem d1_31 : decode prog_96_method_1_code 31 = .ok (.aload_n 0, 1) := by decide +kernel
theorem d1_32 : decode prog_96_method_1_code 32 = .ok (.iload_n 2, 1) := by decide +kernel
theorem d1_33 : decode prog_96_method_1_code 33 = .ok (.anewarray 7, 3) := by decide +kernel
theorem d1_36 : decode prog_96_method_1_code 36 = .ok (.putfield 9, 3) := by decide +kernel
theorem d1_39 : decode prog_96_method_1_code 39 = .ok (.iload_n 1, 1) := by decide +kernel
theorem d1_40 : decode prog_96_method_1_code 40 = .ok (.bipush 6, 2) := by decide +kernel
theorem d1_42 : decode prog_96_method_1_code 42 = .ok (.iushr, 1) := by decide +kernel
theorem d1_43 : decode prog_96_method_1_code 43 = .ok (.iconst 1, 1) := by decide +kernel
theorem d1_44 : decode prog_96_method_1_code 44 = .ok (.iadd, 1) := by decide +kernel
theorem d1_45 : decode prog_96_method_1_code 45 = .ok (.istore_n 3, 1) := by decide +kernel
theorem d1_46 : decode prog_96_method_1_code 46 = .ok (.iconst 0, 1) := by decide +kernel
theorem d1_47 : decode prog_96_method_1_code 47 = .ok (.istore 4, 2) := by decide +kernel
theorem d1_49 : decode prog_96_method_1_code 49 = .ok (.iload 4, 2) := by decide +kernel
theorem d1_51 : decode prog_96_method_1_code 51 = .ok (.iload_n 2, 1) := by decide +kernel
theorem d1_52 : decode prog_96_method_1_code 52 = .ok (.if_icmp .ge 26, 3) := by decide +kernel
theorem d1_55 : decode prog_96_method_1_code 55 = .ok (.aload_n 0, 1) := by decide +kernel
theorem d1_56 : decode prog_96_method_1_code 56 = .ok (.getfield 9, 3) := by decide +kernel
theorem d1_59 : decode prog_96_method_1_code 59 = .ok (.iload 4, 2) := by decide +kernel
theorem d1_61 : decode prog_96_method_1_code 61 = .ok (.iload_n 3, 1) := by decide +kernel
theorem d1_62 : decode prog_96_method_1_code 62 = .ok (.newarray .long, 2) := by decide +kernel
theorem d1_64 : decode prog_96_method_1_code 64 = .ok (.aastore, 1) := by decide +kernel
theorem d1_65 : decode prog_96_method_1_code 65 = .ok (.iload_n 3, 1) := by decide +kernel
theorem d1_66 : decode prog_96_method_1_code 66 = .ok (.bipush 6, 2) := by decide +kernel
theorem d1_68 : decode prog_96_method_1_code 68 = .ok (.iushr, 1) := by decide +kernel
theorem d1_69 : decode prog_96_method_1_code 69 = .ok (.iconst 1, 1) := by decide +kernel
theorem d1_70 : decode prog_96_method_1_code 70 = .ok (.iadd, 1) := by decide +kernel
theorem d1_71 : decode prog_96_method_1_code 71 = .ok (.istore_n 3, 1) := by decide +kernel
theorem d1_72 : decode prog_96_method_1_code 72 = .ok (.iinc 4 1, 3) := by decide +kernel
theorem d1_75 : decode prog_96_method_1_code 75 = .ok (.goto (-26), 3) := by decide +kernel
theorem d1_78 : decode prog_96_method_1_code 78 = .ok (.return_, 1) := by decide +kernel
theorem pn_0 : plainName "com/example/xml_graph_join/xmlgraphjoin/topo/BitLevels" = true := by first | (simp [plainName, overriddenIn]; done) | decide +kernel
theorem ef1d1 (m : MethodId) (oa : Addr) (pb : Int32) : entryFrame m #[(.ref oa), (.int pb)] 5 = mkF m 0 #[.val (.ref oa),.val (.int pb),.unset,.unset,.unset] [] := by first | (simp [entryFrame, mkF, argsToLocals, Value.category]; done) | rfl
def Q1d1 (Z : State) (oa : Addr) (pb : Int32) (nb : Nat) (h0 : Heap) (n0 : Nat) (v : Option Value) (h : Heap) (L : List Loc) : Prop := ∃ ol : Addr, ∃ o0 : Addr, v = none ∧ Fr n0 L ∧ Keep h0 h [oa] ∧ Exa Z h oa "com/example/xml_graph_join/xmlgraphjoin/topo/BitLevels" ∧ Fld Z h oa "com/example/xml_graph_join/xmlgraphjoin/topo/BitLevels" "levels" "[[J" (.ref ol) ∧ Ar Z h ol (.array .long) 1 (up (fun _ => .null) 0 (.ref o0)) ∧ AJ Z h o0 (nb / 64 + 1) (fun _ => (0:Int64)) ∧ (h0.size ≤ ol) ∧ (h0.size ≤ o0) ∧ (ol ≠ o0)
set_option maxRecDepth 65536 in
set_option maxHeartbeats 40000000 in
theorem rm1d1 (l : Launch) (Z : State) (a0 : Array Value) (hw : ∀ d ∈ tables_1, d.before a0 Z = true) (ws : List Jvm.Cond) (oa : Addr) (pb : Int32) (nb : Nat) (h0 : Heap) (n0 : Nat) (Z0 : n0 ≤ h0.size) (E_oa : Exa Z h0 oa "com/example/xml_graph_join/xmlgraphjoin/topo/BitLevels") (F_oa_levels : Fld Z h0 oa "com/example/xml_graph_join/xmlgraphjoin/topo/BitLevels" "levels" "[[J" .null) (g_oa : n0 ≤ oa) (hbn : pb.toInt = (nb : Int)) (hD : nb / 64 + 1 ≤ 1) :
    MetFree l (⟨"com/example/xml_graph_join/xmlgraphjoin/topo/BitLevels", "<init>", "(I)V"⟩ : MethodName) (head1 (Jvm.Cond.code (⟨"com/example/xml_graph_join/xmlgraphjoin/topo/BitLevels", "<init>", "(I)V"⟩ : MethodName) prog_96_method_1_code 5 none :: ws) ({ frames := 1, cells := 2, slots := 2, locals := 12 } : Room)) (fun a U => a = #[(.ref oa), (.int pb)] ∧ Z.Warmed39 U.vm ∧ U.heap = h0) (fun _ _ _ _ _ => True) (fun _ U o U' => ∃ v L, o = .returned v ∧ Q1d1 Z oa pb nb h0 n0 v U'.heap L ∧ FrameEnd U o U' L ({ frames := 1, cells := 2, slots := 2, locals := 12 } : Room).cells ({ frames := 1, cells := 2, slots := 2, locals := 12 } : Room).slots) := by
  refine MetFree.of_bodySF (plainFor_of_name pn_0) hisR ?_
  intro p e s m args below meth c s₁ Bd hml0 hP hK
  obtain ⟨rfl, hZ, hh⟩ := hP
  have hx := Bd.exec
  have hby := Bd.bytes
  have hml : c.maxLocals = 5 := hml0
  have hown : s.vm.findClass "com/example/xml_graph_join/xmlgraphjoin/topo/BitLevels" = some m.cls := findClass_of_methodNamed Bd.named
  have hnm := (name_of_methodNamed Bd.named Bd.method).1
  have X0 : Stand p l e ({ frames := 1, cells := 2, slots := 2, locals := 12 } : Room) s m #[(.ref oa), (.int pb)] below meth c s₁ [] 0 0 := Stand.of_body Bd
  have e0 : s₁.heap = h0 := by rw [← hh, Bd.state]; rfl
  have N0 := Fr.nil n0
  refine Goes.by (fun _ k => castTop (ef1d1 m oa pb) k) ?_
  show Goes p.tables e below (s₁.setTop (mkF m 0 #[.val (.ref oa),.val (.int pb),.unset,.unset,.unset] [])) _
  refine Goes.by (fun _ k => XS.aloadN X0.here hx rfl (hb hby d1_0) rfl rfl k) ?_
  show Goes p.tables e below (s₁.setTop (mkF m 1 #[.val (.ref oa),.val (.int pb),.unset,.unset,.unset] [(.ref oa)])) _
  obtain ⟨T1, X1, e1, st1⟩ := initO X0 hx hZ hown (hw _ (List.mem_of_getElem? (i := 7) rfl)) (hw _ (List.mem_of_getElem? (i := 8) rfl)) (hw _ (List.mem_of_getElem? (i := 9) rfl)) e0 (g := (mkF m 1 #[.val (.ref oa),.val (.int pb),.unset,.unset,.unset] [(.ref oa)])) rfl (by rw [hml]; rfl) rfl (hb hby d1_1) (by decide) (W := 0) (by show 2 * 0 + _ ≤ _; exact Nat.le_of_eq rfl) (by decide)
  refine Goes.by st1 ?_
  show Goes p.tables e below (T1.setTop (mkF m 4 #[.val (.ref oa),.val (.int pb),.unset,.unset,.unset] [])) _
  refine Goes.by (fun _ k => XS.iconst X1.here hx rfl (hb hby d1_4) k) ?_
  show Goes p.tables e below (T1.setTop (mkF m 5 #[.val (.ref oa),.val (.int pb),.unset,.unset,.unset] [(.int (1:Int32))])) _
  refine Goes.by (fun _ k => XS.istoreN X1.here hx rfl (hb hby d1_5) rfl (l' := #[.val (.ref oa),.val (.int pb),.val (.int (1:Int32)),.unset,.unset]) rfl k) ?_
  show Goes p.tables e below (T1.setTop (mkF m 6 #[.val (.ref oa),.val (.int pb),.val (.int (1:Int32)),.unset,.unset] [])) _
  refine Goes.by (fun _ k => XS.iloadN X1.here hx rfl (hb hby d1_6) rfl k) ?_
  show Goes p.tables e below (T1.setTop (mkF m 7 #[.val (.ref oa),.val (.int pb),.val (.int (1:Int32)),.unset,.unset] [(.int pb)])) _
  refine Goes.by (fun _ k => XS.bipush X1.here hx rfl (hb hby d1_7) k) ?_
  show Goes p.tables e below (T1.setTop (mkF m 9 #[.val (.ref oa),.val (.int pb),.val (.int (1:Int32)),.unset,.unset] [(.int (6:Int32)), (.int pb)])) _
  refine Goes.by (fun _ k => XS.iushr X1.here hx rfl (hb hby d1_9) rfl k) ?_
  show Goes p.tables e below (T1.setTop (mkF m 10 #[.val (.ref oa),.val (.int pb),.val (.int (1:Int32)),.unset,.unset] [(.int ((pb.toUInt32>>>((6:Int32)&&&31).toUInt32).toInt32))])) _
  refine Goes.by (fun _ k => XS.iconst X1.here hx rfl (hb hby d1_10) k) ?_
  show Goes p.tables e below (T1.setTop (mkF m 11 #[.val (.ref oa),.val (.int pb),.val (.int (1:Int32)),.unset,.unset] [(.int (1:Int32)), (.int ((pb.toUInt32>>>((6:Int32)&&&31).toUInt32).toInt32))])) _
  refine Goes.by (fun _ k => XS.iadd X1.here hx rfl (hb hby d1_11) rfl k) ?_
  show Goes p.tables e below (T1.setTop (mkF m 12 #[.val (.ref oa),.val (.int pb),.val (.int (1:Int32)),.unset,.unset] [(.int (((pb.toUInt32>>>((6:Int32)&&&31).toUInt32).toInt32) + (1:Int32)))])) _
  obtain ⟨x2, hx2⟩ : ∃ z : Int32, z = (((pb.toUInt32>>>((6:Int32)&&&31).toUInt32).toInt32) + (1:Int32)) := ⟨_, rfl⟩
  refine Goes.by (fun _ k => XS.istoreN X1.here hx rfl (hb hby d1_12) rfl (l' := #[.val (.ref oa),.val (.int pb),.val (.int (1:Int32)),.val (.int x2),.unset]) (by rw [hx2]; rfl) k) ?_
  show Goes p.tables e below (T1.setTop (mkF m 13 #[.val (.ref oa),.val (.int pb),.val (.int (1:Int32)),.val (.int x2),.unset] [])) _
  have hwx2 : x2.toInt = (((nb / 64 + 1) : Nat) : Int) := by rw [hx2]; exact own_w1 _ _ hbn
  refine Goes.by (fun _ k => XS.iloadN X1.here hx rfl (hb hby d1_13) rfl k) ?_
  show Goes p.tables e below (T1.setTop (mkF m 14 #[.val (.ref oa),.val (.int pb),.val (.int (1:Int32)),.val (.int x2),.unset] [(.int x2)])) _
  refine Goes.by (fun _ k => XS.iconst X1.here hx rfl (hb hby d1_14) k) ?_
  show Goes p.tables e below (T1.setTop (mkF m 15 #[.val (.ref oa),.val (.int pb),.val (.int (1:Int32)),.val (.int x2),.unset] [(.int (1:Int32)), (.int x2)])) _
  refine Goes.by (fun _ k => XS.icmpYes X1.here hx rfl (pc0 := 15) (pc' := 31) rfl (hb hby d1_15) rfl (flt (own_le1 hwx2 hD : ¬ ((1:Int32) < x2))).2.2.2 (by decide) (by decide) k) ?_
  show Goes p.tables e below (T1.setTop (mkF m 31 #[.val (.ref oa),.val (.int pb),.val (.int (1:Int32)),.val (.int x2),.unset] [])) _
  refine Goes.by (fun _ k => XS.aloadN X1.here hx rfl (hb hby d1_31) rfl rfl k) ?_
  show Goes p.tables e below (T1.setTop (mkF m 32 #[.val (.ref oa),.val (.int pb),.val (.int (1:Int32)),.val (.int x2),.unset] [(.ref oa)])) _
  refine Goes.by (fun _ k => XS.iloadN X1.here hx rfl (hb hby d1_32) rfl k) ?_
  show Goes p.tables e below (T1.setTop (mkF m 33 #[.val (.ref oa),.val (.int pb),.val (.int (1:Int32)),.val (.int x2),.unset] [(.int (1:Int32)), (.ref oa)])) _
  obtain ⟨T3, h3, X3, e3, E3, A3, st3⟩ := nwL (n := 1) (cap := 1) (fr := (mkF m 33 #[.val (.ref oa),.val (.int pb),.val (.int (1:Int32)),.val (.int x2),.unset] [(.int (1:Int32)), (.ref oa)])) X1 hx hZ hown (hw _ (List.mem_of_getElem? (i := 10) rfl)) (hw _ (List.mem_of_getElem? (i := 11) rfl)) e1 (by decide) (by decide) (by decide) (by decide) (by decide) rfl rfl (hb hby d1_33)
  obtain ⟨b3, g3⟩ : ∃ z, z = h0.size := ⟨_, rfl⟩
  rw [← g3] at A3 st3
  have g_b3 : n0 ≤ b3 := Nat.le_trans Z0 (Nat.le_of_eq g3.symm)
  have sz_b3 : h0.size ≤ b3 := Nat.le_trans (Keep.refl h0 [oa]).1 (Nat.le_of_eq g3.symm)
  have ne_oa_b3 : oa ≠ b3 := Nat.ne_of_lt (Nat.lt_of_lt_of_le E_oa.lt (Nat.le_of_eq g3.symm))
  have Zs3 : n0 ≤ h3.size := Nat.le_trans Z0 E3.1
  have K3 : Keep h0 h3 [oa] := (Keep.refl h0 [oa]).ext E3
  refine Goes.by st3 ?_
  have E_oa : Exa Z h3 oa "com/example/xml_graph_join/xmlgraphjoin/topo/BitLevels" := E_oa.ext E3
  have F_oa_levels : Fld Z h3 oa "com/example/xml_graph_join/xmlgraphjoin/topo/BitLevels" "levels" "[[J" .null := F_oa_levels.ext E3
  have L_b3 : Lv Z h3 b3 1 (fun _ => .null) := A3
  show Goes p.tables e below (T3.setTop (mkF m 36 #[.val (.ref oa),.val (.int pb),.val (.int (1:Int32)),.val (.int x2),.unset] [(.ref b3), (.ref oa)])) _
  obtain ⟨T4, h4, X4, e4, W4, st4⟩ := putF X3 hx hZ hown (host := "") (Or.inl (hw _ (List.mem_of_getElem? (i := 12) rfl))) Via.refl e3 F_oa_levels E_oa (Or.inr ⟨(hw _ (List.mem_of_getElem? (i := 13) rfl)), rfl, hnm⟩) (hw _ (List.mem_of_getElem? (i := 2) rfl)) (ty := (.array (.array .long))) (by decide) rfl rfl (g := (mkF m 36 #[.val (.ref oa),.val (.int pb),.val (.int (1:Int32)),.val (.int x2),.unset] [(.ref b3), (.ref oa)])) rfl rfl (hb hby d1_36)
  refine Goes.by st4 ?_
  have F_oa_levels : Fld Z h4 oa "com/example/xml_graph_join/xmlgraphjoin/topo/BitLevels" "levels" "[[J" (.ref b3) := F_oa_levels.same W4
  have N4 := Fr.snoc X4 N0 g_oa
  have Zs4 : n0 ≤ h4.size := Nat.le_trans Zs3 (Keep.of_wr W4).1
  have K4 : Keep h0 h4 [oa] := K3.wr W4 (Or.inl (List.mem_of_getElem? (i := 0) rfl))
  have E_oa : Exa Z h4 oa "com/example/xml_graph_join/xmlgraphjoin/topo/BitLevels" := E_oa.wr W4
  have L_b3 : Lv Z h4 b3 1 (fun _ => .null) := L_b3.other W4 (Ne.symm ne_oa_b3)
  show Goes p.tables e below (T4.setTop (mkF m 39 #[.val (.ref oa),.val (.int pb),.val (.int (1:Int32)),.val (.int x2),.unset] [])) _
  refine Goes.by (fun _ k => XS.iloadN X4.here hx rfl (hb hby d1_39) rfl k) ?_
  show Goes p.tables e below (T4.setTop (mkF m 40 #[.val (.ref oa),.val (.int pb),.val (.int (1:Int32)),.val (.int x2),.unset] [(.int pb)])) _
  refine Goes.by (fun _ k => XS.bipush X4.here hx rfl (hb hby d1_40) k) ?_
  show Goes p.tables e below (T4.setTop (mkF m 42 #[.val (.ref oa),.val (.int pb),.val (.int (1:Int32)),.val (.int x2),.unset] [(.int (6:Int32)), (.int pb)])) _
  refine Goes.by (fun _ k => XS.iushr X4.here hx rfl (hb hby d1_42) rfl k) ?_
  show Goes p.tables e below (T4.setTop (mkF m 43 #[.val (.ref oa),.val (.int pb),.val (.int (1:Int32)),.val (.int x2),.unset] [(.int ((pb.toUInt32>>>((6:Int32)&&&31).toUInt32).toInt32))])) _
  refine Goes.by (fun _ k => XS.iconst X4.here hx rfl (hb hby d1_43) k) ?_
  show Goes p.tables e below (T4.setTop (mkF m 44 #[.val (.ref oa),.val (.int pb),.val (.int (1:Int32)),.val (.int x2),.unset] [(.int (1:Int32)), (.int ((pb.toUInt32>>>((6:Int32)&&&31).toUInt32).toInt32))])) _
  refine Goes.by (fun _ k => XS.iadd X4.here hx rfl (hb hby d1_44) rfl k) ?_
  show Goes p.tables e below (T4.setTop (mkF m 45 #[.val (.ref oa),.val (.int pb),.val (.int (1:Int32)),.val (.int x2),.unset] [(.int (((pb.toUInt32>>>((6:Int32)&&&31).toUInt32).toInt32) + (1:Int32)))])) _
  obtain ⟨x5, hx5⟩ : ∃ z : Int32, z = (((pb.toUInt32>>>((6:Int32)&&&31).toUInt32).toInt32) + (1:Int32)) := ⟨_, rfl⟩
  refine Goes.by (fun _ k => XS.istoreN X4.here hx rfl (hb hby d1_45) rfl (l' := #[.val (.ref oa),.val (.int pb),.val (.int (1:Int32)),.val (.int x5),.unset]) (by rw [hx5]; rfl) k) ?_
  show Goes p.tables e below (T4.setTop (mkF m 46 #[.val (.ref oa),.val (.int pb),.val (.int (1:Int32)),.val (.int x5),.unset] [])) _
  have hwx5 : x5.toInt = (((nb / 64 + 1) : Nat) : Int) := by rw [hx5]; exact own_w1 _ _ hbn
  refine Goes.by (fun _ k => XS.iconst X4.here hx rfl (hb hby d1_46) k) ?_
  show Goes p.tables e below (T4.setTop (mkF m 47 #[.val (.ref oa),.val (.int pb),.val (.int (1:Int32)),.val (.int x5),.unset] [(.int (0:Int32))])) _
  refine Goes.by (fun _ k => XS.istore X4.here hx rfl (hb hby d1_47) rfl (l' := #[.val (.ref oa),.val (.int pb),.val (.int (1:Int32)),.val (.int x5),.val (.int (0:Int32))]) rfl k) ?_
  show Goes p.tables e below (T4.setTop (mkF m 49 #[.val (.ref oa),.val (.int pb),.val (.int (1:Int32)),.val (.int x5),.val (.int (0:Int32))] [])) _
  refine Goes.by (fun _ k => XS.iload X4.here hx rfl (hb hby d1_49) rfl k) ?_
  show Goes p.tables e below (T4.setTop (mkF m 51 #[.val (.ref oa),.val (.int pb),.val (.int (1:Int32)),.val (.int x5),.val (.int (0:Int32))] [(.int (0:Int32))])) _
  refine Goes.by (fun _ k => XS.iloadN X4.here hx rfl (hb hby d1_51) rfl k) ?_
  show Goes p.tables e below (T4.setTop (mkF m 52 #[.val (.ref oa),.val (.int pb),.val (.int (1:Int32)),.val (.int x5),.val (.int (0:Int32))] [(.int (1:Int32)), (.int (0:Int32))])) _
  refine Goes.by (fun _ k => XS.icmpNo X4.here hx rfl (hb hby d1_52) rfl (tlt (by decide : (0:Int32) < (1:Int32))).2.1 k) ?_
  show Goes p.tables e below (T4.setTop (mkF m 55 #[.val (.ref oa),.val (.int pb),.val (.int (1:Int32)),.val (.int x5),.val (.int (0:Int32))] [])) _
  refine Goes.by (fun _ k => XS.aloadN X4.here hx rfl (hb hby d1_55) rfl rfl k) ?_
  show Goes p.tables e below (T4.setTop (mkF m 56 #[.val (.ref oa),.val (.int pb),.val (.int (1:Int32)),.val (.int x5),.val (.int (0:Int32))] [(.ref oa)])) _
  obtain ⟨T6, X6, e6, st6⟩ := getF X4 hx hZ hown (host := "") (Or.inl (hw _ (List.mem_of_getElem? (i := 12) rfl))) Via.refl e4 F_oa_levels (g := (mkF m 56 #[.val (.ref oa),.val (.int pb),.val (.int (1:Int32)),.val (.int x5),.val (.int (0:Int32))] [(.ref oa)])) rfl rfl (hb hby d1_56)
  refine Goes.by st6 ?_
  show Goes p.tables e below (T6.setTop (mkF m 59 #[.val (.ref oa),.val (.int pb),.val (.int (1:Int32)),.val (.int x5),.val (.int (0:Int32))] [(.ref b3)])) _
  refine Goes.by (fun _ k => XS.iload X6.here hx rfl (hb hby d1_59) rfl k) ?_
  show Goes p.tables e below (T6.setTop (mkF m 61 #[.val (.ref oa),.val (.int pb),.val (.int (1:Int32)),.val (.int x5),.val (.int (0:Int32))] [(.int (0:Int32)), (.ref b3)])) _
  refine Goes.by (fun _ k => XS.iloadN X6.here hx rfl (hb hby d1_61) rfl k) ?_
  show Goes p.tables e below (T6.setTop (mkF m 62 #[.val (.ref oa),.val (.int pb),.val (.int (1:Int32)),.val (.int x5),.val (.int (0:Int32))] [(.int x5), (.int (0:Int32)), (.ref b3)])) _
  obtain ⟨T7, h7, X7, e7, E7, A7, D7, st7⟩ := nwJ (n := (nb / 64 + 1)) (cap := 1) (fr := (mkF m 62 #[.val (.ref oa),.val (.int pb),.val (.int (1:Int32)),.val (.int x5),.val (.int (0:Int32))] [(.int x5), (.int (0:Int32)), (.ref b3)])) X6 hx hZ (hw _ (List.mem_of_getElem? (i := 14) rfl)) e6 hwx5 hD (by decide) (by decide) (by decide) rfl rfl (hb hby d1_62)
  obtain ⟨b7, g7⟩ : ∃ z, z = h4.size := ⟨_, rfl⟩
  rw [← g7] at A7 D7 st7
  have g_b7 : n0 ≤ b7 := Nat.le_trans Zs4 (Nat.le_of_eq g7.symm)
  have sz_b7 : h0.size ≤ b7 := Nat.le_trans K4.1 (Nat.le_of_eq g7.symm)
  have ne_oa_b7 : oa ≠ b7 := Nat.ne_of_lt (Nat.lt_of_lt_of_le E_oa.lt (Nat.le_of_eq g7.symm))
  have ne_b3_b7 : b3 ≠ b7 := Nat.ne_of_lt (Nat.lt_of_lt_of_le L_b3.lt (Nat.le_of_eq g7.symm))
  have Zs7 : n0 ≤ h7.size := Nat.le_trans Zs4 E7.1
  have K7 : Keep h0 h7 [oa] := K4.ext E7
  refine Goes.by st7 ?_
  have E_oa : Exa Z h7 oa "com/example/xml_graph_join/xmlgraphjoin/topo/BitLevels" := E_oa.ext E7
  have F_oa_levels : Fld Z h7 oa "com/example/xml_graph_join/xmlgraphjoin/topo/BitLevels" "levels" "[[J" (.ref b3) := F_oa_levels.ext E7
  have L_b3 : Lv Z h7 b3 1 (fun _ => .null) := L_b3.ext E7
  have A_b7 : AJ Z h7 b7 (nb / 64 + 1) (fun _ => (0:Int64)) := A7
  have E_b7 : Exa Z h7 b7 "[J" := D7
  show Goes p.tables e below (T7.setTop (mkF m 64 #[.val (.ref oa),.val (.int pb),.val (.int (1:Int32)),.val (.int x5),.val (.int (0:Int32))] [(.ref b7), (.int (0:Int32)), (.ref b3)])) _
  obtain ⟨T8, h8, X8, e8, W8, A8, st8⟩ := stL (fr := (mkF m 64 #[.val (.ref oa),.val (.int pb),.val (.int (1:Int32)),.val (.int x5),.val (.int (0:Int32))] [(.ref b7), (.int (0:Int32)), (.ref b3)])) X7 hx hZ e7 L_b3 E_b7 (i := 0) (by decide) (by decide) rfl rfl (hb hby d1_64)
  refine Goes.by st8 ?_
  have L_b3 : Lv Z h8 b3 1 (up (fun _ => .null) 0 (.ref b7)) := A8
  have N8 := Fr.snoc X8 N4 g_b3
  have Zs8 : n0 ≤ h8.size := Nat.le_trans Zs7 (Keep.of_wr W8).1
  have K8 : Keep h0 h8 [oa] := K7.wr W8 (Or.inr sz_b3)
  have E_oa : Exa Z h8 oa "com/example/xml_graph_join/xmlgraphjoin/topo/BitLevels" := E_oa.wr W8
  have F_oa_levels : Fld Z h8 oa "com/example/xml_graph_join/xmlgraphjoin/topo/BitLevels" "levels" "[[J" (.ref b3) := F_oa_levels.other W8 (Or.inl ne_oa_b3)
  have A_b7 : AJ Z h8 b7 (nb / 64 + 1) (fun _ => (0:Int64)) := A_b7.other W8 (Ne.symm ne_b3_b7)
  have E_b7 : Exa Z h8 b7 "[J" := E_b7.wr W8
  show Goes p.tables e below (T8.setTop (mkF m 65 #[.val (.ref oa),.val (.int pb),.val (.int (1:Int32)),.val (.int x5),.val (.int (0:Int32))] [])) _
  refine Goes.by (fun _ k => XS.iloadN X8.here hx rfl (hb hby d1_65) rfl k) ?_
  show Goes p.tables e below (T8.setTop (mkF m 66 #[.val (.ref oa),.val (.int pb),.val (.int (1:Int32)),.val (.int x5),.val (.int (0:Int32))] [(.int x5)])) _
  refine Goes.by (fun _ k => XS.bipush X8.here hx rfl (hb hby d1_66) k) ?_
  show Goes p.tables e below (T8.setTop (mkF m 68 #[.val (.ref oa),.val (.int pb),.val (.int (1:Int32)),.val (.int x5),.val (.int (0:Int32))] [(.int (6:Int32)), (.int x5)])) _
  refine Goes.by (fun _ k => XS.iushr X8.here hx rfl (hb hby d1_68) rfl k) ?_
  show Goes p.tables e below (T8.setTop (mkF m 69 #[.val (.ref oa),.val (.int pb),.val (.int (1:Int32)),.val (.int x5),.val (.int (0:Int32))] [(.int ((x5.toUInt32>>>((6:Int32)&&&31).toUInt32).toInt32))])) _
  refine Goes.by (fun _ k => XS.iconst X8.here hx rfl (hb hby d1_69) k) ?_
  show Goes p.tables e below (T8.setTop (mkF m 70 #[.val (.ref oa),.val (.int pb),.val (.int (1:Int32)),.val (.int x5),.val (.int (0:Int32))] [(.int (1:Int32)), (.int ((x5.toUInt32>>>((6:Int32)&&&31).toUInt32).toInt32))])) _
  refine Goes.by (fun _ k => XS.iadd X8.here hx rfl (hb hby d1_70) rfl k) ?_
  show Goes p.tables e below (T8.setTop (mkF m 71 #[.val (.ref oa),.val (.int pb),.val (.int (1:Int32)),.val (.int x5),.val (.int (0:Int32))] [(.int (((x5.toUInt32>>>((6:Int32)&&&31).toUInt32).toInt32) + (1:Int32)))])) _
  obtain ⟨x9, hx9⟩ : ∃ z : Int32, z = (((x5.toUInt32>>>((6:Int32)&&&31).toUInt32).toInt32) + (1:Int32)) := ⟨_, rfl⟩
  refine Goes.by (fun _ k => XS.istoreN X8.here hx rfl (hb hby d1_71) rfl (l' := #[.val (.ref oa),.val (.int pb),.val (.int (1:Int32)),.val (.int x9),.val (.int (0:Int32))]) (by rw [hx9]; rfl) k) ?_
  show Goes p.tables e below (T8.setTop (mkF m 72 #[.val (.ref oa),.val (.int pb),.val (.int (1:Int32)),.val (.int x9),.val (.int (0:Int32))] [])) _
  refine Goes.by (fun _ k => XS.iinc X8.here hx rfl (hb hby d1_72) rfl (l' := #[.val (.ref oa),.val (.int pb),.val (.int (1:Int32)),.val (.int x9),.val (.int (1:Int32))]) rfl k) ?_
  show Goes p.tables e below (T8.setTop (mkF m 75 #[.val (.ref oa),.val (.int pb),.val (.int (1:Int32)),.val (.int x9),.val (.int (1:Int32))] [])) _
  refine Goes.by (fun _ k => XS.goto X8.here hx rfl (pc0 := 75) (pc' := 49) rfl (hb hby d1_75) (by decide) (by decide) k) ?_
  show Goes p.tables e below (T8.setTop (mkF m 49 #[.val (.ref oa),.val (.int pb),.val (.int (1:Int32)),.val (.int x9),.val (.int (1:Int32))] [])) _
  refine Goes.by (fun _ k => XS.iload X8.here hx rfl (hb hby d1_49) rfl k) ?_
  show Goes p.tables e below (T8.setTop (mkF m 51 #[.val (.ref oa),.val (.int pb),.val (.int (1:Int32)),.val (.int x9),.val (.int (1:Int32))] [(.int (1:Int32))])) _
  refine Goes.by (fun _ k => XS.iloadN X8.here hx rfl (hb hby d1_51) rfl k) ?_
  show Goes p.tables e below (T8.setTop (mkF m 52 #[.val (.ref oa),.val (.int pb),.val (.int (1:Int32)),.val (.int x9),.val (.int (1:Int32))] [(.int (1:Int32)), (.int (1:Int32))])) _
  refine Goes.by (fun _ k => XS.icmpYes X8.here hx rfl (pc0 := 52) (pc' := 78) rfl (hb hby d1_52) rfl (flt (by decide : ¬ ((1:Int32) < (1:Int32)))).2.1 (by decide) (by decide) k) ?_
  show Goes p.tables e below (T8.setTop (mkF m 78 #[.val (.ref oa),.val (.int pb),.val (.int (1:Int32)),.val (.int x9),.val (.int (1:Int32))] [])) _
  have A_b3 : Ar Z h8 b3 (.array .long) 1 (up (fun _ => .null) 0 (.ref b7)) := L_b3.ar
  obtain ⟨fs, hr, hrun, hended, hW, hsame⟩ := X8.leave (v := none) (fun _ => rfl)
  refine ⟨_, _, X8.returnOut hx Bd.returns (hb hby d1_78) hr, hrun, hended, _, _, rfl, ?_, ⟨_, rfl⟩, hW, hsame.mono (by decide) (by decide)⟩
  show Q1d1 Z oa pb nb h0 n0 _ T8.heap _
  rw [e8]
  exact ⟨b3, b7, rfl, N8, K8, E_oa, F_oa_levels, A_b3, A_b7, sz_b3, sz_b7, ne_b3_b7⟩
theorem d1_18 : decode prog_96_method_1_code 18 = .ok (.iinc 2 1, 3) := by decide +kernel
theorem d1_21 : decode prog_96_method_1_code 21 = .ok (.iload_n 3, 1) := by decide +kernel
theorem d1_22 : decode prog_96_method_1_code 22 = .ok (.bipush 6, 2) := by decide +kernel
theorem d1_24 : decode prog_96_method_1_code 24 = .ok (.iushr, 1) := by decide +kernel
theorem d1_25 : decode prog_96_method_1_code 25 = .ok (.iconst 1, 1) := by decide +kernel
theorem d1_26 : decode prog_96_method_1_code 26 = .ok (.iadd, 1) := by decide +kernel
theorem d1_27 : decode prog_96_method_1_code 27 = .ok (.istore_n 3, 1) := by decide +kernel
theorem d1_28 : decode prog_96_method_1_code 28 = .ok (.goto (-15), 3) := by decide +kernel
theorem ef1d2 (m : MethodId) (oa : Addr) (pb : Int32) : entryFrame m #[(.ref oa), (.int pb)] 5 = mkF m 0 #[.val (.ref oa),.val (.int pb),.unset,.unset,.unset] [] := by first | (simp [entryFrame, mkF, argsToLocals, Value.category]; done) | rfl
def Q1d2 (Z : State) (oa : Addr) (pb : Int32) (nb : Nat) (h0 : Heap) (n0 : Nat) (v : Option Value) (h : Heap) (L : List Loc) : Prop := ∃ ol : Addr, ∃ o0 : Addr, ∃ o1 : Addr, v = none ∧ Fr n0 L ∧ Keep h0 h [oa] ∧ Exa Z h oa "com/example/xml_graph_join/xmlgraphjoin/topo/BitLevels" ∧ Fld Z h oa "com/example/xml_graph_join/xmlgraphjoin/topo/BitLevels" "levels" "[[J" (.ref ol) ∧ Ar Z h ol (.array .long) 2 (up (up (fun _ => .null) 0 (.ref o0)) 1 (.ref o1)) ∧ AJ Z h o0 (nb / 64 + 1) (fun _ => (0:Int64)) ∧ AJ Z h o1 ((nb / 64 + 1) / 64 + 1) (fun _ => (0:Int64)) ∧ (h0.size ≤ ol) ∧ (h0.size ≤ o0) ∧ (h0.size ≤ o1) ∧ (ol ≠ o0) ∧ (ol ≠ o1) ∧ (o0 ≠ o1)
set_option maxRecDepth 65536 in
set_option maxHeartbeats 40000000 in
theorem rm1d2 (l : Launch) (Z : State) (a0 : Array Value) (hw : ∀ d ∈ tables_1, d.before a0 Z = true) (ws : List Jvm.Cond) (oa : Addr) (pb : Int32) (nb : Nat) (h0 : Heap) (n0 : Nat) (Z0 : n0 ≤ h0.size) (E_oa : Exa Z h0 oa "com/example/xml_graph_join/xmlgraphjoin/topo/BitLevels") (F_oa_levels : Fld Z h0 oa "com/example/xml_graph_join/xmlgraphjoin/topo/BitLevels" "levels" "[[J" .null) (g_oa : n0 ≤ oa) (hbn : pb.toInt = (nb : Int)) (hD : 1 < nb / 64 + 1 ∧ (nb / 64 + 1) / 64 + 1 ≤ 1) :
    MetFree l (⟨"com/example/xml_graph_join/xmlgraphjoin/topo/BitLevels", "<init>", "(I)V"⟩ : MethodName) (head1 (Jvm.Cond.code (⟨"com/example/xml_graph_join/xmlgraphjoin/topo/BitLevels", "<init>", "(I)V"⟩ : MethodName) prog_96_method_1_code 5 none :: ws) ({ frames := 1, cells := 3, slots := 67, locals := 12 } : Room)) (fun a U => a = #[(.ref oa), (.int pb)] ∧ Z.Warmed39 U.vm ∧ U.heap = h0) (fun _ _ _ _ _ => True) (fun _ U o U' => ∃ v L, o = .returned v ∧ Q1d2 Z oa pb nb h0 n0 v U'.heap L ∧ FrameEnd U o U' L ({ frames := 1, cells := 3, slots := 67, locals := 12 } : Room).cells ({ frames := 1, cells := 3, slots := 67, locals := 12 } : Room).slots) := by
  refine MetFree.of_bodySF (plainFor_of_name pn_0) hisR ?_
  intro p e s m args below meth c s₁ Bd hml0 hP hK
  obtain ⟨rfl, hZ, hh⟩ := hP
  have hx := Bd.exec
  have hby := Bd.bytes
  have hml : c.maxLocals = 5 := hml0
  have hown : s.vm.findClass "com/example/xml_graph_join/xmlgraphjoin/topo/BitLevels" = some m.cls := findClass_of_methodNamed Bd.named
  have hnm := (name_of_methodNamed Bd.named Bd.method).1
  have X0 : Stand p l e ({ frames := 1, cells := 3, slots := 67, locals := 12 } : Room) s m #[(.ref oa), (.int pb)] below meth c s₁ [] 0 0 := Stand.of_body Bd
  have e0 : s₁.heap = h0 := by rw [← hh, Bd.state]; rfl
  have N0 := Fr.nil n0
  refine Goes.by (fun _ k => castTop (ef1d2 m oa pb) k) ?_
  show Goes p.tables e below (s₁.setTop (mkF m 0 #[.val (.ref oa),.val (.int pb),.unset,.unset,.unset] [])) _
  refine Goes.by (fun _ k => XS.aloadN X0.here hx rfl (hb hby d1_0) rfl rfl k) ?_
  show Goes p.tables e below (s₁.setTop (mkF m 1 #[.val (.ref oa),.val (.int pb),.unset,.unset,.unset] [(.ref oa)])) _
  obtain ⟨T1, X1, e1, st1⟩ := initO X0 hx hZ hown (hw _ (List.mem_of_getElem? (i := 7) rfl)) (hw _ (List.mem_of_getElem? (i := 8) rfl)) (hw _ (List.mem_of_getElem? (i := 9) rfl)) e0 (g := (mkF m 1 #[.val (.ref oa),.val (.int pb),.unset,.unset,.unset] [(.ref oa)])) rfl (by rw [hml]; rfl) rfl (hb hby d1_1) (by decide) (W := 0) (by show 2 * 0 + _ ≤ _; exact Nat.le_of_eq rfl) (by decide)
  refine Goes.by st1 ?_
  show Goes p.tables e below (T1.setTop (mkF m 4 #[.val (.ref oa),.val (.int pb),.unset,.unset,.unset] [])) _
  refine Goes.by (fun _ k => XS.iconst X1.here hx rfl (hb hby d1_4) k) ?_
  show Goes p.tables e below (T1.setTop (mkF m 5 #[.val (.ref oa),.val (.int pb),.unset,.unset,.unset] [(.int (1:Int32))])) _
  refine Goes.by (fun _ k => XS.istoreN X1.here hx rfl (hb hby d1_5) rfl (l' := #[.val (.ref oa),.val (.int pb),.val (.int (1:Int32)),.unset,.unset]) rfl k) ?_
  show Goes p.tables e below (T1.setTop (mkF m 6 #[.val (.ref oa),.val (.int pb),.val (.int (1:Int32)),.unset,.unset] [])) _
  refine Goes.by (fun _ k => XS.iloadN X1.here hx rfl (hb hby d1_6) rfl k) ?_
  show Goes p.tables e below (T1.setTop (mkF m 7 #[.val (.ref oa),.val (.int pb),.val (.int (1:Int32)),.unset,.unset] [(.int pb)])) _
  refine Goes.by (fun _ k => XS.bipush X1.here hx rfl (hb hby d1_7) k) ?_
  show Goes p.tables e below (T1.setTop (mkF m 9 #[.val (.ref oa),.val (.int pb),.val (.int (1:Int32)),.unset,.unset] [(.int (6:Int32)), (.int pb)])) _
  refine Goes.by (fun _ k => XS.iushr X1.here hx rfl (hb hby d1_9) rfl k) ?_
  show Goes p.tables e below (T1.setTop (mkF m 10 #[.val (.ref oa),.val (.int pb),.val (.int (1:Int32)),.unset,.unset] [(.int ((pb.toUInt32>>>((6:Int32)&&&31).toUInt32).toInt32))])) _
  refine Goes.by (fun _ k => XS.iconst X1.here hx rfl (hb hby d1_10) k) ?_
  show Goes p.tables e below (T1.setTop (mkF m 11 #[.val (.ref oa),.val (.int pb),.val (.int (1:Int32)),.unset,.unset] [(.int (1:Int32)), (.int ((pb.toUInt32>>>((6:Int32)&&&31).toUInt32).toInt32))])) _
  refine Goes.by (fun _ k => XS.iadd X1.here hx rfl (hb hby d1_11) rfl k) ?_
  show Goes p.tables e below (T1.setTop (mkF m 12 #[.val (.ref oa),.val (.int pb),.val (.int (1:Int32)),.unset,.unset] [(.int (((pb.toUInt32>>>((6:Int32)&&&31).toUInt32).toInt32) + (1:Int32)))])) _
  obtain ⟨x2, hx2⟩ : ∃ z : Int32, z = (((pb.toUInt32>>>((6:Int32)&&&31).toUInt32).toInt32) + (1:Int32)) := ⟨_, rfl⟩
  refine Goes.by (fun _ k => XS.istoreN X1.here hx rfl (hb hby d1_12) rfl (l' := #[.val (.ref oa),.val (.int pb),.val (.int (1:Int32)),.val (.int x2),.unset]) (by rw [hx2]; rfl) k) ?_
  show Goes p.tables e below (T1.setTop (mkF m 13 #[.val (.ref oa),.val (.int pb),.val (.int (1:Int32)),.val (.int x2),.unset] [])) _
  have hwx2 : x2.toInt = (((nb / 64 + 1) : Nat) : Int) := by rw [hx2]; exact own_w1 _ _ hbn
  refine Goes.by (fun _ k => XS.iloadN X1.here hx rfl (hb hby d1_13) rfl k) ?_
  show Goes p.tables e below (T1.setTop (mkF m 14 #[.val (.ref oa),.val (.int pb),.val (.int (1:Int32)),.val (.int x2),.unset] [(.int x2)])) _
  refine Goes.by (fun _ k => XS.iconst X1.here hx rfl (hb hby d1_14) k) ?_
  show Goes p.tables e below (T1.setTop (mkF m 15 #[.val (.ref oa),.val (.int pb),.val (.int (1:Int32)),.val (.int x2),.unset] [(.int (1:Int32)), (.int x2)])) _
  refine Goes.by (fun _ k => XS.icmpNo X1.here hx rfl (hb hby d1_15) rfl (tlt (own_gt1 hwx2 hD.1 : (1:Int32) < x2)).2.2.2 k) ?_
  show Goes p.tables e below (T1.setTop (mkF m 18 #[.val (.ref oa),.val (.int pb),.val (.int (1:Int32)),.val (.int x2),.unset] [])) _
  refine Goes.by (fun _ k => XS.iinc X1.here hx rfl (hb hby d1_18) rfl (l' := #[.val (.ref oa),.val (.int pb),.val (.int (2:Int32)),.val (.int x2),.unset]) rfl k) ?_
  show Goes p.tables e below (T1.setTop (mkF m 21 #[.val (.ref oa),.val (.int pb),.val (.int (2:Int32)),.val (.int x2),.unset] [])) _
  refine Goes.by (fun _ k => XS.iloadN X1.here hx rfl (hb hby d1_21) rfl k) ?_
  show Goes p.tables e below (T1.setTop (mkF m 22 #[.val (.ref oa),.val (.int pb),.val (.int (2:Int32)),.val (.int x2),.unset] [(.int x2)])) _
  refine Goes.by (fun _ k => XS.bipush X1.here hx rfl (hb hby d1_22) k) ?_
  show Goes p.tables e below (T1.setTop (mkF m 24 #[.val (.ref oa),.val (.int pb),.val (.int (2:Int32)),.val (.int x2),.unset] [(.int (6:Int32)), (.int x2)])) _
  refine Goes.by (fun _ k => XS.iushr X1.here hx rfl (hb hby d1_24) rfl k) ?_
  show Goes p.tables e below (T1.setTop (mkF m 25 #[.val (.ref oa),.val (.int pb),.val (.int (2:Int32)),.val (.int x2),.unset] [(.int ((x2.toUInt32>>>((6:Int32)&&&31).toUInt32).toInt32))])) _
  refine Goes.by (fun _ k => XS.iconst X1.here hx rfl (hb hby d1_25) k) ?_
  show Goes p.tables e below (T1.setTop (mkF m 26 #[.val (.ref oa),.val (.int pb),.val (.int (2:Int32)),.val (.int x2),.unset] [(.int (1:Int32)), (.int ((x2.toUInt32>>>((6:Int32)&&&31).toUInt32).toInt32))])) _
  refine Goes.by (fun _ k => XS.iadd X1.here hx rfl (hb hby d1_26) rfl k) ?_
  show Goes p.tables e below (T1.setTop (mkF m 27 #[.val (.ref oa),.val (.int pb),.val (.int (2:Int32)),.val (.int x2),.unset] [(.int (((x2.toUInt32>>>((6:Int32)&&&31).toUInt32).toInt32) + (1:Int32)))])) _
  obtain ⟨x3, hx3⟩ : ∃ z : Int32, z = (((x2.toUInt32>>>((6:Int32)&&&31).toUInt32).toInt32) + (1:Int32)) := ⟨_, rfl⟩
  refine Goes.by (fun _ k => XS.istoreN X1.here hx rfl (hb hby d1_27) rfl (l' := #[.val (.ref oa),.val (.int pb),.val (.int (2:Int32)),.val (.int x3),.unset]) (by rw [hx3]; rfl) k) ?_
  show Goes p.tables e below (T1.setTop (mkF m 28 #[.val (.ref oa),.val (.int pb),.val (.int (2:Int32)),.val (.int x3),.unset] [])) _
  refine Goes.by (fun _ k => XS.goto X1.here hx rfl (pc0 := 28) (pc' := 13) rfl (hb hby d1_28) (by decide) (by decide) k) ?_
  show Goes p.tables e below (T1.setTop (mkF m 13 #[.val (.ref oa),.val (.int pb),.val (.int (2:Int32)),.val (.int x3),.unset] [])) _
  have hwx3 : x3.toInt = ((((nb / 64 + 1) / 64 + 1) : Nat) : Int) := by rw [hx3]; exact own_w1 _ _ hwx2
  refine Goes.by (fun _ k => XS.iloadN X1.here hx rfl (hb hby d1_13) rfl k) ?_
  show Goes p.tables e below (T1.setTop (mkF m 14 #[.val (.ref oa),.val (.int pb),.val (.int (2:Int32)),.val (.int x3),.unset] [(.int x3)])) _
  refine Goes.by (fun _ k => XS.iconst X1.here hx rfl (hb hby d1_14) k) ?_
  show Goes p.tables e below (T1.setTop (mkF m 15 #[.val (.ref oa),.val (.int pb),.val (.int (2:Int32)),.val (.int x3),.unset] [(.int (1:Int32)), (.int x3)])) _
  refine Goes.by (fun _ k => XS.icmpYes X1.here hx rfl (pc0 := 15) (pc' := 31) rfl (hb hby d1_15) rfl (flt (own_le1 hwx3 hD.2 : ¬ ((1:Int32) < x3))).2.2.2 (by decide) (by decide) k) ?_
  show Goes p.tables e below (T1.setTop (mkF m 31 #[.val (.ref oa),.val (.int pb),.val (.int (2:Int32)),.val (.int x3),.unset] [])) _
  refine Goes.by (fun _ k => XS.aloadN X1.here hx rfl (hb hby d1_31) rfl rfl k) ?_
  show Goes p.tables e below (T1.setTop (mkF m 32 #[.val (.ref oa),.val (.int pb),.val (.int (2:Int32)),.val (.int x3),.unset] [(.ref oa)])) _
  refine Goes.by (fun _ k => XS.iloadN X1.here hx rfl (hb hby d1_32) rfl k) ?_
  show Goes p.tables e below (T1.setTop (mkF m 33 #[.val (.ref oa),.val (.int pb),.val (.int (2:Int32)),.val (.int x3),.unset] [(.int (2:Int32)), (.ref oa)])) _
  obtain ⟨T4, h4, X4, e4, E4, A4, st4⟩ := nwL (n := 2) (cap := 2) (fr := (mkF m 33 #[.val (.ref oa),.val (.int pb),.val (.int (2:Int32)),.val (.int x3),.unset] [(.int (2:Int32)), (.ref oa)])) X1 hx hZ hown (hw _ (List.mem_of_getElem? (i := 10) rfl)) (hw _ (List.mem_of_getElem? (i := 11) rfl)) e1 (by decide) (by decide) (by decide) (by decide) (by decide) rfl rfl (hb hby d1_33)
  obtain ⟨b4, g4⟩ : ∃ z, z = h0.size := ⟨_, rfl⟩
  rw [← g4] at A4 st4
  have g_b4 : n0 ≤ b4 := Nat.le_trans Z0 (Nat.le_of_eq g4.symm)
  have sz_b4 : h0.size ≤ b4 := Nat.le_trans (Keep.refl h0 [oa]).1 (Nat.le_of_eq g4.symm)
  have ne_oa_b4 : oa ≠ b4 := Nat.ne_of_lt (Nat.lt_of_lt_of_le E_oa.lt (Nat.le_of_eq g4.symm))
  have Zs4 : n0 ≤ h4.size := Nat.le_trans Z0 E4.1
  have K4 : Keep h0 h4 [oa] := (Keep.refl h0 [oa]).ext E4
  refine Goes.by st4 ?_
  have E_oa : Exa Z h4 oa "com/example/xml_graph_join/xmlgraphjoin/topo/BitLevels" := E_oa.ext E4
  have F_oa_levels : Fld Z h4 oa "com/example/xml_graph_join/xmlgraphjoin/topo/BitLevels" "levels" "[[J" .null := F_oa_levels.ext E4
  have L_b4 : Lv Z h4 b4 2 (fun _ => .null) := A4
  show Goes p.tables e below (T4.setTop (mkF m 36 #[.val (.ref oa),.val (.int pb),.val (.int (2:Int32)),.val (.int x3),.unset] [(.ref b4), (.ref oa)])) _
  obtain ⟨T5, h5, X5, e5, W5, st5⟩ := putF X4 hx hZ hown (host := "") (Or.inl (hw _ (List.mem_of_getElem? (i := 12) rfl))) Via.refl e4 F_oa_levels E_oa (Or.inr ⟨(hw _ (List.mem_of_getElem? (i := 13) rfl)), rfl, hnm⟩) (hw _ (List.mem_of_getElem? (i := 2) rfl)) (ty := (.array (.array .long))) (by decide) rfl rfl (g := (mkF m 36 #[.val (.ref oa),.val (.int pb),.val (.int (2:Int32)),.val (.int x3),.unset] [(.ref b4), (.ref oa)])) rfl rfl (hb hby d1_36)
  refine Goes.by st5 ?_
  have F_oa_levels : Fld Z h5 oa "com/example/xml_graph_join/xmlgraphjoin/topo/BitLevels" "levels" "[[J" (.ref b4) := F_oa_levels.same W5
  have N5 := Fr.snoc X5 N0 g_oa
  have Zs5 : n0 ≤ h5.size := Nat.le_trans Zs4 (Keep.of_wr W5).1
  have K5 : Keep h0 h5 [oa] := K4.wr W5 (Or.inl (List.mem_of_getElem? (i := 0) rfl))
  have E_oa : Exa Z h5 oa "com/example/xml_graph_join/xmlgraphjoin/topo/BitLevels" := E_oa.wr W5
  have L_b4 : Lv Z h5 b4 2 (fun _ => .null) := L_b4.other W5 (Ne.symm ne_oa_b4)
  show Goes p.tables e below (T5.setTop (mkF m 39 #[.val (.ref oa),.val (.int pb),.val (.int (2:Int32)),.val (.int x3),.unset] [])) _
  refine Goes.by (fun _ k => XS.iloadN X5.here hx rfl (hb hby d1_39) rfl k) ?_
  show Goes p.tables e below (T5.setTop (mkF m 40 #[.val (.ref oa),.val (.int pb),.val (.int (2:Int32)),.val (.int x3),.unset] [(.int pb)])) _
  refine Goes.by (fun _ k => XS.bipush X5.here hx rfl (hb hby d1_40) k) ?_
  show Goes p.tables e below (T5.setTop (mkF m 42 #[.val (.ref oa),.val (.int pb),.val (.int (2:Int32)),.val (.int x3),.unset] [(.int (6:Int32)), (.int pb)])) _
  refine Goes.by (fun _ k => XS.iushr X5.here hx rfl (hb hby d1_42) rfl k) ?_
  show Goes p.tables e below (T5.setTop (mkF m 43 #[.val (.ref oa),.val (.int pb),.val (.int (2:Int32)),.val (.int x3),.unset] [(.int ((pb.toUInt32>>>((6:Int32)&&&31).toUInt32).toInt32))])) _
  refine Goes.by (fun _ k => XS.iconst X5.here hx rfl (hb hby d1_43) k) ?_
  show Goes p.tables e below (T5.setTop (mkF m 44 #[.val (.ref oa),.val (.int pb),.val (.int (2:Int32)),.val (.int x3),.unset] [(.int (1:Int32)), (.int ((pb.toUInt32>>>((6:Int32)&&&31).toUInt32).toInt32))])) _
  refine Goes.by (fun _ k => XS.iadd X5.here hx rfl (hb hby d1_44) rfl k) ?_
  show Goes p.tables e below (T5.setTop (mkF m 45 #[.val (.ref oa),.val (.int pb),.val (.int (2:Int32)),.val (.int x3),.unset] [(.int (((pb.toUInt32>>>((6:Int32)&&&31).toUInt32).toInt32) + (1:Int32)))])) _
  obtain ⟨x6, hx6⟩ : ∃ z : Int32, z = (((pb.toUInt32>>>((6:Int32)&&&31).toUInt32).toInt32) + (1:Int32)) := ⟨_, rfl⟩
  refine Goes.by (fun _ k => XS.istoreN X5.here hx rfl (hb hby d1_45) rfl (l' := #[.val (.ref oa),.val (.int pb),.val (.int (2:Int32)),.val (.int x6),.unset]) (by rw [hx6]; rfl) k) ?_
  show Goes p.tables e below (T5.setTop (mkF m 46 #[.val (.ref oa),.val (.int pb),.val (.int (2:Int32)),.val (.int x6),.unset] [])) _
  have hwx6 : x6.toInt = (((nb / 64 + 1) : Nat) : Int) := by rw [hx6]; exact own_w1 _ _ hbn
  refine Goes.by (fun _ k => XS.iconst X5.here hx rfl (hb hby d1_46) k) ?_
  show Goes p.tables e below (T5.setTop (mkF m 47 #[.val (.ref oa),.val (.int pb),.val (.int (2:Int32)),.val (.int x6),.unset] [(.int (0:Int32))])) _
  refine Goes.by (fun _ k => XS.istore X5.here hx rfl (hb hby d1_47) rfl (l' := #[.val (.ref oa),.val (.int pb),.val (.int (2:Int32)),.val (.int x6),.val (.int (0:Int32))]) rfl k) ?_
  show Goes p.tables e below (T5.setTop (mkF m 49 #[.val (.ref oa),.val (.int pb),.val (.int (2:Int32)),.val (.int x6),.val (.int (0:Int32))] [])) _
  refine Goes.by (fun _ k => XS.iload X5.here hx rfl (hb hby d1_49) rfl k) ?_
  show Goes p.tables e below (T5.setTop (mkF m 51 #[.val (.ref oa),.val (.int pb),.val (.int (2:Int32)),.val (.int x6),.val (.int (0:Int32))] [(.int (0:Int32))])) _
  refine Goes.by (fun _ k => XS.iloadN X5.here hx rfl (hb hby d1_51) rfl k) ?_
  show Goes p.tables e below (T5.setTop (mkF m 52 #[.val (.ref oa),.val (.int pb),.val (.int (2:Int32)),.val (.int x6),.val (.int (0:Int32))] [(.int (2:Int32)), (.int (0:Int32))])) _
  refine Goes.by (fun _ k => XS.icmpNo X5.here hx rfl (hb hby d1_52) rfl (tlt (by decide : (0:Int32) < (2:Int32))).2.1 k) ?_
  show Goes p.tables e below (T5.setTop (mkF m 55 #[.val (.ref oa),.val (.int pb),.val (.int (2:Int32)),.val (.int x6),.val (.int (0:Int32))] [])) _
  refine Goes.by (fun _ k => XS.aloadN X5.here hx rfl (hb hby d1_55) rfl rfl k) ?_
  show Goes p.tables e below (T5.setTop (mkF m 56 #[.val (.ref oa),.val (.int pb),.val (.int (2:Int32)),.val (.int x6),.val (.int (0:Int32))] [(.ref oa)])) _
  obtain ⟨T7, X7, e7, st7⟩ := getF X5 hx hZ hown (host := "") (Or.inl (hw _ (List.mem_of_getElem? (i := 12) rfl))) Via.refl e5 F_oa_levels (g := (mkF m 56 #[.val (.ref oa),.val (.int pb),.val (.int (2:Int32)),.val (.int x6),.val (.int (0:Int32))] [(.ref oa)])) rfl rfl (hb hby d1_56)
  refine Goes.by st7 ?_
  show Goes p.tables e below (T7.setTop (mkF m 59 #[.val (.ref oa),.val (.int pb),.val (.int (2:Int32)),.val (.int x6),.val (.int (0:Int32))] [(.ref b4)])) _
  refine Goes.by (fun _ k => XS.iload X7.here hx rfl (hb hby d1_59) rfl k) ?_
  show Goes p.tables e below (T7.setTop (mkF m 61 #[.val (.ref oa),.val (.int pb),.val (.int (2:Int32)),.val (.int x6),.val (.int (0:Int32))] [(.int (0:Int32)), (.ref b4)])) _
  refine Goes.by (fun _ k => XS.iloadN X7.here hx rfl (hb hby d1_61) rfl k) ?_
  show Goes p.tables e below (T7.setTop (mkF m 62 #[.val (.ref oa),.val (.int pb),.val (.int (2:Int32)),.val (.int x6),.val (.int (0:Int32))] [(.int x6), (.int (0:Int32)), (.ref b4)])) _
  obtain ⟨T8, h8, X8, e8, E8, A8, D8, st8⟩ := nwJ (n := (nb / 64 + 1)) (cap := 64) (fr := (mkF m 62 #[.val (.ref oa),.val (.int pb),.val (.int (2:Int32)),.val (.int x6),.val (.int (0:Int32))] [(.int x6), (.int (0:Int32)), (.ref b4)])) X7 hx hZ (hw _ (List.mem_of_getElem? (i := 14) rfl)) e7 hwx6 (own_c64 hD.2) (by decide) (by decide) (by decide) rfl rfl (hb hby d1_62)
  obtain ⟨b8, g8⟩ : ∃ z, z = h5.size := ⟨_, rfl⟩
  rw [← g8] at A8 D8 st8
  have g_b8 : n0 ≤ b8 := Nat.le_trans Zs5 (Nat.le_of_eq g8.symm)
  have sz_b8 : h0.size ≤ b8 := Nat.le_trans K5.1 (Nat.le_of_eq g8.symm)
  have ne_oa_b8 : oa ≠ b8 := Nat.ne_of_lt (Nat.lt_of_lt_of_le E_oa.lt (Nat.le_of_eq g8.symm))
  have ne_b4_b8 : b4 ≠ b8 := Nat.ne_of_lt (Nat.lt_of_lt_of_le L_b4.lt (Nat.le_of_eq g8.symm))
  have Zs8 : n0 ≤ h8.size := Nat.le_trans Zs5 E8.1
  have K8 : Keep h0 h8 [oa] := K5.ext E8
  refine Goes.by st8 ?_
  have E_oa : Exa Z h8 oa "com/example/xml_graph_join/xmlgraphjoin/topo/BitLevels" := E_oa.ext E8
  have F_oa_levels : Fld Z h8 oa "com/example/xml_graph_join/xmlgraphjoin/topo/BitLevels" "levels" "[[J" (.ref b4) := F_oa_levels.ext E8
  have L_b4 : Lv Z h8 b4 2 (fun _ => .null) := L_b4.ext E8
  have A_b8 : AJ Z h8 b8 (nb / 64 + 1) (fun _ => (0:Int64)) := A8
  have E_b8 : Exa Z h8 b8 "[J" := D8
  show Goes p.tables e below (T8.setTop (mkF m 64 #[.val (.ref oa),.val (.int pb),.val (.int (2:Int32)),.val (.int x6),.val (.int (0:Int32))] [(.ref b8), (.int (0:Int32)), (.ref b4)])) _
  obtain ⟨T9, h9, X9, e9, W9, A9, st9⟩ := stL (fr := (mkF m 64 #[.val (.ref oa),.val (.int pb),.val (.int (2:Int32)),.val (.int x6),.val (.int (0:Int32))] [(.ref b8), (.int (0:Int32)), (.ref b4)])) X8 hx hZ e8 L_b4 E_b8 (i := 0) (by decide) (by decide) rfl rfl (hb hby d1_64)
  refine Goes.by st9 ?_
  have L_b4 : Lv Z h9 b4 2 (up (fun _ => .null) 0 (.ref b8)) := A9
  have N9 := Fr.snoc X9 N5 g_b4
  have Zs9 : n0 ≤ h9.size := Nat.le_trans Zs8 (Keep.of_wr W9).1
  have K9 : Keep h0 h9 [oa] := K8.wr W9 (Or.inr sz_b4)
  have E_oa : Exa Z h9 oa "com/example/xml_graph_join/xmlgraphjoin/topo/BitLevels" := E_oa.wr W9
  have F_oa_levels : Fld Z h9 oa "com/example/xml_graph_join/xmlgraphjoin/topo/BitLevels" "levels" "[[J" (.ref b4) := F_oa_levels.other W9 (Or.inl ne_oa_b4)
  have A_b8 : AJ Z h9 b8 (nb / 64 + 1) (fun _ => (0:Int64)) := A_b8.other W9 (Ne.symm ne_b4_b8)
  have E_b8 : Exa Z h9 b8 "[J" := E_b8.wr W9
  show Goes p.tables e below (T9.setTop (mkF m 65 #[.val (.ref oa),.val (.int pb),.val (.int (2:Int32)),.val (.int x6),.val (.int (0:Int32))] [])) _
  refine Goes.by (fun _ k => XS.iloadN X9.here hx rfl (hb hby d1_65) rfl k) ?_
  show Goes p.tables e below (T9.setTop (mkF m 66 #[.val (.ref oa),.val (.int pb),.val (.int (2:Int32)),.val (.int x6),.val (.int (0:Int32))] [(.int x6)])) _
  refine Goes.by (fun _ k => XS.bipush X9.here hx rfl (hb hby d1_66) k) ?_
  show Goes p.tables e below (T9.setTop (mkF m 68 #[.val (.ref oa),.val (.int pb),.val (.int (2:Int32)),.val (.int x6),.val (.int (0:Int32))] [(.int (6:Int32)), (.int x6)])) _
  refine Goes.by (fun _ k => XS.iushr X9.here hx rfl (hb hby d1_68) rfl k) ?_
  show Goes p.tables e below (T9.setTop (mkF m 69 #[.val (.ref oa),.val (.int pb),.val (.int (2:Int32)),.val (.int x6),.val (.int (0:Int32))] [(.int ((x6.toUInt32>>>((6:Int32)&&&31).toUInt32).toInt32))])) _
  refine Goes.by (fun _ k => XS.iconst X9.here hx rfl (hb hby d1_69) k) ?_
  show Goes p.tables e below (T9.setTop (mkF m 70 #[.val (.ref oa),.val (.int pb),.val (.int (2:Int32)),.val (.int x6),.val (.int (0:Int32))] [(.int (1:Int32)), (.int ((x6.toUInt32>>>((6:Int32)&&&31).toUInt32).toInt32))])) _
  refine Goes.by (fun _ k => XS.iadd X9.here hx rfl (hb hby d1_70) rfl k) ?_
  show Goes p.tables e below (T9.setTop (mkF m 71 #[.val (.ref oa),.val (.int pb),.val (.int (2:Int32)),.val (.int x6),.val (.int (0:Int32))] [(.int (((x6.toUInt32>>>((6:Int32)&&&31).toUInt32).toInt32) + (1:Int32)))])) _
  obtain ⟨x10, hx10⟩ : ∃ z : Int32, z = (((x6.toUInt32>>>((6:Int32)&&&31).toUInt32).toInt32) + (1:Int32)) := ⟨_, rfl⟩
  refine Goes.by (fun _ k => XS.istoreN X9.here hx rfl (hb hby d1_71) rfl (l' := #[.val (.ref oa),.val (.int pb),.val (.int (2:Int32)),.val (.int x10),.val (.int (0:Int32))]) (by rw [hx10]; rfl) k) ?_
  show Goes p.tables e below (T9.setTop (mkF m 72 #[.val (.ref oa),.val (.int pb),.val (.int (2:Int32)),.val (.int x10),.val (.int (0:Int32))] [])) _
  refine Goes.by (fun _ k => XS.iinc X9.here hx rfl (hb hby d1_72) rfl (l' := #[.val (.ref oa),.val (.int pb),.val (.int (2:Int32)),.val (.int x10),.val (.int (1:Int32))]) rfl k) ?_
  show Goes p.tables e below (T9.setTop (mkF m 75 #[.val (.ref oa),.val (.int pb),.val (.int (2:Int32)),.val (.int x10),.val (.int (1:Int32))] [])) _
  refine Goes.by (fun _ k => XS.goto X9.here hx rfl (pc0 := 75) (pc' := 49) rfl (hb hby d1_75) (by decide) (by decide) k) ?_
  show Goes p.tables e below (T9.setTop (mkF m 49 #[.val (.ref oa),.val (.int pb),.val (.int (2:Int32)),.val (.int x10),.val (.int (1:Int32))] [])) _
  have hwx10 : x10.toInt = ((((nb / 64 + 1) / 64 + 1) : Nat) : Int) := by rw [hx10]; exact own_w1 _ _ hwx6
  refine Goes.by (fun _ k => XS.iload X9.here hx rfl (hb hby d1_49) rfl k) ?_
  show Goes p.tables e below (T9.setTop (mkF m 51 #[.val (.ref oa),.val (.int pb),.val (.int (2:Int32)),.val (.int x10),.val (.int (1:Int32))] [(.int (1:Int32))])) _
  refine Goes.by (fun _ k => XS.iloadN X9.here hx rfl (hb hby d1_51) rfl k) ?_
  show Goes p.tables e below (T9.setTop (mkF m 52 #[.val (.ref oa),.val (.int pb),.val (.int (2:Int32)),.val (.int x10),.val (.int (1:Int32))] [(.int (2:Int32)), (.int (1:Int32))])) _
  refine Goes.by (fun _ k => XS.icmpNo X9.here hx rfl (hb hby d1_52) rfl (tlt (by decide : (1:Int32) < (2:Int32))).2.1 k) ?_
  show Goes p.tables e below (T9.setTop (mkF m 55 #[.val (.ref oa),.val (.int pb),.val (.int (2:Int32)),.val (.int x10),.val (.int (1:Int32))] [])) _
  refine Goes.by (fun _ k => XS.aloadN X9.here hx rfl (hb hby d1_55) rfl rfl k) ?_
  show Goes p.tables e below (T9.setTop (mkF m 56 #[.val (.ref oa),.val (.int pb),.val (.int (2:Int32)),.val (.int x10),.val (.int (1:Int32))] [(.ref oa)])) _
  obtain ⟨T11, X11, e11, st11⟩ := getF X9 hx hZ hown (host := "") (Or.inl (hw _ (List.mem_of_getElem? (i := 12) rfl))) Via.refl e9 F_oa_levels (g := (mkF m 56 #[.val (.ref oa),.val (.int pb),.val (.int (2:Int32)),.val (.int x10),.val (.int (1:Int32))] [(.ref oa)])) rfl rfl (hb hby d1_56)
  refine Goes.by st11 ?_
  show Goes p.tables e below (T11.setTop (mkF m 59 #[.val (.ref oa),.val (.int pb),.val (.int (2:Int32)),.val (.int x10),.val (.int (1:Int32))] [(.ref b4)])) _
  refine Goes.by (fun _ k => XS.iload X11.here hx rfl (hb hby d1_59) rfl k) ?_
  show Goes p.tables e below (T11.setTop (mkF m 61 #[.val (.ref oa),.val (.int pb),.val (.int (2:Int32)),.val (.int x10),.val (.int (1:Int32))] [(.int (1:Int32)), (.ref b4)])) _
  refine Goes.by (fun _ k => XS.iloadN X11.here hx rfl (hb hby d1_61) rfl k) ?_
  show Goes p.tables e below (T11.setTop (mkF m 62 #[.val (.ref oa),.val (.int pb),.val (.int (2:Int32)),.val (.int x10),.val (.int (1:Int32))] [(.int x10), (.int (1:Int32)), (.ref b4)])) _
  obtain ⟨T12, h12, X12, e12, E12, A12, D12, st12⟩ := nwJ (n := ((nb / 64 + 1) / 64 + 1)) (cap := 1) (fr := (mkF m 62 #[.val (.ref oa),.val (.int pb),.val (.int (2:Int32)),.val (.int x10),.val (.int (1:Int32))] [(.int x10), (.int (1:Int32)), (.ref b4)])) X11 hx hZ (hw _ (List.mem_of_getElem? (i := 14) rfl)) e11 hwx10 hD.2 (by decide) (by decide) (by decide) rfl rfl (hb hby d1_62)
  obtain ⟨b12, g12⟩ : ∃ z, z = h9.size := ⟨_, rfl⟩
  rw [← g12] at A12 D12 st12
  have g_b12 : n0 ≤ b12 := Nat.le_trans Zs9 (Nat.le_of_eq g12.symm)
  have sz_b12 : h0.size ≤ b12 := Nat.le_trans K9.1 (Nat.le_of_eq g12.symm)
  have ne_oa_b12 : oa ≠ b12 := Nat.ne_of_lt (Nat.lt_of_lt_of_le E_oa.lt (Nat.le_of_eq g12.symm))
  have ne_b4_b12 : b4 ≠ b12 := Nat.ne_of_lt (Nat.lt_of_lt_of_le L_b4.lt (Nat.le_of_eq g12.symm))
  have ne_b8_b12 : b8 ≠ b12 := Nat.ne_of_lt (Nat.lt_of_lt_of_le A_b8.lt (Nat.le_of_eq g12.symm))
  have Zs12 : n0 ≤ h12.size := Nat.le_trans Zs9 E12.1
  have K12 : Keep h0 h12 [oa] := K9.ext E12
  refine Goes.by st12 ?_
  have E_oa : Exa Z h12 oa "com/example/xml_graph_join/xmlgraphjoin/topo/BitLevels" := E_oa.ext E12
  have F_oa_levels : Fld Z h12 oa "com/example/xml_graph_join/xmlgraphjoin/topo/BitLevels" "levels" "[[J" (.ref b4) := F_oa_levels.ext E12
  have L_b4 : Lv Z h12 b4 2 (up (fun _ => .null) 0 (.ref b8)) := L_b4.ext E12
  have A_b8 : AJ Z h12 b8 (nb / 64 + 1) (fun _ => (0:Int64)) := A_b8.ext E12
  have E_b8 : Exa Z h12 b8 "[J" := E_b8.ext E12
  have A_b12 : AJ Z h12 b12 ((nb / 64 + 1) / 64 + 1) (fun _ => (0:Int64)) := A12
  have E_b12 : Exa Z h12 b12 "[J" := D12
  show Goes p.tables e below (T12.setTop (mkF m 64 #[.val (.ref oa),.val (.int pb),.val (.int (2:Int32)),.val (.int x10),.val (.int (1:Int32))] [(.ref b12), (.int (1:Int32)), (.ref b4)])) _
  obtain ⟨T13, h13, X13, e13, W13, A13, st13⟩ := stL (fr := (mkF m 64 #[.val (.ref oa),.val (.int pb),.val (.int (2:Int32)),.val (.int x10),.val (.int (1:Int32))] [(.ref b12), (.int (1:Int32)), (.ref b4)])) X12 hx hZ e12 L_b4 E_b12 (i := 1) (by decide) (by decide) rfl rfl (hb hby d1_64)
  refine Goes.by st13 ?_
  have L_b4 : Lv Z h13 b4 2 (up (up (fun _ => .null) 0 (.ref b8)) 1 (.ref b12)) := A13
  have N13 := Fr.snoc X13 N9 g_b4
  have Zs13 : n0 ≤ h13.size := Nat.le_trans Zs12 (Keep.of_wr W13).1
  have K13 : Keep h0 h13 [oa] := K12.wr W13 (Or.inr sz_b4)
  have E_oa : Exa Z h13 oa "com/example/xml_graph_join/xmlgraphjoin/topo/BitLevels" := E_oa.wr W13
  have F_oa_levels : Fld Z h13 oa "com/example/xml_graph_join/xmlgraphjoin/topo/BitLevels" "levels" "[[J" (.ref b4) := F_oa_levels.other W13 (Or.inl ne_oa_b4)
  have A_b8 : AJ Z h13 b8 (nb / 64 + 1) (fun _ => (0:Int64)) := A_b8.other W13 (Ne.symm ne_b4_b8)
  have E_b8 : Exa Z h13 b8 "[J" := E_b8.wr W13
  have A_b12 : AJ Z h13 b12 ((nb / 64 + 1) / 64 + 1) (fun _ => (0:Int64)) := A_b12.other W13 (Ne.symm ne_b4_b12)
  have E_b12 : Exa Z h13 b12 "[J" := E_b12.wr W13
  show Goes p.tables e below (T13.setTop (mkF m 65 #[.val (.ref oa),.val (.int pb),.val (.int (2:Int32)),.val (.int x10),.val (.int (1:Int32))] [])) _
  refine Goes.by (fun _ k => XS.iloadN X13.here hx rfl (hb hby d1_65) rfl k) ?_
  show Goes p.tables e below (T13.setTop (mkF m 66 #[.val (.ref oa),.val (.int pb),.val (.int (2:Int32)),.val (.int x10),.val (.int (1:Int32))] [(.int x10)])) _
  refine Goes.by (fun _ k => XS.bipush X13.here hx rfl (hb hby d1_66) k) ?_
  show Goes p.tables e below (T13.setTop (mkF m 68 #[.val (.ref oa),.val (.int pb),.val (.int (2:Int32)),.val (.int x10),.val (.int (1:Int32))] [(.int (6:Int32)), (.int x10)])) _
  refine Goes.by (fun _ k => XS.iushr X13.here hx rfl (hb hby d1_68) rfl k) ?_
  show Goes p.tables e below (T13.setTop (mkF m 69 #[.val (.ref oa),.val (.int pb),.val (.int (2:Int32)),.val (.int x10),.val (.int (1:Int32))] [(.int ((x10.toUInt32>>>((6:Int32)&&&31).toUInt32).toInt32))])) _
  refine Goes.by (fun _ k => XS.iconst X13.here hx rfl (hb hby d1_69) k) ?_
  show Goes p.tables e below (T13.setTop (mkF m 70 #[.val (.ref oa),.val (.int pb),.val (.int (2:Int32)),.val (.int x10),.val (.int (1:Int32))] [(.int (1:Int32)), (.int ((x10.toUInt32>>>((6:Int32)&&&31).toUInt32).toInt32))])) _
  refine Goes.by (fun _ k => XS.iadd X13.here hx rfl (hb hby d1_70) rfl k) ?_
  show Goes p.tables e below (T13.setTop (mkF m 71 #[.val (.ref oa),.val (.int pb),.val (.int (2:Int32)),.val (.int x10),.val (.int (1:Int32))] [(.int (((x10.toUInt32>>>((6:Int32)&&&31).toUInt32).toInt32) + (1:Int32)))])) _
  obtain ⟨x14, hx14⟩ : ∃ z : Int32, z = (((x10.toUInt32>>>((6:Int32)&&&31).toUInt32).toInt32) + (1:Int32)) := ⟨_, rfl⟩
  refine Goes.by (fun _ k => XS.istoreN X13.here hx rfl (hb hby d1_71) rfl (l' := #[.val (.ref oa),.val (.int pb),.val (.int (2:Int32)),.val (.int x14),.val (.int (1:Int32))]) (by rw [hx14]; rfl) k) ?_
  show Goes p.tables e below (T13.setTop (mkF m 72 #[.val (.ref oa),.val (.int pb),.val (.int (2:Int32)),.val (.int x14),.val (.int (1:Int32))] [])) _
  refine Goes.by (fun _ k => XS.iinc X13.here hx rfl (hb hby d1_72) rfl (l' := #[.val (.ref oa),.val (.int pb),.val (.int (2:Int32)),.val (.int x14),.val (.int (2:Int32))]) rfl k) ?_
  show Goes p.tables e below (T13.setTop (mkF m 75 #[.val (.ref oa),.val (.int pb),.val (.int (2:Int32)),.val (.int x14),.val (.int (2:Int32))] [])) _
  refine Goes.by (fun _ k => XS.goto X13.here hx rfl (pc0 := 75) (pc' := 49) rfl (hb hby d1_75) (by decide) (by decide) k) ?_
  show Goes p.tables e below (T13.setTop (mkF m 49 #[.val (.ref oa),.val (.int pb),.val (.int (2:Int32)),.val (.int x14),.val (.int (2:Int32))] [])) _
  refine Goes.by (fun _ k => XS.iload X13.here hx rfl (hb hby d1_49) rfl k) ?_
  show Goes p.tables e below (T13.setTop (mkF m 51 #[.val (.ref oa),.val (.int pb),.val (.int (2:Int32)),.val (.int x14),.val (.int (2:Int32))] [(.int (2:Int32))])) _
  refine Goes.by (fun _ k => XS.iloadN X13.here hx rfl (hb hby d1_51) rfl k) ?_
  show Goes p.tables e below (T13.setTop (mkF m 52 #[.val (.ref oa),.val (.int pb),.val (.int (2:Int32)),.val (.int x14),.val (.int (2:Int32))] [(.int (2:Int32)), (.int (2:Int32))])) _
  refine Goes.by (fun _ k => XS.icmpYes X13.here hx rfl (pc0 := 52) (pc' := 78) rfl (hb hby d1_52) rfl (flt (by decide : ¬ ((2:Int32) < (2:Int32)))).2.1 (by decide) (by decide) k) ?_
  show Goes p.tables e below (T13.setTop (mkF m 78 #[.val (.ref oa),.val (.int pb),.val (.int (2:Int32)),.val (.int x14),.val (.int (2:Int32))] [])) _
  have A_b4 : Ar Z h13 b4 (.array .long) 2 (up (up (fun _ => .null) 0 (.ref b8)) 1 (.ref b12)) := L_b4.ar
  obtain ⟨fs, hr, hrun, hended, hW, hsame⟩ := X13.leave (v := none) (fun _ => rfl)
  refine ⟨_, _, X13.returnOut hx Bd.returns (hb hby d1_78) hr, hrun, hended, _, _, rfl, ?_, ⟨_, rfl⟩, hW, hsame.mono (by decide) (by decide)⟩
  show Q1d2 Z oa pb nb h0 n0 _ T13.heap _
  rw [e13]
  exact ⟨b4, b8, b12, rfl, N13, K13, E_oa, F_oa_levels, A_b4, A_b8, A_b12, sz_b4, sz_b8, sz_b12, ne_b4_b8, ne_b4_b12, ne_b8_b12⟩
theorem ef1d3 (m : MethodId) (oa : Addr) (pb : Int32) : entryFrame m #[(.ref oa), (.int pb)] 5 = mkF m 0 #[.val (.ref oa),.val (.int pb),.unset,.unset,.unset] [] := by first | (simp [entryFrame, mkF, argsToLocals, Value.category]; done) | rfl
def Q1d3 (Z : State) (oa : Addr) (pb : Int32) (nb : Nat) (h0 : Heap) (n0 : Nat) (v : Option Value) (h : Heap) (L : List Loc) : Prop := ∃ ol : Addr, ∃ o0 : Addr, ∃ o1 : Addr, ∃ o2 : Addr, v = none ∧ Fr n0 L ∧ Keep h0 h [oa] ∧ Exa Z h oa "com/example/xml_graph_join/xmlgraphjoin/topo/BitLevels" ∧ Fld Z h oa "com/example/xml_graph_join/xmlgraphjoin/topo/BitLevels" "levels" "[[J" (.ref ol) ∧ Ar Z h ol (.array .long) 3 (up (up (up (fun _ => .null) 0 (.ref o0)) 1 (.ref o1)) 2 (.ref o2)) ∧ AJ Z h o0 (nb / 64 + 1) (fun _ => (0:Int64)) ∧ AJ Z h o1 ((nb / 64 + 1) / 64 + 1) (fun _ => (0:Int64)) ∧ AJ Z h o2 (((nb / 64 + 1) / 64 + 1) / 64 + 1) (fun _ => (0:Int64)) ∧ (h0.size ≤ ol) ∧ (h0.size ≤ o0) ∧ (h0.size ≤ o1) ∧ (h0.size ≤ o2) ∧ (ol ≠ o0) ∧ (ol ≠ o1) ∧ (ol ≠ o2) ∧ (o0 ≠ o1) ∧ (o0 ≠ o2) ∧ (o1 ≠ o2)
set_option maxRecDepth 65536 in
set_option maxHeartbeats 40000000 in
theorem rm1d3 (l : Launch) (Z : State) (a0 : Array Value) (hw : ∀ d ∈ tables_1, d.before a0 Z = true) (ws : List Jvm.Cond) (oa : Addr) (pb : Int32) (nb : Nat) (h0 : Heap) (n0 : Nat) (Z0 : n0 ≤ h0.size) (E_oa : Exa Z h0 oa "com/example/xml_graph_join/xmlgraphjoin/topo/BitLevels") (F_oa_levels : Fld Z h0 oa "com/example/xml_graph_join/xmlgraphjoin/topo/BitLevels" "levels" "[[J" .null) (g_oa : n0 ≤ oa) (hbn : pb.toInt = (nb : Int)) (hD : 1 < nb / 64 + 1 ∧ 1 < (nb / 64 + 1) / 64 + 1 ∧ nb ≤ 16384) :
    MetFree l (⟨"com/example/xml_graph_join/xmlgraphjoin/topo/BitLevels", "<init>", "(I)V"⟩ : MethodName) (head1 (Jvm.Cond.code (⟨"com/example/xml_graph_join/xmlgraphjoin/topo/BitLevels", "<init>", "(I)V"⟩ : MethodName) prog_96_method_1_code 5 none :: ws) ({ frames := 1, cells := 4, slots := 266, locals := 12 } : Room)) (fun a U => a = #[(.ref oa), (.int pb)] ∧ Z.Warmed39 U.vm ∧ U.heap = h0) (fun _ _ _ _ _ => True) (fun _ U o U' => ∃ v L, o = .returned v ∧ Q1d3 Z oa pb nb h0 n0 v U'.heap L ∧ FrameEnd U o U' L ({ frames := 1, cells := 4, slots := 266, locals := 12 } : Room).cells ({ frames := 1, cells := 4, slots := 266, locals := 12 } : Room).slots) := by
  refine MetFree.of_bodySF (plainFor_of_name pn_0) hisR ?_
  intro p e s m args below meth c s₁ Bd hml0 hP hK
  obtain ⟨rfl, hZ, hh⟩ := hP
  have hx := Bd.exec
  have hby := Bd.bytes
  have hml : c.maxLocals = 5 := hml0
  have hown : s.vm.findClass "com/example/xml_graph_join/xmlgraphjoin/topo/BitLevels" = some m.cls := findClass_of_methodNamed Bd.named
  have hnm := (name_of_methodNamed Bd.named Bd.method).1
  have X0 : Stand p l e ({ frames := 1, cells := 4, slots := 266, locals := 12 } : Room) s m #[(.ref oa), (.int pb)] below meth c s₁ [] 0 0 := Stand.of_body Bd
  have e0 : s₁.heap = h0 := by rw [← hh, Bd.state]; rfl
  have N0 := Fr.nil n0
  refine Goes.by (fun _ k => castTop (ef1d3 m oa pb) k) ?_
  show Goes p.tables e below (s₁.setTop (mkF m 0 #[.val (.ref oa),.val (.int pb),.unset,.unset,.unset] [])) _
  refine Goes.by (fun _ k => XS.aloadN X0.here hx rfl (hb hby d1_0) rfl rfl k) ?_
  show Goes p.tables e below (s₁.setTop (mkF m 1 #[.val (.ref oa),.val (.int pb),.unset,.unset,.unset] [(.ref oa)])) _
  obtain ⟨T1, X1, e1, st1⟩ := initO X0 hx hZ hown (hw _ (List.mem_of_getElem? (i := 7) rfl)) (hw _ (List.mem_of_getElem? (i := 8) rfl)) (hw _ (List.mem_of_getElem? (i := 9) rfl)) e0 (g := (mkF m 1 #[.val (.ref oa),.val (.int pb),.unset,.unset,.unset] [(.ref oa)])) rfl (by rw [hml]; rfl) rfl (hb hby d1_1) (by decide) (W := 0) (by show 2 * 0 + _ ≤ _; exact Nat.le_of_eq rfl) (by decide)
  refine Goes.by st1 ?_
  show Goes p.tables e below (T1.setTop (mkF m 4 #[.val (.ref oa),.val (.int pb),.unset,.unset,.unset] [])) _
  refine Goes.by (fun _ k => XS.iconst X1.here hx rfl (hb hby d1_4) k) ?_
  show Goes p.tables e below (T1.setTop (mkF m 5 #[.val (.ref oa),.val (.int pb),.unset,.unset,.unset] [(.int (1:Int32))])) _
  refine Goes.by (fun _ k => XS.istoreN X1.here hx rfl (hb hby d1_5) rfl (l' := #[.val (.ref oa),.val (.int pb),.val (.int (1:Int32)),.unset,.unset]) rfl k) ?_
  show Goes p.tables e below (T1.setTop (mkF m 6 #[.val (.ref oa),.val (.int pb),.val (.int (1:Int32)),.unset,.unset] [])) _
  refine Goes.by (fun _ k => XS.iloadN X1.here hx rfl (hb hby d1_6) rfl k) ?_
  show Goes p.tables e below (T1.setTop (mkF m 7 #[.val (.ref oa),.val (.int pb),.val (.int (1:Int32)),.unset,.unset] [(.int pb)])) _
  refine Goes.by (fun _ k => XS.bipush X1.here hx rfl (hb hby d1_7) k) ?_
  show Goes p.tables e below (T1.setTop (mkF m 9 #[.val (.ref oa),.val (.int pb),.val (.int (1:Int32)),.unset,.unset] [(.int (6:Int32)), (.int pb)])) _
  refine Goes.by (fun _ k => XS.iushr X1.here hx rfl (hb hby d1_9) rfl k) ?_
  show Goes p.tables e below (T1.setTop (mkF m 10 #[.val (.ref oa),.val (.int pb),.val (.int (1:Int32)),.unset,.unset] [(.int ((pb.toUInt32>>>((6:Int32)&&&31).toUInt32).toInt32))])) _
  refine Goes.by (fun _ k => XS.iconst X1.here hx rfl (hb hby d1_10) k) ?_
  show Goes p.tables e below (T1.setTop (mkF m 11 #[.val (.ref oa),.val (.int pb),.val (.int (1:Int32)),.unset,.unset] [(.int (1:Int32)), (.int ((pb.toUInt32>>>((6:Int32)&&&31).toUInt32).toInt32))])) _
  refine Goes.by (fun _ k => XS.iadd X1.here hx rfl (hb hby d1_11) rfl k) ?_
  show Goes p.tables e below (T1.setTop (mkF m 12 #[.val (.ref oa),.val (.int pb),.val (.int (1:Int32)),.unset,.unset] [(.int (((pb.toUInt32>>>((6:Int32)&&&31).toUInt32).toInt32) + (1:Int32)))])) _
  obtain ⟨x2, hx2⟩ : ∃ z : Int32, z = (((pb.toUInt32>>>((6:Int32)&&&31).toUInt32).toInt32) + (1:Int32)) := ⟨_, rfl⟩
  refine Goes.by (fun _ k => XS.istoreN X1.here hx rfl (hb hby d1_12) rfl (l' := #[.val (.ref oa),.val (.int pb),.val (.int (1:Int32)),.val (.int x2),.unset]) (by rw [hx2]; rfl) k) ?_
  show Goes p.tables e below (T1.setTop (mkF m 13 #[.val (.ref oa),.val (.int pb),.val (.int (1:Int32)),.val (.int x2),.unset] [])) _
  have hwx2 : x2.toInt = (((nb / 64 + 1) : Nat) : Int) := by rw [hx2]; exact own_w1 _ _ hbn
  refine Goes.by (fun _ k => XS.iloadN X1.here hx rfl (hb hby d1_13) rfl k) ?_
  show Goes p.tables e below (T1.setTop (mkF m 14 #[.val (.ref oa),.val (.int pb),.val (.int (1:Int32)),.val (.int x2),.unset] [(.int x2)])) _
  refine Goes.by (fun _ k => XS.iconst X1.here hx rfl (hb hby d1_14) k) ?_
  show Goes p.tables e below (T1.setTop (mkF m 15 #[.val (.ref oa),.val (.int pb),.val (.int (1:Int32)),.val (.int x2),.unset] [(.int (1:Int32)), (.int x2)])) _
  refine Goes.by (fun _ k => XS.icmpNo X1.here hx rfl (hb hby d1_15) rfl (tlt (own_gt1 hwx2 hD.1 : (1:Int32) < x2)).2.2.2 k) ?_
  show Goes p.tables e below (T1.setTop (mkF m 18 #[.val (.ref oa),.val (.int pb),.val (.int (1:Int32)),.val (.int x2),.unset] [])) _
  refine Goes.by (fun _ k => XS.iinc X1.here hx rfl (hb hby d1_18) rfl (l' := #[.val (.ref oa),.val (.int pb),.val (.int (2:Int32)),.val (.int x2),.unset]) rfl k) ?_
  show Goes p.tables e below (T1.setTop (mkF m 21 #[.val (.ref oa),.val (.int pb),.val (.int (2:Int32)),.val (.int x2),.unset] [])) _
  refine Goes.by (fun _ k => XS.iloadN X1.here hx rfl (hb hby d1_21) rfl k) ?_
  show Goes p.tables e below (T1.setTop (mkF m 22 #[.val (.ref oa),.val (.int pb),.val (.int (2:Int32)),.val (.int x2),.unset] [(.int x2)])) _
  refine Goes.by (fun _ k => XS.bipush X1.here hx rfl (hb hby d1_22) k) ?_
  show Goes p.tables e below (T1.setTop (mkF m 24 #[.val (.ref oa),.val (.int pb),.val (.int (2:Int32)),.val (.int x2),.unset] [(.int (6:Int32)), (.int x2)])) _
  refine Goes.by (fun _ k => XS.iushr X1.here hx rfl (hb hby d1_24) rfl k) ?_
  show Goes p.tables e below (T1.setTop (mkF m 25 #[.val (.ref oa),.val (.int pb),.val (.int (2:Int32)),.val (.int x2),.unset] [(.int ((x2.toUInt32>>>((6:Int32)&&&31).toUInt32).toInt32))])) _
  refine Goes.by (fun _ k => XS.iconst X1.here hx rfl (hb hby d1_25) k) ?_
  show Goes p.tables e below (T1.setTop (mkF m 26 #[.val (.ref oa),.val (.int pb),.val (.int (2:Int32)),.val (.int x2),.unset] [(.int (1:Int32)), (.int ((x2.toUInt32>>>((6:Int32)&&&31).toUInt32).toInt32))])) _
  refine Goes.by (fun _ k => XS.iadd X1.here hx rfl (hb hby d1_26) rfl k) ?_
  show Goes p.tables e below (T1.setTop (mkF m 27 #[.val (.ref oa),.val (.int pb),.val (.int (2:Int32)),.val (.int x2),.unset] [(.int (((x2.toUInt32>>>((6:Int32)&&&31).toUInt32).toInt32) + (1:Int32)))])) _
  obtain ⟨x3, hx3⟩ : ∃ z : Int32, z = (((x2.toUInt32>>>((6:Int32)&&&31).toUInt32).toInt32) + (1:Int32)) := ⟨_, rfl⟩
  refine Goes.by (fun _ k => XS.istoreN X1.here hx rfl (hb hby d1_27) rfl (l' := #[.val (.ref oa),.val (.int pb),.val (.int (2:Int32)),.val (.int x3),.unset]) (by rw [hx3]; rfl) k) ?_
  show Goes p.tables e below (T1.setTop (mkF m 28 #[.val (.ref oa),.val (.int pb),.val (.int (2:Int32)),.val (.int x3),.unset] [])) _
  refine Goes.by (fun _ k => XS.goto X1.here hx rfl (pc0 := 28) (pc' := 13) rfl (hb hby d1_28) (by decide) (by decide) k) ?_
  show Goes p.tables e below (T1.setTop (mkF m 13 #[.val (.ref oa),.val (.int pb),.val (.int (2:Int32)),.val (.int x3),.unset] [])) _
  have hwx3 : x3.toInt = ((((nb / 64 + 1) / 64 + 1) : Nat) : Int) := by rw [hx3]; exact own_w1 _ _ hwx2
  refine Goes.by (fun _ k => XS.iloadN X1.here hx rfl (hb hby d1_13) rfl k) ?_
  show Goes p.tables e below (T1.setTop (mkF m 14 #[.val (.ref oa),.val (.int pb),.val (.int (2:Int32)),.val (.int x3),.unset] [(.int x3)])) _
  refine Goes.by (fun _ k => XS.iconst X1.here hx rfl (hb hby d1_14) k) ?_
  show Goes p.tables e below (T1.setTop (mkF m 15 #[.val (.ref oa),.val (.int pb),.val (.int (2:Int32)),.val (.int x3),.unset] [(.int (1:Int32)), (.int x3)])) _
  refine Goes.by (fun _ k => XS.icmpNo X1.here hx rfl (hb hby d1_15) rfl (tlt (own_gt1 hwx3 hD.2.1 : (1:Int32) < x3)).2.2.2 k) ?_
  show Goes p.tables e below (T1.setTop (mkF m 18 #[.val (.ref oa),.val (.int pb),.val (.int (2:Int32)),.val (.int x3),.unset] [])) _
  refine Goes.by (fun _ k => XS.iinc X1.here hx rfl (hb hby d1_18) rfl (l' := #[.val (.ref oa),.val (.int pb),.val (.int (3:Int32)),.val (.int x3),.unset]) rfl k) ?_
  show Goes p.tables e below (T1.setTop (mkF m 21 #[.val (.ref oa),.val (.int pb),.val (.int (3:Int32)),.val (.int x3),.unset] [])) _
  refine Goes.by (fun _ k => XS.iloadN X1.here hx rfl (hb hby d1_21) rfl k) ?_
  show Goes p.tables e below (T1.setTop (mkF m 22 #[.val (.ref oa),.val (.int pb),.val (.int (3:Int32)),.val (.int x3),.unset] [(.int x3)])) _
  refine Goes.by (fun _ k => XS.bipush X1.here hx rfl (hb hby d1_22) k) ?_
  show Goes p.tables e below (T1.setTop (mkF m 24 #[.val (.ref oa),.val (.int pb),.val (.int (3:Int32)),.val (.int x3),.unset] [(.int (6:Int32)), (.int x3)])) _
  refine Goes.by (fun _ k => XS.iushr X1.here hx rfl (hb hby d1_24) rfl k) ?_
  show Goes p.tables e below (T1.setTop (mkF m 25 #[.val (.ref oa),.val (.int pb),.val (.int (3:Int32)),.val (.int x3),.unset] [(.int ((x3.toUInt32>>>((6:Int32)&&&31).toUInt32).toInt32))])) _
  refine Goes.by (fun _ k => XS.iconst X1.here hx rfl (hb hby d1_25) k) ?_
  show Goes p.tables e below (T1.setTop (mkF m 26 #[.val (.ref oa),.val (.int pb),.val (.int (3:Int32)),.val (.int x3),.unset] [(.int (1:Int32)), (.int ((x3.toUInt32>>>((6:Int32)&&&31).toUInt32).toInt32))])) _
  refine Goes.by (fun _ k => XS.iadd X1.here hx rfl (hb hby d1_26) rfl k) ?_
  show Goes p.tables e below (T1.setTop (mkF m 27 #[.val (.ref oa),.val (.int pb),.val (.int (3:Int32)),.val (.int x3),.unset] [(.int (((x3.toUInt32>>>((6:Int32)&&&31).toUInt32).toInt32) + (1:Int32)))])) _
  obtain ⟨x4, hx4⟩ : ∃ z : Int32, z = (((x3.toUInt32>>>((6:Int32)&&&31).toUInt32).toInt32) + (1:Int32)) := ⟨_, rfl⟩
  refine Goes.by (fun _ k => XS.istoreN X1.here hx rfl (hb hby d1_27) rfl (l' := #[.val (.ref oa),.val (.int pb),.val (.int (3:Int32)),.val (.int x4),.unset]) (by rw [hx4]; rfl) k) ?_
  show Goes p.tables e below (T1.setTop (mkF m 28 #[.val (.ref oa),.val (.int pb),.val (.int (3:Int32)),.val (.int x4),.unset] [])) _
  refine Goes.by (fun _ k => XS.goto X1.here hx rfl (pc0 := 28) (pc' := 13) rfl (hb hby d1_28) (by decide) (by decide) k) ?_
  show Goes p.tables e below (T1.setTop (mkF m 13 #[.val (.ref oa),.val (.int pb),.val (.int (3:Int32)),.val (.int x4),.unset] [])) _
  have hwx4 : x4.toInt = (((((nb / 64 + 1) / 64 + 1) / 64 + 1) : Nat) : Int) := by rw [hx4]; exact own_w1 _ _ hwx3
  refine Goes.by (fun _ k => XS.iloadN X1.here hx rfl (hb hby d1_13) rfl k) ?_
  show Goes p.tables e below (T1.setTop (mkF m 14 #[.val (.ref oa),.val (.int pb),.val (.int (3:Int32)),.val (.int x4),.unset] [(.int x4)])) _
  refine Goes.by (fun _ k => XS.iconst X1.here hx rfl (hb hby d1_14) k) ?_
  show Goes p.tables e below (T1.setTop (mkF m 15 #[.val (.ref oa),.val (.int pb),.val (.int (3:Int32)),.val (.int x4),.unset] [(.int (1:Int32)), (.int x4)])) _
  refine Goes.by (fun _ k => XS.icmpYes X1.here hx rfl (pc0 := 15) (pc' := 31) rfl (hb hby d1_15) rfl (flt (own_le1 hwx4 (own_w2 hD.2.2) : ¬ ((1:Int32) < x4))).2.2.2 (by decide) (by decide) k) ?_
  show Goes p.tables e below (T1.setTop (mkF m 31 #[.val (.ref oa),.val (.int pb),.val (.int (3:Int32)),.val (.int x4),.unset] [])) _
  refine Goes.by (fun _ k => XS.aloadN X1.here hx rfl (hb hby d1_31) rfl rfl k) ?_
  show Goes p.tables e below (T1.setTop (mkF m 32 #[.val (.ref oa),.val (.int pb),.val (.int (3:Int32)),.val (.int x4),.unset] [(.ref oa)])) _
  refine Goes.by (fun _ k => XS.iloadN X1.here hx rfl (hb hby d1_32) rfl k) ?_
  show Goes p.tables e below (T1.setTop (mkF m 33 #[.val (.ref oa),.val (.int pb),.val (.int (3:Int32)),.val (.int x4),.unset] [(.int (3:Int32)), (.ref oa)])) _
  obtain ⟨T5, h5, X5, e5, E5, A5, st5⟩ := nwL (n := 3) (cap := 3) (fr := (mkF m 33 #[.val (.ref oa),.val (.int pb),.val (.int (3:Int32)),.val (.int x4),.unset] [(.int (3:Int32)), (.ref oa)])) X1 hx hZ hown (hw _ (List.mem_of_getElem? (i := 10) rfl)) (hw _ (List.mem_of_getElem? (i := 11) rfl)) e1 (by decide) (by decide) (by decide) (by decide) (by decide) rfl rfl (hb hby d1_33)
  obtain ⟨b5, g5⟩ : ∃ z, z = h0.size := ⟨_, rfl⟩
  rw [← g5] at A5 st5
  have g_b5 : n0 ≤ b5 := Nat.le_trans Z0 (Nat.le_of_eq g5.symm)
  have sz_b5 : h0.size ≤ b5 := Nat.le_trans (Keep.refl h0 [oa]).1 (Nat.le_of_eq g5.symm)
  have ne_oa_b5 : oa ≠ b5 := Nat.ne_of_lt (Nat.lt_of_lt_of_le E_oa.lt (Nat.le_of_eq g5.symm))
  have Zs5 : n0 ≤ h5.size := Nat.le_trans Z0 E5.1
  have K5 : Keep h0 h5 [oa] := (Keep.refl h0 [oa]).ext E5
  refine Goes.by st5 ?_
  have E_oa : Exa Z h5 oa "com/example/xml_graph_join/xmlgraphjoin/topo/BitLevels" := E_oa.ext E5
  have F_oa_levels : Fld Z h5 oa "com/example/xml_graph_join/xmlgraphjoin/topo/BitLevels" "levels" "[[J" .null := F_oa_levels.ext E5
  have L_b5 : Lv Z h5 b5 3 (fun _ => .null) := A5
  show Goes p.tables e below (T5.setTop (mkF m 36 #[.val (.ref oa),.val (.int pb),.val (.int (3:Int32)),.val (.int x4),.unset] [(.ref b5), (.ref oa)])) _
  obtain ⟨T6, h6, X6, e6, W6, st6⟩ := putF X5 hx hZ hown (host := "") (Or.inl (hw _ (List.mem_of_getElem? (i := 12) rfl))) Via.refl e5 F_oa_levels E_oa (Or.inr ⟨(hw _ (List.mem_of_getElem? (i := 13) rfl)), rfl, hnm⟩) (hw _ (List.mem_of_getElem? (i := 2) rfl)) (ty := (.array (.array .long))) (by decide) rfl rfl (g := (mkF m 36 #[.val (.ref oa),.val (.int pb),.val (.int (3:Int32)),.val (.int x4),.unset] [(.ref b5), (.ref oa)])) rfl rfl (hb hby d1_36)
  refine Goes.by st6 ?_
  have F_oa_levels : Fld Z h6 oa "com/example/xml_graph_join/xmlgraphjoin/topo/BitLevels" "levels" "[[J" (.ref b5) := F_oa_levels.same W6
  have N6 := Fr.snoc X6 N0 g_oa
  have Zs6 : n0 ≤ h6.size := Nat.le_trans Zs5 (Keep.of_wr W6).1
  have K6 : Keep h0 h6 [oa] := K5.wr W6 (Or.inl (List.mem_of_getElem? (i := 0) rfl))
  have E_oa : Exa Z h6 oa "com/example/xml_graph_join/xmlgraphjoin/topo/BitLevels" := E_oa.wr W6
  have L_b5 : Lv Z h6 b5 3 (fun _ => .null) := L_b5.other W6 (Ne.symm ne_oa_b5)
  show Goes p.tables e below (T6.setTop (mkF m 39 #[.val (.ref oa),.val (.int pb),.val (.int (3:Int32)),.val (.int x4),.unset] [])) _
  refine Goes.by (fun _ k => XS.iloadN X6.here hx rfl (hb hby d1_39) rfl k) ?_
  show Goes p.tables e below (T6.setTop (mkF m 40 #[.val (.ref oa),.val (.int pb),.val (.int (3:Int32)),.val (.int x4),.unset] [(.int pb)])) _
  refine Goes.by (fun _ k => XS.bipush X6.here hx rfl (hb hby d1_40) k) ?_
  show Goes p.tables e below (T6.setTop (mkF m 42 #[.val (.ref oa),.val (.int pb),.val (.int (3:Int32)),.val (.int x4),.unset] [(.int (6:Int32)), (.int pb)])) _
  refine Goes.by (fun _ k => XS.iushr X6.here hx rfl (hb hby d1_42) rfl k) ?_
  show Goes p.tables e below (T6.setTop (mkF m 43 #[.val (.ref oa),.val (.int pb),.val (.int (3:Int32)),.val (.int x4),.unset] [(.int ((pb.toUInt32>>>((6:Int32)&&&31).toUInt32).toInt32))])) _
  refine Goes.by (fun _ k => XS.iconst X6.here hx rfl (hb hby d1_43) k) ?_
  show Goes p.tables e below (T6.setTop (mkF m 44 #[.val (.ref oa),.val (.int pb),.val (.int (3:Int32)),.val (.int x4),.unset] [(.int (1:Int32)), (.int ((pb.toUInt32>>>((6:Int32)&&&31).toUInt32).toInt32))])) _
  refine Goes.by (fun _ k => XS.iadd X6.here hx rfl (hb hby d1_44) rfl k) ?_
  show Goes p.tables e below (T6.setTop (mkF m 45 #[.val (.ref oa),.val (.int pb),.val (.int (3:Int32)),.val (.int x4),.unset] [(.int (((pb.toUInt32>>>((6:Int32)&&&31).toUInt32).toInt32) + (1:Int32)))])) _
  obtain ⟨x7, hx7⟩ : ∃ z : Int32, z = (((pb.toUInt32>>>((6:Int32)&&&31).toUInt32).toInt32) + (1:Int32)) := ⟨_, rfl⟩
  refine Goes.by (fun _ k => XS.istoreN X6.here hx rfl (hb hby d1_45) rfl (l' := #[.val (.ref oa),.val (.int pb),.val (.int (3:Int32)),.val (.int x7),.unset]) (by rw [hx7]; rfl) k) ?_
  show Goes p.tables e below (T6.setTop (mkF m 46 #[.val (.ref oa),.val (.int pb),.val (.int (3:Int32)),.val (.int x7),.unset] [])) _
  have hwx7 : x7.toInt = (((nb / 64 + 1) : Nat) : Int) := by rw [hx7]; exact own_w1 _ _ hbn
  refine Goes.by (fun _ k => XS.iconst X6.here hx rfl (hb hby d1_46) k) ?_
  show Goes p.tables e below (T6.setTop (mkF m 47 #[.val (.ref oa),.val (.int pb),.val (.int (3:Int32)),.val (.int x7),.unset] [(.int (0:Int32))])) _
  refine Goes.by (fun _ k => XS.istore X6.here hx rfl (hb hby d1_47) rfl (l' := #[.val (.ref oa),.val (.int pb),.val (.int (3:Int32)),.val (.int x7),.val (.int (0:Int32))]) rfl k) ?_
  show Goes p.tables e below (T6.setTop (mkF m 49 #[.val (.ref oa),.val (.int pb),.val (.int (3:Int32)),.val (.int x7),.val (.int (0:Int32))] [])) _
  refine Goes.by (fun _ k => XS.iload X6.here hx rfl (hb hby d1_49) rfl k) ?_
  show Goes p.tables e below (T6.setTop (mkF m 51 #[.val (.ref oa),.val (.int pb),.val (.int (3:Int32)),.val (.int x7),.val (.int (0:Int32))] [(.int (0:Int32))])) _
  refine Goes.by (fun _ k => XS.iloadN X6.here hx rfl (hb hby d1_51) rfl k) ?_
  show Goes p.tables e below (T6.setTop (mkF m 52 #[.val (.ref oa),.val (.int pb),.val (.int (3:Int32)),.val (.int x7),.val (.int (0:Int32))] [(.int (3:Int32)), (.int (0:Int32))])) _
  refine Goes.by (fun _ k => XS.icmpNo X6.here hx rfl (hb hby d1_52) rfl (tlt (by decide : (0:Int32) < (3:Int32))).2.1 k) ?_
  show Goes p.tables e below (T6.setTop (mkF m 55 #[.val (.ref oa),.val (.int pb),.val (.int (3:Int32)),.val (.int x7),.val (.int (0:Int32))] [])) _
  refine Goes.by (fun _ k => XS.aloadN X6.here hx rfl (hb hby d1_55) rfl rfl k) ?_
  show Goes p.tables e below (T6.setTop (mkF m 56 #[.val (.ref oa),.val (.int pb),.val (.int (3:Int32)),.val (.int x7),.val (.int (0:Int32))] [(.ref oa)])) _
  obtain ⟨T8, X8, e8, st8⟩ := getF X6 hx hZ hown (host := "") (Or.inl (hw _ (List.mem_of_getElem? (i := 12) rfl))) Via.refl e6 F_oa_levels (g := (mkF m 56 #[.val (.ref oa),.val (.int pb),.val (.int (3:Int32)),.val (.int x7),.val (.int (0:Int32))] [(.ref oa)])) rfl rfl (hb hby d1_56)
  refine Goes.by st8 ?_
  show Goes p.tables e below (T8.setTop (mkF m 59 #[.val (.ref oa),.val (.int pb),.val (.int (3:Int32)),.val (.int x7),.val (.int (0:Int32))] [(.ref b5)])) _
  refine Goes.by (fun _ k => XS.iload X8.here hx rfl (hb hby d1_59) rfl k) ?_
  show Goes p.tables e below (T8.setTop (mkF m 61 #[.val (.ref oa),.val (.int pb),.val (.int (3:Int32)),.val (.int x7),.val (.int (0:Int32))] [(.int (0:Int32)), (.ref b5)])) _
  refine Goes.by (fun _ k => XS.iloadN X8.here hx rfl (hb hby d1_61) rfl k) ?_
  show Goes p.tables e below (T8.setTop (mkF m 62 #[.val (.ref oa),.val (.int pb),.val (.int (3:Int32)),.val (.int x7),.val (.int (0:Int32))] [(.int x7), (.int (0:Int32)), (.ref b5)])) _
  obtain ⟨T9, h9, X9, e9, E9, A9, D9, st9⟩ := nwJ (n := (nb / 64 + 1)) (cap := 257) (fr := (mkF m 62 #[.val (.ref oa),.val (.int pb),.val (.int (3:Int32)),.val (.int x7),.val (.int (0:Int32))] [(.int x7), (.int (0:Int32)), (.ref b5)])) X8 hx hZ (hw _ (List.mem_of_getElem? (i := 14) rfl)) e8 hwx7 (own_c257 hD.2.2) (by decide) (by decide) (by decide) rfl rfl (hb hby d1_62)
  obtain ⟨b9, g9⟩ : ∃ z, z = h6.size := ⟨_, rfl⟩
  rw [← g9] at A9 D9 st9
  have g_b9 : n0 ≤ b9 := Nat.le_trans Zs6 (Nat.le_of_eq g9.symm)
  have sz_b9 : h0.size ≤ b9 := Nat.le_trans K6.1 (Nat.le_of_eq g9.symm)
  have ne_oa_b9 : oa ≠ b9 := Nat.ne_of_lt (Nat.lt_of_lt_of_le E_oa.lt (Nat.le_of_eq g9.symm))
  have ne_b5_b9 : b5 ≠ b9 := Nat.ne_of_lt (Nat.lt_of_lt_of_le L_b5.lt (Nat.le_of_eq g9.symm))
  have Zs9 : n0 ≤ h9.size := Nat.le_trans Zs6 E9.1
  have K9 : Keep h0 h9 [oa] := K6.ext E9
  refine Goes.by st9 ?_
  have E_oa : Exa Z h9 oa "com/example/xml_graph_join/xmlgraphjoin/topo/BitLevels" := E_oa.ext E9
  have F_oa_levels : Fld Z h9 oa "com/example/xml_graph_join/xmlgraphjoin/topo/BitLevels" "levels" "[[J" (.ref b5) := F_oa_levels.ext E9
  have L_b5 : Lv Z h9 b5 3 (fun _ => .null) := L_b5.ext E9
  have A_b9 : AJ Z h9 b9 (nb / 64 + 1) (fun _ => (0:Int64)) := A9
  have E_b9 : Exa Z h9 b9 "[J" := D9
  show Goes p.tables e below (T9.setTop (mkF m 64 #[.val (.ref oa),.val (.int pb),.val (.int (3:Int32)),.val (.int x7),.val (.int (0:Int32))] [(.ref b9), (.int (0:Int32)), (.ref b5)])) _
  obtain ⟨T10, h10, X10, e10, W10, A10, st10⟩ := stL (fr := (mkF m 64 #[.val (.ref oa),.val (.int pb),.val (.int (3:Int32)),.val (.int x7),.val (.int (0:Int32))] [(.ref b9), (.int (0:Int32)), (.ref b5)])) X9 hx hZ e9 L_b5 E_b9 (i := 0) (by decide) (by decide) rfl rfl (hb hby d1_64)
  refine Goes.by st10 ?_
  have L_b5 : Lv Z h10 b5 3 (up (fun _ => .null) 0 (.ref b9)) := A10
  have N10 := Fr.snoc X10 N6 g_b5
  have Zs10 : n0 ≤ h10.size := Nat.le_trans Zs9 (Keep.of_wr W10).1
  have K10 : Keep h0 h10 [oa] := K9.wr W10 (Or.inr sz_b5)
  have E_oa : Exa Z h10 oa "com/example/xml_graph_join/xmlgraphjoin/topo/BitLevels" := E_oa.wr W10
  have F_oa_levels : Fld Z h10 oa "com/example/xml_graph_join/xmlgraphjoin/topo/BitLevels" "levels" "[[J" (.ref b5) := F_oa_levels.other W10 (Or.inl ne_oa_b5)
  have A_b9 : AJ Z h10 b9 (nb / 64 + 1) (fun _ => (0:Int64)) := A_b9.other W10 (Ne.symm ne_b5_b9)
  have E_b9 : Exa Z h10 b9 "[J" := E_b9.wr W10
  show Goes p.tables e below (T10.setTop (mkF m 65 #[.val (.ref oa),.val (.int pb),.val (.int (3:Int32)),.val (.int x7),.val (.int (0:Int32))] [])) _
  refine Goes.by (fun _ k => XS.iloadN X10.here hx rfl (hb hby d1_65) rfl k) ?_
  show Goes p.tables e below (T10.setTop (mkF m 66 #[.val (.ref oa),.val (.int pb),.val (.int (3:Int32)),.val (.int x7),.val (.int (0:Int32))] [(.int x7)])) _
  refine Goes.by (fun _ k => XS.bipush X10.here hx rfl (hb hby d1_66) k) ?_
  show Goes p.tables e below (T10.setTop (mkF m 68 #[.val (.ref oa),.val (.int pb),.val (.int (3:Int32)),.val (.int x7),.val (.int (0:Int32))] [(.int (6:Int32)), (.int x7)])) _
  refine Goes.by (fun _ k => XS.iushr X10.here hx rfl (hb hby d1_68) rfl k) ?_
  show Goes p.tables e below (T10.setTop (mkF m 69 #[.val (.ref oa),.val (.int pb),.val (.int (3:Int32)),.val (.int x7),.val (.int (0:Int32))] [(.int ((x7.toUInt32>>>((6:Int32)&&&31).toUInt32).toInt32))])) _
  refine Goes.by (fun _ k => XS.iconst X10.here hx rfl (hb hby d1_69) k) ?_
  show Goes p.tables e below (T10.setTop (mkF m 70 #[.val (.ref oa),.val (.int pb),.val (.int (3:Int32)),.val (.int x7),.val (.int (0:Int32))] [(.int (1:Int32)), (.int ((x7.toUInt32>>>((6:Int32)&&&31).toUInt32).toInt32))])) _
  refine Goes.by (fun _ k => XS.iadd X10.here hx rfl (hb hby d1_70) rfl k) ?_
  show Goes p.tables e below (T10.setTop (mkF m 71 #[.val (.ref oa),.val (.int pb),.val (.int (3:Int32)),.val (.int x7),.val (.int (0:Int32))] [(.int (((x7.toUInt32>>>((6:Int32)&&&31).toUInt32).toInt32) + (1:Int32)))])) _
  obtain ⟨x11, hx11⟩ : ∃ z : Int32, z = (((x7.toUInt32>>>((6:Int32)&&&31).toUInt32).toInt32) + (1:Int32)) := ⟨_, rfl⟩
  refine Goes.by (fun _ k => XS.istoreN X10.here hx rfl (hb hby d1_71) rfl (l' := #[.val (.ref oa),.val (.int pb),.val (.int (3:Int32)),.val (.int x11),.val (.int (0:Int32))]) (by rw [hx11]; rfl) k) ?_
  show Goes p.tables e below (T10.setTop (mkF m 72 #[.val (.ref oa),.val (.int pb),.val (.int (3:Int32)),.val (.int x11),.val (.int (0:Int32))] [])) _
  refine Goes.by (fun _ k => XS.iinc X10.here hx rfl (hb hby d1_72) rfl (l' := #[.val (.ref oa),.val (.int pb),.val (.int (3:Int32)),.val (.int x11),.val (.int (1:Int32))]) rfl k) ?_
  show Goes p.tables e below (T10.setTop (mkF m 75 #[.val (.ref oa),.val (.int pb),.val (.int (3:Int32)),.val (.int x11),.val (.int (1:Int32))] [])) _
  refine Goes.by (fun _ k => XS.goto X10.here hx rfl (pc0 := 75) (pc' := 49) rfl (hb hby d1_75) (by decide) (by decide) k) ?_
  show Goes p.tables e below (T10.setTop (mkF m 49 #[.val (.ref oa),.val (.int pb),.val (.int (3:Int32)),.val (.int x11),.val (.int (1:Int32))] [])) _
  have hwx11 : x11.toInt = ((((nb / 64 + 1) / 64 + 1) : Nat) : Int) := by rw [hx11]; exact own_w1 _ _ hwx7
  refine Goes.by (fun _ k => XS.iload X10.here hx rfl (hb hby d1_49) rfl k) ?_
  show Goes p.tables e below (T10.setTop (mkF m 51 #[.val (.ref oa),.val (.int pb),.val (.int (3:Int32)),.val (.int x11),.val (.int (1:Int32))] [(.int (1:Int32))])) _
  refine Goes.by (fun _ k => XS.iloadN X10.here hx rfl (hb hby d1_51) rfl k) ?_
  show Goes p.tables e below (T10.setTop (mkF m 52 #[.val (.ref oa),.val (.int pb),.val (.int (3:Int32)),.val (.int x11),.val (.int (1:Int32))] [(.int (3:Int32)), (.int (1:Int32))])) _
  refine Goes.by (fun _ k => XS.icmpNo X10.here hx rfl (hb hby d1_52) rfl (tlt (by decide : (1:Int32) < (3:Int32))).2.1 k) ?_
  show Goes p.tables e below (T10.setTop (mkF m 55 #[.val (.ref oa),.val (.int pb),.val (.int (3:Int32)),.val (.int x11),.val (.int (1:Int32))] [])) _
  refine Goes.by (fun _ k => XS.aloadN X10.here hx rfl (hb hby d1_55) rfl rfl k) ?_
  show Goes p.tables e below (T10.setTop (mkF m 56 #[.val (.ref oa),.val (.int pb),.val (.int (3:Int32)),.val (.int x11),.val (.int (1:Int32))] [(.ref oa)])) _
  obtain ⟨T12, X12, e12, st12⟩ := getF X10 hx hZ hown (host := "") (Or.inl (hw _ (List.mem_of_getElem? (i := 12) rfl))) Via.refl e10 F_oa_levels (g := (mkF m 56 #[.val (.ref oa),.val (.int pb),.val (.int (3:Int32)),.val (.int x11),.val (.int (1:Int32))] [(.ref oa)])) rfl rfl (hb hby d1_56)
  refine Goes.by st12 ?_
  show Goes p.tables e below (T12.setTop (mkF m 59 #[.val (.ref oa),.val (.int pb),.val (.int (3:Int32)),.val (.int x11),.val (.int (1:Int32))] [(.ref b5)])) _
  refine Goes.by (fun _ k => XS.iload X12.here hx rfl (hb hby d1_59) rfl k) ?_
  show Goes p.tables e below (T12.setTop (mkF m 61 #[.val (.ref oa),.val (.int pb),.val (.int (3:Int32)),.val (.int x11),.val (.int (1:Int32))] [(.int (1:Int32)), (.ref b5)])) _
  refine Goes.by (fun _ k => XS.iloadN X12.here hx rfl (hb hby d1_61) rfl k) ?_
  show Goes p.tables e below (T12.setTop (mkF m 62 #[.val (.ref oa),.val (.int pb),.val (.int (3:Int32)),.val (.int x11),.val (.int (1:Int32))] [(.int x11), (.int (1:Int32)), (.ref b5)])) _
  obtain ⟨T13, h13, X13, e13, E13, A13, D13, st13⟩ := nwJ (n := ((nb / 64 + 1) / 64 + 1)) (cap := 5) (fr := (mkF m 62 #[.val (.ref oa),.val (.int pb),.val (.int (3:Int32)),.val (.int x11),.val (.int (1:Int32))] [(.int x11), (.int (1:Int32)), (.ref b5)])) X12 hx hZ (hw _ (List.mem_of_getElem? (i := 14) rfl)) e12 hwx11 (own_c5 hD.2.2) (by decide) (by decide) (by decide) rfl rfl (hb hby d1_62)
  obtain ⟨b13, g13⟩ : ∃ z, z = h10.size := ⟨_, rfl⟩
  rw [← g13] at A13 D13 st13
  have g_b13 : n0 ≤ b13 := Nat.le_trans Zs10 (Nat.le_of_eq g13.symm)
  have sz_b13 : h0.size ≤ b13 := Nat.le_trans K10.1 (Nat.le_of_eq g13.symm)
  have ne_oa_b13 : oa ≠ b13 := Nat.ne_of_lt (Nat.lt_of_lt_of_le E_oa.lt (Nat.le_of_eq g13.symm))
  have ne_b5_b13 : b5 ≠ b13 := Nat.ne_of_lt (Nat.lt_of_lt_of_le L_b5.lt (Nat.le_of_eq g13.symm))
  have ne_b9_b13 : b9 ≠ b13 := Nat.ne_of_lt (Nat.lt_of_lt_of_le A_b9.lt (Nat.le_of_eq g13.symm))
  have Zs13 : n0 ≤ h13.size := Nat.le_trans Zs10 E13.1
  have K13 : Keep h0 h13 [oa] := K10.ext E13
  refine Goes.by st13 ?_
  have E_oa : Exa Z h13 oa "com/example/xml_graph_join/xmlgraphjoin/topo/BitLevels" := E_oa.ext E13
  have F_oa_levels : Fld Z h13 oa "com/example/xml_graph_join/xmlgraphjoin/topo/BitLevels" "levels" "[[J" (.ref b5) := F_oa_levels.ext E13
  have L_b5 : Lv Z h13 b5 3 (up (fun _ => .null) 0 (.ref b9)) := L_b5.ext E13
  have A_b9 : AJ Z h13 b9 (nb / 64 + 1) (fun _ => (0:Int64)) := A_b9.ext E13
  have E_b9 : Exa Z h13 b9 "[J" := E_b9.ext E13
  have A_b13 : AJ Z h13 b13 ((nb / 64 + 1) / 64 + 1) (fun _ => (0:Int64)) := A13
  have E_b13 : Exa Z h13 b13 "[J" := D13
  show Goes p.tables e below (T13.setTop (mkF m 64 #[.val (.ref oa),.val (.int pb),.val (.int (3:Int32)),.val (.int x11),.val (.int (1:Int32))] [(.ref b13), (.int (1:Int32)), (.ref b5)])) _
  obtain ⟨T14, h14, X14, e14, W14, A14, st14⟩ := stL (fr := (mkF m 64 #[.val (.ref oa),.val (.int pb),.val (.int (3:Int32)),.val (.int x11),.val (.int (1:Int32))] [(.ref b13), (.int (1:Int32)), (.ref b5)])) X13 hx hZ e13 L_b5 E_b13 (i := 1) (by decide) (by decide) rfl rfl (hb hby d1_64)
  refine Goes.by st14 ?_
  have L_b5 : Lv Z h14 b5 3 (up (up (fun _ => .null) 0 (.ref b9)) 1 (.ref b13)) := A14
  have N14 := Fr.snoc X14 N10 g_b5
  have Zs14 : n0 ≤ h14.size := Nat.le_trans Zs13 (Keep.of_wr W14).1
  have K14 : Keep h0 h14 [oa] := K13.wr W14 (Or.inr sz_b5)
  have E_oa : Exa Z h14 oa "com/example/xml_graph_join/xmlgraphjoin/topo/BitLevels" := E_oa.wr W14
  have F_oa_levels : Fld Z h14 oa "com/example/xml_graph_join/xmlgraphjoin/topo/BitLevels" "levels" "[[J" (.ref b5) := F_oa_levels.other W14 (Or.inl ne_oa_b5)
  have A_b9 : AJ Z h14 b9 (nb / 64 + 1) (fun _ => (0:Int64)) := A_b9.other W14 (Ne.symm ne_b5_b9)
  have E_b9 : Exa Z h14 b9 "[J" := E_b9.wr W14
  have A_b13 : AJ Z h14 b13 ((nb / 64 + 1) / 64 + 1) (fun _ => (0:Int64)) := A_b13.other W14 (Ne.symm ne_b5_b13)
  have E_b13 : Exa Z h14 b13 "[J" := E_b13.wr W14
  show Goes p.tables e below (T14.setTop (mkF m 65 #[.val (.ref oa),.val (.int pb),.val (.int (3:Int32)),.val (.int x11),.val (.int (1:Int32))] [])) _
  refine Goes.by (fun _ k => XS.iloadN X14.here hx rfl (hb hby d1_65) rfl k) ?_
  show Goes p.tables e below (T14.setTop (mkF m 66 #[.val (.ref oa),.val (.int pb),.val (.int (3:Int32)),.val (.int x11),.val (.int (1:Int32))] [(.int x11)])) _
  refine Goes.by (fun _ k => XS.bipush X14.here hx rfl (hb hby d1_66) k) ?_
  show Goes p.tables e below (T14.setTop (mkF m 68 #[.val (.ref oa),.val (.int pb),.val (.int (3:Int32)),.val (.int x11),.val (.int (1:Int32))] [(.int (6:Int32)), (.int x11)])) _
  refine Goes.by (fun _ k => XS.iushr X14.here hx rfl (hb hby d1_68) rfl k) ?_
  show Goes p.tables e below (T14.setTop (mkF m 69 #[.val (.ref oa),.val (.int pb),.val (.int (3:Int32)),.val (.int x11),.val (.int (1:Int32))] [(.int ((x11.toUInt32>>>((6:Int32)&&&31).toUInt32).toInt32))])) _
  refine Goes.by (fun _ k => XS.iconst X14.here hx rfl (hb hby d1_69) k) ?_
  show Goes p.tables e below (T14.setTop (mkF m 70 #[.val (.ref oa),.val (.int pb),.val (.int (3:Int32)),.val (.int x11),.val (.int (1:Int32))] [(.int (1:Int32)), (.int ((x11.toUInt32>>>((6:Int32)&&&31).toUInt32).toInt32))])) _
  refine Goes.by (fun _ k => XS.iadd X14.here hx rfl (hb hby d1_70) rfl k) ?_
  show Goes p.tables e below (T14.setTop (mkF m 71 #[.val (.ref oa),.val (.int pb),.val (.int (3:Int32)),.val (.int x11),.val (.int (1:Int32))] [(.int (((x11.toUInt32>>>((6:Int32)&&&31).toUInt32).toInt32) + (1:Int32)))])) _
  obtain ⟨x15, hx15⟩ : ∃ z : Int32, z = (((x11.toUInt32>>>((6:Int32)&&&31).toUInt32).toInt32) + (1:Int32)) := ⟨_, rfl⟩
  refine Goes.by (fun _ k => XS.istoreN X14.here hx rfl (hb hby d1_71) rfl (l' := #[.val (.ref oa),.val (.int pb),.val (.int (3:Int32)),.val (.int x15),.val (.int (1:Int32))]) (by rw [hx15]; rfl) k) ?_
  show Goes p.tables e below (T14.setTop (mkF m 72 #[.val (.ref oa),.val (.int pb),.val (.int (3:Int32)),.val (.int x15),.val (.int (1:Int32))] [])) _
  refine Goes.by (fun _ k => XS.iinc X14.here hx rfl (hb hby d1_72) rfl (l' := #[.val (.ref oa),.val (.int pb),.val (.int (3:Int32)),.val (.int x15),.val (.int (2:Int32))]) rfl k) ?_
  show Goes p.tables e below (T14.setTop (mkF m 75 #[.val (.ref oa),.val (.int pb),.val (.int (3:Int32)),.val (.int x15),.val (.int (2:Int32))] [])) _
  refine Goes.by (fun _ k => XS.goto X14.here hx rfl (pc0 := 75) (pc' := 49) rfl (hb hby d1_75) (by decide) (by decide) k) ?_
  show Goes p.tables e below (T14.setTop (mkF m 49 #[.val (.ref oa),.val (.int pb),.val (.int (3:Int32)),.val (.int x15),.val (.int (2:Int32))] [])) _
  have hwx15 : x15.toInt = (((((nb / 64 + 1) / 64 + 1) / 64 + 1) : Nat) : Int) := by rw [hx15]; exact own_w1 _ _ hwx11
  refine Goes.by (fun _ k => XS.iload X14.here hx rfl (hb hby d1_49) rfl k) ?_
  show Goes p.tables e below (T14.setTop (mkF m 51 #[.val (.ref oa),.val (.int pb),.val (.int (3:Int32)),.val (.int x15),.val (.int (2:Int32))] [(.int (2:Int32))])) _
  refine Goes.by (fun _ k => XS.iloadN X14.here hx rfl (hb hby d1_51) rfl k) ?_
  show Goes p.tables e below (T14.setTop (mkF m 52 #[.val (.ref oa),.val (.int pb),.val (.int (3:Int32)),.val (.int x15),.val (.int (2:Int32))] [(.int (3:Int32)), (.int (2:Int32))])) _
  refine Goes.by (fun _ k => XS.icmpNo X14.here hx rfl (hb hby d1_52) rfl (tlt (by decide : (2:Int32) < (3:Int32))).2.1 k) ?_
  show Goes p.tables e below (T14.setTop (mkF m 55 #[.val (.ref oa),.val (.int pb),.val (.int (3:Int32)),.val (.int x15),.val (.int (2:Int32))] [])) _
  refine Goes.by (fun _ k => XS.aloadN X14.here hx rfl (hb hby d1_55) rfl rfl k) ?_
  show Goes p.tables e below (T14.setTop (mkF m 56 #[.val (.ref oa),.val (.int pb),.val (.int (3:Int32)),.val (.int x15),.val (.int (2:Int32))] [(.ref oa)])) _
  obtain ⟨T16, X16, e16, st16⟩ := getF X14 hx hZ hown (host := "") (Or.inl (hw _ (List.mem_of_getElem? (i := 12) rfl))) Via.refl e14 F_oa_levels (g := (mkF m 56 #[.val (.ref oa),.val (.int pb),.val (.int (3:Int32)),.val (.int x15),.val (.int (2:Int32))] [(.ref oa)])) rfl rfl (hb hby d1_56)
  refine Goes.by st16 ?_
  show Goes p.tables e below (T16.setTop (mkF m 59 #[.val (.ref oa),.val (.int pb),.val (.int (3:Int32)),.val (.int x15),.val (.int (2:Int32))] [(.ref b5)])) _
  refine Goes.by (fun _ k => XS.iload X16.here hx rfl (hb hby d1_59) rfl k) ?_
  show Goes p.tables e below (T16.setTop (mkF m 61 #[.val (.ref oa),.val (.int pb),.val (.int (3:Int32)),.val (.int x15),.val (.int (2:Int32))] [(.int (2:Int32)), (.ref b5)])) _
  refine Goes.by (fun _ k => XS.iloadN X16.here hx rfl (hb hby d1_61) rfl k) ?_
  show Goes p.tables e below (T16.setTop (mkF m 62 #[.val (.ref oa),.val (.int pb),.val (.int (3:Int32)),.val (.int x15),.val (.int (2:Int32))] [(.int x15), (.int (2:Int32)), (.ref b5)])) _
  obtain ⟨T17, h17, X17, e17, E17, A17, D17, st17⟩ := nwJ (n := (((nb / 64 + 1) / 64 + 1) / 64 + 1)) (cap := 1) (fr := (mkF m 62 #[.val (.ref oa),.val (.int pb),.val (.int (3:Int32)),.val (.int x15),.val (.int (2:Int32))] [(.int x15), (.int (2:Int32)), (.ref b5)])) X16 hx hZ (hw _ (List.mem_of_getElem? (i := 14) rfl)) e16 hwx15 (own_w2 hD.2.2) (by decide) (by decide) (by decide) rfl rfl (hb hby d1_62)
  obtain ⟨b17, g17⟩ : ∃ z, z = h14.size := ⟨_, rfl⟩
  rw [← g17] at A17 D17 st17
  have g_b17 : n0 ≤ b17 := Nat.le_trans Zs14 (Nat.le_of_eq g17.symm)
  have sz_b17 : h0.size ≤ b17 := Nat.le_trans K14.1 (Nat.le_of_eq g17.symm)
  have ne_oa_b17 : oa ≠ b17 := Nat.ne_of_lt (Nat.lt_of_lt_of_le E_oa.lt (Nat.le_of_eq g17.symm))
  have ne_b5_b17 : b5 ≠ b17 := Nat.ne_of_lt (Nat.lt_of_lt_of_le L_b5.lt (Nat.le_of_eq g17.symm))
  have ne_b9_b17 : b9 ≠ b17 := Nat.ne_of_lt (Nat.lt_of_lt_of_le A_b9.lt (Nat.le_of_eq g17.symm))
  have ne_b13_b17 : b13 ≠ b17 := Nat.ne_of_lt (Nat.lt_of_lt_of_le A_b13.lt (Nat.le_of_eq g17.symm))
  have Zs17 : n0 ≤ h17.size := Nat.le_trans Zs14 E17.1
  have K17 : Keep h0 h17 [oa] := K14.ext E17
  refine Goes.by st17 ?_
  have E_oa : Exa Z h17 oa "com/example/xml_graph_join/xmlgraphjoin/topo/BitLevels" := E_oa.ext E17
  have F_oa_levels : Fld Z h17 oa "com/example/xml_graph_join/xmlgraphjoin/topo/BitLevels" "levels" "[[J" (.ref b5) := F_oa_levels.ext E17
  have L_b5 : Lv Z h17 b5 3 (up (up (fun _ => .null) 0 (.ref b9)) 1 (.ref b13)) := L_b5.ext E17
  have A_b9 : AJ Z h17 b9 (nb / 64 + 1) (fun _ => (0:Int64)) := A_b9.ext E17
  have E_b9 : Exa Z h17 b9 "[J" := E_b9.ext E17
  have A_b13 : AJ Z h17 b13 ((nb / 64 + 1) / 64 + 1) (fun _ => (0:Int64)) := A_b13.ext E17
  have E_b13 : Exa Z h17 b13 "[J" := E_b13.ext E17
  have A_b17 : AJ Z h17 b17 (((nb / 64 + 1) / 64 + 1) / 64 + 1) (fun _ => (0:Int64)) := A17
  have E_b17 : Exa Z h17 b17 "[J" := D17
  show Goes p.tables e below (T17.setTop (mkF m 64 #[.val (.ref oa),.val (.int pb),.val (.int (3:Int32)),.val (.int x15),.val (.int (2:Int32))] [(.ref b17), (.int (2:Int32)), (.ref b5)])) _
  obtain ⟨T18, h18, X18, e18, W18, A18, st18⟩ := stL (fr := (mkF m 64 #[.val (.ref oa),.val (.int pb),.val (.int (3:Int32)),.val (.int x15),.val (.int (2:Int32))] [(.ref b17), (.int (2:Int32)), (.ref b5)])) X17 hx hZ e17 L_b5 E_b17 (i := 2) (by decide) (by decide) rfl rfl (hb hby d1_64)
  refine Goes.by st18 ?_
  have L_b5 : Lv Z h18 b5 3 (up (up (up (fun _ => .null) 0 (.ref b9)) 1 (.ref b13)) 2 (.ref b17)) := A18
  have N18 := Fr.snoc X18 N14 g_b5
  have Zs18 : n0 ≤ h18.size := Nat.le_trans Zs17 (Keep.of_wr W18).1
  have K18 : Keep h0 h18 [oa] := K17.wr W18 (Or.inr sz_b5)
  have E_oa : Exa Z h18 oa "com/example/xml_graph_join/xmlgraphjoin/topo/BitLevels" := E_oa.wr W18
  have F_oa_levels : Fld Z h18 oa "com/example/xml_graph_join/xmlgraphjoin/topo/BitLevels" "levels" "[[J" (.ref b5) := F_oa_levels.other W18 (Or.inl ne_oa_b5)
  have A_b9 : AJ Z h18 b9 (nb / 64 + 1) (fun _ => (0:Int64)) := A_b9.other W18 (Ne.symm ne_b5_b9)
  have E_b9 : Exa Z h18 b9 "[J" := E_b9.wr W18
  have A_b13 : AJ Z h18 b13 ((nb / 64 + 1) / 64 + 1) (fun _ => (0:Int64)) := A_b13.other W18 (Ne.symm ne_b5_b13)
  have E_b13 : Exa Z h18 b13 "[J" := E_b13.wr W18
  have A_b17 : AJ Z h18 b17 (((nb / 64 + 1) / 64 + 1) / 64 + 1) (fun _ => (0:Int64)) := A_b17.other W18 (Ne.symm ne_b5_b17)
  have E_b17 : Exa Z h18 b17 "[J" := E_b17.wr W18
  show Goes p.tables e below (T18.setTop (mkF m 65 #[.val (.ref oa),.val (.int pb),.val (.int (3:Int32)),.val (.int x15),.val (.int (2:Int32))] [])) _
  refine Goes.by (fun _ k => XS.iloadN X18.here hx rfl (hb hby d1_65) rfl k) ?_
  show Goes p.tables e below (T18.setTop (mkF m 66 #[.val (.ref oa),.val (.int pb),.val (.int (3:Int32)),.val (.int x15),.val (.int (2:Int32))] [(.int x15)])) _
  refine Goes.by (fun _ k => XS.bipush X18.here hx rfl (hb hby d1_66) k) ?_
  show Goes p.tables e below (T18.setTop (mkF m 68 #[.val (.ref oa),.val (.int pb),.val (.int (3:Int32)),.val (.int x15),.val (.int (2:Int32))] [(.int (6:Int32)), (.int x15)])) _
  refine Goes.by (fun _ k => XS.iushr X18.here hx rfl (hb hby d1_68) rfl k) ?_
  show Goes p.tables e below (T18.setTop (mkF m 69 #[.val (.ref oa),.val (.int pb),.val (.int (3:Int32)),.val (.int x15),.val (.int (2:Int32))] [(.int ((x15.toUInt32>>>((6:Int32)&&&31).toUInt32).toInt32))])) _
  refine Goes.by (fun _ k => XS.iconst X18.here hx rfl (hb hby d1_69) k) ?_
  show Goes p.tables e below (T18.setTop (mkF m 70 #[.val (.ref oa),.val (.int pb),.val (.int (3:Int32)),.val (.int x15),.val (.int (2:Int32))] [(.int (1:Int32)), (.int ((x15.toUInt32>>>((6:Int32)&&&31).toUInt32).toInt32))])) _
  refine Goes.by (fun _ k => XS.iadd X18.here hx rfl (hb hby d1_70) rfl k) ?_
  show Goes p.tables e below (T18.setTop (mkF m 71 #[.val (.ref oa),.val (.int pb),.val (.int (3:Int32)),.val (.int x15),.val (.int (2:Int32))] [(.int (((x15.toUInt32>>>((6:Int32)&&&31).toUInt32).toInt32) + (1:Int32)))])) _
  obtain ⟨x19, hx19⟩ : ∃ z : Int32, z = (((x15.toUInt32>>>((6:Int32)&&&31).toUInt32).toInt32) + (1:Int32)) := ⟨_, rfl⟩
  refine Goes.by (fun _ k => XS.istoreN X18.here hx rfl (hb hby d1_71) rfl (l' := #[.val (.ref oa),.val (.int pb),.val (.int (3:Int32)),.val (.int x19),.val (.int (2:Int32))]) (by rw [hx19]; rfl) k) ?_
  show Goes p.tables e below (T18.setTop (mkF m 72 #[.val (.ref oa),.val (.int pb),.val (.int (3:Int32)),.val (.int x19),.val (.int (2:Int32))] [])) _
  refine Goes.by (fun _ k => XS.iinc X18.here hx rfl (hb hby d1_72) rfl (l' := #[.val (.ref oa),.val (.int pb),.val (.int (3:Int32)),.val (.int x19),.val (.int (3:Int32))]) rfl k) ?_
  show Goes p.tables e below (T18.setTop (mkF m 75 #[.val (.ref oa),.val (.int pb),.val (.int (3:Int32)),.val (.int x19),.val (.int (3:Int32))] [])) _
  refine Goes.by (fun _ k => XS.goto X18.here hx rfl (pc0 := 75) (pc' := 49) rfl (hb hby d1_75) (by decide) (by decide) k) ?_
  show Goes p.tables e below (T18.setTop (mkF m 49 #[.val (.ref oa),.val (.int pb),.val (.int (3:Int32)),.val (.int x19),.val (.int (3:Int32))] [])) _
  refine Goes.by (fun _ k => XS.iload X18.here hx rfl (hb hby d1_49) rfl k) ?_
  show Goes p.tables e below (T18.setTop (mkF m 51 #[.val (.ref oa),.val (.int pb),.val (.int (3:Int32)),.val (.int x19),.val (.int (3:Int32))] [(.int (3:Int32))])) _
  refine Goes.by (fun _ k => XS.iloadN X18.here hx rfl (hb hby d1_51) rfl k) ?_
  show Goes p.tables e below (T18.setTop (mkF m 52 #[.val (.ref oa),.val (.int pb),.val (.int (3:Int32)),.val (.int x19),.val (.int (3:Int32))] [(.int (3:Int32)), (.int (3:Int32))])) _
  refine Goes.by (fun _ k => XS.icmpYes X18.here hx rfl (pc0 := 52) (pc' := 78) rfl (hb hby d1_52) rfl (flt (by decide : ¬ ((3:Int32) < (3:Int32)))).2.1 (by decide) (by decide) k) ?_
  show Goes p.tables e below (T18.setTop (mkF m 78 #[.val (.ref oa),.val (.int pb),.val (.int (3:Int32)),.val (.int x19),.val (.int (3:Int32))] [])) _
  have A_b5 : Ar Z h18 b5 (.array .long) 3 (up (up (up (fun _ => .null) 0 (.ref b9)) 1 (.ref b13)) 2 (.ref b17)) := L_b5.ar
  obtain ⟨fs, hr, hrun, hended, hW, hsame⟩ := X18.leave (v := none) (fun _ => rfl)
  refine ⟨_, _, X18.returnOut hx Bd.returns (hb hby d1_78) hr, hrun, hended, _, _, rfl, ?_, ⟨_, rfl⟩, hW, hsame.mono (by decide) (by decide)⟩
  show Q1d3 Z oa pb nb h0 n0 _ T18.heap _
  rw [e18]
  exact ⟨b5, b9, b13, b17, rfl, N18, K18, E_oa, F_oa_levels, A_b5, A_b9, A_b13, A_b17, sz_b5, sz_b9, sz_b13, sz_b17, ne_b5_b9, ne_b5_b13, ne_b5_b17, ne_b9_b13, ne_b9_b17, ne_b13_b17⟩
theorem d5_0 : decode prog_96_method_7_code 0 = .ok (.ldc2_w 22, 3) := by decide +kernel
theorem d5_3 : decode prog_96_method_7_code 3 = .ok (.iload_n 0, 1) := by decide +kernel
theorem d5_4 : decode prog_96_method_7_code 4 = .ok (.lshl, 1) := by decide +kernel
theorem d5_5 : decode prog_96_method_7_code 5 = .ok (.lreturn, 1) := by decide +kernel
theorem ef5 (m : MethodId) (pi : Int32) : entryFrame m #[(.int pi)] 1 = mkF m 0 #[.val (.int pi)] [] := by first | (simp [entryFrame, mkF, argsToLocals, Value.category]; done) | rfl
def Q5 (Z : State) (pi : Int32) (h0 : Heap) (n0 : Nat) (v : Option Value) (h : Heap) (L : List Loc) : Prop := v = some (.long (fromB pi)) ∧ Fr n0 L ∧ h = h0
set_option maxRecDepth 65536 in
set_option maxHeartbeats 40000000 in
theorem rm5 (l : Launch) (Z : State) (a0 : Array Value) (hw : ∀ d ∈ tables_1, d.before a0 Z = true) (ws : List Jvm.Cond) (pi : Int32) (h0 : Heap) (n0 : Nat) (Z0 : n0 ≤ h0.size) :
    MetFree l (⟨"com/example/xml_graph_join/xmlgraphjoin/topo/BitLevels", "fromBit", "(I)J"⟩ : MethodName) (head1 (Jvm.Cond.code (⟨"com/example/xml_graph_join/xmlgraphjoin/topo/BitLevels", "fromBit", "(I)J"⟩ : MethodName) prog_96_method_7_code 1 (some .long) :: ws) ({ frames := 0, cells := 0, slots := 0, locals := 0 } : Room)) (fun a U => a = #[(.int pi)] ∧ Z.Warmed39 U.vm ∧ U.heap = h0) (fun _ _ _ _ _ => True) (fun _ U o U' => ∃ v L, o = .returned v ∧ Q5 Z pi h0 n0 v U'.heap L ∧ FrameEnd U o U' L ({ frames := 0, cells := 0, slots := 0, locals := 0 } : Room).cells ({ frames := 0, cells := 0, slots := 0, locals := 0 } : Room).slots) := by
  refine MetFree.of_bodySF (plainFor_of_name pn_0) hisR ?_
  intro p e s m args below meth c s₁ Bd hml0 hP hK
  obtain ⟨rfl, hZ, hh⟩ := hP
  have hx := Bd.exec
  have hby := Bd.bytes
  have hml : c.maxLocals = 1 := hml0
  have hown : s.vm.findClass "com/example/xml_graph_join/xmlgraphjoin/topo/BitLevels" = some m.cls := findClass_of_methodNamed Bd.named
  have hnm := (name_of_methodNamed Bd.named Bd.method).1
  have X0 : Stand p l e ({ frames := 0, cells := 0, slots := 0, locals := 0 } : Room) s m #[(.int pi)] below meth c s₁ [] 0 0 := Stand.of_body Bd
  have e0 : s₁.heap = h0 := by rw [← hh, Bd.state]; rfl
  have N0 := Fr.nil n0
  refine Goes.by (fun _ k => castTop (ef5 m pi) k) ?_
  show Goes p.tables e below (s₁.setTop (mkF m 0 #[.val (.int pi)] [])) _
  refine Goes.by (fun _ k => X0.ldc2J hx hown (mvT hZ (hw _ (List.mem_of_getElem? (i := 29) rfl))) (g := (mkF m 0 #[.val (.int pi)] [])) rfl (hb hby d5_0) k) ?_
  show Goes p.tables e below (s₁.setTop (mkF m 3 #[.val (.int pi)] [(.long (-1 : Int64))])) _
  refine Goes.by (fun _ k => XS.iloadN X0.here hx rfl (hb hby d5_3) rfl k) ?_
  show Goes p.tables e below (s₁.setTop (mkF m 4 #[.val (.int pi)] [(.int pi), (.long (-1 : Int64))])) _
  refine Goes.by (fun _ k => XS.lshl X0.here hx rfl (hb hby d5_4) rfl k) ?_
  show Goes p.tables e below (s₁.setTop (mkF m 5 #[.val (.int pi)] [(.long ((-1 : Int64) <<< (pi&&&0x3f).toInt64))])) _
  obtain ⟨fs, hr, hrun, hended, hW, hsame⟩ := X0.leave (v := some (.long ((-1 : Int64) <<< (pi&&&0x3f).toInt64))) (fun h => by rw [Bd.returns] at h; cases h)
  refine ⟨_, _, retOut X0 hx Bd.returns (i := .lreturn) rfl (Or.inr (Or.inl ⟨rfl, rfl, _, rfl⟩)) (hb hby d5_5) hr, hrun, hended, _, _, rfl, ?_, ⟨_, rfl⟩, hW, hsame.mono (by decide) (by decide)⟩
  show Q5 Z pi h0 n0 _ s₁.heap _
  rw [e0]
  exact ⟨rfl, N0, rfl⟩
theorem d6_0 : decode prog_96_method_8_code 0 = .ok (.ldc2_w 22, 3) := by decide +kernel
theorem d6_3 : decode prog_96_method_8_code 3 = .ok (.bipush 63, 2) := by decide +kernel
theorem d6_5 : decode prog_96_method_8_code 5 = .ok (.iload_n 0, 1) := by decide +kernel
theorem d6_6 : decode prog_96_method_8_code 6 = .ok (.bipush 63, 2) := by decide +kernel
theorem d6_8 : decode prog_96_method_8_code 8 = .ok (.iand, 1) := by decide +kernel
theorem d6_9 : decode prog_96_method_8_code 9 = .ok (.isub, 1) := by decide +kernel
theorem d6_10 : decode prog_96_method_8_code 10 = .ok (.lushr, 1) := by decide +kernel
theorem d6_11 : decode prog_96_method_8_code 11 = .ok (.lreturn, 1) := by decide +kernel
theorem ef6 (m : MethodId) (pi : Int32) : entryFrame m #[(.int pi)] 1 = mkF m 0 #[.val (.int pi)] [] := by first | (simp [entryFrame, mkF, argsToLocals, Value.category]; done) | rfl
def Q6 (Z : State) (pi : Int32) (h0 : Heap) (n0 : Nat) (v : Option Value) (h : Heap) (L : List Loc) : Prop := v = some (.long (upB pi)) ∧ Fr n0 L ∧ h = h0
set_option maxRecDepth 65536 in
set_option maxHeartbeats 40000000 in
theorem rm6 (l : Launch) (Z : State) (a0 : Array Value) (hw : ∀ d ∈ tables_1, d.before a0 Z = true) (ws : List Jvm.Cond) (pi : Int32) (h0 : Heap) (n0 : Nat) (Z0 : n0 ≤ h0.size) :
    MetFree l (⟨"com/example/xml_graph_join/xmlgraphjoin/topo/BitLevels", "upToBit", "(I)J"⟩ : MethodName) (head1 (Jvm.Cond.code (⟨"com/example/xml_graph_join/xmlgraphjoin/topo/BitLevels", "upToBit", "(I)J"⟩ : MethodName) prog_96_method_8_code 1 (some .long) :: ws) ({ frames := 0, cells := 0, slots := 0, locals := 0 } : Room)) (fun a U => a = #[(.int pi)] ∧ Z.Warmed39 U.vm ∧ U.heap = h0) (fun _ _ _ _ _ => True) (fun _ U o U' => ∃ v L, o = .returned v ∧ Q6 Z pi h0 n0 v U'.heap L ∧ FrameEnd U o U' L ({ frames := 0, cells := 0, slots := 0, locals := 0 } : Room).cells ({ frames := 0, cells := 0, slots := 0, locals := 0 } : Room).slots) := by
  refine MetFree.of_bodySF (plainFor_of_name pn_0) hisR ?_
  intro p e s m args below meth c s₁ Bd hml0 hP hK
  obtain ⟨rfl, hZ, hh⟩ := hP
  have hx := Bd.exec
  have hby := Bd.bytes
  have hml : c.maxLocals = 1 := hml0
  have hown : s.vm.findClass "com/example/xml_graph_join/xmlgraphjoin/topo/BitLevels" = some m.cls := findClass_of_methodNamed Bd.named
  have hnm := (name_of_methodNamed Bd.named Bd.method).1
  have X0 : Stand p l e ({ frames := 0, cells := 0, slots := 0, locals := 0 } : Room) s m #[(.int pi)] below meth c s₁ [] 0 0 := Stand.of_body Bd
  have e0 : s₁.heap = h0 := by rw [← hh, Bd.state]; rfl
  have N0 := Fr.nil n0
  refine Goes.by (fun _ k => castTop (ef6 m pi) k) ?_
  show Goes p.tables e below (s₁.setTop (mkF m 0 #[.val (.int pi)] [])) _
  refine Goes.by (fun _ k => X0.ldc2J hx hown (mvT hZ (hw _ (List.mem_of_getElem? (i := 29) rfl))) (g := (mkF m 0 #[.val (.int pi)] [])) rfl (hb hby d6_0) k) ?_
  show Goes p.tables e below (s₁.setTop (mkF m 3 #[.val (.int pi)] [(.long (-1 : Int64))])) _
  refine Goes.by (fun _ k => XS.bipush X0.here hx rfl (hb hby d6_3) k) ?_
  show Goes p.tables e below (s₁.setTop (mkF m 5 #[.val (.int pi)] [(.int (63:Int32)), (.long (-1 : Int64))])) _
  refine Goes.by (fun _ k => XS.iloadN X0.here hx rfl (hb hby d6_5) rfl k) ?_
  show Goes p.tables e below (s₁.setTop (mkF m 6 #[.val (.int pi)] [(.int pi), (.int (63:Int32)), (.long (-1 : Int64))])) _
  refine Goes.by (fun _ k => XS.bipush X0.here hx rfl (hb hby d6_6) k) ?_
  show Goes p.tables e below (s₁.setTop (mkF m 8 #[.val (.int pi)] [(.int (63:Int32)), (.int pi), (.int (63:Int32)), (.long (-1 : Int64))])) _
  refine Goes.by (fun _ k => XS.iand X0.here hx rfl (hb hby d6_8) rfl k) ?_
  show Goes p.tables e below (s₁.setTop (mkF m 9 #[.val (.int pi)] [(.int (pi&&&(63:Int32))), (.int (63:Int32)), (.long (-1 : Int64))])) _
  refine Goes.by (fun _ k => XS.isub X0.here hx rfl (hb hby d6_9) rfl k) ?_
  show Goes p.tables e below (s₁.setTop (mkF m 10 #[.val (.int pi)] [(.int ((63:Int32) - (pi&&&(63:Int32)))), (.long (-1 : Int64))])) _
  refine Goes.by (fun _ k => XS.lushr X0.here hx rfl (hb hby d6_10) rfl k) ?_
  show Goes p.tables e below (s₁.setTop (mkF m 11 #[.val (.int pi)] [(.long (((-1 : Int64).toUInt64>>>(((63:Int32) - (pi&&&(63:Int32)))&&&0x3f).toInt64.toUInt64).toInt64))])) _
  obtain ⟨fs, hr, hrun, hended, hW, hsame⟩ := X0.leave (v := some (.long (((-1 : Int64).toUInt64>>>(((63:Int32) - (pi&&&(63:Int32)))&&&0x3f).toInt64.toUInt64).toInt64))) (fun h => by rw [Bd.returns] at h; cases h)
  refine ⟨_, _, retOut X0 hx Bd.returns (i := .lreturn) rfl (Or.inr (Or.inl ⟨rfl, rfl, _, rfl⟩)) (hb hby d6_11) hr, hrun, hended, _, _, rfl, ?_, ⟨_, rfl⟩, hW, hsame.mono (by decide) (by decide)⟩
  show Q6 Z pi h0 n0 _ s₁.heap _
  rw [e0]
  exact ⟨rfl, N0, rfl⟩
theorem d7_0 : decode method_2_code 0 = .ok (.iload_n 0, 1) := by decide +kernel
theorem d7_1 : decode method_2_code 1 = .ok (.iload_n 2, 1) := by decide +kernel
theorem d7_2 : decode method_2_code 2 = .ok (.if_icmp .gt 12, 3) := by decide +kernel
theorem d7_14 : decode method_2_code 14 = .ok (.iconst 0, 1) := by decide +kernel
theorem d7_15 : decode method_2_code 15 = .ok (.ireturn, 1) := by decide +kernel
theorem d7_5 : decode method_2_code 5 = .ok (.iload_n 2, 1) := by decide +kernel
theorem d7_6 : decode method_2_code 6 = .ok (.iload_n 1, 1) := by decide +kernel
theorem d7_7 : decode method_2_code 7 = .ok (.if_icmp .gt 7, 3) := by decide +kernel
theorem d7_10 : decode method_2_code 10 = .ok (.iconst 1, 1) := by decide +kernel
theorem d7_11 : decode method_2_code 11 = .ok (.goto 4, 3) := by decide +kernel
def fn7 (pl : Int32) (ph : Int32) (pv : Int32) : Int32 := (if pv < pl then (0:Int32) else (if ph < pv then (0:Int32) else (1:Int32)))
theorem pn_1 : plainName "com/example/xml_graph_join/xmlgraphjoin/topo/BitLevelsAddPinLaw" = true := by first | (simp [plainName, overriddenIn]; done) | decide +kernel
theorem ef7 (m : MethodId) (pl : Int32) (ph : Int32) (pv : Int32) : entryFrame m #[(.int pl), (.int ph), (.int pv)] 3 = mkF m 0 #[.val (.int pl),.val (.int ph),.val (.int pv)] [] := by first | (simp [entryFrame, mkF, argsToLocals, Value.category]; done) | rfl
def Q7 (Z : State) (pl : Int32) (ph : Int32) (pv : Int32) (h0 : Heap) (n0 : Nat) (v : Option Value) (h : Heap) (L : List Loc) : Prop := v = some (.int (fn7 pl ph pv)) ∧ Fr n0 L ∧ h = h0
set_option maxRecDepth 65536 in
set_option maxHeartbeats 40000000 in
theorem rm7 (l : Launch) (Z : State) (a0 : Array Value) (hw : ∀ d ∈ tables_1, d.before a0 Z = true) (ws : List Jvm.Cond) (pl : Int32) (ph : Int32) (pv : Int32) (h0 : Heap) (n0 : Nat) (Z0 : n0 ≤ h0.size) :
    MetFree l (⟨"com/example/xml_graph_join/xmlgraphjoin/topo/BitLevelsAddPinLaw", "in", "(III)Z"⟩ : MethodName) (head1 (Jvm.Cond.code (⟨"com/example/xml_graph_join/xmlgraphjoin/topo/BitLevelsAddPinLaw", "in", "(III)Z"⟩ : MethodName) method_2_code 3 (some .boolean) :: ws) ({ frames := 0, cells := 0, slots := 0, locals := 0 } : Room)) (fun a U => a = #[(.int pl), (.int ph), (.int pv)] ∧ Z.Warmed39 U.vm ∧ U.heap = h0) (fun _ _ _ _ _ => True) (fun _ U o U' => ∃ v L, o = .returned v ∧ Q7 Z pl ph pv h0 n0 v U'.heap L ∧ FrameEnd U o U' L ({ frames := 0, cells := 0, slots := 0, locals := 0 } : Room).cells ({ frames := 0, cells := 0, slots := 0, locals := 0 } : Room).slots) := by
  refine MetFree.of_bodySF (plainFor_of_name pn_1) hisR ?_
  intro p e s m args below meth c s₁ Bd hml0 hP hK
  obtain ⟨rfl, hZ, hh⟩ := hP
  have hx := Bd.exec
  have hby := Bd.bytes
  have hml : c.maxLocals = 3 := hml0
  have hown : s.vm.findClass "com/example/xml_graph_join/xmlgraphjoin/topo/BitLevelsAddPinLaw" = some m.cls := findClass_of_methodNamed Bd.named
  have hnm := (name_of_methodNamed Bd.named Bd.method).1
  have X0 : Stand p l e ({ frames := 0, cells := 0, slots := 0, locals := 0 } : Room) s m #[(.int pl), (.int ph), (.int pv)] below meth c s₁ [] 0 0 := Stand.of_body Bd
  have e0 : s₁.heap = h0 := by rw [← hh, Bd.state]; rfl
  have N0 := Fr.nil n0
  refine Goes.by (fun _ k => castTop (ef7 m pl ph pv) k) ?_
  show Goes p.tables e below (s₁.setTop (mkF m 0 #[.val (.int pl),.val (.int ph),.val (.int pv)] [])) _
  refine Goes.by (fun _ k => XS.iloadN X0.here hx rfl (hb hby d7_0) rfl k) ?_
  show Goes p.tables e below (s₁.setTop (mkF m 1 #[.val (.int pl),.val (.int ph),.val (.int pv)] [(.int pl)])) _
  refine Goes.by (fun _ k => XS.iloadN X0.here hx rfl (hb hby d7_1) rfl k) ?_
  show Goes p.tables e below (s₁.setTop (mkF m 2 #[.val (.int pl),.val (.int ph),.val (.int pv)] [(.int pv), (.int pl)])) _
  by_cases hc1 : pv < pl
  · refine Goes.by (fun _ k => XS.icmpYes X0.here hx rfl (pc0 := 2) (pc' := 14) rfl (hb hby d7_2) rfl (tlt hc1).2.2.1 (by decide) (by decide) k) ?_
    show Goes p.tables e below (s₁.setTop (mkF m 14 #[.val (.int pl),.val (.int ph),.val (.int pv)] [])) _
    refine Goes.by (fun _ k => XS.iconst X0.here hx rfl (hb hby d7_14) k) ?_
    show Goes p.tables e below (s₁.setTop (mkF m 15 #[.val (.int pl),.val (.int ph),.val (.int pv)] [(.int (0:Int32))])) _
    obtain ⟨fs, hr, hrun, hended, hW, hsame⟩ := X0.leave (v := some (.int (0:Int32))) (fun h => by rw [Bd.returns] at h; cases h)
    refine ⟨_, _, retN X0 hx (t := .boolean) Bd.returns (by simp) (hb hby d7_15) hr, hrun, hended, _, _, rfl, ?_, ⟨_, rfl⟩, hW, hsame.mono (by decide) (by decide)⟩
    show Q7 Z pl ph pv h0 n0 _ s₁.heap _
    rw [e0]
    exact ⟨(by rw [fn7, if_pos hc1]), N0, rfl⟩
  · refine Goes.by (fun _ k => XS.icmpNo X0.here hx rfl (hb hby d7_2) rfl (flt hc1).2.2.1 k) ?_
    show Goes p.tables e below (s₁.setTop (mkF m 5 #[.val (.int pl),.val (.int ph),.val (.int pv)] [])) _
    refine Goes.by (fun _ k => XS.iloadN X0.here hx rfl (hb hby d7_5) rfl k) ?_
    show Goes p.tables e below (s₁.setTop (mkF m 6 #[.val (.int pl),.val (.int ph),.val (.int pv)] [(.int pv)])) _
    refine Goes.by (fun _ k => XS.iloadN X0.here hx rfl (hb hby d7_6) rfl k) ?_
    show Goes p.tables e below (s₁.setTop (mkF m 7 #[.val (.int pl),.val (.int ph),.val (.int pv)] [(.int ph), (.int pv)])) _
    by_cases hc2 : ph < pv
    · refine Goes.by (fun _ k => XS.icmpYes X0.here hx rfl (pc0 := 7) (pc' := 14) rfl (hb hby d7_7) rfl (tlt hc2).2.2.1 (by decide) (by decide) k) ?_
      show Goes p.tables e below (s₁.setTop (mkF m 14 #[.val (.int pl),.val (.int ph),.val (.int pv)] [])) _
      refine Goes.by (fun _ k => XS.iconst X0.here hx rfl (hb hby d7_14) k) ?_
      show Goes p.tables e below (s₁.setTop (mkF m 15 #[.val (.int pl),.val (.int ph),.val (.int pv)] [(.int (0:Int32))])) _
      obtain ⟨fs, hr, hrun, hended, hW, hsame⟩ := X0.leave (v := some (.int (0:Int32))) (fun h => by rw [Bd.returns] at h; cases h)
      refine ⟨_, _, retN X0 hx (t := .boolean) Bd.returns (by simp) (hb hby d7_15) hr, hrun, hended, _, _, rfl, ?_, ⟨_, rfl⟩, hW, hsame.mono (by decide) (by decide)⟩
      show Q7 Z pl ph pv h0 n0 _ s₁.heap _
      rw [e0]
      exact ⟨(by rw [fn7, if_neg hc1, if_pos hc2]), N0, rfl⟩
    · refine Goes.by (fun _ k => XS.icmpNo X0.here hx rfl (hb hby d7_7) rfl (flt hc2).2.2.1 k) ?_
      show Goes p.tables e below (s₁.setTop (mkF m 10 #[.val (.int pl),.val (.int ph),.val (.int pv)] [])) _
      refine Goes.by (fun _ k => XS.iconst X0.here hx rfl (hb hby d7_10) k) ?_
      show Goes p.tables e below (s₁.setTop (mkF m 11 #[.val (.int pl),.val (.int ph),.val (.int pv)] [(.int (1:Int32))])) _
      refine Goes.by (fun _ k => XS.goto X0.here hx rfl (pc0 := 11) (pc' := 15) rfl (hb hby d7_11) (by decide) (by decide) k) ?_
      show Goes p.tables e below (s₁.setTop (mkF m 15 #[.val (.int pl),.val (.int ph),.val (.int pv)] [(.int (1:Int32))])) _
      obtain ⟨fs, hr, hrun, hended, hW, hsame⟩ := X0.leave (v := some (.int (1:Int32))) (fun h => by rw [Bd.returns] at h; cases h)
      refine ⟨_, _, retN X0 hx (t := .boolean) Bd.returns (by simp) (hb hby d7_15) hr, hrun, hended, _, _, rfl, ?_, ⟨_, rfl⟩, hW, hsame.mono (by decide) (by decide)⟩
      show Q7 Z pl ph pv h0 n0 _ s₁.heap _
      rw [e0]
      exact ⟨(by rw [fn7, if_neg hc1, if_neg hc2]), N0, rfl⟩
theorem d3_0 : decode prog_96_method_2_code 0 = .ok (.aload_n 0, 1) := by decide +kernel
theorem d3_1 : decode prog_96_method_2_code 1 = .ok (.getfield 9, 3) := by decide +kernel
theorem d3_4 : decode prog_96_method_2_code 4 = .ok (.astore_n 2, 1) := by decide +kernel
theorem d3_5 : decode prog_96_method_2_code 5 = .ok (.aload_n 2, 1) := by decide +kernel
theorem d3_6 : decode prog_96_method_2_code 6 = .ok (.arraylength, 1) := by decide +kernel
theorem d3_7 : decode prog_96_method_2_code 7 = .ok (.istore_n 3, 1) := by decide +kernel
theorem d3_8 : decode prog_96_method_2_code 8 = .ok (.iconst 0, 1) := by decide +kernel
theorem d3_9 : decode prog_96_method_2_code 9 = .ok (.istore 4, 2) := by decide +kernel
theorem d3_11 : decode prog_96_method_2_code 11 = .ok (.iload 4, 2) := by decide +kernel
theorem d3_13 : decode prog_96_method_2_code 13 = .ok (.iload_n 3, 1) := by decide +kernel
theorem d3_14 : decode prog_96_method_2_code 14 = .ok (.if_icmp .ge 50, 3) := by decide +kernel
theorem d3_17 : decode prog_96_method_2_code 17 = .ok (.aload_n 2, 1) := by decide +kernel
theorem d3_18 : decode prog_96_method_2_code 18 = .ok (.iload 4, 2) := by decide +kernel
theorem d3_20 : decode prog_96_method_2_code 20 = .ok (.aaload, 1) := by decide +kernel
theorem d3_21 : decode prog_96_method_2_code 21 = .ok (.astore 5, 2) := by decide +kernel
theorem d3_23 : decode prog_96_method_2_code 23 = .ok (.aload 5, 2) := by decide +kernel
theorem d3_25 : decode prog_96_method_2_code 25 = .ok (.iload_n 1, 1) := by decide +kernel
theorem d3_26 : decode prog_96_method_2_code 26 = .ok (.bipush 6, 2) := by decide +kernel
theorem d3_28 : decode prog_96_method_2_code 28 = .ok (.iushr, 1) := by decide +kernel
theorem d3_29 : decode prog_96_method_2_code 29 = .ok (.laload, 1) := by decide +kernel
theorem d3_30 : decode prog_96_method_2_code 30 = .ok (.lstore 6, 2) := by decide +kernel
theorem d3_32 : decode prog_96_method_2_code 32 = .ok (.aload 5, 2) := by decide +kernel
theorem d3_34 : decode prog_96_method_2_code 34 = .ok (.iload_n 1, 1) := by decide +kernel
theorem d3_35 : decode prog_96_method_2_code 35 = .ok (.bipush 6, 2) := by decide +kernel
theorem d3_37 : decode prog_96_method_2_code 37 = .ok (.iushr, 1) := by decide +kernel
theorem d3_38 : decode prog_96_method_2_code 38 = .ok (.lload 6, 2) := by decide +kernel
theorem d3_40 : decode prog_96_method_2_code 40 = .ok (.lconst 1, 1) := by decide +kernel
theorem d3_41 : decode prog_96_method_2_code 41 = .ok (.iload_n 1, 1) := by decide +kernel
theorem d3_42 : decode prog_96_method_2_code 42 = .ok (.lshl, 1) := by decide +kernel
theorem d3_43 : decode prog_96_method_2_code 43 = .ok (.lor, 1) := by decide +kernel
theorem d3_44 : decode prog_96_method_2_code 44 = .ok (.lastore, 1) := by decide +kernel
theorem d3_45 : decode prog_96_method_2_code 45 = .ok (.lload 6, 2) := by decide +kernel
theorem d3_47 : decode prog_96_method_2_code 47 = .ok (.lconst 0, 1) := by decide +kernel
theorem d3_48 : decode prog_96_method_2_code 48 = .ok (.lcmp, 1) := by decide +kernel
theorem d3_49 : decode prog_96_method_2_code 49 = .ok (.ifCond .eq 4, 3) := by decide +kernel
theorem d3_53 : decode prog_96_method_2_code 53 = .ok (.iload_n 1, 1) := by decide +kernel
theorem d3_54 : decode prog_96_method_2_code 54 = .ok (.bipush 6, 2) := by decide +kernel
theorem d3_56 : decode prog_96_method_2_code 56 = .ok (.iushr, 1) := by decide +kernel
theorem d3_57 : decode prog_96_method_2_code 57 = .ok (.istore_n 1, 1) := by decide +kernel
theorem d3_58 : decode prog_96_method_2_code 58 = .ok (.iinc 4 1, 3) := by decide +kernel
theorem d3_61 : decode prog_96_method_2_code 61 = .ok (.goto (-50), 3) := by decide +kernel
theorem d3_64 : decode prog_96_method_2_code 64 = .ok (.return_, 1) := by decide +kernel
theorem d3_52 : decode prog_96_method_2_code 52 = .ok (.return_, 1) := by decide +kernel
theorem ef3d1 (m : MethodId) (oa : Addr) (pn : Int32) : entryFrame m #[(.ref oa), (.int pn)] 8 = mkF m 0 #[.val (.ref oa),.val (.int pn),.unset,.unset,.unset,.unset,.unset,.unset] [] := by first | (simp [entryFrame, mkF, argsToLocals, Value.category]; done) | rfl
def Q3d1 (Z : State) (oa : Addr) (pn : Int32) (ol : Addr) (o0 : Addr) (gx : Nat → Int64) (wx : Nat) (nn : Nat) (h0 : Heap) (n0 : Nat) (v : Option Value) (h : Heap) (L : List Loc) : Prop := v = none ∧ Fr n0 L ∧ Keep h0 h [o0] ∧ Fld Z h oa "com/example/xml_graph_join/xmlgraphjoin/topo/BitLevels" "levels" "[[J" (.ref ol) ∧ Ar Z h ol (.array .long) 1 (up (fun _ => .null) 0 (.ref o0)) ∧ AJ Z h o0 wx (up gx (nn / 64) (((gx (nn / 64))) ||| (oneB pn)))
set_option maxRecDepth 65536 in
set_option maxHeartbeats 40000000 in
theorem rm3d1 (l : Launch) (Z : State) (a0 : Array Value) (hw : ∀ d ∈ tables_1, d.before a0 Z = true) (ws : List Jvm.Cond) (oa : Addr) (pn : Int32) (ol : Addr) (o0 : Addr) (gx : Nat → Int64) (wx : Nat) (nn : Nat) (h0 : Heap) (n0 : Nat) (Z0 : n0 ≤ h0.size) (F_oa_levels : Fld Z h0 oa "com/example/xml_graph_join/xmlgraphjoin/topo/BitLevels" "levels" "[[J" (.ref ol)) (A_ol : Ar Z h0 ol (.array .long) 1 (up (fun _ => .null) 0 (.ref o0))) (A_o0 : AJ Z h0 o0 wx gx) (hj : pn.toInt = (nn : Int)) (hw0 : nn / 64 < wx) (ne_oa_o0 : oa ≠ o0) (ne_ol_o0 : ol ≠ o0) (g_o0 : n0 ≤ o0) :
    MetFree l (⟨"com/example/xml_graph_join/xmlgraphjoin/topo/BitLevels", "add", "(I)V"⟩ : MethodName) (head1 (Jvm.Cond.code (⟨"com/example/xml_graph_join/xmlgraphjoin/topo/BitLevels", "add", "(I)V"⟩ : MethodName) prog_96_method_2_code 8 none :: ws) ({ frames := 0, cells := 0, slots := 0, locals := 0 } : Room)) (fun a U => a = #[(.ref oa), (.int pn)] ∧ Z.Warmed39 U.vm ∧ U.heap = h0) (fun _ _ _ _ _ => True) (fun _ U o U' => ∃ v L, o = .returned v ∧ Q3d1 Z oa pn ol o0 gx wx nn h0 n0 v U'.heap L ∧ FrameEnd U o U' L ({ frames := 0, cells := 0, slots := 0, locals := 0 } : Room).cells ({ frames := 0, cells := 0, slots := 0, locals := 0 } : Room).slots) := by
  refine MetFree.of_bodySF (plainFor_of_name pn_0) hisR ?_
  intro p e s m args below meth c s₁ Bd hml0 hP hK
  obtain ⟨rfl, hZ, hh⟩ := hP
  have hx := Bd.exec
  have hby := Bd.bytes
  have hml : c.maxLocals = 8 := hml0
  have hown : s.vm.findClass "com/example/xml_graph_join/xmlgraphjoin/topo/BitLevels" = some m.cls := findClass_of_methodNamed Bd.named
  have hnm := (name_of_methodNamed Bd.named Bd.method).1
  have X0 : Stand p l e ({ frames := 0, cells := 0, slots := 0, locals := 0 } : Room) s m #[(.ref oa), (.int pn)] below meth c s₁ [] 0 0 := Stand.of_body Bd
  have e0 : s₁.heap = h0 := by rw [← hh, Bd.state]; rfl
  have N0 := Fr.nil n0
  refine Goes.by (fun _ k => castTop (ef3d1 m oa pn) k) ?_
  show Goes p.tables e below (s₁.setTop (mkF m 0 #[.val (.ref oa),.val (.int pn),.unset,.unset,.unset,.unset,.unset,.unset] [])) _
  refine Goes.by (fun _ k => XS.aloadN X0.here hx rfl (hb hby d3_0) rfl rfl k) ?_
  show Goes p.tables e below (s₁.setTop (mkF m 1 #[.val (.ref oa),.val (.int pn),.unset,.unset,.unset,.unset,.unset,.unset] [(.ref oa)])) _
  obtain ⟨T1, X1, e1, st1⟩ := getF X0 hx hZ hown (host := "") (Or.inl (hw _ (List.mem_of_getElem? (i := 12) rfl))) Via.refl e0 F_oa_levels (g := (mkF m 1 #[.val (.ref oa),.val (.int pn),.unset,.unset,.unset,.unset,.unset,.unset] [(.ref oa)])) rfl rfl (hb hby d3_1)
  refine Goes.by st1 ?_
  show Goes p.tables e below (T1.setTop (mkF m 4 #[.val (.ref oa),.val (.int pn),.unset,.unset,.unset,.unset,.unset,.unset] [(.ref ol)])) _
  refine Goes.by (fun _ k => XS.astoreN X1.here hx rfl (hb hby d3_4) rfl rfl (l' := #[.val (.ref oa),.val (.int pn),.val (.ref ol),.unset,.unset,.unset,.unset,.unset]) rfl k) ?_
  show Goes p.tables e below (T1.setTop (mkF m 5 #[.val (.ref oa),.val (.int pn),.val (.ref ol),.unset,.unset,.unset,.unset,.unset] [])) _
  refine Goes.by (fun _ k => XS.aloadN X1.here hx rfl (hb hby d3_5) rfl rfl k) ?_
  show Goes p.tables e below (T1.setTop (mkF m 6 #[.val (.ref oa),.val (.int pn),.val (.ref ol),.unset,.unset,.unset,.unset,.unset] [(.ref ol)])) _
  refine Goes.by (fun _ k => alen (z := (1:Int32)) (fr := (mkF m 6 #[.val (.ref oa),.val (.int pn),.val (.ref ol),.unset,.unset,.unset,.unset,.unset] [(.ref ol)])) X1 hx hZ e1 A_ol (by decide) rfl rfl (hb hby d3_6) k) ?_
  show Goes p.tables e below (T1.setTop (mkF m 7 #[.val (.ref oa),.val (.int pn),.val (.ref ol),.unset,.unset,.unset,.unset,.unset] [(.int (1:Int32))])) _
  refine Goes.by (fun _ k => XS.istoreN X1.here hx rfl (hb hby d3_7) rfl (l' := #[.val (.ref oa),.val (.int pn),.val (.ref ol),.val (.int (1:Int32)),.unset,.unset,.unset,.unset]) rfl k) ?_
  show Goes p.tables e below (T1.setTop (mkF m 8 #[.val (.ref oa),.val (.int pn),.val (.ref ol),.val (.int (1:Int32)),.unset,.unset,.unset,.unset] [])) _
  refine Goes.by (fun _ k => XS.iconst X1.here hx rfl (hb hby d3_8) k) ?_
  show Goes p.tables e below (T1.setTop (mkF m 9 #[.val (.ref oa),.val (.int pn),.val (.ref ol),.val (.int (1:Int32)),.unset,.unset,.unset,.unset] [(.int (0:Int32))])) _
  refine Goes.by (fun _ k => XS.istore X1.here hx rfl (hb hby d3_9) rfl (l' := #[.val (.ref oa),.val (.int pn),.val (.ref ol),.val (.int (1:Int32)),.val (.int (0:Int32)),.unset,.unset,.unset]) rfl k) ?_
  show Goes p.tables e below (T1.setTop (mkF m 11 #[.val (.ref oa),.val (.int pn),.val (.ref ol),.val (.int (1:Int32)),.val (.int (0:Int32)),.unset,.unset,.unset] [])) _
  refine Goes.by (fun _ k => XS.iload X1.here hx rfl (hb hby d3_11) rfl k) ?_
  show Goes p.tables e below (T1.setTop (mkF m 13 #[.val (.ref oa),.val (.int pn),.val (.ref ol),.val (.int (1:Int32)),.val (.int (0:Int32)),.unset,.unset,.unset] [(.int (0:Int32))])) _
  refine Goes.by (fun _ k => XS.iloadN X1.here hx rfl (hb hby d3_13) rfl k) ?_
  show Goes p.tables e below (T1.setTop (mkF m 14 #[.val (.ref oa),.val (.int pn),.val (.ref ol),.val (.int (1:Int32)),.val (.int (0:Int32)),.unset,.unset,.unset] [(.int (1:Int32)), (.int (0:Int32))])) _
  refine Goes.by (fun _ k => XS.icmpNo X1.here hx rfl (hb hby d3_14) rfl (tlt (by decide : (0:Int32) < (1:Int32))).2.1 k) ?_
  show Goes p.tables e below (T1.setTop (mkF m 17 #[.val (.ref oa),.val (.int pn),.val (.ref ol),.val (.int (1:Int32)),.val (.int (0:Int32)),.unset,.unset,.unset] [])) _
  refine Goes.by (fun _ k => XS.aloadN X1.here hx rfl (hb hby d3_17) rfl rfl k) ?_
  show Goes p.tables e below (T1.setTop (mkF m 18 #[.val (.ref oa),.val (.int pn),.val (.ref ol),.val (.int (1:Int32)),.val (.int (0:Int32)),.unset,.unset,.unset] [(.ref ol)])) _
  refine Goes.by (fun _ k => XS.iload X1.here hx rfl (hb hby d3_18) rfl k) ?_
  show Goes p.tables e below (T1.setTop (mkF m 20 #[.val (.ref oa),.val (.int pn),.val (.ref ol),.val (.int (1:Int32)),.val (.int (0:Int32)),.unset,.unset,.unset] [(.int (0:Int32)), (.ref ol)])) _
  refine Goes.by (fun _ k => ldR (v := (.ref o0)) (fr := (mkF m 20 #[.val (.ref oa),.val (.int pn),.val (.ref ol),.val (.int (1:Int32)),.val (.int (0:Int32)),.unset,.unset,.unset] [(.int (0:Int32)), (.ref ol)])) X1 hx hZ e1 A_ol rfl (i := 0) (by decide) (by decide) rfl rfl rfl (hb hby d3_20) k) ?_
  show Goes p.tables e below (T1.setTop (mkF m 21 #[.val (.ref oa),.val (.int pn),.val (.ref ol),.val (.int (1:Int32)),.val (.int (0:Int32)),.unset,.unset,.unset] [(.ref o0)])) _
  refine Goes.by (fun _ k => XS.astore X1.here hx rfl (hb hby d3_21) rfl rfl (l' := #[.val (.ref oa),.val (.int pn),.val (.ref ol),.val (.int (1:Int32)),.val (.int (0:Int32)),.val (.ref o0),.unset,.unset]) rfl k) ?_
  show Goes p.tables e below (T1.setTop (mkF m 23 #[.val (.ref oa),.val (.int pn),.val (.ref ol),.val (.int (1:Int32)),.val (.int (0:Int32)),.val (.ref o0),.unset,.unset] [])) _
  refine Goes.by (fun _ k => XS.aload X1.here hx rfl (hb hby d3_23) rfl rfl k) ?_
  show Goes p.tables e below (T1.setTop (mkF m 25 #[.val (.ref oa),.val (.int pn),.val (.ref ol),.val (.int (1:Int32)),.val (.int (0:Int32)),.val (.ref o0),.unset,.unset] [(.ref o0)])) _
  refine Goes.by (fun _ k => XS.iloadN X1.here hx rfl (hb hby d3_25) rfl k) ?_
  show Goes p.tables e below (T1.setTop (mkF m 26 #[.val (.ref oa),.val (.int pn),.val (.ref ol),.val (.int (1:Int32)),.val (.int (0:Int32)),.val (.ref o0),.unset,.unset] [(.int pn), (.ref o0)])) _
  refine Goes.by (fun _ k => XS.bipush X1.here hx rfl (hb hby d3_26) k) ?_
  show Goes p.tables e below (T1.setTop (mkF m 28 #[.val (.ref oa),.val (.int pn),.val (.ref ol),.val (.int (1:Int32)),.val (.int (0:Int32)),.val (.ref o0),.unset,.unset] [(.int (6:Int32)), (.int pn), (.ref o0)])) _
  refine Goes.by (fun _ k => XS.iushr X1.here hx rfl (hb hby d3_28) rfl k) ?_
  show Goes p.tables e below (T1.setTop (mkF m 29 #[.val (.ref oa),.val (.int pn),.val (.ref ol),.val (.int (1:Int32)),.val (.int (0:Int32)),.val (.ref o0),.unset,.unset] [(.int ((pn.toUInt32>>>((6:Int32)&&&31).toUInt32).toInt32)), (.ref o0)])) _
  refine Goes.by (fun _ k => ldJ (v := (gx (nn / 64))) (fr := (mkF m 29 #[.val (.ref oa),.val (.int pn),.val (.ref ol),.val (.int (1:Int32)),.val (.int (0:Int32)),.val (.ref o0),.unset,.unset] [(.int ((pn.toUInt32>>>((6:Int32)&&&31).toUInt32).toInt32)), (.ref o0)])) X1 hx hZ e1 A_o0 (i := (nn / 64)) (own_sh6 _ _ hj) hw0 rfl rfl rfl (hb hby d3_29) k) ?_
  show Goes p.tables e below (T1.setTop (mkF m 30 #[.val (.ref oa),.val (.int pn),.val (.ref ol),.val (.int (1:Int32)),.val (.int (0:Int32)),.val (.ref o0),.unset,.unset] [(.long (gx (nn / 64)))])) _
  refine Goes.by (fun _ k => XS.lstore X1.here hx rfl (hb hby d3_30) rfl (l' := #[.val (.ref oa),.val (.int pn),.val (.ref ol),.val (.int (1:Int32)),.val (.int (0:Int32)),.val (.ref o0),.val (.long (gx (nn / 64))),.second]) rfl k) ?_
  show Goes p.tables e below (T1.setTop (mkF m 32 #[.val (.ref oa),.val (.int pn),.val (.ref ol),.val (.int (1:Int32)),.val (.int (0:Int32)),.val (.ref o0),.val (.long (gx (nn / 64))),.second] [])) _
  refine Goes.by (fun _ k => XS.aload X1.here hx rfl (hb hby d3_32) rfl rfl k) ?_
  show Goes p.tables e below (T1.setTop (mkF m 34 #[.val (.ref oa),.val (.int pn),.val (.ref ol),.val (.int (1:Int32)),.val (.int (0:Int32)),.val (.ref o0),.val (.long (gx (nn / 64))),.second] [(.ref o0)])) _
  refine Goes.by (fun _ k => XS.iloadN X1.here hx rfl (hb hby d3_34) rfl k) ?_
  show Goes p.tables e below (T1.setTop (mkF m 35 #[.val (.ref oa),.val (.int pn),.val (.ref ol),.val (.int (1:Int32)),.val (.int (0:Int32)),.val (.ref o0),.val (.long (gx (nn / 64))),.second] [(.int pn), (.ref o0)])) _
  refine Goes.by (fun _ k => XS.bipush X1.here hx rfl (hb hby d3_35) k) ?_
  show Goes p.tables e below (T1.setTop (mkF m 37 #[.val (.ref oa),.val (.int pn),.val (.ref ol),.val (.int (1:Int32)),.val (.int (0:Int32)),.val (.ref o0),.val (.long (gx (nn / 64))),.second] [(.int (6:Int32)), (.int pn), (.ref o0)])) _
  refine Goes.by (fun _ k => XS.iushr X1.here hx rfl (hb hby d3_37) rfl k) ?_
  show Goes p.tables e below (T1.setTop (mkF m 38 #[.val (.ref oa),.val (.int pn),.val (.ref ol),.val (.int (1:Int32)),.val (.int (0:Int32)),.val (.ref o0),.val (.long (gx (nn / 64))),.second] [(.int ((pn.toUInt32>>>((6:Int32)&&&31).toUInt32).toInt32)), (.ref o0)])) _
  refine Goes.by (fun _ k => XS.lload X1.here hx rfl (hb hby d3_38) rfl k) ?_
  show Goes p.tables e below (T1.setTop (mkF m 40 #[.val (.ref oa),.val (.int pn),.val (.ref ol),.val (.int (1:Int32)),.val (.int (0:Int32)),.val (.ref o0),.val (.long (gx (nn / 64))),.second] [(.long (gx (nn / 64))), (.int ((pn.toUInt32>>>((6:Int32)&&&31).toUInt32).toInt32)), (.ref o0)])) _
  refine Goes.by (fun _ k => XS.lconst X1.here hx rfl (hb hby d3_40) k) ?_
  show Goes p.tables e below (T1.setTop (mkF m 41 #[.val (.ref oa),.val (.int pn),.val (.ref ol),.val (.int (1:Int32)),.val (.int (0:Int32)),.val (.ref o0),.val (.long (gx (nn / 64))),.second] [(.long (1:Int64)), (.long (gx (nn / 64))), (.int ((pn.toUInt32>>>((6:Int32)&&&31).toUInt32).toInt32)), (.ref o0)])) _
  refine Goes.by (fun _ k => XS.iloadN X1.here hx rfl (hb hby d3_41) rfl k) ?_
  show Goes p.tables e below (T1.setTop (mkF m 42 #[.val (.ref oa),.val (.int pn),.val (.ref ol),.val (.int (1:Int32)),.val (.int (0:Int32)),.val (.ref o0),.val (.long (gx (nn / 64))),.second] [(.int pn), (.long (1:Int64)), (.long (gx (nn / 64))), (.int ((pn.toUInt32>>>((6:Int32)&&&31).toUInt32).toInt32)), (.ref o0)])) _
  refine Goes.by (fun _ k => XS.lshl X1.here hx rfl (hb hby d3_42) rfl k) ?_
  show Goes p.tables e below (T1.setTop (mkF m 43 #[.val (.ref oa),.val (.int pn),.val (.ref ol),.val (.int (1:Int32)),.val (.int (0:Int32)),.val (.ref o0),.val (.long (gx (nn / 64))),.second] [(.long ((1:Int64) <<< (pn&&&0x3f).toInt64)), (.long (gx (nn / 64))), (.int ((pn.toUInt32>>>((6:Int32)&&&31).toUInt32).toInt32)), (.ref o0)])) _
  refine Goes.by (fun _ k => XS.lor X1.here hx rfl (hb hby d3_43) rfl k) ?_
  show Goes p.tables e below (T1.setTop (mkF m 44 #[.val (.ref oa),.val (.int pn),.val (.ref ol),.val (.int (1:Int32)),.val (.int (0:Int32)),.val (.ref o0),.val (.long (gx (nn / 64))),.second] [(.long ((gx (nn / 64)) ||| ((1:Int64) <<< (pn&&&0x3f).toInt64))), (.int ((pn.toUInt32>>>((6:Int32)&&&31).toUInt32).toInt32)), (.ref o0)])) _
  obtain ⟨T2, h2, X2, e2, W2, A2, st2⟩ := stAJ (fr := (mkF m 44 #[.val (.ref oa),.val (.int pn),.val (.ref ol),.val (.int (1:Int32)),.val (.int (0:Int32)),.val (.ref o0),.val (.long (gx (nn / 64))),.second] [(.long ((gx (nn / 64)) ||| ((1:Int64) <<< (pn&&&0x3f).toInt64))), (.int ((pn.toUInt32>>>((6:Int32)&&&31).toUInt32).toInt32)), (.ref o0)])) X1 hx hZ e1 A_o0 (i := (nn / 64)) (own_sh6 _ _ hj) hw0 rfl rfl (hb hby d3_44)
  refine Goes.by st2 ?_
  have A_o0 : AJ Z h2 o0 wx (up gx (nn / 64) ((gx (nn / 64)) ||| ((1:Int64) <<< (pn&&&0x3f).toInt64))) := A2
  have N2 := Fr.snoc X2 N0 g_o0
  have Zs2 : n0 ≤ h2.size := Nat.le_trans Z0 (Keep.of_wr W2).1
  have K2 : Keep h0 h2 [o0] := (Keep.refl h0 [o0]).wr W2 (Or.inl (List.mem_of_getElem? (i := 0) rfl))
  have F_oa_levels : Fld Z h2 oa "com/example/xml_graph_join/xmlgraphjoin/topo/BitLevels" "levels" "[[J" (.ref ol) := F_oa_levels.other W2 (Or.inl ne_oa_o0)
  have A_ol : Ar Z h2 ol (.array .long) 1 (up (fun _ => .null) 0 (.ref o0)) := A_ol.other W2 ne_ol_o0
  show Goes p.tables e below (T2.setTop (mkF m 45 #[.val (.ref oa),.val (.int pn),.val (.ref ol),.val (.int (1:Int32)),.val (.int (0:Int32)),.val (.ref o0),.val (.long (gx (nn / 64))),.second] [])) _
  refine Goes.by (fun _ k => XS.lload X2.here hx rfl (hb hby d3_45) rfl k) ?_
  show Goes p.tables e below (T2.setTop (mkF m 47 #[.val (.ref oa),.val (.int pn),.val (.ref ol),.val (.int (1:Int32)),.val (.int (0:Int32)),.val (.ref o0),.val (.long (gx (nn / 64))),.second] [(.long (gx (nn / 64)))])) _
  refine Goes.by (fun _ k => XS.lconst X2.here hx rfl (hb hby d3_47) k) ?_
  show Goes p.tables e below (T2.setTop (mkF m 48 #[.val (.ref oa),.val (.int pn),.val (.ref ol),.val (.int (1:Int32)),.val (.int (0:Int32)),.val (.ref o0),.val (.long (gx (nn / 64))),.second] [(.long (0:Int64)), (.long (gx (nn / 64)))])) _
  refine Goes.by (fun _ k => XS.lcmp X2.here hx rfl (hb hby d3_48) rfl k) ?_
  show Goes p.tables e below (T2.setTop (mkF m 49 #[.val (.ref oa),.val (.int pn),.val (.ref ol),.val (.int (1:Int32)),.val (.int (0:Int32)),.val (.ref o0),.val (.long (gx (nn / 64))),.second] [(.int (lcmpW (gx (nn / 64)) (0:Int64)))])) _
  by_cases hc3 : (gx (nn / 64)) = (0:Int64)
  · refine Goes.by (fun _ k => XS.ifYes X2.here hx rfl (pc0 := 49) (pc' := 53) rfl (hb hby d3_49) rfl (je_t hc3).1 (by decide) (by decide) k) ?_
    show Goes p.tables e below (T2.setTop (mkF m 53 #[.val (.ref oa),.val (.int pn),.val (.ref ol),.val (.int (1:Int32)),.val (.int (0:Int32)),.val (.ref o0),.val (.long (gx (nn / 64))),.second] [])) _
    refine Goes.by (fun _ k => XS.iloadN X2.here hx rfl (hb hby d3_53) rfl k) ?_
    show Goes p.tables e below (T2.setTop (mkF m 54 #[.val (.ref oa),.val (.int pn),.val (.ref ol),.val (.int (1:Int32)),.val (.int (0:Int32)),.val (.ref o0),.val (.long (gx (nn / 64))),.second] [(.int pn)])) _
    refine Goes.by (fun _ k => XS.bipush X2.here hx rfl (hb hby d3_54) k) ?_
    show Goes p.tables e below (T2.setTop (mkF m 56 #[.val (.ref oa),.val (.int pn),.val (.ref ol),.val (.int (1:Int32)),.val (.int (0:Int32)),.val (.ref o0),.val (.long (gx (nn / 64))),.second] [(.int (6:Int32)), (.int pn)])) _
    refine Goes.by (fun _ k => XS.iushr X2.here hx rfl (hb hby d3_56) rfl k) ?_
    show Goes p.tables e below (T2.setTop (mkF m 57 #[.val (.ref oa),.val (.int pn),.val (.ref ol),.val (.int (1:Int32)),.val (.int (0:Int32)),.val (.ref o0),.val (.long (gx (nn / 64))),.second] [(.int ((pn.toUInt32>>>((6:Int32)&&&31).toUInt32).toInt32))])) _
    refine Goes.by (fun _ k => XS.istoreN X2.here hx rfl (hb hby d3_57) rfl (l' := #[.val (.ref oa),.val (.int ((pn.toUInt32>>>((6:Int32)&&&31).toUInt32).toInt32)),.val (.ref ol),.val (.int (1:Int32)),.val (.int (0:Int32)),.val (.ref o0),.val (.long (gx (nn / 64))),.second]) rfl k) ?_
    show Goes p.tables e below (T2.setTop (mkF m 58 #[.val (.ref oa),.val (.int ((pn.toUInt32>>>((6:Int32)&&&31).toUInt32).toInt32)),.val (.ref ol),.val (.int (1:Int32)),.val (.int (0:Int32)),.val (.ref o0),.val (.long (gx (nn / 64))),.second] [])) _
    refine Goes.by (fun _ k => XS.iinc X2.here hx rfl (hb hby d3_58) rfl (l' := #[.val (.ref oa),.val (.int ((pn.toUInt32>>>((6:Int32)&&&31).toUInt32).toInt32)),.val (.ref ol),.val (.int (1:Int32)),.val (.int (1:Int32)),.val (.ref o0),.val (.long (gx (nn / 64))),.second]) rfl k) ?_
    show Goes p.tables e below (T2.setTop (mkF m 61 #[.val (.ref oa),.val (.int ((pn.toUInt32>>>((6:Int32)&&&31).toUInt32).toInt32)),.val (.ref ol),.val (.int (1:Int32)),.val (.int (1:Int32)),.val (.ref o0),.val (.long (gx (nn / 64))),.second] [])) _
    refine Goes.by (fun _ k => XS.goto X2.here hx rfl (pc0 := 61) (pc' := 11) rfl (hb hby d3_61) (by decide) (by decide) k) ?_
    show Goes p.tables e below (T2.setTop (mkF m 11 #[.val (.ref oa),.val (.int ((pn.toUInt32>>>((6:Int32)&&&31).toUInt32).toInt32)),.val (.ref ol),.val (.int (1:Int32)),.val (.int (1:Int32)),.val (.ref o0),.val (.long (gx (nn / 64))),.second] [])) _
    refine Goes.by (fun _ k => XS.iload X2.here hx rfl (hb hby d3_11) rfl k) ?_
    show Goes p.tables e below (T2.setTop (mkF m 13 #[.val (.ref oa),.val (.int ((pn.toUInt32>>>((6:Int32)&&&31).toUInt32).toInt32)),.val (.ref ol),.val (.int (1:Int32)),.val (.int (1:Int32)),.val (.ref o0),.val (.long (gx (nn / 64))),.second] [(.int (1:Int32))])) _
    refine Goes.by (fun _ k => XS.iloadN X2.here hx rfl (hb hby d3_13) rfl k) ?_
    show Goes p.tables e below (T2.setTop (mkF m 14 #[.val (.ref oa),.val (.int ((pn.toUInt32>>>((6:Int32)&&&31).toUInt32).toInt32)),.val (.ref ol),.val (.int (1:Int32)),.val (.int (1:Int32)),.val (.ref o0),.val (.long (gx (nn / 64))),.second] [(.int (1:Int32)), (.int (1:Int32))])) _
    refine Goes.by (fun _ k => XS.icmpYes X2.here hx rfl (pc0 := 14) (pc' := 64) rfl (hb hby d3_14) rfl (flt (by decide : ¬ ((1:Int32) < (1:Int32)))).2.1 (by decide) (by decide) k) ?_
    show Goes p.tables e below (T2.setTop (mkF m 64 #[.val (.ref oa),.val (.int ((pn.toUInt32>>>((6:Int32)&&&31).toUInt32).toInt32)),.val (.ref ol),.val (.int (1:Int32)),.val (.int (1:Int32)),.val (.ref o0),.val (.long (gx (nn / 64))),.second] [])) _
    have A_o0 : AJ Z h2 o0 wx (up gx (nn / 64) (((gx (nn / 64))) ||| (oneB pn))) := A_o0
    obtain ⟨fs, hr, hrun, hended, hW, hsame⟩ := X2.leave (v := none) (fun _ => rfl)
    refine ⟨_, _, X2.returnOut hx Bd.returns (hb hby d3_64) hr, hrun, hended, _, _, rfl, ?_, ⟨_, rfl⟩, hW, hsame.mono (by decide) (by decide)⟩
    show Q3d1 Z oa pn ol o0 gx wx nn h0 n0 _ T2.heap _
    rw [e2]
    exact ⟨rfl, N2, K2, F_oa_levels, A_ol, A_o0⟩
  · refine Goes.by (fun _ k => XS.ifNo X2.here hx rfl (hb hby d3_49) rfl (je_f hc3).1 k) ?_
    show Goes p.tables e below (T2.setTop (mkF m 52 #[.val (.ref oa),.val (.int pn),.val (.ref ol),.val (.int (1:Int32)),.val (.int (0:Int32)),.val (.ref o0),.val (.long (gx (nn / 64))),.second] [])) _
    have A_o0 : AJ Z h2 o0 wx (up gx (nn / 64) (((gx (nn / 64))) ||| (oneB pn))) := A_o0
    obtain ⟨fs, hr, hrun, hended, hW, hsame⟩ := X2.leave (v := none) (fun _ => rfl)
    refine ⟨_, _, X2.returnOut hx Bd.returns (hb hby d3_52) hr, hrun, hended, _, _, rfl, ?_, ⟨_, rfl⟩, hW, hsame.mono (by decide) (by decide)⟩
    show Q3d1 Z oa pn ol o0 gx wx nn h0 n0 _ T2.heap _
    rw [e2]
    exact ⟨rfl, N2, K2, F_oa_levels, A_ol, A_o0⟩
theorem own_lv0 {lo hi : Int32} {a b w : Nat} (hl : lo.toInt = (a : Int)) (hh : hi.toInt = (b : Int)) (h1 : a / 64 < w) (h2 : b / 64 < w) : lo.toInt = (a : Int) ∧ hi.toInt = (b : Int) ∧ a / 64 < w ∧ b / 64 < w := ⟨hl, hh, h1, h2⟩
theorem own_lv {lo hi : Int32} {a b w w' : Nat} (hl : lo.toInt = (a : Int)) (hh : hi.toInt = (b : Int)) (hw : b / 64 < w) (hx : w ≤ 64 * w') (hn : ¬ ((lo.toUInt32>>>((6:Int32)&&&31).toUInt32).toInt32) = ((hi.toUInt32>>>((6:Int32)&&&31).toUInt32).toInt32)) (hg : ¬ (((hi.toUInt32>>>((6:Int32)&&&31).toUInt32).toInt32) - (1:Int32)) < (((lo.toUInt32>>>((6:Int32)&&&31).toUInt32).toInt32) + (1:Int32))) : (((lo.toUInt32>>>((6:Int32)&&&31).toUInt32).toInt32) + (1:Int32)).toInt = ((a / 64 + 1 : Nat) : Int) ∧ (((hi.toUInt32>>>((6:Int32)&&&31).toUInt32).toInt32) - (1:Int32)).toInt = ((b / 64 - 1 : Nat) : Int) ∧ (a / 64 + 1) / 64 < w' ∧ (b / 64 - 1) / 64 < w' := by
  have q1 := own_sh6 lo a hl
  have q2 := own_sh6 hi b hh
  have b1 := own_w1 lo a hl
  have b2 := c_isub ((hi.toUInt32>>>((6:Int32)&&&31).toUInt32).toInt32) 1
  have e1 : (1:Int32).toInt = 1 := rfl
  have r := rng32 (((hi.toUInt32>>>((6:Int32)&&&31).toUInt32).toInt32) - 1)
  have r' := rng32 hi
  rw [e1] at b2
  rw [Int32.lt_iff_toInt_lt] at hg
  refine ⟨b1, ?_, ?_, ?_⟩ <;> omega
theorem d4_0 : decode prog_96_method_4_code 0 = .ok (.aload_n 0, 1) := by decide +kernel
theorem d4_1 : decode prog_96_method_4_code 1 = .ok (.getfield 9, 3) := by decide +kernel
theorem d4_4 : decode prog_96_method_4_code 4 = .ok (.astore_n 3, 1) := by decide +kernel
theorem d4_5 : decode prog_96_method_4_code 5 = .ok (.aload_n 3, 1) := by decide +kernel
theorem d4_6 : decode prog_96_method_4_code 6 = .ok (.arraylength, 1) := by decide +kernel
theorem d4_7 : decode prog_96_method_4_code 7 = .ok (.istore 4, 2) := by decide +kernel
theorem d4_9 : decode prog_96_method_4_code 9 = .ok (.iconst 0, 1) := by decide +kernel
theorem d4_10 : decode prog_96_method_4_code 10 = .ok (.istore 5, 2) := by decide +kernel
theorem d4_12 : decode prog_96_method_4_code 12 = .ok (.iload 5, 2) := by decide +kernel
theorem d4_14 : decode prog_96_method_4_code 14 = .ok (.iload 4, 2) := by decide +kernel
theorem d4_16 : decode prog_96_method_4_code 16 = .ok (.if_icmp .ge 109, 3) := by decide +kernel
theorem d4_19 : decode prog_96_method_4_code 19 = .ok (.aload_n 3, 1) := by decide +kernel
theorem d4_20 : decode prog_96_method_4_code 20 = .ok (.iload 5, 2) := by decide +kernel
theorem d4_22 : decode prog_96_method_4_code 22 = .ok (.aaload, 1) := by decide +kernel
theorem d4_23 : decode prog_96_method_4_code 23 = .ok (.astore 6, 2) := by decide +kernel
theorem d4_25 : decode prog_96_method_4_code 25 = .ok (.iload_n 2, 1) := by decide +kernel
theorem d4_26 : decode prog_96_method_4_code 26 = .ok (.iload_n 1, 1) := by decide +kernel
theorem d4_27 : decode prog_96_method_4_code 27 = .ok (.if_icmp .ge 5, 3) := by decide +kernel
theorem d4_30 : decode prog_96_method_4_code 30 = .ok (.iconst 0, 1) := by decide +kernel
theorem d4_31 : decode prog_96_method_4_code 31 = .ok (.ireturn, 1) := by decide +kernel
theorem d4_32 : decode prog_96_method_4_code 32 = .ok (.iload_n 1, 1) := by decide +kernel
theorem d4_33 : decode prog_96_method_4_code 33 = .ok (.bipush 6, 2) := by decide +kernel
theorem d4_35 : decode prog_96_method_4_code 35 = .ok (.iushr, 1) := by decide +kernel
theorem d4_36 : decode prog_96_method_4_code 36 = .ok (.istore 7, 2) := by decide +kernel
theorem d4_38 : decode prog_96_method_4_code 38 = .ok (.iload_n 2, 1) := by decide +kernel
theorem d4_39 : decode prog_96_method_4_code 39 = .ok (.bipush 6, 2) := by decide +kernel
theorem d4_41 : decode prog_96_method_4_code 41 = .ok (.iushr, 1) := by decide +kernel
theorem d4_42 : decode prog_96_method_4_code 42 = .ok (.istore 8, 2) := by decide +kernel
theorem d4_44 : decode prog_96_method_4_code 44 = .ok (.iload 7, 2) := by decide +kernel
theorem d4_46 : decode prog_96_method_4_code 46 = .ok (.iload 8, 2) := by decide +kernel
theorem d4_48 : decode prog_96_method_4_code 48 = .ok (.if_icmp .ne 29, 3) := by decide +kernel
theorem d4_51 : decode prog_96_method_4_code 51 = .ok (.aload 6, 2) := by decide +kernel
theorem d4_53 : decode prog_96_method_4_code 53 = .ok (.iload 7, 2) := by decide +kernel
theorem d4_55 : decode prog_96_method_4_code 55 = .ok (.laload, 1) := by decide +kernel
theorem d4_56 : decode prog_96_method_4_code 56 = .ok (.iload_n 1, 1) := by decide +kernel
theorem d4_57 : decode prog_96_method_4_code 57 = .ok (.invokestatic 15, 3) := by decide +kernel
theorem pd_0 : parseMethodDescriptor "(I)J" = some ⟨[.int], some .long⟩ := by decide +kernel
theorem d4_60 : decode prog_96_method_4_code 60 = .ok (.land, 1) := by decide +kernel
theorem d4_61 : decode prog_96_method_4_code 61 = .ok (.iload_n 2, 1) := by decide +kernel
theorem d4_62 : decode prog_96_method_4_code 62 = .ok (.invokestatic 19, 3) := by decide +kernel
theorem d4_65 : decode prog_96_method_4_code 65 = .ok (.land, 1) := by decide +kernel
theorem d4_66 : decode prog_96_method_4_code 66 = .ok (.lconst 0, 1) := by decide +kernel
theorem d4_67 : decode prog_96_method_4_code 67 = .ok (.lcmp, 1) := by decide +kernel
theorem d4_68 : decode prog_96_method_4_code 68 = .ok (.ifCond .eq 7, 3) := by decide +kernel
theorem d4_75 : decode prog_96_method_4_code 75 = .ok (.iconst 0, 1) := by decide +kernel
theorem d4_76 : decode prog_96_method_4_code 76 = .ok (.ireturn, 1) := by decide +kernel
theorem d4_71 : decode prog_96_method_4_code 71 = .ok (.iconst 1, 1) := by decide +kernel
theorem d4_72 : decode prog_96_method_4_code 72 = .ok (.goto 4, 3) := by decide +kernel
theorem d4_77 : decode prog_96_method_4_code 77 = .ok (.aload 6, 2) := by decide +kernel
theorem d4_79 : decode prog_96_method_4_code 79 = .ok (.iload 7, 2) := by decide +kernel
theorem d4_81 : decode prog_96_method_4_code 81 = .ok (.laload, 1) := by decide +kernel
theorem d4_82 : decode prog_96_method_4_code 82 = .ok (.iload_n 1, 1) := by decide +kernel
theorem d4_83 : decode prog_96_method_4_code 83 = .ok (.invokestatic 15, 3) := by decide +kernel
theorem d4_86 : decode prog_96_method_4_code 86 = .ok (.land, 1) := by decide +kernel
theorem d4_87 : decode prog_96_method_4_code 87 = .ok (.lconst 0, 1) := by decide +kernel
theorem d4_88 : decode prog_96_method_4_code 88 = .ok (.lcmp, 1) := by decide +kernel
theorem d4_89 : decode prog_96_method_4_code 89 = .ok (.ifCond .ne 18, 3) := by decide +kernel
theorem d4_92 : decode prog_96_method_4_code 92 = .ok (.aload 6, 2) := by decide +kernel
theorem d4_94 : decode prog_96_method_4_code 94 = .ok (.iload 8, 2) := by decide +kernel
theorem d4_96 : decode prog_96_method_4_code 96 = .ok (.laload, 1) := by decide +kernel
theorem d4_97 : decode prog_96_method_4_code 97 = .ok (.iload_n 2, 1) := by decide +kernel
theorem d4_98 : decode prog_96_method_4_code 98 = .ok (.invokestatic 19, 3) := by decide +kernel
theorem d4_101 : decode prog_96_method_4_code 101 = .ok (.land, 1) := by decide +kernel
theorem d4_102 : decode prog_96_method_4_code 102 = .ok (.lconst 0, 1) := by decide +kernel
theorem d4_103 : decode prog_96_method_4_code 103 = .ok (.lcmp, 1) := by decide +kernel
theorem d4_104 : decode prog_96_method_4_code 104 = .ok (.ifCond .eq 5, 3) := by decide +kernel
theorem d4_109 : decode prog_96_method_4_code 109 = .ok (.iload 7, 2) := by decide +kernel
theorem d4_111 : decode prog_96_method_4_code 111 = .ok (.iconst 1, 1) := by decide +kernel
theorem d4_112 : decode prog_96_method_4_code 112 = .ok (.iadd, 1) := by decide +kernel
theorem d4_113 : decode prog_96_method_4_code 113 = .ok (.istore_n 1, 1) := by decide +kernel
theorem d4_114 : decode prog_96_method_4_code 114 = .ok (.iload 8, 2) := by decide +kernel
theorem d4_116 : decode prog_96_method_4_code 116 = .ok (.iconst 1, 1) := by decide +kernel
theorem d4_117 : decode prog_96_method_4_code 117 = .ok (.isub, 1) := by decide +kernel
theorem d4_118 : decode prog_96_method_4_code 118 = .ok (.istore_n 2, 1) := by decide +kernel
theorem d4_119 : decode prog_96_method_4_code 119 = .ok (.iinc 5 1, 3) := by decide +kernel
theorem d4_122 : decode prog_96_method_4_code 122 = .ok (.goto (-110), 3) := by decide +kernel
theorem d4_125 : decode prog_96_method_4_code 125 = .ok (.iconst 0, 1) := by decide +kernel
theorem d4_126 : decode prog_96_method_4_code 126 = .ok (.ireturn, 1) := by decide +kernel
theorem d4_107 : decode prog_96_method_4_code 107 = .ok (.iconst 1, 1) := by decide +kernel
theorem d4_108 : decode prog_96_method_4_code 108 = .ok (.ireturn, 1) := by decide +kernel
def fn4d1 (pl : Int32) (ph : Int32) (gx : Nat → Int64) (wx : Nat) (nl : Nat) (nh : Nat) : Int32 := (if ph < pl then (0:Int32) else (if ((pl.toUInt32>>>((6:Int32)&&&31).toUInt32).toInt32) = ((ph.toUInt32>>>((6:Int32)&&&31).toUInt32).toInt32) then (if (((gx (nl / 64))&&&(fromB pl))&&&(upB ph)) = (0:Int64) then (0:Int32) else (1:Int32)) else (if ((gx (nl / 64))&&&(fromB pl)) = (0:Int64) then (if ((gx (nh / 64))&&&(upB ph)) = (0:Int64) then (0:Int32) else (1:Int32)) else (1:Int32))))
theorem ef4d1 (m : MethodId) (oa : Addr) (pl : Int32) (ph : Int32) : entryFrame m #[(.ref oa), (.int pl), (.int ph)] 9 = mkF m 0 #[.val (.ref oa),.val (.int pl),.val (.int ph),.unset,.unset,.unset,.unset,.unset,.unset] [] := by first | (simp [entryFrame, mkF, argsToLocals, Value.category]; done) | rfl
def Q4d1 (Z : State) (oa : Addr) (pl : Int32) (ph : Int32) (ol : Addr) (o0 : Addr) (gx : Nat → Int64) (wx : Nat) (nl : Nat) (nh : Nat) (h0 : Heap) (n0 : Nat) (v : Option Value) (h : Heap) (L : List Loc) : Prop := v = some (.int (fn4d1 pl ph gx wx nl nh)) ∧ Fr n0 L ∧ h = h0
set_option maxRecDepth 65536 in
set_option maxHeartbeats 40000000 in
theorem rm4d1 (l : Launch) (Z : State) (a0 : Array Value) (hw : ∀ d ∈ tables_1, d.before a0 Z = true) (ws : List Jvm.Cond) (oa : Addr) (pl : Int32) (ph : Int32) (ol : Addr) (o0 : Addr) (gx : Nat → Int64) (wx : Nat) (nl : Nat) (nh : Nat) (h0 : Heap) (n0 : Nat) (Z0 : n0 ≤ h0.size) (F_oa_levels : Fld Z h0 oa "com/example/xml_graph_join/xmlgraphjoin/topo/BitLevels" "levels" "[[J" (.ref ol)) (A_ol : Ar Z h0 ol (.array .long) 1 (up (fun _ => .null) 0 (.ref o0))) (A_o0 : AJ Z h0 o0 wx gx) (hlo : pl.toInt = (nl : Int)) (hhi : ph.toInt = (nh : Int)) (hwl : nl / 64 < wx) (hwh : nh / 64 < wx) :
    MetFree l (⟨"com/example/xml_graph_join/xmlgraphjoin/topo/BitLevels", "anyIn", "(II)Z"⟩ : MethodName) (head1 (Jvm.Cond.code (⟨"com/example/xml_graph_join/xmlgraphjoin/topo/BitLevels", "anyIn", "(II)Z"⟩ : MethodName) prog_96_method_4_code 9 (some .boolean) :: ws) ({ frames := 1, cells := 0, slots := 0, locals := 14 } : Room)) (fun a U => a = #[(.ref oa), (.int pl), (.int ph)] ∧ Z.Warmed39 U.vm ∧ U.heap = h0) (fun _ _ _ _ _ => True) (fun _ U o U' => ∃ v L, o = .returned v ∧ Q4d1 Z oa pl ph ol o0 gx wx nl nh h0 n0 v U'.heap L ∧ FrameEnd U o U' L ({ frames := 1, cells := 0, slots := 0, locals := 14 } : Room).cells ({ frames := 1, cells := 0, slots := 0, locals := 14 } : Room).slots) := by
  refine MetFree.of_bodySF (plainFor_of_name pn_0) hisR ?_
  intro p e s m args below meth c s₁ Bd hml0 hP hK
  obtain ⟨rfl, hZ, hh⟩ := hP
  have hx := Bd.exec
  have hby := Bd.bytes
  have hml : c.maxLocals = 9 := hml0
  have hown : s.vm.findClass "com/example/xml_graph_join/xmlgraphjoin/topo/BitLevels" = some m.cls := findClass_of_methodNamed Bd.named
  have hnm := (name_of_methodNamed Bd.named Bd.method).1
  have X0 : Stand p l e ({ frames := 1, cells := 0, slots := 0, locals := 14 } : Room) s m #[(.ref oa), (.int pl), (.int ph)] below meth c s₁ [] 0 0 := Stand.of_body Bd
  have e0 : s₁.heap = h0 := by rw [← hh, Bd.state]; rfl
  have N0 := Fr.nil n0
  refine Goes.by (fun _ k => castTop (ef4d1 m oa pl ph) k) ?_
  show Goes p.tables e below (s₁.setTop (mkF m 0 #[.val (.ref oa),.val (.int pl),.val (.int ph),.unset,.unset,.unset,.unset,.unset,.unset] [])) _
  refine Goes.by (fun _ k => XS.aloadN X0.here hx rfl (hb hby d4_0) rfl rfl k) ?_
  show Goes p.tables e below (s₁.setTop (mkF m 1 #[.val (.ref oa),.val (.int pl),.val (.int ph),.unset,.unset,.unset,.unset,.unset,.unset] [(.ref oa)])) _
  obtain ⟨T1, X1, e1, st1⟩ := getF X0 hx hZ hown (host := "") (Or.inl (hw _ (List.mem_of_getElem? (i := 12) rfl))) Via.refl e0 F_oa_levels (g := (mkF m 1 #[.val (.ref oa),.val (.int pl),.val (.int ph),.unset,.unset,.unset,.unset,.unset,.unset] [(.ref oa)])) rfl rfl (hb hby d4_1)
  refine Goes.by st1 ?_
  show Goes p.tables e below (T1.setTop (mkF m 4 #[.val (.ref oa),.val (.int pl),.val (.int ph),.unset,.unset,.unset,.unset,.unset,.unset] [(.ref ol)])) _
  refine Goes.by (fun _ k => XS.astoreN X1.here hx rfl (hb hby d4_4) rfl rfl (l' := #[.val (.ref oa),.val (.int pl),.val (.int ph),.val (.ref ol),.unset,.unset,.unset,.unset,.unset]) rfl k) ?_
  show Goes p.tables e below (T1.setTop (mkF m 5 #[.val (.ref oa),.val (.int pl),.val (.int ph),.val (.ref ol),.unset,.unset,.unset,.unset,.unset] [])) _
  refine Goes.by (fun _ k => XS.aloadN X1.here hx rfl (hb hby d4_5) rfl rfl k) ?_
  show Goes p.tables e below (T1.setTop (mkF m 6 #[.val (.ref oa),.val (.int pl),.val (.int ph),.val (.ref ol),.unset,.unset,.unset,.unset,.unset] [(.ref ol)])) _
  refine Goes.by (fun _ k => alen (z := (1:Int32)) (fr := (mkF m 6 #[.val (.ref oa),.val (.int pl),.val (.int ph),.val (.ref ol),.unset,.unset,.unset,.unset,.unset] [(.ref ol)])) X1 hx hZ e1 A_ol (by decide) rfl rfl (hb hby d4_6) k) ?_
  show Goes p.tables e below (T1.setTop (mkF m 7 #[.val (.ref oa),.val (.int pl),.val (.int ph),.val (.ref ol),.unset,.unset,.unset,.unset,.unset] [(.int (1:Int32))])) _
  refine Goes.by (fun _ k => XS.istore X1.here hx rfl (hb hby d4_7) rfl (l' := #[.val (.ref oa),.val (.int pl),.val (.int ph),.val (.ref ol),.val (.int (1:Int32)),.unset,.unset,.unset,.unset]) rfl k) ?_
  show Goes p.tables e below (T1.setTop (mkF m 9 #[.val (.ref oa),.val (.int pl),.val (.int ph),.val (.ref ol),.val (.int (1:Int32)),.unset,.unset,.unset,.unset] [])) _
  refine Goes.by (fun _ k => XS.iconst X1.here hx rfl (hb hby d4_9) k) ?_
  show Goes p.tables e below (T1.setTop (mkF m 10 #[.val (.ref oa),.val (.int pl),.val (.int ph),.val (.ref ol),.val (.int (1:Int32)),.unset,.unset,.unset,.unset] [(.int (0:Int32))])) _
  refine Goes.by (fun _ k => XS.istore X1.here hx rfl (hb hby d4_10) rfl (l' := #[.val (.ref oa),.val (.int pl),.val (.int ph),.val (.ref ol),.val (.int (1:Int32)),.val (.int (0:Int32)),.unset,.unset,.unset]) rfl k) ?_
  show Goes p.tables e below (T1.setTop (mkF m 12 #[.val (.ref oa),.val (.int pl),.val (.int ph),.val (.ref ol),.val (.int (1:Int32)),.val (.int (0:Int32)),.unset,.unset,.unset] [])) _
  refine Goes.by (fun _ k => XS.iload X1.here hx rfl (hb hby d4_12) rfl k) ?_
  show Goes p.tables e below (T1.setTop (mkF m 14 #[.val (.ref oa),.val (.int pl),.val (.int ph),.val (.ref ol),.val (.int (1:Int32)),.val (.int (0:Int32)),.unset,.unset,.unset] [(.int (0:Int32))])) _
  refine Goes.by (fun _ k => XS.iload X1.here hx rfl (hb hby d4_14) rfl k) ?_
  show Goes p.tables e below (T1.setTop (mkF m 16 #[.val (.ref oa),.val (.int pl),.val (.int ph),.val (.ref ol),.val (.int (1:Int32)),.val (.int (0:Int32)),.unset,.unset,.unset] [(.int (1:Int32)), (.int (0:Int32))])) _
  refine Goes.by (fun _ k => XS.icmpNo X1.here hx rfl (hb hby d4_16) rfl (tlt (by decide : (0:Int32) < (1:Int32))).2.1 k) ?_
  show Goes p.tables e below (T1.setTop (mkF m 19 #[.val (.ref oa),.val (.int pl),.val (.int ph),.val (.ref ol),.val (.int (1:Int32)),.val (.int (0:Int32)),.unset,.unset,.unset] [])) _
  refine Goes.by (fun _ k => XS.aloadN X1.here hx rfl (hb hby d4_19) rfl rfl k) ?_
  show Goes p.tables e below (T1.setTop (mkF m 20 #[.val (.ref oa),.val (.int pl),.val (.int ph),.val (.ref ol),.val (.int (1:Int32)),.val (.int (0:Int32)),.unset,.unset,.unset] [(.ref ol)])) _
  refine Goes.by (fun _ k => XS.iload X1.here hx rfl (hb hby d4_20) rfl k) ?_
  show Goes p.tables e below (T1.setTop (mkF m 22 #[.val (.ref oa),.val (.int pl),.val (.int ph),.val (.ref ol),.val (.int (1:Int32)),.val (.int (0:Int32)),.unset,.unset,.unset] [(.int (0:Int32)), (.ref ol)])) _
  refine Goes.by (fun _ k => ldR (v := (.ref o0)) (fr := (mkF m 22 #[.val (.ref oa),.val (.int pl),.val (.int ph),.val (.ref ol),.val (.int (1:Int32)),.val (.int (0:Int32)),.unset,.unset,.unset] [(.int (0:Int32)), (.ref ol)])) X1 hx hZ e1 A_ol rfl (i := 0) (by decide) (by decide) rfl rfl rfl (hb hby d4_22) k) ?_
  show Goes p.tables e below (T1.setTop (mkF m 23 #[.val (.ref oa),.val (.int pl),.val (.int ph),.val (.ref ol),.val (.int (1:Int32)),.val (.int (0:Int32)),.unset,.unset,.unset] [(.ref o0)])) _
  refine Goes.by (fun _ k => XS.astore X1.here hx rfl (hb hby d4_23) rfl rfl (l' := #[.val (.ref oa),.val (.int pl),.val (.int ph),.val (.ref ol),.val (.int (1:Int32)),.val (.int (0:Int32)),.val (.ref o0),.unset,.unset]) rfl k) ?_
  show Goes p.tables e below (T1.setTop (mkF m 25 #[.val (.ref oa),.val (.int pl),.val (.int ph),.val (.ref ol),.val (.int (1:Int32)),.val (.int (0:Int32)),.val (.ref o0),.unset,.unset] [])) _
  refine Goes.by (fun _ k => XS.iloadN X1.here hx rfl (hb hby d4_25) rfl k) ?_
  show Goes p.tables e below (T1.setTop (mkF m 26 #[.val (.ref oa),.val (.int pl),.val (.int ph),.val (.ref ol),.val (.int (1:Int32)),.val (.int (0:Int32)),.val (.ref o0),.unset,.unset] [(.int ph)])) _
  refine Goes.by (fun _ k => XS.iloadN X1.here hx rfl (hb hby d4_26) rfl k) ?_
  show Goes p.tables e below (T1.setTop (mkF m 27 #[.val (.ref oa),.val (.int pl),.val (.int ph),.val (.ref ol),.val (.int (1:Int32)),.val (.int (0:Int32)),.val (.ref o0),.unset,.unset] [(.int pl), (.int ph)])) _
  by_cases hc2 : ph < pl
  · refine Goes.by (fun _ k => XS.icmpNo X1.here hx rfl (hb hby d4_27) rfl (tlt hc2).2.1 k) ?_
    show Goes p.tables e below (T1.setTop (mkF m 30 #[.val (.ref oa),.val (.int pl),.val (.int ph),.val (.ref ol),.val (.int (1:Int32)),.val (.int (0:Int32)),.val (.ref o0),.unset,.unset] [])) _
    refine Goes.by (fun _ k => XS.iconst X1.here hx rfl (hb hby d4_30) k) ?_
    show Goes p.tables e below (T1.setTop (mkF m 31 #[.val (.ref oa),.val (.int pl),.val (.int ph),.val (.ref ol),.val (.int (1:Int32)),.val (.int (0:Int32)),.val (.ref o0),.unset,.unset] [(.int (0:Int32))])) _
    obtain ⟨fs, hr, hrun, hended, hW, hsame⟩ := X1.leave (v := some (.int (0:Int32))) (fun h => by rw [Bd.returns] at h; cases h)
    refine ⟨_, _, retN X1 hx (t := .boolean) Bd.returns (by simp) (hb hby d4_31) hr, hrun, hended, _, _, rfl, ?_, ⟨_, rfl⟩, hW, hsame.mono (by decide) (by decide)⟩
    show Q4d1 Z oa pl ph ol o0 gx wx nl nh h0 n0 _ T1.heap _
    rw [e1]
    exact ⟨(by rw [fn4d1, if_pos hc2]), N0, rfl⟩
  · refine Goes.by (fun _ k => XS.icmpYes X1.here hx rfl (pc0 := 27) (pc' := 32) rfl (hb hby d4_27) rfl (flt hc2).2.1 (by decide) (by decide) k) ?_
    show Goes p.tables e below (T1.setTop (mkF m 32 #[.val (.ref oa),.val (.int pl),.val (.int ph),.val (.ref ol),.val (.int (1:Int32)),.val (.int (0:Int32)),.val (.ref o0),.unset,.unset] [])) _
    refine Goes.by (fun _ k => XS.iloadN X1.here hx rfl (hb hby d4_32) rfl k) ?_
    show Goes p.tables e below (T1.setTop (mkF m 33 #[.val (.ref oa),.val (.int pl),.val (.int ph),.val (.ref ol),.val (.int (1:Int32)),.val (.int (0:Int32)),.val (.ref o0),.unset,.unset] [(.int pl)])) _
    refine Goes.by (fun _ k => XS.bipush X1.here hx rfl (hb hby d4_33) k) ?_
    show Goes p.tables e below (T1.setTop (mkF m 35 #[.val (.ref oa),.val (.int pl),.val (.int ph),.val (.ref ol),.val (.int (1:Int32)),.val (.int (0:Int32)),.val (.ref o0),.unset,.unset] [(.int (6:Int32)), (.int pl)])) _
    refine Goes.by (fun _ k => XS.iushr X1.here hx rfl (hb hby d4_35) rfl k) ?_
    show Goes p.tables e below (T1.setTop (mkF m 36 #[.val (.ref oa),.val (.int pl),.val (.int ph),.val (.ref ol),.val (.int (1:Int32)),.val (.int (0:Int32)),.val (.ref o0),.unset,.unset] [(.int ((pl.toUInt32>>>((6:Int32)&&&31).toUInt32).toInt32))])) _
    refine Goes.by (fun _ k => XS.istore X1.here hx rfl (hb hby d4_36) rfl (l' := #[.val (.ref oa),.val (.int pl),.val (.int ph),.val (.ref ol),.val (.int (1:Int32)),.val (.int (0:Int32)),.val (.ref o0),.val (.int ((pl.toUInt32>>>((6:Int32)&&&31).toUInt32).toInt32)),.unset]) rfl k) ?_
    show Goes p.tables e below (T1.setTop (mkF m 38 #[.val (.ref oa),.val (.int pl),.val (.int ph),.val (.ref ol),.val (.int (1:Int32)),.val (.int (0:Int32)),.val (.ref o0),.val (.int ((pl.toUInt32>>>((6:Int32)&&&31).toUInt32).toInt32)),.unset] [])) _
    refine Goes.by (fun _ k => XS.iloadN X1.here hx rfl (hb hby d4_38) rfl k) ?_
    show Goes p.tables e below (T1.setTop (mkF m 39 #[.val (.ref oa),.val (.int pl),.val (.int ph),.val (.ref ol),.val (.int (1:Int32)),.val (.int (0:Int32)),.val (.ref o0),.val (.int ((pl.toUInt32>>>((6:Int32)&&&31).toUInt32).toInt32)),.unset] [(.int ph)])) _
    refine Goes.by (fun _ k => XS.bipush X1.here hx rfl (hb hby d4_39) k) ?_
    show Goes p.tables e below (T1.setTop (mkF m 41 #[.val (.ref oa),.val (.int pl),.val (.int ph),.val (.ref ol),.val (.int (1:Int32)),.val (.int (0:Int32)),.val (.ref o0),.val (.int ((pl.toUInt32>>>((6:Int32)&&&31).toUInt32).toInt32)),.unset] [(.int (6:Int32)), (.int ph)])) _
    refine Goes.by (fun _ k => XS.iushr X1.here hx rfl (hb hby d4_41) rfl k) ?_
    show Goes p.tables e below (T1.setTop (mkF m 42 #[.val (.ref oa),.val (.int pl),.val (.int ph),.val (.ref ol),.val (.int (1:Int32)),.val (.int (0:Int32)),.val (.ref o0),.val (.int ((pl.toUInt32>>>((6:Int32)&&&31).toUInt32).toInt32)),.unset] [(.int ((ph.toUInt32>>>((6:Int32)&&&31).toUInt32).toInt32))])) _
    refine Goes.by (fun _ k => XS.istore X1.here hx rfl (hb hby d4_42) rfl (l' := #[.val (.ref oa),.val (.int pl),.val (.int ph),.val (.ref ol),.val (.int (1:Int32)),.val (.int (0:Int32)),.val (.ref o0),.val (.int ((pl.toUInt32>>>((6:Int32)&&&31).toUInt32).toInt32)),.val (.int ((ph.toUInt32>>>((6:Int32)&&&31).toUInt32).toInt32))]) rfl k) ?_
    show Goes p.tables e below (T1.setTop (mkF m 44 #[.val (.ref oa),.val (.int pl),.val (.int ph),.val (.ref ol),.val (.int (1:Int32)),.val (.int (0:Int32)),.val (.ref o0),.val (.int ((pl.toUInt32>>>((6:Int32)&&&31).toUInt32).toInt32)),.val (.int ((ph.toUInt32>>>((6:Int32)&&&31).toUInt32).toInt32))] [])) _
    refine Goes.by (fun _ k => XS.iload X1.here hx rfl (hb hby d4_44) rfl k) ?_
    show Goes p.tables e below (T1.setTop (mkF m 46 #[.val (.ref oa),.val (.int pl),.val (.int ph),.val (.ref ol),.val (.int (1:Int32)),.val (.int (0:Int32)),.val (.ref o0),.val (.int ((pl.toUInt32>>>((6:Int32)&&&31).toUInt32).toInt32)),.val (.int ((ph.toUInt32>>>((6:Int32)&&&31).toUInt32).toInt32))] [(.int ((pl.toUInt32>>>((6:Int32)&&&31).toUInt32).toInt32))])) _
    refine Goes.by (fun _ k => XS.iload X1.here hx rfl (hb hby d4_46) rfl k) ?_
    show Goes p.tables e below (T1.setTop (mkF m 48 #[.val (.ref oa),.val (.int pl),.val (.int ph),.val (.ref ol),.val (.int (1:Int32)),.val (.int (0:Int32)),.val (.ref o0),.val (.int ((pl.toUInt32>>>((6:Int32)&&&31).toUInt32).toInt32)),.val (.int ((ph.toUInt32>>>((6:Int32)&&&31).toUInt32).toInt32))] [(.int ((ph.toUInt32>>>((6:Int32)&&&31).toUInt32).toInt32)), (.int ((pl.toUInt32>>>((6:Int32)&&&31).toUInt32).toInt32))])) _
    by_cases hc3 : ((pl.toUInt32>>>((6:Int32)&&&31).toUInt32).toInt32) = ((ph.toUInt32>>>((6:Int32)&&&31).toUInt32).toInt32)
    · refine Goes.by (fun _ k => XS.icmpNo X1.here hx rfl (hb hby d4_48) rfl (teq hc3).2 k) ?_
      show Goes p.tables e below (T1.setTop (mkF m 51 #[.val (.ref oa),.val (.int pl),.val (.int ph),.val (.ref ol),.val (.int (1:Int32)),.val (.int (0:Int32)),.val (.ref o0),.val (.int ((pl.toUInt32>>>((6:Int32)&&&31).toUInt32).toInt32)),.val (.int ((ph.toUInt32>>>((6:Int32)&&&31).toUInt32).toInt32))] [])) _
      refine Goes.by (fun _ k => XS.aload X1.here hx rfl (hb hby d4_51) rfl rfl k) ?_
      show Goes p.tables e below (T1.setTop (mkF m 53 #[.val (.ref oa),.val (.int pl),.val (.int ph),.val (.ref ol),.val (.int (1:Int32)),.val (.int (0:Int32)),.val (.ref o0),.val (.int ((pl.toUInt32>>>((6:Int32)&&&31).toUInt32).toInt32)),.val (.int ((ph.toUInt32>>>((6:Int32)&&&31).toUInt32).toInt32))] [(.ref o0)])) _
      refine Goes.by (fun _ k => XS.iload X1.here hx rfl (hb hby d4_53) rfl k) ?_
      show Goes p.tables e below (T1.setTop (mkF m 55 #[.val (.ref oa),.val (.int pl),.val (.int ph),.val (.ref ol),.val (.int (1:Int32)),.val (.int (0:Int32)),.val (.ref o0),.val (.int ((pl.toUInt32>>>((6:Int32)&&&31).toUInt32).toInt32)),.val (.int ((ph.toUInt32>>>((6:Int32)&&&31).toUInt32).toInt32))] [(.int ((pl.toUInt32>>>((6:Int32)&&&31).toUInt32).toInt32)), (.ref o0)])) _
      refine Goes.by (fun _ k => ldJ (v := (gx (nl / 64))) (fr := (mkF m 55 #[.val (.ref oa),.val (.int pl),.val (.int ph),.val (.ref ol),.val (.int (1:Int32)),.val (.int (0:Int32)),.val (.ref o0),.val (.int ((pl.toUInt32>>>((6:Int32)&&&31).toUInt32).toInt32)),.val (.int ((ph.toUInt32>>>((6:Int32)&&&31).toUInt32).toInt32))] [(.int ((pl.toUInt32>>>((6:Int32)&&&31).toUInt32).toInt32)), (.ref o0)])) X1 hx hZ e1 A_o0 (i := (nl / 64)) (own_sh6 _ _ (own_lv0 hlo hhi hwl hwh).1) (own_lv0 hlo hhi hwl hwh).2.2.1 rfl rfl rfl (hb hby d4_55) k) ?_
      show Goes p.tables e below (T1.setTop (mkF m 56 #[.val (.ref oa),.val (.int pl),.val (.int ph),.val (.ref ol),.val (.int (1:Int32)),.val (.int (0:Int32)),.val (.ref o0),.val (.int ((pl.toUInt32>>>((6:Int32)&&&31).toUInt32).toInt32)),.val (.int ((ph.toUInt32>>>((6:Int32)&&&31).toUInt32).toInt32))] [(.long (gx (nl / 64)))])) _
      refine Goes.by (fun _ k => XS.iloadN X1.here hx rfl (hb hby d4_56) rfl k) ?_
      show Goes p.tables e below (T1.setTop (mkF m 57 #[.val (.ref oa),.val (.int pl),.val (.int ph),.val (.ref ol),.val (.int (1:Int32)),.val (.int (0:Int32)),.val (.ref o0),.val (.int ((pl.toUInt32>>>((6:Int32)&&&31).toUInt32).toInt32)),.val (.int ((ph.toUInt32>>>((6:Int32)&&&31).toUInt32).toInt32))] [(.int pl), (.long (gx (nl / 64)))])) _
      obtain ⟨_, _, ⟨T4, L4, k4, n4⟩, -, X4, ⟨Lc4, hQ4, l4, y4, z4⟩, st4⟩ := Jvm.LawKit.callS X1 hx (y := (⟨"com/example/xml_graph_join/xmlgraphjoin/topo/BitLevels", "fromBit", "(I)J"⟩ : MethodName)) hown (mvT hZ (hw _ (List.mem_of_getElem? (i := 26) rfl))) (mvT hZ (hw _ (List.mem_of_getElem? (i := 27) rfl))) (mvT hZ (hw _ (List.mem_of_getElem? (i := 3) rfl))) (mvT hZ (hw _ (List.mem_of_getElem? (i := 28) rfl))) (by decide) (backOf (W := 2) (rm5 l Z a0 hw [] pl h0 n0 Z0) hZ (hw _ (List.mem_of_getElem? (i := 28) rfl)) (hw _ (List.mem_of_getElem? (i := 3) rfl)) (by decide) (by decide)) (g := (mkF m 57 #[.val (.ref oa),.val (.int pl),.val (.int ph),.val (.ref ol),.val (.int (1:Int32)),.val (.int (0:Int32)),.val (.ref o0),.val (.int ((pl.toUInt32>>>((6:Int32)&&&31).toUInt32).toInt32)),.val (.int ((ph.toUInt32>>>((6:Int32)&&&31).toUInt32).toInt32))] [(.int pl), (.long (gx (nl / 64)))])) rfl (by rw [hml]; rfl) (argsL := [(.int pl)]) (rest := [(.long (gx (nl / 64)))]) (lenOf pd_0 rfl) rfl (by show 2 * 0 + (2 + 0) ≤ _; decide) (hb hby d4_57) (fun _ _ => ⟨rfl, e1, (by decide : 0 + 0 ≤ _), (by decide : 0 + 0 ≤ _)⟩)
      dsimp only [Pt.U, Pt.locs, Pt.cells, Pt.slots] at X4 l4 y4 z4 st4 hQ4
      rw [l4, y4, z4] at X4
      obtain ⟨rfl, N4q, e4⟩ := hQ4
      have N4 := Fr.app N0 N4q
      refine Goes.by st4 ?_
      show Goes p.tables e below (T4.setTop (mkF m 60 #[.val (.ref oa),.val (.int pl),.val (.int ph),.val (.ref ol),.val (.int (1:Int32)),.val (.int (0:Int32)),.val (.ref o0),.val (.int ((pl.toUInt32>>>((6:Int32)&&&31).toUInt32).toInt32)),.val (.int ((ph.toUInt32>>>((6:Int32)&&&31).toUInt32).toInt32))] [(.long (fromB pl)), (.long (gx (nl / 64)))])) _
      refine Goes.by (fun _ k => XS.land X4.here hx rfl (hb hby d4_60) rfl k) ?_
      show Goes p.tables e below (T4.setTop (mkF m 61 #[.val (.ref oa),.val (.int pl),.val (.int ph),.val (.ref ol),.val (.int (1:Int32)),.val (.int (0:Int32)),.val (.ref o0),.val (.int ((pl.toUInt32>>>((6:Int32)&&&31).toUInt32).toInt32)),.val (.int ((ph.toUInt32>>>((6:Int32)&&&31).toUInt32).toInt32))] [(.long ((gx (nl / 64))&&&(fromB pl)))])) _
      refine Goes.by (fun _ k => XS.iloadN X4.here hx rfl (hb hby d4_61) rfl k) ?_
      show Goes p.tables e below (T4.setTop (mkF m 62 #[.val (.ref oa),.val (.int pl),.val (.int ph),.val (.ref ol),.val (.int (1:Int32)),.val (.int (0:Int32)),.val (.ref o0),.val (.int ((pl.toUInt32>>>((6:Int32)&&&31).toUInt32).toInt32)),.val (.int ((ph.toUInt32>>>((6:Int32)&&&31).toUInt32).toInt32))] [(.int ph), (.long ((gx (nl / 64))&&&(fromB pl)))])) _
      obtain ⟨_, _, ⟨T5, L5, k5, n5⟩, -, X5, ⟨Lc5, hQ5, l5, y5, z5⟩, st5⟩ := Jvm.LawKit.callS X4 hx (y := (⟨"com/example/xml_graph_join/xmlgraphjoin/topo/BitLevels", "upToBit", "(I)J"⟩ : MethodName)) hown (mvT hZ (hw _ (List.mem_of_getElem? (i := 30) rfl))) (mvT hZ (hw _ (List.mem_of_getElem? (i := 31) rfl))) (mvT hZ (hw _ (List.mem_of_getElem? (i := 3) rfl))) (mvT hZ (hw _ (List.mem_of_getElem? (i := 32) rfl))) (by decide) (backOf (W := 2) (rm6 l Z a0 hw [] ph h0 n0 Z0) hZ (hw _ (List.mem_of_getElem? (i := 32) rfl)) (hw _ (List.mem_of_getElem? (i := 3) rfl)) (by decide) (by decide)) (g := (mkF m 62 #[.val (.ref oa),.val (.int pl),.val (.int ph),.val (.ref ol),.val (.int (1:Int32)),.val (.int (0:Int32)),.val (.ref o0),.val (.int ((pl.toUInt32>>>((6:Int32)&&&31).toUInt32).toInt32)),.val (.int ((ph.toUInt32>>>((6:Int32)&&&31).toUInt32).toInt32))] [(.int ph), (.long ((gx (nl / 64))&&&(fromB pl)))])) rfl (by rw [hml]; rfl) (argsL := [(.int ph)]) (rest := [(.long ((gx (nl / 64))&&&(fromB pl)))]) (lenOf pd_0 rfl) rfl (by show 2 * 0 + (2 + 0) ≤ _; decide) (hb hby d4_62) (fun _ _ => ⟨rfl, e4, (by decide : 0 + 0 ≤ _), (by decide : 0 + 0 ≤ _)⟩)
      dsimp only [Pt.U, Pt.locs, Pt.cells, Pt.slots] at X5 l5 y5 z5 st5 hQ5
      rw [l5, y5, z5] at X5
      obtain ⟨rfl, N5q, e5⟩ := hQ5
      have N5 := Fr.app N4 N5q
      refine Goes.by st5 ?_
      show Goes p.tables e below (T5.setTop (mkF m 65 #[.val (.ref oa),.val (.int pl),.val (.int ph),.val (.ref ol),.val (.int (1:Int32)),.val (.int (0:Int32)),.val (.ref o0),.val (.int ((pl.toUInt32>>>((6:Int32)&&&31).toUInt32).toInt32)),.val (.int ((ph.toUInt32>>>((6:Int32)&&&31).toUInt32).toInt32))] [(.long (upB ph)), (.long ((gx (nl / 64))&&&(fromB pl)))])) _
      refine Goes.by (fun _ k => XS.land X5.here hx rfl (hb hby d4_65) rfl k) ?_
      show Goes p.tables e below (T5.setTop (mkF m 66 #[.val (.ref oa),.val (.int pl),.val (.int ph),.val (.ref ol),.val (.int (1:Int32)),.val (.int (0:Int32)),.val (.ref o0),.val (.int ((pl.toUInt32>>>((6:Int32)&&&31).toUInt32).toInt32)),.val (.int ((ph.toUInt32>>>((6:Int32)&&&31).toUInt32).toInt32))] [(.long (((gx (nl / 64))&&&(fromB pl))&&&(upB ph)))])) _
      refine Goes.by (fun _ k => XS.lconst X5.here hx rfl (hb hby d4_66) k) ?_
      show Goes p.tables e below (T5.setTop (mkF m 67 #[.val (.ref oa),.val (.int pl),.val (.int ph),.val (.ref ol),.val (.int (1:Int32)),.val (.int (0:Int32)),.val (.ref o0),.val (.int ((pl.toUInt32>>>((6:Int32)&&&31).toUInt32).toInt32)),.val (.int ((ph.toUInt32>>>((6:Int32)&&&31).toUInt32).toInt32))] [(.long (0:Int64)), (.long (((gx (nl / 64))&&&(fromB pl))&&&(upB ph)))])) _
      refine Goes.by (fun _ k => XS.lcmp X5.here hx rfl (hb hby d4_67) rfl k) ?_
      show Goes p.tables e below (T5.setTop (mkF m 68 #[.val (.ref oa),.val (.int pl),.val (.int ph),.val (.ref ol),.val (.int (1:Int32)),.val (.int (0:Int32)),.val (.ref o0),.val (.int ((pl.toUInt32>>>((6:Int32)&&&31).toUInt32).toInt32)),.val (.int ((ph.toUInt32>>>((6:Int32)&&&31).toUInt32).toInt32))] [(.int (lcmpW (((gx (nl / 64))&&&(fromB pl))&&&(upB ph)) (0:Int64)))])) _
      by_cases hc6 : (((gx (nl / 64))&&&(fromB pl))&&&(upB ph)) = (0:Int64)
      · refine Goes.by (fun _ k => XS.ifYes X5.here hx rfl (pc0 := 68) (pc' := 75) rfl (hb hby d4_68) rfl (je_t hc6).1 (by decide) (by decide) k) ?_
        show Goes p.tables e below (T5.setTop (mkF m 75 #[.val (.ref oa),.val (.int pl),.val (.int ph),.val (.ref ol),.val (.int (1:Int32)),.val (.int (0:Int32)),.val (.ref o0),.val (.int ((pl.toUInt32>>>((6:Int32)&&&31).toUInt32).toInt32)),.val (.int ((ph.toUInt32>>>((6:Int32)&&&31).toUInt32).toInt32))] [])) _
        refine Goes.by (fun _ k => XS.iconst X5.here hx rfl (hb hby d4_75) k) ?_
        show Goes p.tables e below (T5.setTop (mkF m 76 #[.val (.ref oa),.val (.int pl),.val (.int ph),.val (.ref ol),.val (.int (1:Int32)),.val (.int (0:Int32)),.val (.ref o0),.val (.int ((pl.toUInt32>>>((6:Int32)&&&31).toUInt32).toInt32)),.val (.int ((ph.toUInt32>>>((6:Int32)&&&31).toUInt32).toInt32))] [(.int (0:Int32))])) _
        obtain ⟨fs, hr, hrun, hended, hW, hsame⟩ := X5.leave (v := some (.int (0:Int32))) (fun h => by rw [Bd.returns] at h; cases h)
        refine ⟨_, _, retN X5 hx (t := .boolean) Bd.returns (by simp) (hb hby d4_76) hr, hrun, hended, _, _, rfl, ?_, ⟨_, rfl⟩, hW, hsame.mono (by decide) (by decide)⟩
        show Q4d1 Z oa pl ph ol o0 gx wx nl nh h0 n0 _ T5.heap _
        rw [e5]
        exact ⟨(by rw [fn4d1, if_neg hc2, if_pos hc3, if_pos hc6]), N5, rfl⟩
      · refine Goes.by (fun _ k => XS.ifNo X5.here hx rfl (hb hby d4_68) rfl (je_f hc6).1 k) ?_
        show Goes p.tables e below (T5.setTop (mkF m 71 #[.val (.ref oa),.val (.int pl),.val (.int ph),.val (.ref ol),.val (.int (1:Int32)),.val (.int (0:Int32)),.val (.ref o0),.val (.int ((pl.toUInt32>>>((6:Int32)&&&31).toUInt32).toInt32)),.val (.int ((ph.toUInt32>>>((6:Int32)&&&31).toUInt32).toInt32))] [])) _
        refine Goes.by (fun _ k => XS.iconst X5.here hx rfl (hb hby d4_71) k) ?_
        show Goes p.tables e below (T5.setTop (mkF m 72 #[.val (.ref oa),.val (.int pl),.val (.int ph),.val (.ref ol),.val (.int (1:Int32)),.val (.int (0:Int32)),.val (.ref o0),.val (.int ((pl.toUInt32>>>((6:Int32)&&&31).toUInt32).toInt32)),.val (.int ((ph.toUInt32>>>((6:Int32)&&&31).toUInt32).toInt32))] [(.int (1:Int32))])) _
        refine Goes.by (fun _ k => XS.goto X5.here hx rfl (pc0 := 72) (pc' := 76) rfl (hb hby d4_72) (by decide) (by decide) k) ?_
        show Goes p.tables e below (T5.setTop (mkF m 76 #[.val (.ref oa),.val (.int pl),.val (.int ph),.val (.ref ol),.val (.int (1:Int32)),.val (.int (0:Int32)),.val (.ref o0),.val (.int ((pl.toUInt32>>>((6:Int32)&&&31).toUInt32).toInt32)),.val (.int ((ph.toUInt32>>>((6:Int32)&&&31).toUInt32).toInt32))] [(.int (1:Int32))])) _
        obtain ⟨fs, hr, hrun, hended, hW, hsame⟩ := X5.leave (v := some (.int (1:Int32))) (fun h => by rw [Bd.returns] at h; cases h)
        refine ⟨_, _, retN X5 hx (t := .boolean) Bd.returns (by simp) (hb hby d4_76) hr, hrun, hended, _, _, rfl, ?_, ⟨_, rfl⟩, hW, hsame.mono (by decide) (by decide)⟩
        show Q4d1 Z oa pl ph ol o0 gx wx nl nh h0 n0 _ T5.heap _
        rw [e5]
        exact ⟨(by rw [fn4d1, if_neg hc2, if_pos hc3, if_neg hc6]), N5, rfl⟩
    · refine Goes.by (fun _ k => XS.icmpYes X1.here hx rfl (pc0 := 48) (pc' := 77) rfl (hb hby d4_48) rfl (feq hc3).2 (by decide) (by decide) k) ?_
      show Goes p.tables e below (T1.setTop (mkF m 77 #[.val (.ref oa),.val (.int pl),.val (.int ph),.val (.ref ol),.val (.int (1:Int32)),.val (.int (0:Int32)),.val (.ref o0),.val (.int ((pl.toUInt32>>>((6:Int32)&&&31).toUInt32).toInt32)),.val (.int ((ph.toUInt32>>>((6:Int32)&&&31).toUInt32).toInt32))] [])) _
      refine Goes.by (fun _ k => XS.aload X1.here hx rfl (hb hby d4_77) rfl rfl k) ?_
      show Goes p.tables e below (T1.setTop (mkF m 79 #[.val (.ref oa),.val (.int pl),.val (.int ph),.val (.ref ol),.val (.int (1:Int32)),.val (.int (0:Int32)),.val (.ref o0),.val (.int ((pl.toUInt32>>>((6:Int32)&&&31).toUInt32).toInt32)),.val (.int ((ph.toUInt32>>>((6:Int32)&&&31).toUInt32).toInt32))] [(.ref o0)])) _
      refine Goes.by (fun _ k => XS.iload X1.here hx rfl (hb hby d4_79) rfl k) ?_
      show Goes p.tables e below (T1.setTop (mkF m 81 #[.val (.ref oa),.val (.int pl),.val (.int ph),.val (.ref ol),.val (.int (1:Int32)),.val (.int (0:Int32)),.val (.ref o0),.val (.int ((pl.toUInt32>>>((6:Int32)&&&31).toUInt32).toInt32)),.val (.int ((ph.toUInt32>>>((6:Int32)&&&31).toUInt32).toInt32))] [(.int ((pl.toUInt32>>>((6:Int32)&&&31).toUInt32).toInt32)), (.ref o0)])) _
      refine Goes.by (fun _ k => ldJ (v := (gx (nl / 64))) (fr := (mkF m 81 #[.val (.ref oa),.val (.int pl),.val (.int ph),.val (.ref ol),.val (.int (1:Int32)),.val (.int (0:Int32)),.val (.ref o0),.val (.int ((pl.toUInt32>>>((6:Int32)&&&31).toUInt32).toInt32)),.val (.int ((ph.toUInt32>>>((6:Int32)&&&31).toUInt32).toInt32))] [(.int ((pl.toUInt32>>>((6:Int32)&&&31).toUInt32).toInt32)), (.ref o0)])) X1 hx hZ e1 A_o0 (i := (nl / 64)) (own_sh6 _ _ (own_lv0 hlo hhi hwl hwh).1) (own_lv0 hlo hhi hwl hwh).2.2.1 rfl rfl rfl (hb hby d4_81) k) ?_
      show Goes p.tables e below (T1.setTop (mkF m 82 #[.val (.ref oa),.val (.int pl),.val (.int ph),.val (.ref ol),.val (.int (1:Int32)),.val (.int (0:Int32)),.val (.ref o0),.val (.int ((pl.toUInt32>>>((6:Int32)&&&31).toUInt32).toInt32)),.val (.int ((ph.toUInt32>>>((6:Int32)&&&31).toUInt32).toInt32))] [(.long (gx (nl / 64)))])) _
      refine Goes.by (fun _ k => XS.iloadN X1.here hx rfl (hb hby d4_82) rfl k) ?_
      show Goes p.tables e below (T1.setTop (mkF m 83 #[.val (.ref oa),.val (.int pl),.val (.int ph),.val (.ref ol),.val (.int (1:Int32)),.val (.int (0:Int32)),.val (.ref o0),.val (.int ((pl.toUInt32>>>((6:Int32)&&&31).toUInt32).toInt32)),.val (.int ((ph.toUInt32>>>((6:Int32)&&&31).toUInt32).toInt32))] [(.int pl), (.long (gx (nl / 64)))])) _
      obtain ⟨_, _, ⟨T7, L7, k7, n7⟩, -, X7, ⟨Lc7, hQ7, l7, y7, z7⟩, st7⟩ := Jvm.LawKit.callS X1 hx (y := (⟨"com/example/xml_graph_join/xmlgraphjoin/topo/BitLevels", "fromBit", "(I)J"⟩ : MethodName)) hown (mvT hZ (hw _ (List.mem_of_getElem? (i := 26) rfl))) (mvT hZ (hw _ (List.mem_of_getElem? (i := 27) rfl))) (mvT hZ (hw _ (List.mem_of_getElem? (i := 3) rfl))) (mvT hZ (hw _ (List.mem_of_getElem? (i := 28) rfl))) (by decide) (backOf (W := 2) (rm5 l Z a0 hw [] pl h0 n0 Z0) hZ (hw _ (List.mem_of_getElem? (i := 28) rfl)) (hw _ (List.mem_of_getElem? (i := 3) rfl)) (by decide) (by decide)) (g := (mkF m 83 #[.val (.ref oa),.val (.int pl),.val (.int ph),.val (.ref ol),.val (.int (1:Int32)),.val (.int (0:Int32)),.val (.ref o0),.val (.int ((pl.toUInt32>>>((6:Int32)&&&31).toUInt32).toInt32)),.val (.int ((ph.toUInt32>>>((6:Int32)&&&31).toUInt32).toInt32))] [(.int pl), (.long (gx (nl / 64)))])) rfl (by rw [hml]; rfl) (argsL := [(.int pl)]) (rest := [(.long (gx (nl / 64)))]) (lenOf pd_0 rfl) rfl (by show 2 * 0 + (2 + 0) ≤ _; decide) (hb hby d4_83) (fun _ _ => ⟨rfl, e1, (by decide : 0 + 0 ≤ _), (by decide : 0 + 0 ≤ _)⟩)
      dsimp only [Pt.U, Pt.locs, Pt.cells, Pt.slots] at X7 l7 y7 z7 st7 hQ7
      rw [l7, y7, z7] at X7
      obtain ⟨rfl, N7q, e7⟩ := hQ7
      have N7 := Fr.app N0 N7q
      refine Goes.by st7 ?_
      show Goes p.tables e below (T7.setTop (mkF m 86 #[.val (.ref oa),.val (.int pl),.val (.int ph),.val (.ref ol),.val (.int (1:Int32)),.val (.int (0:Int32)),.val (.ref o0),.val (.int ((pl.toUInt32>>>((6:Int32)&&&31).toUInt32).toInt32)),.val (.int ((ph.toUInt32>>>((6:Int32)&&&31).toUInt32).toInt32))] [(.long (fromB pl)), (.long (gx (nl / 64)))])) _
      refine Goes.by (fun _ k => XS.land X7.here hx rfl (hb hby d4_86) rfl k) ?_
      show Goes p.tables e below (T7.setTop (mkF m 87 #[.val (.ref oa),.val (.int pl),.val (.int ph),.val (.ref ol),.val (.int (1:Int32)),.val (.int (0:Int32)),.val (.ref o0),.val (.int ((pl.toUInt32>>>((6:Int32)&&&31).toUInt32).toInt32)),.val (.int ((ph.toUInt32>>>((6:Int32)&&&31).toUInt32).toInt32))] [(.long ((gx (nl / 64))&&&(fromB pl)))])) _
      refine Goes.by (fun _ k => XS.lconst X7.here hx rfl (hb hby d4_87) k) ?_
      show Goes p.tables e below (T7.setTop (mkF m 88 #[.val (.ref oa),.val (.int pl),.val (.int ph),.val (.ref ol),.val (.int (1:Int32)),.val (.int (0:Int32)),.val (.ref o0),.val (.int ((pl.toUInt32>>>((6:Int32)&&&31).toUInt32).toInt32)),.val (.int ((ph.toUInt32>>>((6:Int32)&&&31).toUInt32).toInt32))] [(.long (0:Int64)), (.long ((gx (nl / 64))&&&(fromB pl)))])) _
      refine Goes.by (fun _ k => XS.lcmp X7.here hx rfl (hb hby d4_88) rfl k) ?_
      show Goes p.tables e below (T7.setTop (mkF m 89 #[.val (.ref oa),.val (.int pl),.val (.int ph),.val (.ref ol),.val (.int (1:Int32)),.val (.int (0:Int32)),.val (.ref o0),.val (.int ((pl.toUInt32>>>((6:Int32)&&&31).toUInt32).toInt32)),.val (.int ((ph.toUInt32>>>((6:Int32)&&&31).toUInt32).toInt32))] [(.int (lcmpW ((gx (nl / 64))&&&(fromB pl)) (0:Int64)))])) _
      by_cases hc8 : ((gx (nl / 64))&&&(fromB pl)) = (0:Int64)
      · refine Goes.by (fun _ k => XS.ifNo X7.here hx rfl (hb hby d4_89) rfl (je_t hc8).2 k) ?_
        show Goes p.tables e below (T7.setTop (mkF m 92 #[.val (.ref oa),.val (.int pl),.val (.int ph),.val (.ref ol),.val (.int (1:Int32)),.val (.int (0:Int32)),.val (.ref o0),.val (.int ((pl.toUInt32>>>((6:Int32)&&&31).toUInt32).toInt32)),.val (.int ((ph.toUInt32>>>((6:Int32)&&&31).toUInt32).toInt32))] [])) _
        refine Goes.by (fun _ k => XS.aload X7.here hx rfl (hb hby d4_92) rfl rfl k) ?_
        show Goes p.tables e below (T7.setTop (mkF m 94 #[.val (.ref oa),.val (.int pl),.val (.int ph),.val (.ref ol),.val (.int (1:Int32)),.val (.int (0:Int32)),.val (.ref o0),.val (.int ((pl.toUInt32>>>((6:Int32)&&&31).toUInt32).toInt32)),.val (.int ((ph.toUInt32>>>((6:Int32)&&&31).toUInt32).toInt32))] [(.ref o0)])) _
        refine Goes.by (fun _ k => XS.iload X7.here hx rfl (hb hby d4_94) rfl k) ?_
        show Goes p.tables e below (T7.setTop (mkF m 96 #[.val (.ref oa),.val (.int pl),.val (.int ph),.val (.ref ol),.val (.int (1:Int32)),.val (.int (0:Int32)),.val (.ref o0),.val (.int ((pl.toUInt32>>>((6:Int32)&&&31).toUInt32).toInt32)),.val (.int ((ph.toUInt32>>>((6:Int32)&&&31).toUInt32).toInt32))] [(.int ((ph.toUInt32>>>((6:Int32)&&&31).toUInt32).toInt32)), (.ref o0)])) _
        refine Goes.by (fun _ k => ldJ (v := (gx (nh / 64))) (fr := (mkF m 96 #[.val (.ref oa),.val (.int pl),.val (.int ph),.val (.ref ol),.val (.int (1:Int32)),.val (.int (0:Int32)),.val (.ref o0),.val (.int ((pl.toUInt32>>>((6:Int32)&&&31).toUInt32).toInt32)),.val (.int ((ph.toUInt32>>>((6:Int32)&&&31).toUInt32).toInt32))] [(.int ((ph.toUInt32>>>((6:Int32)&&&31).toUInt32).toInt32)), (.ref o0)])) X7 hx hZ e7 A_o0 (i := (nh / 64)) (own_sh6 _ _ (own_lv0 hlo hhi hwl hwh).2.1) (own_lv0 hlo hhi hwl hwh).2.2.2 rfl rfl rfl (hb hby d4_96) k) ?_
        show Goes p.tables e below (T7.setTop (mkF m 97 #[.val (.ref oa),.val (.int pl),.val (.int ph),.val (.ref ol),.val (.int (1:Int32)),.val (.int (0:Int32)),.val (.ref o0),.val (.int ((pl.toUInt32>>>((6:Int32)&&&31).toUInt32).toInt32)),.val (.int ((ph.toUInt32>>>((6:Int32)&&&31).toUInt32).toInt32))] [(.long (gx (nh / 64)))])) _
        refine Goes.by (fun _ k => XS.iloadN X7.here hx rfl (hb hby d4_97) rfl k) ?_
        show Goes p.tables e below (T7.setTop (mkF m 98 #[.val (.ref oa),.val (.int pl),.val (.int ph),.val (.ref ol),.val (.int (1:Int32)),.val (.int (0:Int32)),.val (.ref o0),.val (.int ((pl.toUInt32>>>((6:Int32)&&&31).toUInt32).toInt32)),.val (.int ((ph.toUInt32>>>((6:Int32)&&&31).toUInt32).toInt32))] [(.int ph), (.long (gx (nh / 64)))])) _
        obtain ⟨_, _, ⟨T9, L9, k9, n9⟩, -, X9, ⟨Lc9, hQ9, l9, y9, z9⟩, st9⟩ := Jvm.LawKit.callS X7 hx (y := (⟨"com/example/xml_graph_join/xmlgraphjoin/topo/BitLevels", "upToBit", "(I)J"⟩ : MethodName)) hown (mvT hZ (hw _ (List.mem_of_getElem? (i := 30) rfl))) (mvT hZ (hw _ (List.mem_of_getElem? (i := 31) rfl))) (mvT hZ (hw _ (List.mem_of_getElem? (i := 3) rfl))) (mvT hZ (hw _ (List.mem_of_getElem? (i := 32) rfl))) (by decide) (backOf (W := 2) (rm6 l Z a0 hw [] ph h0 n0 Z0) hZ (hw _ (List.mem_of_getElem? (i := 32) rfl)) (hw _ (List.mem_of_getElem? (i := 3) rfl)) (by decide) (by decide)) (g := (mkF m 98 #[.val (.ref oa),.val (.int pl),.val (.int ph),.val (.ref ol),.val (.int (1:Int32)),.val (.int (0:Int32)),.val (.ref o0),.val (.int ((pl.toUInt32>>>((6:Int32)&&&31).toUInt32).toInt32)),.val (.int ((ph.toUInt32>>>((6:Int32)&&&31).toUInt32).toInt32))] [(.int ph), (.long (gx (nh / 64)))])) rfl (by rw [hml]; rfl) (argsL := [(.int ph)]) (rest := [(.long (gx (nh / 64)))]) (lenOf pd_0 rfl) rfl (by show 2 * 0 + (2 + 0) ≤ _; decide) (hb hby d4_98) (fun _ _ => ⟨rfl, e7, (by decide : 0 + 0 ≤ _), (by decide : 0 + 0 ≤ _)⟩)
        dsimp only [Pt.U, Pt.locs, Pt.cells, Pt.slots] at X9 l9 y9 z9 st9 hQ9
        rw [l9, y9, z9] at X9
        obtain ⟨rfl, N9q, e9⟩ := hQ9
        have N9 := Fr.app N7 N9q
        refine Goes.by st9 ?_
        show Goes p.tables e below (T9.setTop (mkF m 101 #[.val (.ref oa),.val (.int pl),.val (.int ph),.val (.ref ol),.val (.int (1:Int32)),.val (.int (0:Int32)),.val (.ref o0),.val (.int ((pl.toUInt32>>>((6:Int32)&&&31).toUInt32).toInt32)),.val (.int ((ph.toUInt32>>>((6:Int32)&&&31).toUInt32).toInt32))] [(.long (upB ph)), (.long (gx (nh / 64)))])) _
        refine Goes.by (fun _ k => XS.land X9.here hx rfl (hb hby d4_101) rfl k) ?_
        show Goes p.tables e below (T9.setTop (mkF m 102 #[.val (.ref oa),.val (.int pl),.val (.int ph),.val (.ref ol),.val (.int (1:Int32)),.val (.int (0:Int32)),.val (.ref o0),.val (.int ((pl.toUInt32>>>((6:Int32)&&&31).toUInt32).toInt32)),.val (.int ((ph.toUInt32>>>((6:Int32)&&&31).toUInt32).toInt32))] [(.long ((gx (nh / 64))&&&(upB ph)))])) _
        refine Goes.by (fun _ k => XS.lconst X9.here hx rfl (hb hby d4_102) k) ?_
        show Goes p.tables e below (T9.setTop (mkF m 103 #[.val (.ref oa),.val (.int pl),.val (.int ph),.val (.ref ol),.val (.int (1:Int32)),.val (.int (0:Int32)),.val (.ref o0),.val (.int ((pl.toUInt32>>>((6:Int32)&&&31).toUInt32).toInt32)),.val (.int ((ph.toUInt32>>>((6:Int32)&&&31).toUInt32).toInt32))] [(.long (0:Int64)), (.long ((gx (nh / 64))&&&(upB ph)))])) _
        refine Goes.by (fun _ k => XS.lcmp X9.here hx rfl (hb hby d4_103) rfl k) ?_
        show Goes p.tables e below (T9.setTop (mkF m 104 #[.val (.ref oa),.val (.int pl),.val (.int ph),.val (.ref ol),.val (.int (1:Int32)),.val (.int (0:Int32)),.val (.ref o0),.val (.int ((pl.toUInt32>>>((6:Int32)&&&31).toUInt32).toInt32)),.val (.int ((ph.toUInt32>>>((6:Int32)&&&31).toUInt32).toInt32))] [(.int (lcmpW ((gx (nh / 64))&&&(upB ph)) (0:Int64)))])) _
        by_cases hc10 : ((gx (nh / 64))&&&(upB ph)) = (0:Int64)
        · refine Goes.by (fun _ k => XS.ifYes X9.here hx rfl (pc0 := 104) (pc' := 109) rfl (hb hby d4_104) rfl (je_t hc10).1 (by decide) (by decide) k) ?_
          show Goes p.tables e below (T9.setTop (mkF m 109 #[.val (.ref oa),.val (.int pl),.val (.int ph),.val (.ref ol),.val (.int (1:Int32)),.val (.int (0:Int32)),.val (.ref o0),.val (.int ((pl.toUInt32>>>((6:Int32)&&&31).toUInt32).toInt32)),.val (.int ((ph.toUInt32>>>((6:Int32)&&&31).toUInt32).toInt32))] [])) _
          refine Goes.by (fun _ k => XS.iload X9.here hx rfl (hb hby d4_109) rfl k) ?_
          show Goes p.tables e below (T9.setTop (mkF m 111 #[.val (.ref oa),.val (.int pl),.val (.int ph),.val (.ref ol),.val (.int (1:Int32)),.val (.int (0:Int32)),.val (.ref o0),.val (.int ((pl.toUInt32>>>((6:Int32)&&&31).toUInt32).toInt32)),.val (.int ((ph.toUInt32>>>((6:Int32)&&&31).toUInt32).toInt32))] [(.int ((pl.toUInt32>>>((6:Int32)&&&31).toUInt32).toInt32))])) _
          refine Goes.by (fun _ k => XS.iconst X9.here hx rfl (hb hby d4_111) k) ?_
          show Goes p.tables e below (T9.setTop (mkF m 112 #[.val (.ref oa),.val (.int pl),.val (.int ph),.val (.ref ol),.val (.int (1:Int32)),.val (.int (0:Int32)),.val (.ref o0),.val (.int ((pl.toUInt32>>>((6:Int32)&&&31).toUInt32).toInt32)),.val (.int ((ph.toUInt32>>>((6:Int32)&&&31).toUInt32).toInt32))] [(.int (1:Int32)), (.int ((pl.toUInt32>>>((6:Int32)&&&31).toUInt32).toInt32))])) _
          refine Goes.by (fun _ k => XS.iadd X9.here hx rfl (hb hby d4_112) rfl k) ?_
          show Goes p.tables e below (T9.setTop (mkF m 113 #[.val (.ref oa),.val (.int pl),.val (.int ph),.val (.ref ol),.val (.int (1:Int32)),.val (.int (0:Int32)),.val (.ref o0),.val (.int ((pl.toUInt32>>>((6:Int32)&&&31).toUInt32).toInt32)),.val (.int ((ph.toUInt32>>>((6:Int32)&&&31).toUInt32).toInt32))] [(.int (((pl.toUInt32>>>((6:Int32)&&&31).toUInt32).toInt32) + (1:Int32)))])) _
          refine Goes.by (fun _ k => XS.istoreN X9.here hx rfl (hb hby d4_113) rfl (l' := #[.val (.ref oa),.val (.int (((pl.toUInt32>>>((6:Int32)&&&31).toUInt32).toInt32) + (1:Int32))),.val (.int ph),.val (.ref ol),.val (.int (1:Int32)),.val (.int (0:Int32)),.val (.ref o0),.val (.int ((pl.toUInt32>>>((6:Int32)&&&31).toUInt32).toInt32)),.val (.int ((ph.toUInt32>>>((6:Int32)&&&31).toUInt32).toInt32))]) rfl k) ?_
          show Goes p.tables e below (T9.setTop (mkF m 114 #[.val (.ref oa),.val (.int (((pl.toUInt32>>>((6:Int32)&&&31).toUInt32).toInt32) + (1:Int32))),.val (.int ph),.val (.ref ol),.val (.int (1:Int32)),.val (.int (0:Int32)),.val (.ref o0),.val (.int ((pl.toUInt32>>>((6:Int32)&&&31).toUInt32).toInt32)),.val (.int ((ph.toUInt32>>>((6:Int32)&&&31).toUInt32).toInt32))] [])) _
          refine Goes.by (fun _ k => XS.iload X9.here hx rfl (hb hby d4_114) rfl k) ?_
          show Goes p.tables e below (T9.setTop (mkF m 116 #[.val (.ref oa),.val (.int (((pl.toUInt32>>>((6:Int32)&&&31).toUInt32).toInt32) + (1:Int32))),.val (.int ph),.val (.ref ol),.val (.int (1:Int32)),.val (.int (0:Int32)),.val (.ref o0),.val (.int ((pl.toUInt32>>>((6:Int32)&&&31).toUInt32).toInt32)),.val (.int ((ph.toUInt32>>>((6:Int32)&&&31).toUInt32).toInt32))] [(.int ((ph.toUInt32>>>((6:Int32)&&&31).toUInt32).toInt32))])) _
          refine Goes.by (fun _ k => XS.iconst X9.here hx rfl (hb hby d4_116) k) ?_
          show Goes p.tables e below (T9.setTop (mkF m 117 #[.val (.ref oa),.val (.int (((pl.toUInt32>>>((6:Int32)&&&31).toUInt32).toInt32) + (1:Int32))),.val (.int ph),.val (.ref ol),.val (.int (1:Int32)),.val (.int (0:Int32)),.val (.ref o0),.val (.int ((pl.toUInt32>>>((6:Int32)&&&31).toUInt32).toInt32)),.val (.int ((ph.toUInt32>>>((6:Int32)&&&31).toUInt32).toInt32))] [(.int (1:Int32)), (.int ((ph.toUInt32>>>((6:Int32)&&&31).toUInt32).toInt32))])) _
          refine Goes.by (fun _ k => XS.isub X9.here hx rfl (hb hby d4_117) rfl k) ?_
          show Goes p.tables e below (T9.setTop (mkF m 118 #[.val (.ref oa),.val (.int (((pl.toUInt32>>>((6:Int32)&&&31).toUInt32).toInt32) + (1:Int32))),.val (.int ph),.val (.ref ol),.val (.int (1:Int32)),.val (.int (0:Int32)),.val (.ref o0),.val (.int ((pl.toUInt32>>>((6:Int32)&&&31).toUInt32).toInt32)),.val (.int ((ph.toUInt32>>>((6:Int32)&&&31).toUInt32).toInt32))] [(.int (((ph.toUInt32>>>((6:Int32)&&&31).toUInt32).toInt32) - (1:Int32)))])) _
          refine Goes.by (fun _ k => XS.istoreN X9.here hx rfl (hb hby d4_118) rfl (l' := #[.val (.ref oa),.val (.int (((pl.toUInt32>>>((6:Int32)&&&31).toUInt32).toInt32) + (1:Int32))),.val (.int (((ph.toUInt32>>>((6:Int32)&&&31).toUInt32).toInt32) - (1:Int32))),.val (.ref ol),.val (.int (1:Int32)),.val (.int (0:Int32)),.val (.ref o0),.val (.int ((pl.toUInt32>>>((6:Int32)&&&31).toUInt32).toInt32)),.val (.int ((ph.toUInt32>>>((6:Int32)&&&31).toUInt32).toInt32))]) rfl k) ?_
          show Goes p.tables e below (T9.setTop (mkF m 119 #[.val (.ref oa),.val (.int (((pl.toUInt32>>>((6:Int32)&&&31).toUInt32).toInt32) + (1:Int32))),.val (.int (((ph.toUInt32>>>((6:Int32)&&&31).toUInt32).toInt32) - (1:Int32))),.val (.ref ol),.val (.int (1:Int32)),.val (.int (0:Int32)),.val (.ref o0),.val (.int ((pl.toUInt32>>>((6:Int32)&&&31).toUInt32).toInt32)),.val (.int ((ph.toUInt32>>>((6:Int32)&&&31).toUInt32).toInt32))] [])) _
          refine Goes.by (fun _ k => XS.iinc X9.here hx rfl (hb hby d4_119) rfl (l' := #[.val (.ref oa),.val (.int (((pl.toUInt32>>>((6:Int32)&&&31).toUInt32).toInt32) + (1:Int32))),.val (.int (((ph.toUInt32>>>((6:Int32)&&&31).toUInt32).toInt32) - (1:Int32))),.val (.ref ol),.val (.int (1:Int32)),.val (.int (1:Int32)),.val (.ref o0),.val (.int ((pl.toUInt32>>>((6:Int32)&&&31).toUInt32).toInt32)),.val (.int ((ph.toUInt32>>>((6:Int32)&&&31).toUInt32).toInt32))]) rfl k) ?_
          show Goes p.tables e below (T9.setTop (mkF m 122 #[.val (.ref oa),.val (.int (((pl.toUInt32>>>((6:Int32)&&&31).toUInt32).toInt32) + (1:Int32))),.val (.int (((ph.toUInt32>>>((6:Int32)&&&31).toUInt32).toInt32) - (1:Int32))),.val (.ref ol),.val (.int (1:Int32)),.val (.int (1:Int32)),.val (.ref o0),.val (.int ((pl.toUInt32>>>((6:Int32)&&&31).toUInt32).toInt32)),.val (.int ((ph.toUInt32>>>((6:Int32)&&&31).toUInt32).toInt32))] [])) _
          refine Goes.by (fun _ k => XS.goto X9.here hx rfl (pc0 := 122) (pc' := 12) rfl (hb hby d4_122) (by decide) (by decide) k) ?_
          show Goes p.tables e below (T9.setTop (mkF m 12 #[.val (.ref oa),.val (.int (((pl.toUInt32>>>((6:Int32)&&&31).toUInt32).toInt32) + (1:Int32))),.val (.int (((ph.toUInt32>>>((6:Int32)&&&31).toUInt32).toInt32) - (1:Int32))),.val (.ref ol),.val (.int (1:Int32)),.val (.int (1:Int32)),.val (.ref o0),.val (.int ((pl.toUInt32>>>((6:Int32)&&&31).toUInt32).toInt32)),.val (.int ((ph.toUInt32>>>((6:Int32)&&&31).toUInt32).toInt32))] [])) _
          refine Goes.by (fun _ k => XS.iload X9.here hx rfl (hb hby d4_12) rfl k) ?_
          show Goes p.tables e below (T9.setTop (mkF m 14 #[.val (.ref oa),.val (.int (((pl.toUInt32>>>((6:Int32)&&&31).toUInt32).toInt32) + (1:Int32))),.val (.int (((ph.toUInt32>>>((6:Int32)&&&31).toUInt32).toInt32) - (1:Int32))),.val (.ref ol),.val (.int (1:Int32)),.val (.int (1:Int32)),.val (.ref o0),.val (.int ((pl.toUInt32>>>((6:Int32)&&&31).toUInt32).toInt32)),.val (.int ((ph.toUInt32>>>((6:Int32)&&&31).toUInt32).toInt32))] [(.int (1:Int32))])) _
          refine Goes.by (fun _ k => XS.iload X9.here hx rfl (hb hby d4_14) rfl k) ?_
          show Goes p.tables e below (T9.setTop (mkF m 16 #[.val (.ref oa),.val (.int (((pl.toUInt32>>>((6:Int32)&&&31).toUInt32).toInt32) + (1:Int32))),.val (.int (((ph.toUInt32>>>((6:Int32)&&&31).toUInt32).toInt32) - (1:Int32))),.val (.ref ol),.val (.int (1:Int32)),.val (.int (1:Int32)),.val (.ref o0),.val (.int ((pl.toUInt32>>>((6:Int32)&&&31).toUInt32).toInt32)),.val (.int ((ph.toUInt32>>>((6:Int32)&&&31).toUInt32).toInt32))] [(.int (1:Int32)), (.int (1:Int32))])) _
          refine Goes.by (fun _ k => XS.icmpYes X9.here hx rfl (pc0 := 16) (pc' := 125) rfl (hb hby d4_16) rfl (flt (by decide : ¬ ((1:Int32) < (1:Int32)))).2.1 (by decide) (by decide) k) ?_
          show Goes p.tables e below (T9.setTop (mkF m 125 #[.val (.ref oa),.val (.int (((pl.toUInt32>>>((6:Int32)&&&31).toUInt32).toInt32) + (1:Int32))),.val (.int (((ph.toUInt32>>>((6:Int32)&&&31).toUInt32).toInt32) - (1:Int32))),.val (.ref ol),.val (.int (1:Int32)),.val (.int (1:Int32)),.val (.ref o0),.val (.int ((pl.toUInt32>>>((6:Int32)&&&31).toUInt32).toInt32)),.val (.int ((ph.toUInt32>>>((6:Int32)&&&31).toUInt32).toInt32))] [])) _
          refine Goes.by (fun _ k => XS.iconst X9.here hx rfl (hb hby d4_125) k) ?_
          show Goes p.tables e below (T9.setTop (mkF m 126 #[.val (.ref oa),.val (.int (((pl.toUInt32>>>((6:Int32)&&&31).toUInt32).toInt32) + (1:Int32))),.val (.int (((ph.toUInt32>>>((6:Int32)&&&31).toUInt32).toInt32) - (1:Int32))),.val (.ref ol),.val (.int (1:Int32)),.val (.int (1:Int32)),.val (.ref o0),.val (.int ((pl.toUInt32>>>((6:Int32)&&&31).toUInt32).toInt32)),.val (.int ((ph.toUInt32>>>((6:Int32)&&&31).toUInt32).toInt32))] [(.int (0:Int32))])) _
          obtain ⟨fs, hr, hrun, hended, hW, hsame⟩ := X9.leave (v := some (.int (0:Int32))) (fun h => by rw [Bd.returns] at h; cases h)
          refine ⟨_, _, retN X9 hx (t := .boolean) Bd.returns (by simp) (hb hby d4_126) hr, hrun, hended, _, _, rfl, ?_, ⟨_, rfl⟩, hW, hsame.mono (by decide) (by decide)⟩
          show Q4d1 Z oa pl ph ol o0 gx wx nl nh h0 n0 _ T9.heap _
          rw [e9]
          exact ⟨(by rw [fn4d1, if_neg hc2, if_neg hc3, if_pos hc8, if_pos hc10]), N9, rfl⟩
        · refine Goes.by (fun _ k => XS.ifNo X9.here hx rfl (hb hby d4_104) rfl (je_f hc10).1 k) ?_
          show Goes p.tables e below (T9.setTop (mkF m 107 #[.val (.ref oa),.val (.int pl),.val (.int ph),.val (.ref ol),.val (.int (1:Int32)),.val (.int (0:Int32)),.val (.ref o0),.val (.int ((pl.toUInt32>>>((6:Int32)&&&31).toUInt32).toInt32)),.val (.int ((ph.toUInt32>>>((6:Int32)&&&31).toUInt32).toInt32))] [])) _
          refine Goes.by (fun _ k => XS.iconst X9.here hx rfl (hb hby d4_107) k) ?_
          show Goes p.tables e below (T9.setTop (mkF m 108 #[.val (.ref oa),.val (.int pl),.val (.int ph),.val (.ref ol),.val (.int (1:Int32)),.val (.int (0:Int32)),.val (.ref o0),.val (.int ((pl.toUInt32>>>((6:Int32)&&&31).toUInt32).toInt32)),.val (.int ((ph.toUInt32>>>((6:Int32)&&&31).toUInt32).toInt32))] [(.int (1:Int32))])) _
          obtain ⟨fs, hr, hrun, hended, hW, hsame⟩ := X9.leave (v := some (.int (1:Int32))) (fun h => by rw [Bd.returns] at h; cases h)
          refine ⟨_, _, retN X9 hx (t := .boolean) Bd.returns (by simp) (hb hby d4_108) hr, hrun, hended, _, _, rfl, ?_, ⟨_, rfl⟩, hW, hsame.mono (by decide) (by decide)⟩
          show Q4d1 Z oa pl ph ol o0 gx wx nl nh h0 n0 _ T9.heap _
          rw [e9]
          exact ⟨(by rw [fn4d1, if_neg hc2, if_neg hc3, if_pos hc8, if_neg hc10]), N9, rfl⟩
      · refine Goes.by (fun _ k => XS.ifYes X7.here hx rfl (pc0 := 89) (pc' := 107) rfl (hb hby d4_89) rfl (je_f hc8).2 (by decide) (by decide) k) ?_
        show Goes p.tables e below (T7.setTop (mkF m 107 #[.val (.ref oa),.val (.int pl),.val (.int ph),.val (.ref ol),.val (.int (1:Int32)),.val (.int (0:Int32)),.val (.ref o0),.val (.int ((pl.toUInt32>>>((6:Int32)&&&31).toUInt32).toInt32)),.val (.int ((ph.toUInt32>>>((6:Int32)&&&31).toUInt32).toInt32))] [])) _
        refine Goes.by (fun _ k => XS.iconst X7.here hx rfl (hb hby d4_107) k) ?_
        show Goes p.tables e below (T7.setTop (mkF m 108 #[.val (.ref oa),.val (.int pl),.val (.int ph),.val (.ref ol),.val (.int (1:Int32)),.val (.int (0:Int32)),.val (.ref o0),.val (.int ((pl.toUInt32>>>((6:Int32)&&&31).toUInt32).toInt32)),.val (.int ((ph.toUInt32>>>((6:Int32)&&&31).toUInt32).toInt32))] [(.int (1:Int32))])) _
        obtain ⟨fs, hr, hrun, hended, hW, hsame⟩ := X7.leave (v := some (.int (1:Int32))) (fun h => by rw [Bd.returns] at h; cases h)
        refine ⟨_, _, retN X7 hx (t := .boolean) Bd.returns (by simp) (hb hby d4_108) hr, hrun, hended, _, _, rfl, ?_, ⟨_, rfl⟩, hW, hsame.mono (by decide) (by decide)⟩
        show Q4d1 Z oa pl ph ol o0 gx wx nl nh h0 n0 _ T7.heap _
        rw [e7]
        exact ⟨(by rw [fn4d1, if_neg hc2, if_neg hc3, if_neg hc8]), N7, rfl⟩
theorem d8_0 : decode prog_96_method_3_code 0 = .ok (.aload_n 0, 1) := by decide +kernel
theorem d8_1 : decode prog_96_method_3_code 1 = .ok (.getfield 9, 3) := by decide +kernel
theorem d8_4 : decode prog_96_method_3_code 4 = .ok (.iconst 0, 1) := by decide +kernel
theorem d8_5 : decode prog_96_method_3_code 5 = .ok (.aaload, 1) := by decide +kernel
theorem d8_6 : decode prog_96_method_3_code 6 = .ok (.iload_n 1, 1) := by decide +kernel
theorem d8_7 : decode prog_96_method_3_code 7 = .ok (.bipush 6, 2) := by decide +kernel
theorem d8_9 : decode prog_96_method_3_code 9 = .ok (.iushr, 1) := by decide +kernel
theorem d8_10 : decode prog_96_method_3_code 10 = .ok (.laload, 1) := by decide +kernel
theorem d8_11 : decode prog_96_method_3_code 11 = .ok (.iload_n 1, 1) := by decide +kernel
theorem d8_12 : decode prog_96_method_3_code 12 = .ok (.lushr, 1) := by decide +kernel
theorem d8_13 : decode prog_96_method_3_code 13 = .ok (.lconst 1, 1) := by decide +kernel
theorem d8_14 : decode prog_96_method_3_code 14 = .ok (.land, 1) := by decide +kernel
theorem d8_15 : decode prog_96_method_3_code 15 = .ok (.lconst 0, 1) := by decide +kernel
theorem d8_16 : decode prog_96_method_3_code 16 = .ok (.lcmp, 1) := by decide +kernel
theorem d8_17 : decode prog_96_method_3_code 17 = .ok (.ifCond .eq 7, 3) := by decide +kernel
theorem d8_24 : decode prog_96_method_3_code 24 = .ok (.iconst 0, 1) := by decide +kernel
theorem d8_25 : decode prog_96_method_3_code 25 = .ok (.ireturn, 1) := by decide +kernel
theorem d8_20 : decode prog_96_method_3_code 20 = .ok (.iconst 1, 1) := by decide +kernel
theorem d8_21 : decode prog_96_method_3_code 21 = .ok (.goto 4, 3) := by decide +kernel
def fn8d1 (pn : Int32) (gx : Nat → Int64) (wx : Nat) (nn : Nat) : Int32 := (if ((((gx (nn / 64)).toUInt64>>>(pn&&&0x3f).toInt64.toUInt64).toInt64)&&&(1:Int64)) = (0:Int64) then (0:Int32) else (1:Int32))
theorem ef8d1 (m : MethodId) (oa : Addr) (pn : Int32) : entryFrame m #[(.ref oa), (.int pn)] 2 = mkF m 0 #[.val (.ref oa),.val (.int pn)] [] := by first | (simp [entryFrame, mkF, argsToLocals, Value.category]; done) | rfl
def Q8d1 (Z : State) (oa : Addr) (pn : Int32) (ol : Addr) (o0 : Addr) (gx : Nat → Int64) (wx : Nat) (nn : Nat) (h0 : Heap) (n0 : Nat) (v : Option Value) (h : Heap) (L : List Loc) : Prop := v = some (.int (fn8d1 pn gx wx nn)) ∧ Fr n0 L ∧ h = h0
set_option maxRecDepth 65536 in
set_option maxHeartbeats 40000000 in
theorem rm8d1 (l : Launch) (Z : State) (a0 : Array Value) (hw : ∀ d ∈ tables_1, d.before a0 Z = true) (ws : List Jvm.Cond) (oa : Addr) (pn : Int32) (ol : Addr) (o0 : Addr) (gx : Nat → Int64) (wx : Nat) (nn : Nat) (h0 : Heap) (n0 : Nat) (Z0 : n0 ≤ h0.size) (F_oa_levels : Fld Z h0 oa "com/example/xml_graph_join/xmlgraphjoin/topo/BitLevels" "levels" "[[J" (.ref ol)) (A_ol : Ar Z h0 ol (.array .long) 1 (up (fun _ => .null) 0 (.ref o0))) (A_o0 : AJ Z h0 o0 wx gx) (hj : pn.toInt = (nn : Int)) (hw0 : nn / 64 < wx) :
    MetFree l (⟨"com/example/xml_graph_join/xmlgraphjoin/topo/BitLevels", "contains", "(I)Z"⟩ : MethodName) (head1 (Jvm.Cond.code (⟨"com/example/xml_graph_join/xmlgraphjoin/topo/BitLevels", "contains", "(I)Z"⟩ : MethodName) prog_96_method_3_code 2 (some .boolean) :: ws) ({ frames := 0, cells := 0, slots := 0, locals := 0 } : Room)) (fun a U => a = #[(.ref oa), (.int pn)] ∧ Z.Warmed39 U.vm ∧ U.heap = h0) (fun _ _ _ _ _ => True) (fun _ U o U' => ∃ v L, o = .returned v ∧ Q8d1 Z oa pn ol o0 gx wx nn h0 n0 v U'.heap L ∧ FrameEnd U o U' L ({ frames := 0, cells := 0, slots := 0, locals := 0 } : Room).cells ({ frames := 0, cells := 0, slots := 0, locals := 0 } : Room).slots) := by
  refine MetFree.of_bodySF (plainFor_of_name pn_0) hisR ?_
  intro p e s m args below meth c s₁ Bd hml0 hP hK
  obtain ⟨rfl, hZ, hh⟩ := hP
  have hx := Bd.exec
  have hby := Bd.bytes
  have hml : c.maxLocals = 2 := hml0
  have hown : s.vm.findClass "com/example/xml_graph_join/xmlgraphjoin/topo/BitLevels" = some m.cls := findClass_of_methodNamed Bd.named
  have hnm := (name_of_methodNamed Bd.named Bd.method).1
  have X0 : Stand p l e ({ frames := 0, cells := 0, slots := 0, locals := 0 } : Room) s m #[(.ref oa), (.int pn)] below meth c s₁ [] 0 0 := Stand.of_body Bd
  have e0 : s₁.heap = h0 := by rw [← hh, Bd.state]; rfl
  have N0 := Fr.nil n0
  refine Goes.by (fun _ k => castTop (ef8d1 m oa pn) k) ?_
  show Goes p.tables e below (s₁.setTop (mkF m 0 #[.val (.ref oa),.val (.int pn)] [])) _
  refine Goes.by (fun _ k => XS.aloadN X0.here hx rfl (hb hby d8_0) rfl rfl k) ?_
  show Goes p.tables e below (s₁.setTop (mkF m 1 #[.val (.ref oa),.val (.int pn)] [(.ref oa)])) _
  obtain ⟨T1, X1, e1, st1⟩ := getF X0 hx hZ hown (host := "") (Or.inl (hw _ (List.mem_of_getElem? (i := 12) rfl))) Via.refl e0 F_oa_levels (g := (mkF m 1 #[.val (.ref oa),.val (.int pn)] [(.ref oa)])) rfl rfl (hb hby d8_1)
  refine Goes.by st1 ?_
  show Goes p.tables e below (T1.setTop (mkF m 4 #[.val (.ref oa),.val (.int pn)] [(.ref ol)])) _
  refine Goes.by (fun _ k => XS.iconst X1.here hx rfl (hb hby d8_4) k) ?_
  show Goes p.tables e below (T1.setTop (mkF m 5 #[.val (.ref oa),.val (.int pn)] [(.int (0:Int32)), (.ref ol)])) _
  refine Goes.by (fun _ k => ldR (v := (.ref o0)) (fr := (mkF m 5 #[.val (.ref oa),.val (.int pn)] [(.int (0:Int32)), (.ref ol)])) X1 hx hZ e1 A_ol rfl (i := 0) (by decide) (by decide) rfl rfl rfl (hb hby d8_5) k) ?_
  show Goes p.tables e below (T1.setTop (mkF m 6 #[.val (.ref oa),.val (.int pn)] [(.ref o0)])) _
  refine Goes.by (fun _ k => XS.iloadN X1.here hx rfl (hb hby d8_6) rfl k) ?_
  show Goes p.tables e below (T1.setTop (mkF m 7 #[.val (.ref oa),.val (.int pn)] [(.int pn), (.ref o0)])) _
  refine Goes.by (fun _ k => XS.bipush X1.here hx rfl (hb hby d8_7) k) ?_
  show Goes p.tables e below (T1.setTop (mkF m 9 #[.val (.ref oa),.val (.int pn)] [(.int (6:Int32)), (.int pn), (.ref o0)])) _
  refine Goes.by (fun _ k => XS.iushr X1.here hx rfl (hb hby d8_9) rfl k) ?_
  show Goes p.tables e below (T1.setTop (mkF m 10 #[.val (.ref oa),.val (.int pn)] [(.int ((pn.toUInt32>>>((6:Int32)&&&31).toUInt32).toInt32)), (.ref o0)])) _
  refine Goes.by (fun _ k => ldJ (v := (gx (nn / 64))) (fr := (mkF m 10 #[.val (.ref oa),.val (.int pn)] [(.int ((pn.toUInt32>>>((6:Int32)&&&31).toUInt32).toInt32)), (.ref o0)])) X1 hx hZ e1 A_o0 (i := (nn / 64)) (own_sh6 _ _ hj) hw0 rfl rfl rfl (hb hby d8_10) k) ?_
  show Goes p.tables e below (T1.setTop (mkF m 11 #[.val (.ref oa),.val (.int pn)] [(.long (gx (nn / 64)))])) _
  refine Goes.by (fun _ k => XS.iloadN X1.here hx rfl (hb hby d8_11) rfl k) ?_
  show Goes p.tables e below (T1.setTop (mkF m 12 #[.val (.ref oa),.val (.int pn)] [(.int pn), (.long (gx (nn / 64)))])) _
  refine Goes.by (fun _ k => XS.lushr X1.here hx rfl (hb hby d8_12) rfl k) ?_
  show Goes p.tables e below (T1.setTop (mkF m 13 #[.val (.ref oa),.val (.int pn)] [(.long (((gx (nn / 64)).toUInt64>>>(pn&&&0x3f).toInt64.toUInt64).toInt64))])) _
  refine Goes.by (fun _ k => XS.lconst X1.here hx rfl (hb hby d8_13) k) ?_
  show Goes p.tables e below (T1.setTop (mkF m 14 #[.val (.ref oa),.val (.int pn)] [(.long (1:Int64)), (.long (((gx (nn / 64)).toUInt64>>>(pn&&&0x3f).toInt64.toUInt64).toInt64))])) _
  refine Goes.by (fun _ k => XS.land X1.here hx rfl (hb hby d8_14) rfl k) ?_
  show Goes p.tables e below (T1.setTop (mkF m 15 #[.val (.ref oa),.val (.int pn)] [(.long ((((gx (nn / 64)).toUInt64>>>(pn&&&0x3f).toInt64.toUInt64).toInt64)&&&(1:Int64)))])) _
  refine Goes.by (fun _ k => XS.lconst X1.here hx rfl (hb hby d8_15) k) ?_
  show Goes p.tables e below (T1.setTop (mkF m 16 #[.val (.ref oa),.val (.int pn)] [(.long (0:Int64)), (.long ((((gx (nn / 64)).toUInt64>>>(pn&&&0x3f).toInt64.toUInt64).toInt64)&&&(1:Int64)))])) _
  refine Goes.by (fun _ k => XS.lcmp X1.here hx rfl (hb hby d8_16) rfl k) ?_
  show Goes p.tables e below (T1.setTop (mkF m 17 #[.val (.ref oa),.val (.int pn)] [(.int (lcmpW ((((gx (nn / 64)).toUInt64>>>(pn&&&0x3f).toInt64.toUInt64).toInt64)&&&(1:Int64)) (0:Int64)))])) _
  by_cases hc2 : ((((gx (nn / 64)).toUInt64>>>(pn&&&0x3f).toInt64.toUInt64).toInt64)&&&(1:Int64)) = (0:Int64)
  · refine Goes.by (fun _ k => XS.ifYes X1.here hx rfl (pc0 := 17) (pc' := 24) rfl (hb hby d8_17) rfl (je_t hc2).1 (by decide) (by decide) k) ?_
    show Goes p.tables e below (T1.setTop (mkF m 24 #[.val (.ref oa),.val (.int pn)] [])) _
    refine Goes.by (fun _ k => XS.iconst X1.here hx rfl (hb hby d8_24) k) ?_
    show Goes p.tables e below (T1.setTop (mkF m 25 #[.val (.ref oa),.val (.int pn)] [(.int (0:Int32))])) _
    obtain ⟨fs, hr, hrun, hended, hW, hsame⟩ := X1.leave (v := some (.int (0:Int32))) (fun h => by rw [Bd.returns] at h; cases h)
    refine ⟨_, _, retN X1 hx (t := .boolean) Bd.returns (by simp) (hb hby d8_25) hr, hrun, hended, _, _, rfl, ?_, ⟨_, rfl⟩, hW, hsame.mono (by decide) (by decide)⟩
    show Q8d1 Z oa pn ol o0 gx wx nn h0 n0 _ T1.heap _
    rw [e1]
    exact ⟨(by rw [fn8d1, if_pos hc2]), N0, rfl⟩
  · refine Goes.by (fun _ k => XS.ifNo X1.here hx rfl (hb hby d8_17) rfl (je_f hc2).1 k) ?_
    show Goes p.tables e below (T1.setTop (mkF m 20 #[.val (.ref oa),.val (.int pn)] [])) _
    refine Goes.by (fun _ k => XS.iconst X1.here hx rfl (hb hby d8_20) k) ?_
    show Goes p.tables e below (T1.setTop (mkF m 21 #[.val (.ref oa),.val (.int pn)] [(.int (1:Int32))])) _
    refine Goes.by (fun _ k => XS.goto X1.here hx rfl (pc0 := 21) (pc' := 25) rfl (hb hby d8_21) (by decide) (by decide) k) ?_
    show Goes p.tables e below (T1.setTop (mkF m 25 #[.val (.ref oa),.val (.int pn)] [(.int (1:Int32))])) _
    obtain ⟨fs, hr, hrun, hended, hW, hsame⟩ := X1.leave (v := some (.int (1:Int32))) (fun h => by rw [Bd.returns] at h; cases h)
    refine ⟨_, _, retN X1 hx (t := .boolean) Bd.returns (by simp) (hb hby d8_25) hr, hrun, hended, _, _, rfl, ?_, ⟨_, rfl⟩, hW, hsame.mono (by decide) (by decide)⟩
    show Q8d1 Z oa pn ol o0 gx wx nn h0 n0 _ T1.heap _
    rw [e1]
    exact ⟨(by rw [fn8d1, if_neg hc2]), N0, rfl⟩
theorem ef3d2 (m : MethodId) (oa : Addr) (pn : Int32) : entryFrame m #[(.ref oa), (.int pn)] 8 = mkF m 0 #[.val (.ref oa),.val (.int pn),.unset,.unset,.unset,.unset,.unset,.unset] [] := by first | (simp [entryFrame, mkF, argsToLocals, Value.category]; done) | rfl
def Q3d2 (Z : State) (oa : Addr) (pn : Int32) (ol : Addr) (o0 : Addr) (o1 : Addr) (gx : Nat → Int64) (gy : Nat → Int64) (wx : Nat) (wy : Nat) (nn : Nat) (h0 : Heap) (n0 : Nat) (v : Option Value) (h : Heap) (L : List Loc) : Prop := v = none ∧ Fr n0 L ∧ Keep h0 h [o0, o1] ∧ Fld Z h oa "com/example/xml_graph_join/xmlgraphjoin/topo/BitLevels" "levels" "[[J" (.ref ol) ∧ Ar Z h ol (.array .long) 2 (up (up (fun _ => .null) 0 (.ref o0)) 1 (.ref o1)) ∧ AJ Z h o0 wx (up gx (nn / 64) (((gx (nn / 64))) ||| (oneB pn))) ∧ AJ Z h o1 wy (if (gx (nn / 64)) = (0:Int64) then (up gy (nn / 64 / 64) (((gy (nn / 64 / 64))) ||| (oneB ((pn.toUInt32>>>((6:Int32)&&&31).toUInt32).toInt32)))) else gy)
set_option maxRecDepth 65536 in
set_option maxHeartbeats 40000000 in
theorem rm3d2 (l : Launch) (Z : State) (a0 : Array Value) (hw : ∀ d ∈ tables_1, d.before a0 Z = true) (ws : List Jvm.Cond) (oa : Addr) (pn : Int32) (ol : Addr) (o0 : Addr) (o1 : Addr) (gx : Nat → Int64) (gy : Nat → Int64) (wx : Nat) (wy : Nat) (nn : Nat) (h0 : Heap) (n0 : Nat) (Z0 : n0 ≤ h0.size) (F_oa_levels : Fld Z h0 oa "com/example/xml_graph_join/xmlgraphjoin/topo/BitLevels" "levels" "[[J" (.ref ol)) (A_ol : Ar Z h0 ol (.array .long) 2 (up (up (fun _ => .null) 0 (.ref o0)) 1 (.ref o1))) (A_o0 : AJ Z h0 o0 wx gx) (A_o1 : AJ Z h0 o1 wy gy) (hj : pn.toInt = (nn : Int)) (hw0 : nn / 64 < wx) (hw1 : nn / 64 / 64 < wy) (ne_oa_o0 : oa ≠ o0) (ne_oa_o1 : oa ≠ o1) (ne_ol_o0 : ol ≠ o0) (ne_ol_o1 : ol ≠ o1) (ne_o0_o1 : o0 ≠ o1) (g_o0 : n0 ≤ o0) (g_o1 : n0 ≤ o1) :
    MetFree l (⟨"com/example/xml_graph_join/xmlgraphjoin/topo/BitLevels", "add", "(I)V"⟩ : MethodName) (head1 (Jvm.Cond.code (⟨"com/example/xml_graph_join/xmlgraphjoin/topo/BitLevels", "add", "(I)V"⟩ : MethodName) prog_96_method_2_code 8 none :: ws) ({ frames := 0, cells := 0, slots := 0, locals := 0 } : Room)) (fun a U => a = #[(.ref oa), (.int pn)] ∧ Z.Warmed39 U.vm ∧ U.heap = h0) (fun _ _ _ _ _ => True) (fun _ U o U' => ∃ v L, o = .returned v ∧ Q3d2 Z oa pn ol o0 o1 gx gy wx wy nn h0 n0 v U'.heap L ∧ FrameEnd U o U' L ({ frames := 0, cells := 0, slots := 0, locals := 0 } : Room).cells ({ frames := 0, cells := 0, slots := 0, locals := 0 } : Room).slots) := by
  refine MetFree.of_bodySF (plainFor_of_name pn_0) hisR ?_
  intro p e s m args below meth c s₁ Bd hml0 hP hK
  obtain ⟨rfl, hZ, hh⟩ := hP
  have hx := Bd.exec
  have hby := Bd.bytes
  have hml : c.maxLocals = 8 := hml0
  have hown : s.vm.findClass "com/example/xml_graph_join/xmlgraphjoin/topo/BitLevels" = some m.cls := findClass_of_methodNamed Bd.named
  have hnm := (name_of_methodNamed Bd.named Bd.method).1
  have X0 : Stand p l e ({ frames := 0, cells := 0, slots := 0, locals := 0 } : Room) s m #[(.ref oa), (.int pn)] below meth c s₁ [] 0 0 := Stand.of_body Bd
  have e0 : s₁.heap = h0 := by rw [← hh, Bd.state]; rfl
  have N0 := Fr.nil n0
  refine Goes.by (fun _ k => castTop (ef3d2 m oa pn) k) ?_
  show Goes p.tables e below (s₁.setTop (mkF m 0 #[.val (.ref oa),.val (.int pn),.unset,.unset,.unset,.unset,.unset,.unset] [])) _
  refine Goes.by (fun _ k => XS.aloadN X0.here hx rfl (hb hby d3_0) rfl rfl k) ?_
  show Goes p.tables e below (s₁.setTop (mkF m 1 #[.val (.ref oa),.val (.int pn),.unset,.unset,.unset,.unset,.unset,.unset] [(.ref oa)])) _
  obtain ⟨T1, X1, e1, st1⟩ := getF X0 hx hZ hown (host := "") (Or.inl (hw _ (List.mem_of_getElem? (i := 12) rfl))) Via.refl e0 F_oa_levels (g := (mkF m 1 #[.val (.ref oa),.val (.int pn),.unset,.unset,.unset,.unset,.unset,.unset] [(.ref oa)])) rfl rfl (hb hby d3_1)
  refine Goes.by st1 ?_
  show Goes p.tables e below (T1.setTop (mkF m 4 #[.val (.ref oa),.val (.int pn),.unset,.unset,.unset,.unset,.unset,.unset] [(.ref ol)])) _
  refine Goes.by (fun _ k => XS.astoreN X1.here hx rfl (hb hby d3_4) rfl rfl (l' := #[.val (.ref oa),.val (.int pn),.val (.ref ol),.unset,.unset,.unset,.unset,.unset]) rfl k) ?_
  show Goes p.tables e below (T1.setTop (mkF m 5 #[.val (.ref oa),.val (.int pn),.val (.ref ol),.unset,.unset,.unset,.unset,.unset] [])) _
  refine Goes.by (fun _ k => XS.aloadN X1.here hx rfl (hb hby d3_5) rfl rfl k) ?_
  show Goes p.tables e below (T1.setTop (mkF m 6 #[.val (.ref oa),.val (.int pn),.val (.ref ol),.unset,.unset,.unset,.unset,.unset] [(.ref ol)])) _
  refine Goes.by (fun _ k => alen (z := (2:Int32)) (fr := (mkF m 6 #[.val (.ref oa),.val (.int pn),.val (.ref ol),.unset,.unset,.unset,.unset,.unset] [(.ref ol)])) X1 hx hZ e1 A_ol (by decide) rfl rfl (hb hby d3_6) k) ?_
  show Goes p.tables e below (T1.setTop (mkF m 7 #[.val (.ref oa),.val (.int pn),.val (.ref ol),.unset,.unset,.unset,.unset,.unset] [(.int (2:Int32))])) _
  refine Goes.by (fun _ k => XS.istoreN X1.here hx rfl (hb hby d3_7) rfl (l' := #[.val (.ref oa),.val (.int pn),.val (.ref ol),.val (.int (2:Int32)),.unset,.unset,.unset,.unset]) rfl k) ?_
  show Goes p.tables e below (T1.setTop (mkF m 8 #[.val (.ref oa),.val (.int pn),.val (.ref ol),.val (.int (2:Int32)),.unset,.unset,.unset,.unset] [])) _
  refine Goes.by (fun _ k => XS.iconst X1.here hx rfl (hb hby d3_8) k) ?_
  show Goes p.tables e below (T1.setTop (mkF m 9 #[.val (.ref oa),.val (.int pn),.val (.ref ol),.val (.int (2:Int32)),.unset,.unset,.unset,.unset] [(.int (0:Int32))])) _
  refine Goes.by (fun _ k => XS.istore X1.here hx rfl (hb hby d3_9) rfl (l' := #[.val (.ref oa),.val (.int pn),.val (.ref ol),.val (.int (2:Int32)),.val (.int (0:Int32)),.unset,.unset,.unset]) rfl k) ?_
  show Goes p.tables e below (T1.setTop (mkF m 11 #[.val (.ref oa),.val (.int pn),.val (.ref ol),.val (.int (2:Int32)),.val (.int (0:Int32)),.unset,.unset,.unset] [])) _
  refine Goes.by (fun _ k => XS.iload X1.here hx rfl (hb hby d3_11) rfl k) ?_
  show Goes p.tables e below (T1.setTop (mkF m 13 #[.val (.ref oa),.val (.int pn),.val (.ref ol),.val (.int (2:Int32)),.val (.int (0:Int32)),.unset,.unset,.unset] [(.int (0:Int32))])) _
  refine Goes.by (fun _ k => XS.iloadN X1.here hx rfl (hb hby d3_13) rfl k) ?_
  show Goes p.tables e below (T1.setTop (mkF m 14 #[.val (.ref oa),.val (.int pn),.val (.ref ol),.val (.int (2:Int32)),.val (.int (0:Int32)),.unset,.unset,.unset] [(.int (2:Int32)), (.int (0:Int32))])) _
  refine Goes.by (fun _ k => XS.icmpNo X1.here hx rfl (hb hby d3_14) rfl (tlt (by decide : (0:Int32) < (2:Int32))).2.1 k) ?_
  show Goes p.tables e below (T1.setTop (mkF m 17 #[.val (.ref oa),.val (.int pn),.val (.ref ol),.val (.int (2:Int32)),.val (.int (0:Int32)),.unset,.unset,.unset] [])) _
  refine Goes.by (fun _ k => XS.aloadN X1.here hx rfl (hb hby d3_17) rfl rfl k) ?_
  show Goes p.tables e below (T1.setTop (mkF m 18 #[.val (.ref oa),.val (.int pn),.val (.ref ol),.val (.int (2:Int32)),.val (.int (0:Int32)),.unset,.unset,.unset] [(.ref ol)])) _
  refine Goes.by (fun _ k => XS.iload X1.here hx rfl (hb hby d3_18) rfl k) ?_
  show Goes p.tables e below (T1.setTop (mkF m 20 #[.val (.ref oa),.val (.int pn),.val (.ref ol),.val (.int (2:Int32)),.val (.int (0:Int32)),.unset,.unset,.unset] [(.int (0:Int32)), (.ref ol)])) _
  refine Goes.by (fun _ k => ldR (v := (.ref o0)) (fr := (mkF m 20 #[.val (.ref oa),.val (.int pn),.val (.ref ol),.val (.int (2:Int32)),.val (.int (0:Int32)),.unset,.unset,.unset] [(.int (0:Int32)), (.ref ol)])) X1 hx hZ e1 A_ol rfl (i := 0) (by decide) (by decide) rfl rfl rfl (hb hby d3_20) k) ?_
  show Goes p.tables e below (T1.setTop (mkF m 21 #[.val (.ref oa),.val (.int pn),.val (.ref ol),.val (.int (2:Int32)),.val (.int (0:Int32)),.unset,.unset,.unset] [(.ref o0)])) _
  refine Goes.by (fun _ k => XS.astore X1.here hx rfl (hb hby d3_21) rfl rfl (l' := #[.val (.ref oa),.val (.int pn),.val (.ref ol),.val (.int (2:Int32)),.val (.int (0:Int32)),.val (.ref o0),.unset,.unset]) rfl k) ?_
  show Goes p.tables e below (T1.setTop (mkF m 23 #[.val (.ref oa),.val (.int pn),.val (.ref ol),.val (.int (2:Int32)),.val (.int (0:Int32)),.val (.ref o0),.unset,.unset] [])) _
  refine Goes.by (fun _ k => XS.aload X1.here hx rfl (hb hby d3_23) rfl rfl k) ?_
  show Goes p.tables e below (T1.setTop (mkF m 25 #[.val (.ref oa),.val (.int pn),.val (.ref ol),.val (.int (2:Int32)),.val (.int (0:Int32)),.val (.ref o0),.unset,.unset] [(.ref o0)])) _
  refine Goes.by (fun _ k => XS.iloadN X1.here hx rfl (hb hby d3_25) rfl k) ?_
  show Goes p.tables e below (T1.setTop (mkF m 26 #[.val (.ref oa),.val (.int pn),.val (.ref ol),.val (.int (2:Int32)),.val (.int (0:Int32)),.val (.ref o0),.unset,.unset] [(.int pn), (.ref o0)])) _
  refine Goes.by (fun _ k => XS.bipush X1.here hx rfl (hb hby d3_26) k) ?_
  show Goes p.tables e below (T1.setTop (mkF m 28 #[.val (.ref oa),.val (.int pn),.val (.ref ol),.val (.int (2:Int32)),.val (.int (0:Int32)),.val (.ref o0),.unset,.unset] [(.int (6:Int32)), (.int pn), (.ref o0)])) _
  refine Goes.by (fun _ k => XS.iushr X1.here hx rfl (hb hby d3_28) rfl k) ?_
  show Goes p.tables e below (T1.setTop (mkF m 29 #[.val (.ref oa),.val (.int pn),.val (.ref ol),.val (.int (2:Int32)),.val (.int (0:Int32)),.val (.ref o0),.unset,.unset] [(.int ((pn.toUInt32>>>((6:Int32)&&&31).toUInt32).toInt32)), (.ref o0)])) _
  refine Goes.by (fun _ k => ldJ (v := (gx (nn / 64))) (fr := (mkF m 29 #[.val (.ref oa),.val (.int pn),.val (.ref ol),.val (.int (2:Int32)),.val (.int (0:Int32)),.val (.ref o0),.unset,.unset] [(.int ((pn.toUInt32>>>((6:Int32)&&&31).toUInt32).toInt32)), (.ref o0)])) X1 hx hZ e1 A_o0 (i := (nn / 64)) (own_sh6 _ _ hj) hw0 rfl rfl rfl (hb hby d3_29) k) ?_
  show Goes p.tables e below (T1.setTop (mkF m 30 #[.val (.ref oa),.val (.int pn),.val (.ref ol),.val (.int (2:Int32)),.val (.int (0:Int32)),.val (.ref o0),.unset,.unset] [(.long (gx (nn / 64)))])) _
  refine Goes.by (fun _ k => XS.lstore X1.here hx rfl (hb hby d3_30) rfl (l' := #[.val (.ref oa),.val (.int pn),.val (.ref ol),.val (.int (2:Int32)),.val (.int (0:Int32)),.val (.ref o0),.val (.long (gx (nn / 64))),.second]) rfl k) ?_
  show Goes p.tables e below (T1.setTop (mkF m 32 #[.val (.ref oa),.val (.int pn),.val (.ref ol),.val (.int (2:Int32)),.val (.int (0:Int32)),.val (.ref o0),.val (.long (gx (nn / 64))),.second] [])) _
  refine Goes.by (fun _ k => XS.aload X1.here hx rfl (hb hby d3_32) rfl rfl k) ?_
  show Goes p.tables e below (T1.setTop (mkF m 34 #[.val (.ref oa),.val (.int pn),.val (.ref ol),.val (.int (2:Int32)),.val (.int (0:Int32)),.val (.ref o0),.val (.long (gx (nn / 64))),.second] [(.ref o0)])) _
  refine Goes.by (fun _ k => XS.iloadN X1.here hx rfl (hb hby d3_34) rfl k) ?_
  show Goes p.tables e below (T1.setTop (mkF m 35 #[.val (.ref oa),.val (.int pn),.val (.ref ol),.val (.int (2:Int32)),.val (.int (0:Int32)),.val (.ref o0),.val (.long (gx (nn / 64))),.second] [(.int pn), (.ref o0)])) _
  refine Goes.by (fun _ k => XS.bipush X1.here hx rfl (hb hby d3_35) k) ?_
  show Goes p.tables e below (T1.setTop (mkF m 37 #[.val (.ref oa),.val (.int pn),.val (.ref ol),.val (.int (2:Int32)),.val (.int (0:Int32)),.val (.ref o0),.val (.long (gx (nn / 64))),.second] [(.int (6:Int32)), (.int pn), (.ref o0)])) _
  refine Goes.by (fun _ k => XS.iushr X1.here hx rfl (hb hby d3_37) rfl k) ?_
  show Goes p.tables e below (T1.setTop (mkF m 38 #[.val (.ref oa),.val (.int pn),.val (.ref ol),.val (.int (2:Int32)),.val (.int (0:Int32)),.val (.ref o0),.val (.long (gx (nn / 64))),.second] [(.int ((pn.toUInt32>>>((6:Int32)&&&31).toUInt32).toInt32)), (.ref o0)])) _
  refine Goes.by (fun _ k => XS.lload X1.here hx rfl (hb hby d3_38) rfl k) ?_
  show Goes p.tables e below (T1.setTop (mkF m 40 #[.val (.ref oa),.val (.int pn),.val (.ref ol),.val (.int (2:Int32)),.val (.int (0:Int32)),.val (.ref o0),.val (.long (gx (nn / 64))),.second] [(.long (gx (nn / 64))), (.int ((pn.toUInt32>>>((6:Int32)&&&31).toUInt32).toInt32)), (.ref o0)])) _
  refine Goes.by (fun _ k => XS.lconst X1.here hx rfl (hb hby d3_40) k) ?_
  show Goes p.tables e below (T1.setTop (mkF m 41 #[.val (.ref oa),.val (.int pn),.val (.ref ol),.val (.int (2:Int32)),.val (.int (0:Int32)),.val (.ref o0),.val (.long (gx (nn / 64))),.second] [(.long (1:Int64)), (.long (gx (nn / 64))), (.int ((pn.toUInt32>>>((6:Int32)&&&31).toUInt32).toInt32)), (.ref o0)])) _
  refine Goes.by (fun _ k => XS.iloadN X1.here hx rfl (hb hby d3_41) rfl k) ?_
  show Goes p.tables e below (T1.setTop (mkF m 42 #[.val (.ref oa),.val (.int pn),.val (.ref ol),.val (.int (2:Int32)),.val (.int (0:Int32)),.val (.ref o0),.val (.long (gx (nn / 64))),.second] [(.int pn), (.long (1:Int64)), (.long (gx (nn / 64))), (.int ((pn.toUInt32>>>((6:Int32)&&&31).toUInt32).toInt32)), (.ref o0)])) _
  refine Goes.by (fun _ k => XS.lshl X1.here hx rfl (hb hby d3_42) rfl k) ?_
  show Goes p.tables e below (T1.setTop (mkF m 43 #[.val (.ref oa),.val (.int pn),.val (.ref ol),.val (.int (2:Int32)),.val (.int (0:Int32)),.val (.ref o0),.val (.long (gx (nn / 64))),.second] [(.long ((1:Int64) <<< (pn&&&0x3f).toInt64)), (.long (gx (nn / 64))), (.int ((pn.toUInt32>>>((6:Int32)&&&31).toUInt32).toInt32)), (.ref o0)])) _
  refine Goes.by (fun _ k => XS.lor X1.here hx rfl (hb hby d3_43) rfl k) ?_
  show Goes p.tables e below (T1.setTop (mkF m 44 #[.val (.ref oa),.val (.int pn),.val (.ref ol),.val (.int (2:Int32)),.val (.int (0:Int32)),.val (.ref o0),.val (.long (gx (nn / 64))),.second] [(.long ((gx (nn / 64)) ||| ((1:Int64) <<< (pn&&&0x3f).toInt64))), (.int ((pn.toUInt32>>>((6:Int32)&&&31).toUInt32).toInt32)), (.ref o0)])) _
  obtain ⟨T2, h2, X2, e2, W2, A2, st2⟩ := stAJ (fr := (mkF m 44 #[.val (.ref oa),.val (.int pn),.val (.ref ol),.val (.int (2:Int32)),.val (.int (0:Int32)),.val (.ref o0),.val (.long (gx (nn / 64))),.second] [(.long ((gx (nn / 64)) ||| ((1:Int64) <<< (pn&&&0x3f).toInt64))), (.int ((pn.toUInt32>>>((6:Int32)&&&31).toUInt32).toInt32)), (.ref o0)])) X1 hx hZ e1 A_o0 (i := (nn / 64)) (own_sh6 _ _ hj) hw0 rfl rfl (hb hby d3_44)
  refine Goes.by st2 ?_
  have A_o0 : AJ Z h2 o0 wx (up gx (nn / 64) ((gx (nn / 64)) ||| ((1:Int64) <<< (pn&&&0x3f).toInt64))) := A2
  have N2 := Fr.snoc X2 N0 g_o0
  have Zs2 : n0 ≤ h2.size := Nat.le_trans Z0 (Keep.of_wr W2).1
  have K2 : Keep h0 h2 [o0, o1] := (Keep.refl h0 [o0, o1]).wr W2 (Or.inl (List.mem_of_getElem? (i := 0) rfl))
  have F_oa_levels : Fld Z h2 oa "com/example/xml_graph_join/xmlgraphjoin/topo/BitLevels" "levels" "[[J" (.ref ol) := F_oa_levels.other W2 (Or.inl ne_oa_o0)
  have A_ol : Ar Z h2 ol (.array .long) 2 (up (up (fun _ => .null) 0 (.ref o0)) 1 (.ref o1)) := A_ol.other W2 ne_ol_o0
  have A_o1 : AJ Z h2 o1 wy gy := A_o1.other W2 (Ne.symm ne_o0_o1)
  show Goes p.tables e below (T2.setTop (mkF m 45 #[.val (.ref oa),.val (.int pn),.val (.ref ol),.val (.int (2:Int32)),.val (.int (0:Int32)),.val (.ref o0),.val (.long (gx (nn / 64))),.second] [])) _
  refine Goes.by (fun _ k => XS.lload X2.here hx rfl (hb hby d3_45) rfl k) ?_
  show Goes p.tables e below (T2.setTop (mkF m 47 #[.val (.ref oa),.val (.int pn),.val (.ref ol),.val (.int (2:Int32)),.val (.int (0:Int32)),.val (.ref o0),.val (.long (gx (nn / 64))),.second] [(.long (gx (nn / 64)))])) _
  refine Goes.by (fun _ k => XS.lconst X2.here hx rfl (hb hby d3_47) k) ?_
  show Goes p.tables e below (T2.setTop (mkF m 48 #[.val (.ref oa),.val (.int pn),.val (.ref ol),.val (.int (2:Int32)),.val (.int (0:Int32)),.val (.ref o0),.val (.long (gx (nn / 64))),.second] [(.long (0:Int64)), (.long (gx (nn / 64)))])) _
  refine Goes.by (fun _ k => XS.lcmp X2.here hx rfl (hb hby d3_48) rfl k) ?_
  show Goes p.tables e below (T2.setTop (mkF m 49 #[.val (.ref oa),.val (.int pn),.val (.ref ol),.val (.int (2:Int32)),.val (.int (0:Int32)),.val (.ref o0),.val (.long (gx (nn / 64))),.second] [(.int (lcmpW (gx (nn / 64)) (0:Int64)))])) _
  by_cases hc3 : (gx (nn / 64)) = (0:Int64)
  · refine Goes.by (fun _ k => XS.ifYes X2.here hx rfl (pc0 := 49) (pc' := 53) rfl (hb hby d3_49) rfl (je_t hc3).1 (by decide) (by decide) k) ?_
    show Goes p.tables e below (T2.setTop (mkF m 53 #[.val (.ref oa),.val (.int pn),.val (.ref ol),.val (.int (2:Int32)),.val (.int (0:Int32)),.val (.ref o0),.val (.long (gx (nn / 64))),.second] [])) _
    refine Goes.by (fun _ k => XS.iloadN X2.here hx rfl (hb hby d3_53) rfl k) ?_
    show Goes p.tables e below (T2.setTop (mkF m 54 #[.val (.ref oa),.val (.int pn),.val (.ref ol),.val (.int (2:Int32)),.val (.int (0:Int32)),.val (.ref o0),.val (.long (gx (nn / 64))),.second] [(.int pn)])) _
    refine Goes.by (fun _ k => XS.bipush X2.here hx rfl (hb hby d3_54) k) ?_
    show Goes p.tables e below (T2.setTop (mkF m 56 #[.val (.ref oa),.val (.int pn),.val (.ref ol),.val (.int (2:Int32)),.val (.int (0:Int32)),.val (.ref o0),.val (.long (gx (nn / 64))),.second] [(.int (6:Int32)), (.int pn)])) _
    refine Goes.by (fun _ k => XS.iushr X2.here hx rfl (hb hby d3_56) rfl k) ?_
    show Goes p.tables e below (T2.setTop (mkF m 57 #[.val (.ref oa),.val (.int pn),.val (.ref ol),.val (.int (2:Int32)),.val (.int (0:Int32)),.val (.ref o0),.val (.long (gx (nn / 64))),.second] [(.int ((pn.toUInt32>>>((6:Int32)&&&31).toUInt32).toInt32))])) _
    refine Goes.by (fun _ k => XS.istoreN X2.here hx rfl (hb hby d3_57) rfl (l' := #[.val (.ref oa),.val (.int ((pn.toUInt32>>>((6:Int32)&&&31).toUInt32).toInt32)),.val (.ref ol),.val (.int (2:Int32)),.val (.int (0:Int32)),.val (.ref o0),.val (.long (gx (nn / 64))),.second]) rfl k) ?_
    show Goes p.tables e below (T2.setTop (mkF m 58 #[.val (.ref oa),.val (.int ((pn.toUInt32>>>((6:Int32)&&&31).toUInt32).toInt32)),.val (.ref ol),.val (.int (2:Int32)),.val (.int (0:Int32)),.val (.ref o0),.val (.long (gx (nn / 64))),.second] [])) _
    refine Goes.by (fun _ k => XS.iinc X2.here hx rfl (hb hby d3_58) rfl (l' := #[.val (.ref oa),.val (.int ((pn.toUInt32>>>((6:Int32)&&&31).toUInt32).toInt32)),.val (.ref ol),.val (.int (2:Int32)),.val (.int (1:Int32)),.val (.ref o0),.val (.long (gx (nn / 64))),.second]) rfl k) ?_
    show Goes p.tables e below (T2.setTop (mkF m 61 #[.val (.ref oa),.val (.int ((pn.toUInt32>>>((6:Int32)&&&31).toUInt32).toInt32)),.val (.ref ol),.val (.int (2:Int32)),.val (.int (1:Int32)),.val (.ref o0),.val (.long (gx (nn / 64))),.second] [])) _
    refine Goes.by (fun _ k => XS.goto X2.here hx rfl (pc0 := 61) (pc' := 11) rfl (hb hby d3_61) (by decide) (by decide) k) ?_
    show Goes p.tables e below (T2.setTop (mkF m 11 #[.val (.ref oa),.val (.int ((pn.toUInt32>>>((6:Int32)&&&31).toUInt32).toInt32)),.val (.ref ol),.val (.int (2:Int32)),.val (.int (1:Int32)),.val (.ref o0),.val (.long (gx (nn / 64))),.second] [])) _
    refine Goes.by (fun _ k => XS.iload X2.here hx rfl (hb hby d3_11) rfl k) ?_
    show Goes p.tables e below (T2.setTop (mkF m 13 #[.val (.ref oa),.val (.int ((pn.toUInt32>>>((6:Int32)&&&31).toUInt32).toInt32)),.val (.ref ol),.val (.int (2:Int32)),.val (.int (1:Int32)),.val (.ref o0),.val (.long (gx (nn / 64))),.second] [(.int (1:Int32))])) _
    refine Goes.by (fun _ k => XS.iloadN X2.here hx rfl (hb hby d3_13) rfl k) ?_
    show Goes p.tables e below (T2.setTop (mkF m 14 #[.val (.ref oa),.val (.int ((pn.toUInt32>>>((6:Int32)&&&31).toUInt32).toInt32)),.val (.ref ol),.val (.int (2:Int32)),.val (.int (1:Int32)),.val (.ref o0),.val (.long (gx (nn / 64))),.second] [(.int (2:Int32)), (.int (1:Int32))])) _
    refine Goes.by (fun _ k => XS.icmpNo X2.here hx rfl (hb hby d3_14) rfl (tlt (by decide : (1:Int32) < (2:Int32))).2.1 k) ?_
    show Goes p.tables e below (T2.setTop (mkF m 17 #[.val (.ref oa),.val (.int ((pn.toUInt32>>>((6:Int32)&&&31).toUInt32).toInt32)),.val (.ref ol),.val (.int (2:Int32)),.val (.int (1:Int32)),.val (.ref o0),.val (.long (gx (nn / 64))),.second] [])) _
    refine Goes.by (fun _ k => XS.aloadN X2.here hx rfl (hb hby d3_17) rfl rfl k) ?_
    show Goes p.tables e below (T2.setTop (mkF m 18 #[.val (.ref oa),.val (.int ((pn.toUInt32>>>((6:Int32)&&&31).toUInt32).toInt32)),.val (.ref ol),.val (.int (2:Int32)),.val (.int (1:Int32)),.val (.ref o0),.val (.long (gx (nn / 64))),.second] [(.ref ol)])) _
    refine Goes.by (fun _ k => XS.iload X2.here hx rfl (hb hby d3_18) rfl k) ?_
    show Goes p.tables e below (T2.setTop (mkF m 20 #[.val (.ref oa),.val (.int ((pn.toUInt32>>>((6:Int32)&&&31).toUInt32).toInt32)),.val (.ref ol),.val (.int (2:Int32)),.val (.int (1:Int32)),.val (.ref o0),.val (.long (gx (nn / 64))),.second] [(.int (1:Int32)), (.ref ol)])) _
    refine Goes.by (fun _ k => ldR (v := (.ref o1)) (fr := (mkF m 20 #[.val (.ref oa),.val (.int ((pn.toUInt32>>>((6:Int32)&&&31).toUInt32).toInt32)),.val (.ref ol),.val (.int (2:Int32)),.val (.int (1:Int32)),.val (.ref o0),.val (.long (gx (nn / 64))),.second] [(.int (1:Int32)), (.ref ol)])) X2 hx hZ e2 A_ol rfl (i := 1) (by decide) (by decide) rfl rfl rfl (hb hby d3_20) k) ?_
    show Goes p.tables e below (T2.setTop (mkF m 21 #[.val (.ref oa),.val (.int ((pn.toUInt32>>>((6:Int32)&&&31).toUInt32).toInt32)),.val (.ref ol),.val (.int (2:Int32)),.val (.int (1:Int32)),.val (.ref o0),.val (.long (gx (nn / 64))),.second] [(.ref o1)])) _
    refine Goes.by (fun _ k => XS.astore X2.here hx rfl (hb hby d3_21) rfl rfl (l' := #[.val (.ref oa),.val (.int ((pn.toUInt32>>>((6:Int32)&&&31).toUInt32).toInt32)),.val (.ref ol),.val (.int (2:Int32)),.val (.int (1:Int32)),.val (.ref o1),.val (.long (gx (nn / 64))),.second]) rfl k) ?_
    show Goes p.tables e below (T2.setTop (mkF m 23 #[.val (.ref oa),.val (.int ((pn.toUInt32>>>((6:Int32)&&&31).toUInt32).toInt32)),.val (.ref ol),.val (.int (2:Int32)),.val (.int (1:Int32)),.val (.ref o1),.val (.long (gx (nn / 64))),.second] [])) _
    refine Goes.by (fun _ k => XS.aload X2.here hx rfl (hb hby d3_23) rfl rfl k) ?_
    show Goes p.tables e below (T2.setTop (mkF m 25 #[.val (.ref oa),.val (.int ((pn.toUInt32>>>((6:Int32)&&&31).toUInt32).toInt32)),.val (.ref ol),.val (.int (2:Int32)),.val (.int (1:Int32)),.val (.ref o1),.val (.long (gx (nn / 64))),.second] [(.ref o1)])) _
    refine Goes.by (fun _ k => XS.iloadN X2.here hx rfl (hb hby d3_25) rfl k) ?_
    show Goes p.tables e below (T2.setTop (mkF m 26 #[.val (.ref oa),.val (.int ((pn.toUInt32>>>((6:Int32)&&&31).toUInt32).toInt32)),.val (.ref ol),.val (.int (2:Int32)),.val (.int (1:Int32)),.val (.ref o1),.val (.long (gx (nn / 64))),.second] [(.int ((pn.toUInt32>>>((6:Int32)&&&31).toUInt32).toInt32)), (.ref o1)])) _
    refine Goes.by (fun _ k => XS.bipush X2.here hx rfl (hb hby d3_26) k) ?_
    show Goes p.tables e below (T2.setTop (mkF m 28 #[.val (.ref oa),.val (.int ((pn.toUInt32>>>((6:Int32)&&&31).toUInt32).toInt32)),.val (.ref ol),.val (.int (2:Int32)),.val (.int (1:Int32)),.val (.ref o1),.val (.long (gx (nn / 64))),.second] [(.int (6:Int32)), (.int ((pn.toUInt32>>>((6:Int32)&&&31).toUInt32).toInt32)), (.ref o1)])) _
    refine Goes.by (fun _ k => XS.iushr X2.here hx rfl (hb hby d3_28) rfl k) ?_
    show Goes p.tables e below (T2.setTop (mkF m 29 #[.val (.ref oa),.val (.int ((pn.toUInt32>>>((6:Int32)&&&31).toUInt32).toInt32)),.val (.ref ol),.val (.int (2:Int32)),.val (.int (1:Int32)),.val (.ref o1),.val (.long (gx (nn / 64))),.second] [(.int ((((pn.toUInt32>>>((6:Int32)&&&31).toUInt32).toInt32).toUInt32>>>((6:Int32)&&&31).toUInt32).toInt32)), (.ref o1)])) _
    refine Goes.by (fun _ k => ldJ (v := (gy (nn / 64 / 64))) (fr := (mkF m 29 #[.val (.ref oa),.val (.int ((pn.toUInt32>>>((6:Int32)&&&31).toUInt32).toInt32)),.val (.ref ol),.val (.int (2:Int32)),.val (.int (1:Int32)),.val (.ref o1),.val (.long (gx (nn / 64))),.second] [(.int ((((pn.toUInt32>>>((6:Int32)&&&31).toUInt32).toInt32).toUInt32>>>((6:Int32)&&&31).toUInt32).toInt32)), (.ref o1)])) X2 hx hZ e2 A_o1 (i := (nn / 64 / 64)) (own_sh6 _ _ (own_sh6 _ _ hj)) hw1 rfl rfl rfl (hb hby d3_29) k) ?_
    show Goes p.tables e below (T2.setTop (mkF m 30 #[.val (.ref oa),.val (.int ((pn.toUInt32>>>((6:Int32)&&&31).toUInt32).toInt32)),.val (.ref ol),.val (.int (2:Int32)),.val (.int (1:Int32)),.val (.ref o1),.val (.long (gx (nn / 64))),.second] [(.long (gy (nn / 64 / 64)))])) _
    refine Goes.by (fun _ k => XS.lstore X2.here hx rfl (hb hby d3_30) rfl (l' := #[.val (.ref oa),.val (.int ((pn.toUInt32>>>((6:Int32)&&&31).toUInt32).toInt32)),.val (.ref ol),.val (.int (2:Int32)),.val (.int (1:Int32)),.val (.ref o1),.val (.long (gy (nn / 64 / 64))),.second]) rfl k) ?_
    show Goes p.tables e below (T2.setTop (mkF m 32 #[.val (.ref oa),.val (.int ((pn.toUInt32>>>((6:Int32)&&&31).toUInt32).toInt32)),.val (.ref ol),.val (.int (2:Int32)),.val (.int (1:Int32)),.val (.ref o1),.val (.long (gy (nn / 64 / 64))),.second] [])) _
    refine Goes.by (fun _ k => XS.aload X2.here hx rfl (hb hby d3_32) rfl rfl k) ?_
    show Goes p.tables e below (T2.setTop (mkF m 34 #[.val (.ref oa),.val (.int ((pn.toUInt32>>>((6:Int32)&&&31).toUInt32).toInt32)),.val (.ref ol),.val (.int (2:Int32)),.val (.int (1:Int32)),.val (.ref o1),.val (.long (gy (nn / 64 / 64))),.second] [(.ref o1)])) _
    refine Goes.by (fun _ k => XS.iloadN X2.here hx rfl (hb hby d3_34) rfl k) ?_
    show Goes p.tables e below (T2.setTop (mkF m 35 #[.val (.ref oa),.val (.int ((pn.toUInt32>>>((6:Int32)&&&31).toUInt32).toInt32)),.val (.ref ol),.val (.int (2:Int32)),.val (.int (1:Int32)),.val (.ref o1),.val (.long (gy (nn / 64 / 64))),.second] [(.int ((pn.toUInt32>>>((6:Int32)&&&31).toUInt32).toInt32)), (.ref o1)])) _
    refine Goes.by (fun _ k => XS.bipush X2.here hx rfl (hb hby d3_35) k) ?_
    show Goes p.tables e below (T2.setTop (mkF m 37 #[.val (.ref oa),.val (.int ((pn.toUInt32>>>((6:Int32)&&&31).toUInt32).toInt32)),.val (.ref ol),.val (.int (2:Int32)),.val (.int (1:Int32)),.val (.ref o1),.val (.long (gy (nn / 64 / 64))),.second] [(.int (6:Int32)), (.int ((pn.toUInt32>>>((6:Int32)&&&31).toUInt32).toInt32)), (.ref o1)])) _
    refine Goes.by (fun _ k => XS.iushr X2.here hx rfl (hb hby d3_37) rfl k) ?_
    show Goes p.tables e below (T2.setTop (mkF m 38 #[.val (.ref oa),.val (.int ((pn.toUInt32>>>((6:Int32)&&&31).toUInt32).toInt32)),.val (.ref ol),.val (.int (2:Int32)),.val (.int (1:Int32)),.val (.ref o1),.val (.long (gy (nn / 64 / 64))),.second] [(.int ((((pn.toUInt32>>>((6:Int32)&&&31).toUInt32).toInt32).toUInt32>>>((6:Int32)&&&31).toUInt32).toInt32)), (.ref o1)])) _
    refine Goes.by (fun _ k => XS.lload X2.here hx rfl (hb hby d3_38) rfl k) ?_
    show Goes p.tables e below (T2.setTop (mkF m 40 #[.val (.ref oa),.val (.int ((pn.toUInt32>>>((6:Int32)&&&31).toUInt32).toInt32)),.val (.ref ol),.val (.int (2:Int32)),.val (.int (1:Int32)),.val (.ref o1),.val (.long (gy (nn / 64 / 64))),.second] [(.long (gy (nn / 64 / 64))), (.int ((((pn.toUInt32>>>((6:Int32)&&&31).toUInt32).toInt32).toUInt32>>>((6:Int32)&&&31).toUInt32).toInt32)), (.ref o1)])) _
    refine Goes.by (fun _ k => XS.lconst X2.here hx rfl (hb hby d3_40) k) ?_
    show Goes p.tables e below (T2.setTop (mkF m 41 #[.val (.ref oa),.val (.int ((pn.toUInt32>>>((6:Int32)&&&31).toUInt32).toInt32)),.val (.ref ol),.val (.int (2:Int32)),.val (.int (1:Int32)),.val (.ref o1),.val (.long (gy (nn / 64 / 64))),.second] [(.long (1:Int64)), (.long (gy (nn / 64 / 64))), (.int ((((pn.toUInt32>>>((6:Int32)&&&31).toUInt32).toInt32).toUInt32>>>((6:Int32)&&&31).toUInt32).toInt32)), (.ref o1)])) _
    refine Goes.by (fun _ k => XS.iloadN X2.here hx rfl (hb hby d3_41) rfl k) ?_
    show Goes p.tables e below (T2.setTop (mkF m 42 #[.val (.ref oa),.val (.int ((pn.toUInt32>>>((6:Int32)&&&31).toUInt32).toInt32)),.val (.ref ol),.val (.int (2:Int32)),.val (.int (1:Int32)),.val (.ref o1),.val (.long (gy (nn / 64 / 64))),.second] [(.int ((pn.toUInt32>>>((6:Int32)&&&31).toUInt32).toInt32)), (.long (1:Int64)), (.long (gy (nn / 64 / 64))), (.int ((((pn.toUInt32>>>((6:Int32)&&&31).toUInt32).toInt32).toUInt32>>>((6:Int32)&&&31).toUInt32).toInt32)), (.ref o1)])) _
    refine Goes.by (fun _ k => XS.lshl X2.here hx rfl (hb hby d3_42) rfl k) ?_
    show Goes p.tables e below (T2.setTop (mkF m 43 #[.val (.ref oa),.val (.int ((pn.toUInt32>>>((6:Int32)&&&31).toUInt32).toInt32)),.val (.ref ol),.val (.int (2:Int32)),.val (.int (1:Int32)),.val (.ref o1),.val (.long (gy (nn / 64 / 64))),.second] [(.long ((1:Int64) <<< (((pn.toUInt32>>>((6:Int32)&&&31).toUInt32).toInt32)&&&0x3f).toInt64)), (.long (gy (nn / 64 / 64))), (.int ((((pn.toUInt32>>>((6:Int32)&&&31).toUInt32).toInt32).toUInt32>>>((6:Int32)&&&31).toUInt32).toInt32)), (.ref o1)])) _
    refine Goes.by (fun _ k => XS.lor X2.here hx rfl (hb hby d3_43) rfl k) ?_
    show Goes p.tables e below (T2.setTop (mkF m 44 #[.val (.ref oa),.val (.int ((pn.toUInt32>>>((6:Int32)&&&31).toUInt32).toInt32)),.val (.ref ol),.val (.int (2:Int32)),.val (.int (1:Int32)),.val (.ref o1),.val (.long (gy (nn / 64 / 64))),.second] [(.long ((gy (nn / 64 / 64)) ||| ((1:Int64) <<< (((pn.toUInt32>>>((6:Int32)&&&31).toUInt32).toInt32)&&&0x3f).toInt64))), (.int ((((pn.toUInt32>>>((6:Int32)&&&31).toUInt32).toInt32).toUInt32>>>((6:Int32)&&&31).toUInt32).toInt32)), (.ref o1)])) _
    obtain ⟨T4, h4, X4, e4, W4, A4, st4⟩ := stAJ (fr := (mkF m 44 #[.val (.ref oa),.val (.int ((pn.toUInt32>>>((6:Int32)&&&31).toUInt32).toInt32)),.val (.ref ol),.val (.int (2:Int32)),.val (.int (1:Int32)),.val (.ref o1),.val (.long (gy (nn / 64 / 64))),.second] [(.long ((gy (nn / 64 / 64)) ||| ((1:Int64) <<< (((pn.toUInt32>>>((6:Int32)&&&31).toUInt32).toInt32)&&&0x3f).toInt64))), (.int ((((pn.toUInt32>>>((6:Int32)&&&31).toUInt32).toInt32).toUInt32>>>((6:Int32)&&&31).toUInt32).toInt32)), (.ref o1)])) X2 hx hZ e2 A_o1 (i := (nn / 64 / 64)) (own_sh6 _ _ (own_sh6 _ _ hj)) hw1 rfl rfl (hb hby d3_44)
    refine Goes.by st4 ?_
    have A_o1 : AJ Z h4 o1 wy (up gy (nn / 64 / 64) ((gy (nn / 64 / 64)) ||| ((1:Int64) <<< (((pn.toUInt32>>>((6:Int32)&&&31).toUInt32).toInt32)&&&0x3f).toInt64))) := A4
    have N4 := Fr.snoc X4 N2 g_o1
    have Zs4 : n0 ≤ h4.size := Nat.le_trans Zs2 (Keep.of_wr W4).1
    have K4 : Keep h0 h4 [o0, o1] := K2.wr W4 (Or.inl (List.mem_of_getElem? (i := 1) rfl))
    have F_oa_levels : Fld Z h4 oa "com/example/xml_graph_join/xmlgraphjoin/topo/BitLevels" "levels" "[[J" (.ref ol) := F_oa_levels.other W4 (Or.inl ne_oa_o1)
    have A_ol : Ar Z h4 ol (.array .long) 2 (up (up (fun _ => .null) 0 (.ref o0)) 1 (.ref o1)) := A_ol.other W4 ne_ol_o1
    have A_o0 : AJ Z h4 o0 wx (up gx (nn / 64) ((gx (nn / 64)) ||| ((1:Int64) <<< (pn&&&0x3f).toInt64))) := A_o0.other W4 ne_o0_o1
    show Goes p.tables e below (T4.setTop (mkF m 45 #[.val (.ref oa),.val (.int ((pn.toUInt32>>>((6:Int32)&&&31).toUInt32).toInt32)),.val (.ref ol),.val (.int (2:Int32)),.val (.int (1:Int32)),.val (.ref o1),.val (.long (gy (nn / 64 / 64))),.second] [])) _
    refine Goes.by (fun _ k => XS.lload X4.here hx rfl (hb hby d3_45) rfl k) ?_
    show Goes p.tables e below (T4.setTop (mkF m 47 #[.val (.ref oa),.val (.int ((pn.toUInt32>>>((6:Int32)&&&31).toUInt32).toInt32)),.val (.ref ol),.val (.int (2:Int32)),.val (.int (1:Int32)),.val (.ref o1),.val (.long (gy (nn / 64 / 64))),.second] [(.long (gy (nn / 64 / 64)))])) _
    refine Goes.by (fun _ k => XS.lconst X4.here hx rfl (hb hby d3_47) k) ?_
    show Goes p.tables e below (T4.setTop (mkF m 48 #[.val (.ref oa),.val (.int ((pn.toUInt32>>>((6:Int32)&&&31).toUInt32).toInt32)),.val (.ref ol),.val (.int (2:Int32)),.val (.int (1:Int32)),.val (.ref o1),.val (.long (gy (nn / 64 / 64))),.second] [(.long (0:Int64)), (.long (gy (nn / 64 / 64)))])) _
    refine Goes.by (fun _ k => XS.lcmp X4.here hx rfl (hb hby d3_48) rfl k) ?_
    show Goes p.tables e below (T4.setTop (mkF m 49 #[.val (.ref oa),.val (.int ((pn.toUInt32>>>((6:Int32)&&&31).toUInt32).toInt32)),.val (.ref ol),.val (.int (2:Int32)),.val (.int (1:Int32)),.val (.ref o1),.val (.long (gy (nn / 64 / 64))),.second] [(.int (lcmpW (gy (nn / 64 / 64)) (0:Int64)))])) _
    by_cases hc5 : (gy (nn / 64 / 64)) = (0:Int64)
    · refine Goes.by (fun _ k => XS.ifYes X4.here hx rfl (pc0 := 49) (pc' := 53) rfl (hb hby d3_49) rfl (je_t hc5).1 (by decide) (by decide) k) ?_
      show Goes p.tables e below (T4.setTop (mkF m 53 #[.val (.ref oa),.val (.int ((pn.toUInt32>>>((6:Int32)&&&31).toUInt32).toInt32)),.val (.ref ol),.val (.int (2:Int32)),.val (.int (1:Int32)),.val (.ref o1),.val (.long (gy (nn / 64 / 64))),.second] [])) _
      refine Goes.by (fun _ k => XS.iloadN X4.here hx rfl (hb hby d3_53) rfl k) ?_
      show Goes p.tables e below (T4.setTop (mkF m 54 #[.val (.ref oa),.val (.int ((pn.toUInt32>>>((6:Int32)&&&31).toUInt32).toInt32)),.val (.ref ol),.val (.int (2:Int32)),.val (.int (1:Int32)),.val (.ref o1),.val (.long (gy (nn / 64 / 64))),.second] [(.int ((pn.toUInt32>>>((6:Int32)&&&31).toUInt32).toInt32))])) _
      refine Goes.by (fun _ k => XS.bipush X4.here hx rfl (hb hby d3_54) k) ?_
      show Goes p.tables e below (T4.setTop (mkF m 56 #[.val (.ref oa),.val (.int ((pn.toUInt32>>>((6:Int32)&&&31).toUInt32).toInt32)),.val (.ref ol),.val (.int (2:Int32)),.val (.int (1:Int32)),.val (.ref o1),.val (.long (gy (nn / 64 / 64))),.second] [(.int (6:Int32)), (.int ((pn.toUInt32>>>((6:Int32)&&&31).toUInt32).toInt32))])) _
      refine Goes.by (fun _ k => XS.iushr X4.here hx rfl (hb hby d3_56) rfl k) ?_
      show Goes p.tables e below (T4.setTop (mkF m 57 #[.val (.ref oa),.val (.int ((pn.toUInt32>>>((6:Int32)&&&31).toUInt32).toInt32)),.val (.ref ol),.val (.int (2:Int32)),.val (.int (1:Int32)),.val (.ref o1),.val (.long (gy (nn / 64 / 64))),.second] [(.int ((((pn.toUInt32>>>((6:Int32)&&&31).toUInt32).toInt32).toUInt32>>>((6:Int32)&&&31).toUInt32).toInt32))])) _
      refine Goes.by (fun _ k => XS.istoreN X4.here hx rfl (hb hby d3_57) rfl (l' := #[.val (.ref oa),.val (.int ((((pn.toUInt32>>>((6:Int32)&&&31).toUInt32).toInt32).toUInt32>>>((6:Int32)&&&31).toUInt32).toInt32)),.val (.ref ol),.val (.int (2:Int32)),.val (.int (1:Int32)),.val (.ref o1),.val (.long (gy (nn / 64 / 64))),.second]) rfl k) ?_
      show Goes p.tables e below (T4.setTop (mkF m 58 #[.val (.ref oa),.val (.int ((((pn.toUInt32>>>((6:Int32)&&&31).toUInt32).toInt32).toUInt32>>>((6:Int32)&&&31).toUInt32).toInt32)),.val (.ref ol),.val (.int (2:Int32)),.val (.int (1:Int32)),.val (.ref o1),.val (.long (gy (nn / 64 / 64))),.second] [])) _
      refine Goes.by (fun _ k => XS.iinc X4.here hx rfl (hb hby d3_58) rfl (l' := #[.val (.ref oa),.val (.int ((((pn.toUInt32>>>((6:Int32)&&&31).toUInt32).toInt32).toUInt32>>>((6:Int32)&&&31).toUInt32).toInt32)),.val (.ref ol),.val (.int (2:Int32)),.val (.int (2:Int32)),.val (.ref o1),.val (.long (gy (nn / 64 / 64))),.second]) rfl k) ?_
      show Goes p.tables e below (T4.setTop (mkF m 61 #[.val (.ref oa),.val (.int ((((pn.toUInt32>>>((6:Int32)&&&31).toUInt32).toInt32).toUInt32>>>((6:Int32)&&&31).toUInt32).toInt32)),.val (.ref ol),.val (.int (2:Int32)),.val (.int (2:Int32)),.val (.ref o1),.val (.long (gy (nn / 64 / 64))),.second] [])) _
      refine Goes.by (fun _ k => XS.goto X4.here hx rfl (pc0 := 61) (pc' := 11) rfl (hb hby d3_61) (by decide) (by decide) k) ?_
      show Goes p.tables e below (T4.setTop (mkF m 11 #[.val (.ref oa),.val (.int ((((pn.toUInt32>>>((6:Int32)&&&31).toUInt32).toInt32).toUInt32>>>((6:Int32)&&&31).toUInt32).toInt32)),.val (.ref ol),.val (.int (2:Int32)),.val (.int (2:Int32)),.val (.ref o1),.val (.long (gy (nn / 64 / 64))),.second] [])) _
      refine Goes.by (fun _ k => XS.iload X4.here hx rfl (hb hby d3_11) rfl k) ?_
      show Goes p.tables e below (T4.setTop (mkF m 13 #[.val (.ref oa),.val (.int ((((pn.toUInt32>>>((6:Int32)&&&31).toUInt32).toInt32).toUInt32>>>((6:Int32)&&&31).toUInt32).toInt32)),.val (.ref ol),.val (.int (2:Int32)),.val (.int (2:Int32)),.val (.ref o1),.val (.long (gy (nn / 64 / 64))),.second] [(.int (2:Int32))])) _
      refine Goes.by (fun _ k => XS.iloadN X4.here hx rfl (hb hby d3_13) rfl k) ?_
      show Goes p.tables e below (T4.setTop (mkF m 14 #[.val (.ref oa),.val (.int ((((pn.toUInt32>>>((6:Int32)&&&31).toUInt32).toInt32).toUInt32>>>((6:Int32)&&&31).toUInt32).toInt32)),.val (.ref ol),.val (.int (2:Int32)),.val (.int (2:Int32)),.val (.ref o1),.val (.long (gy (nn / 64 / 64))),.second] [(.int (2:Int32)), (.int (2:Int32))])) _
      refine Goes.by (fun _ k => XS.icmpYes X4.here hx rfl (pc0 := 14) (pc' := 64) rfl (hb hby d3_14) rfl (flt (by decide : ¬ ((2:Int32) < (2:Int32)))).2.1 (by decide) (by decide) k) ?_
      show Goes p.tables e below (T4.setTop (mkF m 64 #[.val (.ref oa),.val (.int ((((pn.toUInt32>>>((6:Int32)&&&31).toUInt32).toInt32).toUInt32>>>((6:Int32)&&&31).toUInt32).toInt32)),.val (.ref ol),.val (.int (2:Int32)),.val (.int (2:Int32)),.val (.ref o1),.val (.long (gy (nn / 64 / 64))),.second] [])) _
      have A_o1 : AJ Z h4 o1 wy (if (gx (nn / 64)) = (0:Int64) then (up gy (nn / 64 / 64) (((gy (nn / 64 / 64))) ||| (oneB ((pn.toUInt32>>>((6:Int32)&&&31).toUInt32).toInt32)))) else gy) := by rw [if_pos hc3]; exact A_o1
      have A_o0 : AJ Z h4 o0 wx (up gx (nn / 64) (((gx (nn / 64))) ||| (oneB pn))) := A_o0
      obtain ⟨fs, hr, hrun, hended, hW, hsame⟩ := X4.leave (v := none) (fun _ => rfl)
      refine ⟨_, _, X4.returnOut hx Bd.returns (hb hby d3_64) hr, hrun, hended, _, _, rfl, ?_, ⟨_, rfl⟩, hW, hsame.mono (by decide) (by decide)⟩
      show Q3d2 Z oa pn ol o0 o1 gx gy wx wy nn h0 n0 _ T4.heap _
      rw [e4]
      exact ⟨rfl, N4, K4, F_oa_levels, A_ol, A_o0, A_o1⟩
    · refine Goes.by (fun _ k => XS.ifNo X4.here hx rfl (hb hby d3_49) rfl (je_f hc5).1 k) ?_
      show Goes p.tables e below (T4.setTop (mkF m 52 #[.val (.ref oa),.val (.int ((pn.toUInt32>>>((6:Int32)&&&31).toUInt32).toInt32)),.val (.ref ol),.val (.int (2:Int32)),.val (.int (1:Int32)),.val (.ref o1),.val (.long (gy (nn / 64 / 64))),.second] [])) _
      have A_o1 : AJ Z h4 o1 wy (if (gx (nn / 64)) = (0:Int64) then (up gy (nn / 64 / 64) (((gy (nn / 64 / 64))) ||| (oneB ((pn.toUInt32>>>((6:Int32)&&&31).toUInt32).toInt32)))) else gy) := by rw [if_pos hc3]; exact A_o1
      have A_o0 : AJ Z h4 o0 wx (up gx (nn / 64) (((gx (nn / 64))) ||| (oneB pn))) := A_o0
      obtain ⟨fs, hr, hrun, hended, hW, hsame⟩ := X4.leave (v := none) (fun _ => rfl)
      refine ⟨_, _, X4.returnOut hx Bd.returns (hb hby d3_52) hr, hrun, hended, _, _, rfl, ?_, ⟨_, rfl⟩, hW, hsame.mono (by decide) (by decide)⟩
      show Q3d2 Z oa pn ol o0 o1 gx gy wx wy nn h0 n0 _ T4.heap _
      rw [e4]
      exact ⟨rfl, N4, K4, F_oa_levels, A_ol, A_o0, A_o1⟩
  · refine Goes.by (fun _ k => XS.ifNo X2.here hx rfl (hb hby d3_49) rfl (je_f hc3).1 k) ?_
    show Goes p.tables e below (T2.setTop (mkF m 52 #[.val (.ref oa),.val (.int pn),.val (.ref ol),.val (.int (2:Int32)),.val (.int (0:Int32)),.val (.ref o0),.val (.long (gx (nn / 64))),.second] [])) _
    have A_o1 : AJ Z h2 o1 wy (if (gx (nn / 64)) = (0:Int64) then (up gy (nn / 64 / 64) (((gy (nn / 64 / 64))) ||| (oneB ((pn.toUInt32>>>((6:Int32)&&&31).toUInt32).toInt32)))) else gy) := by rw [if_neg hc3]; exact A_o1
    have A_o0 : AJ Z h2 o0 wx (up gx (nn / 64) (((gx (nn / 64))) ||| (oneB pn))) := A_o0
    obtain ⟨fs, hr, hrun, hended, hW, hsame⟩ := X2.leave (v := none) (fun _ => rfl)
    refine ⟨_, _, X2.returnOut hx Bd.returns (hb hby d3_52) hr, hrun, hended, _, _, rfl, ?_, ⟨_, rfl⟩, hW, hsame.mono (by decide) (by decide)⟩
    show Q3d2 Z oa pn ol o0 o1 gx gy wx wy nn h0 n0 _ T2.heap _
    rw [e2]
    exact ⟨rfl, N2, K2, F_oa_levels, A_ol, A_o0, A_o1⟩
def fn4d2 (pl : Int32) (ph : Int32) (gx : Nat → Int64) (gy : Nat → Int64) (wx : Nat) (wy : Nat) (nl : Nat) (nh : Nat) : Int32 := (if ph < pl then (0:Int32) else (if ((pl.toUInt32>>>((6:Int32)&&&31).toUInt32).toInt32) = ((ph.toUInt32>>>((6:Int32)&&&31).toUInt32).toInt32) then (if (((gx (nl / 64))&&&(fromB pl))&&&(upB ph)) = (0:Int64) then (0:Int32) else (1:Int32)) else (if ((gx (nl / 64))&&&(fromB pl)) = (0:Int64) then (if ((gx (nh / 64))&&&(upB ph)) = (0:Int64) then (if (((ph.toUInt32>>>((6:Int32)&&&31).toUInt32).toInt32) - (1:Int32)) < (((pl.toUInt32>>>((6:Int32)&&&31).toUInt32).toInt32) + (1:Int32)) then (0:Int32) else (if (((((pl.toUInt32>>>((6:Int32)&&&31).toUInt32).toInt32) + (1:Int32)).toUInt32>>>((6:Int32)&&&31).toUInt32).toInt32) = (((((ph.toUInt32>>>((6:Int32)&&&31).toUInt32).toInt32) - (1:Int32)).toUInt32>>>((6:Int32)&&&31).toUInt32).toInt32) then (if (((gy ((nl / 64 + 1) / 64))&&&(fromB (((pl.toUInt32>>>((6:Int32)&&&31).toUInt32).toInt32) + (1:Int32))))&&&(upB (((ph.toUInt32>>>((6:Int32)&&&31).toUInt32).toInt32) - (1:Int32)))) = (0:Int64) then (0:Int32) else (1:Int32)) else (if ((gy ((nl / 64 + 1) / 64))&&&(fromB (((pl.toUInt32>>>((6:Int32)&&&31).toUInt32).toInt32) + (1:Int32)))) = (0:Int64) then (if ((gy ((nh / 64 - 1) / 64))&&&(upB (((ph.toUInt32>>>((6:Int32)&&&31).toUInt32).toInt32) - (1:Int32)))) = (0:Int64) then (0:Int32) else (1:Int32)) else (1:Int32)))) else (1:Int32)) else (1:Int32))))
theorem ef4d2 (m : MethodId) (oa : Addr) (pl : Int32) (ph : Int32) : entryFrame m #[(.ref oa), (.int pl), (.int ph)] 9 = mkF m 0 #[.val (.ref oa),.val (.int pl),.val (.int ph),.unset,.unset,.unset,.unset,.unset,.unset] [] := by first | (simp [entryFrame, mkF, argsToLocals, Value.category]; done) | rfl
def Q4d2 (Z : State) (oa : Addr) (pl : Int32) (ph : Int32) (ol : Addr) (o0 : Addr) (o1 : Addr) (gx : Nat → Int64) (gy : Nat → Int64) (wx : Nat) (wy : Nat) (nl : Nat) (nh : Nat) (h0 : Heap) (n0 : Nat) (v : Option Value) (h : Heap) (L : List Loc) : Prop := v = some (.int (fn4d2 pl ph gx gy wx wy nl nh)) ∧ Fr n0 L ∧ h = h0
set_option maxRecDepth 65536 in
set_option maxHeartbeats 40000000 in
theorem rm4d2 (l : Launch) (Z : State) (a0 : Array Value) (hw : ∀ d ∈ tables_1, d.before a0 Z = true) (ws : List Jvm.Cond) (oa : Addr) (pl : Int32) (ph : Int32) (ol : Addr) (o0 : Addr) (o1 : Addr) (gx : Nat → Int64) (gy : Nat → Int64) (wx : Nat) (wy : Nat) (nl : Nat) (nh : Nat) (h0 : Heap) (n0 : Nat) (Z0 : n0 ≤ h0.size) (F_oa_levels : Fld Z h0 oa "com/example/xml_graph_join/xmlgraphjoin/topo/BitLevels" "levels" "[[J" (.ref ol)) (A_ol : Ar Z h0 ol (.array .long) 2 (up (up (fun _ => .null) 0 (.ref o0)) 1 (.ref o1))) (A_o0 : AJ Z h0 o0 wx gx) (A_o1 : AJ Z h0 o1 wy gy) (hlo : pl.toInt = (nl : Int)) (hhi : ph.toInt = (nh : Int)) (hwl : nl / 64 < wx) (hwh : nh / 64 < wx) (hx1 : wx ≤ 64 * wy) :
    MetFree l (⟨"com/example/xml_graph_join/xmlgraphjoin/topo/BitLevels", "anyIn", "(II)Z"⟩ : MethodName) (head1 (Jvm.Cond.code (⟨"com/example/xml_graph_join/xmlgraphjoin/topo/BitLevels", "anyIn", "(II)Z"⟩ : MethodName) prog_96_method_4_code 9 (some .boolean) :: ws) ({ frames := 1, cells := 0, slots := 0, locals := 14 } : Room)) (fun a U => a = #[(.ref oa), (.int pl), (.int ph)] ∧ Z.Warmed39 U.vm ∧ U.heap = h0) (fun _ _ _ _ _ => True) (fun _ U o U' => ∃ v L, o = .returned v ∧ Q4d2 Z oa pl ph ol o0 o1 gx gy wx wy nl nh h0 n0 v U'.heap L ∧ FrameEnd U o U' L ({ frames := 1, cells := 0, slots := 0, locals := 14 } : Room).cells ({ frames := 1, cells := 0, slots := 0, locals := 14 } : Room).slots) := by
  refine MetFree.of_bodySF (plainFor_of_name pn_0) hisR ?_
  intro p e s m args below meth c s₁ Bd hml0 hP hK
  obtain ⟨rfl, hZ, hh⟩ := hP
  have hx := Bd.exec
  have hby := Bd.bytes
  have hml : c.maxLocals = 9 := hml0
  have hown : s.vm.findClass "com/example/xml_graph_join/xmlgraphjoin/topo/BitLevels" = some m.cls := findClass_of_methodNamed Bd.named
  have hnm := (name_of_methodNamed Bd.named Bd.method).1
  have X0 : Stand p l e ({ frames := 1, cells := 0, slots := 0, locals := 14 } : Room) s m #[(.ref oa), (.int pl), (.int ph)] below meth c s₁ [] 0 0 := Stand.of_body Bd
  have e0 : s₁.heap = h0 := by rw [← hh, Bd.state]; rfl
  have N0 := Fr.nil n0
  refine Goes.by (fun _ k => castTop (ef4d2 m oa pl ph) k) ?_
  show Goes p.tables e below (s₁.setTop (mkF m 0 #[.val (.ref oa),.val (.int pl),.val (.int ph),.unset,.unset,.unset,.unset,.unset,.unset] [])) _
  refine Goes.by (fun _ k => XS.aloadN X0.here hx rfl (hb hby d4_0) rfl rfl k) ?_
  show Goes p.tables e below (s₁.setTop (mkF m 1 #[.val (.ref oa),.val (.int pl),.val (.int ph),.unset,.unset,.unset,.unset,.unset,.unset] [(.ref oa)])) _
  obtain ⟨T1, X1, e1, st1⟩ := getF X0 hx hZ hown (host := "") (Or.inl (hw _ (List.mem_of_getElem? (i := 12) rfl))) Via.refl e0 F_oa_levels (g := (mkF m 1 #[.val (.ref oa),.val (.int pl),.val (.int ph),.unset,.unset,.unset,.unset,.unset,.unset] [(.ref oa)])) rfl rfl (hb hby d4_1)
  refine Goes.by st1 ?_
  show Goes p.tables e below (T1.setTop (mkF m 4 #[.val (.ref oa),.val (.int pl),.val (.int ph),.unset,.unset,.unset,.unset,.unset,.unset] [(.ref ol)])) _
  refine Goes.by (fun _ k => XS.astoreN X1.here hx rfl (hb hby d4_4) rfl rfl (l' := #[.val (.ref oa),.val (.int pl),.val (.int ph),.val (.ref ol),.unset,.unset,.unset,.unset,.unset]) rfl k) ?_
  show Goes p.tables e below (T1.setTop (mkF m 5 #[.val (.ref oa),.val (.int pl),.val (.int ph),.val (.ref ol),.unset,.unset,.unset,.unset,.unset] [])) _
  refine Goes.by (fun _ k => XS.aloadN X1.here hx rfl (hb hby d4_5) rfl rfl k) ?_
  show Goes p.tables e below (T1.setTop (mkF m 6 #[.val (.ref oa),.val (.int pl),.val (.int ph),.val (.ref ol),.unset,.unset,.unset,.unset,.unset] [(.ref ol)])) _
  refine Goes.by (fun _ k => alen (z := (2:Int32)) (fr := (mkF m 6 #[.val (.ref oa),.val (.int pl),.val (.int ph),.val (.ref ol),.unset,.unset,.unset,.unset,.unset] [(.ref ol)])) X1 hx hZ e1 A_ol (by decide) rfl rfl (hb hby d4_6) k) ?_
  show Goes p.tables e below (T1.setTop (mkF m 7 #[.val (.ref oa),.val (.int pl),.val (.int ph),.val (.ref ol),.unset,.unset,.unset,.unset,.unset] [(.int (2:Int32))])) _
  refine Goes.by (fun _ k => XS.istore X1.here hx rfl (hb hby d4_7) rfl (l' := #[.val (.ref oa),.val (.int pl),.val (.int ph),.val (.ref ol),.val (.int (2:Int32)),.unset,.unset,.unset,.unset]) rfl k) ?_
  show Goes p.tables e below (T1.setTop (mkF m 9 #[.val (.ref oa),.val (.int pl),.val (.int ph),.val (.ref ol),.val (.int (2:Int32)),.unset,.unset,.unset,.unset] [])) _
  refine Goes.by (fun _ k => XS.iconst X1.here hx rfl (hb hby d4_9) k) ?_
  show Goes p.tables e below (T1.setTop (mkF m 10 #[.val (.ref oa),.val (.int pl),.val (.int ph),.val (.ref ol),.val (.int (2:Int32)),.unset,.unset,.unset,.unset] [(.int (0:Int32))])) _
  refine Goes.by (fun _ k => XS.istore X1.here hx rfl (hb hby d4_10) rfl (l' := #[.val (.ref oa),.val (.int pl),.val (.int ph),.val (.ref ol),.val (.int (2:Int32)),.val (.int (0:Int32)),.unset,.unset,.unset]) rfl k) ?_
  show Goes p.tables e below (T1.setTop (mkF m 12 #[.val (.ref oa),.val (.int pl),.val (.int ph),.val (.ref ol),.val (.int (2:Int32)),.val (.int (0:Int32)),.unset,.unset,.unset] [])) _
  refine Goes.by (fun _ k => XS.iload X1.here hx rfl (hb hby d4_12) rfl k) ?_
  show Goes p.tables e below (T1.setTop (mkF m 14 #[.val (.ref oa),.val (.int pl),.val (.int ph),.val (.ref ol),.val (.int (2:Int32)),.val (.int (0:Int32)),.unset,.unset,.unset] [(.int (0:Int32))])) _
  refine Goes.by (fun _ k => XS.iload X1.here hx rfl (hb hby d4_14) rfl k) ?_
  show Goes p.tables e below (T1.setTop (mkF m 16 #[.val (.ref oa),.val (.int pl),.val (.int ph),.val (.ref ol),.val (.int (2:Int32)),.val (.int (0:Int32)),.unset,.unset,.unset] [(.int (2:Int32)), (.int (0:Int32))])) _
  refine Goes.by (fun _ k => XS.icmpNo X1.here hx rfl (hb hby d4_16) rfl (tlt (by decide : (0:Int32) < (2:Int32))).2.1 k) ?_
  show Goes p.tables e below (T1.setTop (mkF m 19 #[.val (.ref oa),.val (.int pl),.val (.int ph),.val (.ref ol),.val (.int (2:Int32)),.val (.int (0:Int32)),.unset,.unset,.unset] [])) _
  refine Goes.by (fun _ k => XS.aloadN X1.here hx rfl (hb hby d4_19) rfl rfl k) ?_
  show Goes p.tables e below (T1.setTop (mkF m 20 #[.val (.ref oa),.val (.int pl),.val (.int ph),.val (.ref ol),.val (.int (2:Int32)),.val (.int (0:Int32)),.unset,.unset,.unset] [(.ref ol)])) _
  refine Goes.by (fun _ k => XS.iload X1.here hx rfl (hb hby d4_20) rfl k) ?_
  show Goes p.tables e below (T1.setTop (mkF m 22 #[.val (.ref oa),.val (.int pl),.val (.int ph),.val (.ref ol),.val (.int (2:Int32)),.val (.int (0:Int32)),.unset,.unset,.unset] [(.int (0:Int32)), (.ref ol)])) _
  refine Goes.by (fun _ k => ldR (v := (.ref o0)) (fr := (mkF m 22 #[.val (.ref oa),.val (.int pl),.val (.int ph),.val (.ref ol),.val (.int (2:Int32)),.val (.int (0:Int32)),.unset,.unset,.unset] [(.int (0:Int32)), (.ref ol)])) X1 hx hZ e1 A_ol rfl (i := 0) (by decide) (by decide) rfl rfl rfl (hb hby d4_22) k) ?_
  show Goes p.tables e below (T1.setTop (mkF m 23 #[.val (.ref oa),.val (.int pl),.val (.int ph),.val (.ref ol),.val (.int (2:Int32)),.val (.int (0:Int32)),.unset,.unset,.unset] [(.ref o0)])) _
  refine Goes.by (fun _ k => XS.astore X1.here hx rfl (hb hby d4_23) rfl rfl (l' := #[.val (.ref oa),.val (.int pl),.val (.int ph),.val (.ref ol),.val (.int (2:Int32)),.val (.int (0:Int32)),.val (.ref o0),.unset,.unset]) rfl k) ?_
  show Goes p.tables e below (T1.setTop (mkF m 25 #[.val (.ref oa),.val (.int pl),.val (.int ph),.val (.ref ol),.val (.int (2:Int32)),.val (.int (0:Int32)),.val (.ref o0),.unset,.unset] [])) _
  refine Goes.by (fun _ k => XS.iloadN X1.here hx rfl (hb hby d4_25) rfl k) ?_
  show Goes p.tables e below (T1.setTop (mkF m 26 #[.val (.ref oa),.val (.int pl),.val (.int ph),.val (.ref ol),.val (.int (2:Int32)),.val (.int (0:Int32)),.val (.ref o0),.unset,.unset] [(.int ph)])) _
  refine Goes.by (fun _ k => XS.iloadN X1.here hx rfl (hb hby d4_26) rfl k) ?_
  show Goes p.tables e below (T1.setTop (mkF m 27 #[.val (.ref oa),.val (.int pl),.val (.int ph),.val (.ref ol),.val (.int (2:Int32)),.val (.int (0:Int32)),.val (.ref o0),.unset,.unset] [(.int pl), (.int ph)])) _
  by_cases hc2 : ph < pl
  · refine Goes.by (fun _ k => XS.icmpNo X1.here hx rfl (hb hby d4_27) rfl (tlt hc2).2.1 k) ?_
    show Goes p.tables e below (T1.setTop (mkF m 30 #[.val (.ref oa),.val (.int pl),.val (.int ph),.val (.ref ol),.val (.int (2:Int32)),.val (.int (0:Int32)),.val (.ref o0),.unset,.unset] [])) _
    refine Goes.by (fun _ k => XS.iconst X1.here hx rfl (hb hby d4_30) k) ?_
    show Goes p.tables e below (T1.setTop (mkF m 31 #[.val (.ref oa),.val (.int pl),.val (.int ph),.val (.ref ol),.val (.int (2:Int32)),.val (.int (0:Int32)),.val (.ref o0),.unset,.unset] [(.int (0:Int32))])) _
    obtain ⟨fs, hr, hrun, hended, hW, hsame⟩ := X1.leave (v := some (.int (0:Int32))) (fun h => by rw [Bd.returns] at h; cases h)
    refine ⟨_, _, retN X1 hx (t := .boolean) Bd.returns (by simp) (hb hby d4_31) hr, hrun, hended, _, _, rfl, ?_, ⟨_, rfl⟩, hW, hsame.mono (by decide) (by decide)⟩
    show Q4d2 Z oa pl ph ol o0 o1 gx gy wx wy nl nh h0 n0 _ T1.heap _
    rw [e1]
    exact ⟨(by rw [fn4d2, if_pos hc2]), N0, rfl⟩
  · refine Goes.by (fun _ k => XS.icmpYes X1.here hx rfl (pc0 := 27) (pc' := 32) rfl (hb hby d4_27) rfl (flt hc2).2.1 (by decide) (by decide) k) ?_
    show Goes p.tables e below (T1.setTop (mkF m 32 #[.val (.ref oa),.val (.int pl),.val (.int ph),.val (.ref ol),.val (.int (2:Int32)),.val (.int (0:Int32)),.val (.ref o0),.unset,.unset] [])) _
    refine Goes.by (fun _ k => XS.iloadN X1.here hx rfl (hb hby d4_32) rfl k) ?_
    show Goes p.tables e below (T1.setTop (mkF m 33 #[.val (.ref oa),.val (.int pl),.val (.int ph),.val (.ref ol),.val (.int (2:Int32)),.val (.int (0:Int32)),.val (.ref o0),.unset,.unset] [(.int pl)])) _
    refine Goes.by (fun _ k => XS.bipush X1.here hx rfl (hb hby d4_33) k) ?_
    show Goes p.tables e below (T1.setTop (mkF m 35 #[.val (.ref oa),.val (.int pl),.val (.int ph),.val (.ref ol),.val (.int (2:Int32)),.val (.int (0:Int32)),.val (.ref o0),.unset,.unset] [(.int (6:Int32)), (.int pl)])) _
    refine Goes.by (fun _ k => XS.iushr X1.here hx rfl (hb hby d4_35) rfl k) ?_
    show Goes p.tables e below (T1.setTop (mkF m 36 #[.val (.ref oa),.val (.int pl),.val (.int ph),.val (.ref ol),.val (.int (2:Int32)),.val (.int (0:Int32)),.val (.ref o0),.unset,.unset] [(.int ((pl.toUInt32>>>((6:Int32)&&&31).toUInt32).toInt32))])) _
    refine Goes.by (fun _ k => XS.istore X1.here hx rfl (hb hby d4_36) rfl (l' := #[.val (.ref oa),.val (.int pl),.val (.int ph),.val (.ref ol),.val (.int (2:Int32)),.val (.int (0:Int32)),.val (.ref o0),.val (.int ((pl.toUInt32>>>((6:Int32)&&&31).toUInt32).toInt32)),.unset]) rfl k) ?_
    show Goes p.tables e below (T1.setTop (mkF m 38 #[.val (.ref oa),.val (.int pl),.val (.int ph),.val (.ref ol),.val (.int (2:Int32)),.val (.int (0:Int32)),.val (.ref o0),.val (.int ((pl.toUInt32>>>((6:Int32)&&&31).toUInt32).toInt32)),.unset] [])) _
    refine Goes.by (fun _ k => XS.iloadN X1.here hx rfl (hb hby d4_38) rfl k) ?_
    show Goes p.tables e below (T1.setTop (mkF m 39 #[.val (.ref oa),.val (.int pl),.val (.int ph),.val (.ref ol),.val (.int (2:Int32)),.val (.int (0:Int32)),.val (.ref o0),.val (.int ((pl.toUInt32>>>((6:Int32)&&&31).toUInt32).toInt32)),.unset] [(.int ph)])) _
    refine Goes.by (fun _ k => XS.bipush X1.here hx rfl (hb hby d4_39) k) ?_
    show Goes p.tables e below (T1.setTop (mkF m 41 #[.val (.ref oa),.val (.int pl),.val (.int ph),.val (.ref ol),.val (.int (2:Int32)),.val (.int (0:Int32)),.val (.ref o0),.val (.int ((pl.toUInt32>>>((6:Int32)&&&31).toUInt32).toInt32)),.unset] [(.int (6:Int32)), (.int ph)])) _
    refine Goes.by (fun _ k => XS.iushr X1.here hx rfl (hb hby d4_41) rfl k) ?_
    show Goes p.tables e below (T1.setTop (mkF m 42 #[.val (.ref oa),.val (.int pl),.val (.int ph),.val (.ref ol),.val (.int (2:Int32)),.val (.int (0:Int32)),.val (.ref o0),.val (.int ((pl.toUInt32>>>((6:Int32)&&&31).toUInt32).toInt32)),.unset] [(.int ((ph.toUInt32>>>((6:Int32)&&&31).toUInt32).toInt32))])) _
    refine Goes.by (fun _ k => XS.istore X1.here hx rfl (hb hby d4_42) rfl (l' := #[.val (.ref oa),.val (.int pl),.val (.int ph),.val (.ref ol),.val (.int (2:Int32)),.val (.int (0:Int32)),.val (.ref o0),.val (.int ((pl.toUInt32>>>((6:Int32)&&&31).toUInt32).toInt32)),.val (.int ((ph.toUInt32>>>((6:Int32)&&&31).toUInt32).toInt32))]) rfl k) ?_
    show Goes p.tables e below (T1.setTop (mkF m 44 #[.val (.ref oa),.val (.int pl),.val (.int ph),.val (.ref ol),.val (.int (2:Int32)),.val (.int (0:Int32)),.val (.ref o0),.val (.int ((pl.toUInt32>>>((6:Int32)&&&31).toUInt32).toInt32)),.val (.int ((ph.toUInt32>>>((6:Int32)&&&31).toUInt32).toInt32))] [])) _
    refine Goes.by (fun _ k => XS.iload X1.here hx rfl (hb hby d4_44) rfl k) ?_
    show Goes p.tables e below (T1.setTop (mkF m 46 #[.val (.ref oa),.val (.int pl),.val (.int ph),.val (.ref ol),.val (.int (2:Int32)),.val (.int (0:Int32)),.val (.ref o0),.val (.int ((pl.toUInt32>>>((6:Int32)&&&31).toUInt32).toInt32)),.val (.int ((ph.toUInt32>>>((6:Int32)&&&31).toUInt32).toInt32))] [(.int ((pl.toUInt32>>>((6:Int32)&&&31).toUInt32).toInt32))])) _
    refine Goes.by (fun _ k => XS.iload X1.here hx rfl (hb hby d4_46) rfl k) ?_
    show Goes p.tables e below (T1.setTop (mkF m 48 #[.val (.ref oa),.val (.int pl),.val (.int ph),.val (.ref ol),.val (.int (2:Int32)),.val (.int (0:Int32)),.val (.ref o0),.val (.int ((pl.toUInt32>>>((6:Int32)&&&31).toUInt32).toInt32)),.val (.int ((ph.toUInt32>>>((6:Int32)&&&31).toUInt32).toInt32))] [(.int ((ph.toUInt32>>>((6:Int32)&&&31).toUInt32).toInt32)), (.int ((pl.toUInt32>>>((6:Int32)&&&31).toUInt32).toInt32))])) _
    by_cases hc3 : ((pl.toUInt32>>>((6:Int32)&&&31).toUInt32).toInt32) = ((ph.toUInt32>>>((6:Int32)&&&31).toUInt32).toInt32)
    · refine Goes.by (fun _ k => XS.icmpNo X1.here hx rfl (hb hby d4_48) rfl (teq hc3).2 k) ?_
      show Goes p.tables e below (T1.setTop (mkF m 51 #[.val (.ref oa),.val (.int pl),.val (.int ph),.val (.ref ol),.val (.int (2:Int32)),.val (.int (0:Int32)),.val (.ref o0),.val (.int ((pl.toUInt32>>>((6:Int32)&&&31).toUInt32).toInt32)),.val (.int ((ph.toUInt32>>>((6:Int32)&&&31).toUInt32).toInt32))] [])) _
      refine Goes.by (fun _ k => XS.aload X1.here hx rfl (hb hby d4_51) rfl rfl k) ?_
      show Goes p.tables e below (T1.setTop (mkF m 53 #[.val (.ref oa),.val (.int pl),.val (.int ph),.val (.ref ol),.val (.int (2:Int32)),.val (.int (0:Int32)),.val (.ref o0),.val (.int ((pl.toUInt32>>>((6:Int32)&&&31).toUInt32).toInt32)),.val (.int ((ph.toUInt32>>>((6:Int32)&&&31).toUInt32).toInt32))] [(.ref o0)])) _
      refine Goes.by (fun _ k => XS.iload X1.here hx rfl (hb hby d4_53) rfl k) ?_
      show Goes p.tables e below (T1.setTop (mkF m 55 #[.val (.ref oa),.val (.int pl),.val (.int ph),.val (.ref ol),.val (.int (2:Int32)),.val (.int (0:Int32)),.val (.ref o0),.val (.int ((pl.toUInt32>>>((6:Int32)&&&31).toUInt32).toInt32)),.val (.int ((ph.toUInt32>>>((6:Int32)&&&31).toUInt32).toInt32))] [(.int ((pl.toUInt32>>>((6:Int32)&&&31).toUInt32).toInt32)), (.ref o0)])) _
      refine Goes.by (fun _ k => ldJ (v := (gx (nl / 64))) (fr := (mkF m 55 #[.val (.ref oa),.val (.int pl),.val (.int ph),.val (.ref ol),.val (.int (2:Int32)),.val (.int (0:Int32)),.val (.ref o0),.val (.int ((pl.toUInt32>>>((6:Int32)&&&31).toUInt32).toInt32)),.val (.int ((ph.toUInt32>>>((6:Int32)&&&31).toUInt32).toInt32))] [(.int ((pl.toUInt32>>>((6:Int32)&&&31).toUInt32).toInt32)), (.ref o0)])) X1 hx hZ e1 A_o0 (i := (nl / 64)) (own_sh6 _ _ (own_lv0 hlo hhi hwl hwh).1) (own_lv0 hlo hhi hwl hwh).2.2.1 rfl rfl rfl (hb hby d4_55) k) ?_
      show Goes p.tables e below (T1.setTop (mkF m 56 #[.val (.ref oa),.val (.int pl),.val (.int ph),.val (.ref ol),.val (.int (2:Int32)),.val (.int (0:Int32)),.val (.ref o0),.val (.int ((pl.toUInt32>>>((6:Int32)&&&31).toUInt32).toInt32)),.val (.int ((ph.toUInt32>>>((6:Int32)&&&31).toUInt32).toInt32))] [(.long (gx (nl / 64)))])) _
      refine Goes.by (fun _ k => XS.iloadN X1.here hx rfl (hb hby d4_56) rfl k) ?_
      show Goes p.tables e below (T1.setTop (mkF m 57 #[.val (.ref oa),.val (.int pl),.val (.int ph),.val (.ref ol),.val (.int (2:Int32)),.val (.int (0:Int32)),.val (.ref o0),.val (.int ((pl.toUInt32>>>((6:Int32)&&&31).toUInt32).toInt32)),.val (.int ((ph.toUInt32>>>((6:Int32)&&&31).toUInt32).toInt32))] [(.int pl), (.long (gx (nl / 64)))])) _
      obtain ⟨_, _, ⟨T4, L4, k4, n4⟩, -, X4, ⟨Lc4, hQ4, l4, y4, z4⟩, st4⟩ := Jvm.LawKit.callS X1 hx (y := (⟨"com/example/xml_graph_join/xmlgraphjoin/topo/BitLevels", "fromBit", "(I)J"⟩ : MethodName)) hown (mvT hZ (hw _ (List.mem_of_getElem? (i := 26) rfl))) (mvT hZ (hw _ (List.mem_of_getElem? (i := 27) rfl))) (mvT hZ (hw _ (List.mem_of_getElem? (i := 3) rfl))) (mvT hZ (hw _ (List.mem_of_getElem? (i := 28) rfl))) (by decide) (backOf (W := 2) (rm5 l Z a0 hw [] pl h0 n0 Z0) hZ (hw _ (List.mem_of_getElem? (i := 28) rfl)) (hw _ (List.mem_of_getElem? (i := 3) rfl)) (by decide) (by decide)) (g := (mkF m 57 #[.val (.ref oa),.val (.int pl),.val (.int ph),.val (.ref ol),.val (.int (2:Int32)),.val (.int (0:Int32)),.val (.ref o0),.val (.int ((pl.toUInt32>>>((6:Int32)&&&31).toUInt32).toInt32)),.val (.int ((ph.toUInt32>>>((6:Int32)&&&31).toUInt32).toInt32))] [(.int pl), (.long (gx (nl / 64)))])) rfl (by rw [hml]; rfl) (argsL := [(.int pl)]) (rest := [(.long (gx (nl / 64)))]) (lenOf pd_0 rfl) rfl (by show 2 * 0 + (2 + 0) ≤ _; decide) (hb hby d4_57) (fun _ _ => ⟨rfl, e1, (by decide : 0 + 0 ≤ _), (by decide : 0 + 0 ≤ _)⟩)
      dsimp only [Pt.U, Pt.locs, Pt.cells, Pt.slots] at X4 l4 y4 z4 st4 hQ4
      rw [l4, y4, z4] at X4
      obtain ⟨rfl, N4q, e4⟩ := hQ4
      have N4 := Fr.app N0 N4q
      refine Goes.by st4 ?_
      show Goes p.tables e below (T4.setTop (mkF m 60 #[.val (.ref oa),.val (.int pl),.val (.int ph),.val (.ref ol),.val (.int (2:Int32)),.val (.int (0:Int32)),.val (.ref o0),.val (.int ((pl.toUInt32>>>((6:Int32)&&&31).toUInt32).toInt32)),.val (.int ((ph.toUInt32>>>((6:Int32)&&&31).toUInt32).toInt32))] [(.long (fromB pl)), (.long (gx (nl / 64)))])) _
      refine Goes.by (fun _ k => XS.land X4.here hx rfl (hb hby d4_60) rfl k) ?_
      show Goes p.tables e below (T4.setTop (mkF m 61 #[.val (.ref oa),.val (.int pl),.val (.int ph),.val (.ref ol),.val (.int (2:Int32)),.val (.int (0:Int32)),.val (.ref o0),.val (.int ((pl.toUInt32>>>((6:Int32)&&&31).toUInt32).toInt32)),.val (.int ((ph.toUInt32>>>((6:Int32)&&&31).toUInt32).toInt32))] [(.long ((gx (nl / 64))&&&(fromB pl)))])) _
      refine Goes.by (fun _ k => XS.iloadN X4.here hx rfl (hb hby d4_61) rfl k) ?_
      show Goes p.tables e below (T4.setTop (mkF m 62 #[.val (.ref oa),.val (.int pl),.val (.int ph),.val (.ref ol),.val (.int (2:Int32)),.val (.int (0:Int32)),.val (.ref o0),.val (.int ((pl.toUInt32>>>((6:Int32)&&&31).toUInt32).toInt32)),.val (.int ((ph.toUInt32>>>((6:Int32)&&&31).toUInt32).toInt32))] [(.int ph), (.long ((gx (nl / 64))&&&(fromB pl)))])) _
      obtain ⟨_, _, ⟨T5, L5, k5, n5⟩, -, X5, ⟨Lc5, hQ5, l5, y5, z5⟩, st5⟩ := Jvm.LawKit.callS X4 hx (y := (⟨"com/example/xml_graph_join/xmlgraphjoin/topo/BitLevels", "upToBit", "(I)J"⟩ : MethodName)) hown (mvT hZ (hw _ (List.mem_of_getElem? (i := 30) rfl))) (mvT hZ (hw _ (List.mem_of_getElem? (i := 31) rfl))) (mvT hZ (hw _ (List.mem_of_getElem? (i := 3) rfl))) (mvT hZ (hw _ (List.mem_of_getElem? (i := 32) rfl))) (by decide) (backOf (W := 2) (rm6 l Z a0 hw [] ph h0 n0 Z0) hZ (hw _ (List.mem_of_getElem? (i := 32) rfl)) (hw _ (List.mem_of_getElem? (i := 3) rfl)) (by decide) (by decide)) (g := (mkF m 62 #[.val (.ref oa),.val (.int pl),.val (.int ph),.val (.ref ol),.val (.int (2:Int32)),.val (.int (0:Int32)),.val (.ref o0),.val (.int ((pl.toUInt32>>>((6:Int32)&&&31).toUInt32).toInt32)),.val (.int ((ph.toUInt32>>>((6:Int32)&&&31).toUInt32).toInt32))] [(.int ph), (.long ((gx (nl / 64))&&&(fromB pl)))])) rfl (by rw [hml]; rfl) (argsL := [(.int ph)]) (rest := [(.long ((gx (nl / 64))&&&(fromB pl)))]) (lenOf pd_0 rfl) rfl (by show 2 * 0 + (2 + 0) ≤ _; decide) (hb hby d4_62) (fun _ _ => ⟨rfl, e4, (by decide : 0 + 0 ≤ _), (by decide : 0 + 0 ≤ _)⟩)
      dsimp only [Pt.U, Pt.locs, Pt.cells, Pt.slots] at X5 l5 y5 z5 st5 hQ5
      rw [l5, y5, z5] at X5
      obtain ⟨rfl, N5q, e5⟩ := hQ5
      have N5 := Fr.app N4 N5q
      refine Goes.by st5 ?_
      show Goes p.tables e below (T5.setTop (mkF m 65 #[.val (.ref oa),.val (.int pl),.val (.int ph),.val (.ref ol),.val (.int (2:Int32)),.val (.int (0:Int32)),.val (.ref o0),.val (.int ((pl.toUInt32>>>((6:Int32)&&&31).toUInt32).toInt32)),.val (.int ((ph.toUInt32>>>((6:Int32)&&&31).toUInt32).toInt32))] [(.long (upB ph)), (.long ((gx (nl / 64))&&&(fromB pl)))])) _
      refine Goes.by (fun _ k => XS.land X5.here hx rfl (hb hby d4_65) rfl k) ?_
      show Goes p.tables e below (T5.setTop (mkF m 66 #[.val (.ref oa),.val (.int pl),.val (.int ph),.val (.ref ol),.val (.int (2:Int32)),.val (.int (0:Int32)),.val (.ref o0),.val (.int ((pl.toUInt32>>>((6:Int32)&&&31).toUInt32).toInt32)),.val (.int ((ph.toUInt32>>>((6:Int32)&&&31).toUInt32).toInt32))] [(.long (((gx (nl / 64))&&&(fromB pl))&&&(upB ph)))])) _
      refine Goes.by (fun _ k => XS.lconst X5.here hx rfl (hb hby d4_66) k) ?_
      show Goes p.tables e below (T5.setTop (mkF m 67 #[.val (.ref oa),.val (.int pl),.val (.int ph),.val (.ref ol),.val (.int (2:Int32)),.val (.int (0:Int32)),.val (.ref o0),.val (.int ((pl.toUInt32>>>((6:Int32)&&&31).toUInt32).toInt32)),.val (.int ((ph.toUInt32>>>((6:Int32)&&&31).toUInt32).toInt32))] [(.long (0:Int64)), (.long (((gx (nl / 64))&&&(fromB pl))&&&(upB ph)))])) _
      refine Goes.by (fun _ k => XS.lcmp X5.here hx rfl (hb hby d4_67) rfl k) ?_
      show Goes p.tables e below (T5.setTop (mkF m 68 #[.val (.ref oa),.val (.int pl),.val (.int ph),.val (.ref ol),.val (.int (2:Int32)),.val (.int (0:Int32)),.val (.ref o0),.val (.int ((pl.toUInt32>>>((6:Int32)&&&31).toUInt32).toInt32)),.val (.int ((ph.toUInt32>>>((6:Int32)&&&31).toUInt32).toInt32))] [(.int (lcmpW (((gx (nl / 64))&&&(fromB pl))&&&(upB ph)) (0:Int64)))])) _
      by_cases hc6 : (((gx (nl / 64))&&&(fromB pl))&&&(upB ph)) = (0:Int64)
      · refine Goes.by (fun _ k => XS.ifYes X5.here hx rfl (pc0 := 68) (pc' := 75) rfl (hb hby d4_68) rfl (je_t hc6).1 (by decide) (by decide) k) ?_
        show Goes p.tables e below (T5.setTop (mkF m 75 #[.val (.ref oa),.val (.int pl),.val (.int ph),.val (.ref ol),.val (.int (2:Int32)),.val (.int (0:Int32)),.val (.ref o0),.val (.int ((pl.toUInt32>>>((6:Int32)&&&31).toUInt32).toInt32)),.val (.int ((ph.toUInt32>>>((6:Int32)&&&31).toUInt32).toInt32))] [])) _
        refine Goes.by (fun _ k => XS.iconst X5.here hx rfl (hb hby d4_75) k) ?_
        show Goes p.tables e below (T5.setTop (mkF m 76 #[.val (.ref oa),.val (.int pl),.val (.int ph),.val (.ref ol),.val (.int (2:Int32)),.val (.int (0:Int32)),.val (.ref o0),.val (.int ((pl.toUInt32>>>((6:Int32)&&&31).toUInt32).toInt32)),.val (.int ((ph.toUInt32>>>((6:Int32)&&&31).toUInt32).toInt32))] [(.int (0:Int32))])) _
        obtain ⟨fs, hr, hrun, hended, hW, hsame⟩ := X5.leave (v := some (.int (0:Int32))) (fun h => by rw [Bd.returns] at h; cases h)
        refine ⟨_, _, retN X5 hx (t := .boolean) Bd.returns (by simp) (hb hby d4_76) hr, hrun, hended, _, _, rfl, ?_, ⟨_, rfl⟩, hW, hsame.mono (by decide) (by decide)⟩
        show Q4d2 Z oa pl ph ol o0 o1 gx gy wx wy nl nh h0 n0 _ T5.heap _
        rw [e5]
        exact ⟨(by rw [fn4d2, if_neg hc2, if_pos hc3, if_pos hc6]), N5, rfl⟩
      · refine Goes.by (fun _ k => XS.ifNo X5.here hx rfl (hb hby d4_68) rfl (je_f hc6).1 k) ?_
        show Goes p.tables e below (T5.setTop (mkF m 71 #[.val (.ref oa),.val (.int pl),.val (.int ph),.val (.ref ol),.val (.int (2:Int32)),.val (.int (0:Int32)),.val (.ref o0),.val (.int ((pl.toUInt32>>>((6:Int32)&&&31).toUInt32).toInt32)),.val (.int ((ph.toUInt32>>>((6:Int32)&&&31).toUInt32).toInt32))] [])) _
        refine Goes.by (fun _ k => XS.iconst X5.here hx rfl (hb hby d4_71) k) ?_
        show Goes p.tables e below (T5.setTop (mkF m 72 #[.val (.ref oa),.val (.int pl),.val (.int ph),.val (.ref ol),.val (.int (2:Int32)),.val (.int (0:Int32)),.val (.ref o0),.val (.int ((pl.toUInt32>>>((6:Int32)&&&31).toUInt32).toInt32)),.val (.int ((ph.toUInt32>>>((6:Int32)&&&31).toUInt32).toInt32))] [(.int (1:Int32))])) _
        refine Goes.by (fun _ k => XS.goto X5.here hx rfl (pc0 := 72) (pc' := 76) rfl (hb hby d4_72) (by decide) (by decide) k) ?_
        show Goes p.tables e below (T5.setTop (mkF m 76 #[.val (.ref oa),.val (.int pl),.val (.int ph),.val (.ref ol),.val (.int (2:Int32)),.val (.int (0:Int32)),.val (.ref o0),.val (.int ((pl.toUInt32>>>((6:Int32)&&&31).toUInt32).toInt32)),.val (.int ((ph.toUInt32>>>((6:Int32)&&&31).toUInt32).toInt32))] [(.int (1:Int32))])) _
        obtain ⟨fs, hr, hrun, hended, hW, hsame⟩ := X5.leave (v := some (.int (1:Int32))) (fun h => by rw [Bd.returns] at h; cases h)
        refine ⟨_, _, retN X5 hx (t := .boolean) Bd.returns (by simp) (hb hby d4_76) hr, hrun, hended, _, _, rfl, ?_, ⟨_, rfl⟩, hW, hsame.mono (by decide) (by decide)⟩
        show Q4d2 Z oa pl ph ol o0 o1 gx gy wx wy nl nh h0 n0 _ T5.heap _
        rw [e5]
        exact ⟨(by rw [fn4d2, if_neg hc2, if_pos hc3, if_neg hc6]), N5, rfl⟩
    · refine Goes.by (fun _ k => XS.icmpYes X1.here hx rfl (pc0 := 48) (pc' := 77) rfl (hb hby d4_48) rfl (feq hc3).2 (by decide) (by decide) k) ?_
      show Goes p.tables e below (T1.setTop (mkF m 77 #[.val (.ref oa),.val (.int pl),.val (.int ph),.val (.ref ol),.val (.int (2:Int32)),.val (.int (0:Int32)),.val (.ref o0),.val (.int ((pl.toUInt32>>>((6:Int32)&&&31).toUInt32).toInt32)),.val (.int ((ph.toUInt32>>>((6:Int32)&&&31).toUInt32).toInt32))] [])) _
      refine Goes.by (fun _ k => XS.aload X1.here hx rfl (hb hby d4_77) rfl rfl k) ?_
      show Goes p.tables e below (T1.setTop (mkF m 79 #[.val (.ref oa),.val (.int pl),.val (.int ph),.val (.ref ol),.val (.int (2:Int32)),.val (.int (0:Int32)),.val (.ref o0),.val (.int ((pl.toUInt32>>>((6:Int32)&&&31).toUInt32).toInt32)),.val (.int ((ph.toUInt32>>>((6:Int32)&&&31).toUInt32).toInt32))] [(.ref o0)])) _
      refine Goes.by (fun _ k => XS.iload X1.here hx rfl (hb hby d4_79) rfl k) ?_
      show Goes p.tables e below (T1.setTop (mkF m 81 #[.val (.ref oa),.val (.int pl),.val (.int ph),.val (.ref ol),.val (.int (2:Int32)),.val (.int (0:Int32)),.val (.ref o0),.val (.int ((pl.toUInt32>>>((6:Int32)&&&31).toUInt32).toInt32)),.val (.int ((ph.toUInt32>>>((6:Int32)&&&31).toUInt32).toInt32))] [(.int ((pl.toUInt32>>>((6:Int32)&&&31).toUInt32).toInt32)), (.ref o0)])) _
      refine Goes.by (fun _ k => ldJ (v := (gx (nl / 64))) (fr := (mkF m 81 #[.val (.ref oa),.val (.int pl),.val (.int ph),.val (.ref ol),.val (.int (2:Int32)),.val (.int (0:Int32)),.val (.ref o0),.val (.int ((pl.toUInt32>>>((6:Int32)&&&31).toUInt32).toInt32)),.val (.int ((ph.toUInt32>>>((6:Int32)&&&31).toUInt32).toInt32))] [(.int ((pl.toUInt32>>>((6:Int32)&&&31).toUInt32).toInt32)), (.ref o0)])) X1 hx hZ e1 A_o0 (i := (nl / 64)) (own_sh6 _ _ (own_lv0 hlo hhi hwl hwh).1) (own_lv0 hlo hhi hwl hwh).2.2.1 rfl rfl rfl (hb hby d4_81) k) ?_
      show Goes p.tables e below (T1.setTop (mkF m 82 #[.val (.ref oa),.val (.int pl),.val (.int ph),.val (.ref ol),.val (.int (2:Int32)),.val (.int (0:Int32)),.val (.ref o0),.val (.int ((pl.toUInt32>>>((6:Int32)&&&31).toUInt32).toInt32)),.val (.int ((ph.toUInt32>>>((6:Int32)&&&31).toUInt32).toInt32))] [(.long (gx (nl / 64)))])) _
      refine Goes.by (fun _ k => XS.iloadN X1.here hx rfl (hb hby d4_82) rfl k) ?_
      show Goes p.tables e below (T1.setTop (mkF m 83 #[.val (.ref oa),.val (.int pl),.val (.int ph),.val (.ref ol),.val (.int (2:Int32)),.val (.int (0:Int32)),.val (.ref o0),.val (.int ((pl.toUInt32>>>((6:Int32)&&&31).toUInt32).toInt32)),.val (.int ((ph.toUInt32>>>((6:Int32)&&&31).toUInt32).toInt32))] [(.int pl), (.long (gx (nl / 64)))])) _
      obtain ⟨_, _, ⟨T7, L7, k7, n7⟩, -, X7, ⟨Lc7, hQ7, l7, y7, z7⟩, st7⟩ := Jvm.LawKit.callS X1 hx (y := (⟨"com/example/xml_graph_join/xmlgraphjoin/topo/BitLevels", "fromBit", "(I)J"⟩ : MethodName)) hown (mvT hZ (hw _ (List.mem_of_getElem? (i := 26) rfl))) (mvT hZ (hw _ (List.mem_of_getElem? (i := 27) rfl))) (mvT hZ (hw _ (List.mem_of_getElem? (i := 3) rfl))) (mvT hZ (hw _ (List.mem_of_getElem? (i := 28) rfl))) (by decide) (backOf (W := 2) (rm5 l Z a0 hw [] pl h0 n0 Z0) hZ (hw _ (List.mem_of_getElem? (i := 28) rfl)) (hw _ (List.mem_of_getElem? (i := 3) rfl)) (by decide) (by decide)) (g := (mkF m 83 #[.val (.ref oa),.val (.int pl),.val (.int ph),.val (.ref ol),.val (.int (2:Int32)),.val (.int (0:Int32)),.val (.ref o0),.val (.int ((pl.toUInt32>>>((6:Int32)&&&31).toUInt32).toInt32)),.val (.int ((ph.toUInt32>>>((6:Int32)&&&31).toUInt32).toInt32))] [(.int pl), (.long (gx (nl / 64)))])) rfl (by rw [hml]; rfl) (argsL := [(.int pl)]) (rest := [(.long (gx (nl / 64)))]) (lenOf pd_0 rfl) rfl (by show 2 * 0 + (2 + 0) ≤ _; decide) (hb hby d4_83) (fun _ _ => ⟨rfl, e1, (by decide : 0 + 0 ≤ _), (by decide : 0 + 0 ≤ _)⟩)
      dsimp only [Pt.U, Pt.locs, Pt.cells, Pt.slots] at X7 l7 y7 z7 st7 hQ7
      rw [l7, y7, z7] at X7
      obtain ⟨rfl, N7q, e7⟩ := hQ7
      have N7 := Fr.app N0 N7q
      refine Goes.by st7 ?_
      show Goes p.tables e below (T7.setTop (mkF m 86 #[.val (.ref oa),.val (.int pl),.val (.int ph),.val (.ref ol),.val (.int (2:Int32)),.val (.int (0:Int32)),.val (.ref o0),.val (.int ((pl.toUInt32>>>((6:Int32)&&&31).toUInt32).toInt32)),.val (.int ((ph.toUInt32>>>((6:Int32)&&&31).toUInt32).toInt32))] [(.long (fromB pl)), (.long (gx (nl / 64)))])) _
      refine Goes.by (fun _ k => XS.land X7.here hx rfl (hb hby d4_86) rfl k) ?_
      show Goes p.tables e below (T7.setTop (mkF m 87 #[.val (.ref oa),.val (.int pl),.val (.int ph),.val (.ref ol),.val (.int (2:Int32)),.val (.int (0:Int32)),.val (.ref o0),.val (.int ((pl.toUInt32>>>((6:Int32)&&&31).toUInt32).toInt32)),.val (.int ((ph.toUInt32>>>((6:Int32)&&&31).toUInt32).toInt32))] [(.long ((gx (nl / 64))&&&(fromB pl)))])) _
      refine Goes.by (fun _ k => XS.lconst X7.here hx rfl (hb hby d4_87) k) ?_
      show Goes p.tables e below (T7.setTop (mkF m 88 #[.val (.ref oa),.val (.int pl),.val (.int ph),.val (.ref ol),.val (.int (2:Int32)),.val (.int (0:Int32)),.val (.ref o0),.val (.int ((pl.toUInt32>>>((6:Int32)&&&31).toUInt32).toInt32)),.val (.int ((ph.toUInt32>>>((6:Int32)&&&31).toUInt32).toInt32))] [(.long (0:Int64)), (.long ((gx (nl / 64))&&&(fromB pl)))])) _
      refine Goes.by (fun _ k => XS.lcmp X7.here hx rfl (hb hby d4_88) rfl k) ?_
      show Goes p.tables e below (T7.setTop (mkF m 89 #[.val (.ref oa),.val (.int pl),.val (.int ph),.val (.ref ol),.val (.int (2:Int32)),.val (.int (0:Int32)),.val (.ref o0),.val (.int ((pl.toUInt32>>>((6:Int32)&&&31).toUInt32).toInt32)),.val (.int ((ph.toUInt32>>>((6:Int32)&&&31).toUInt32).toInt32))] [(.int (lcmpW ((gx (nl / 64))&&&(fromB pl)) (0:Int64)))])) _
      by_cases hc8 : ((gx (nl / 64))&&&(fromB pl)) = (0:Int64)
      · refine Goes.by (fun _ k => XS.ifNo X7.here hx rfl (hb hby d4_89) rfl (je_t hc8).2 k) ?_
        show Goes p.tables e below (T7.setTop (mkF m 92 #[.val (.ref oa),.val (.int pl),.val (.int ph),.val (.ref ol),.val (.int (2:Int32)),.val (.int (0:Int32)),.val (.ref o0),.val (.int ((pl.toUInt32>>>((6:Int32)&&&31).toUInt32).toInt32)),.val (.int ((ph.toUInt32>>>((6:Int32)&&&31).toUInt32).toInt32))] [])) _
        refine Goes.by (fun _ k => XS.aload X7.here hx rfl (hb hby d4_92) rfl rfl k) ?_
        show Goes p.tables e below (T7.setTop (mkF m 94 #[.val (.ref oa),.val (.int pl),.val (.int ph),.val (.ref ol),.val (.int (2:Int32)),.val (.int (0:Int32)),.val (.ref o0),.val (.int ((pl.toUInt32>>>((6:Int32)&&&31).toUInt32).toInt32)),.val (.int ((ph.toUInt32>>>((6:Int32)&&&31).toUInt32).toInt32))] [(.ref o0)])) _
        refine Goes.by (fun _ k => XS.iload X7.here hx rfl (hb hby d4_94) rfl k) ?_
        show Goes p.tables e below (T7.setTop (mkF m 96 #[.val (.ref oa),.val (.int pl),.val (.int ph),.val (.ref ol),.val (.int (2:Int32)),.val (.int (0:Int32)),.val (.ref o0),.val (.int ((pl.toUInt32>>>((6:Int32)&&&31).toUInt32).toInt32)),.val (.int ((ph.toUInt32>>>((6:Int32)&&&31).toUInt32).toInt32))] [(.int ((ph.toUInt32>>>((6:Int32)&&&31).toUInt32).toInt32)), (.ref o0)])) _
        refine Goes.by (fun _ k => ldJ (v := (gx (nh / 64))) (fr := (mkF m 96 #[.val (.ref oa),.val (.int pl),.val (.int ph),.val (.ref ol),.val (.int (2:Int32)),.val (.int (0:Int32)),.val (.ref o0),.val (.int ((pl.toUInt32>>>((6:Int32)&&&31).toUInt32).toInt32)),.val (.int ((ph.toUInt32>>>((6:Int32)&&&31).toUInt32).toInt32))] [(.int ((ph.toUInt32>>>((6:Int32)&&&31).toUInt32).toInt32)), (.ref o0)])) X7 hx hZ e7 A_o0 (i := (nh / 64)) (own_sh6 _ _ (own_lv0 hlo hhi hwl hwh).2.1) (own_lv0 hlo hhi hwl hwh).2.2.2 rfl rfl rfl (hb hby d4_96) k) ?_
        show Goes p.tables e below (T7.setTop (mkF m 97 #[.val (.ref oa),.val (.int pl),.val (.int ph),.val (.ref ol),.val (.int (2:Int32)),.val (.int (0:Int32)),.val (.ref o0),.val (.int ((pl.toUInt32>>>((6:Int32)&&&31).toUInt32).toInt32)),.val (.int ((ph.toUInt32>>>((6:Int32)&&&31).toUInt32).toInt32))] [(.long (gx (nh / 64)))])) _
        refine Goes.by (fun _ k => XS.iloadN X7.here hx rfl (hb hby d4_97) rfl k) ?_
        show Goes p.tables e below (T7.setTop (mkF m 98 #[.val (.ref oa),.val (.int pl),.val (.int ph),.val (.ref ol),.val (.int (2:Int32)),.val (.int (0:Int32)),.val (.ref o0),.val (.int ((pl.toUInt32>>>((6:Int32)&&&31).toUInt32).toInt32)),.val (.int ((ph.toUInt32>>>((6:Int32)&&&31).toUInt32).toInt32))] [(.int ph), (.long (gx (nh / 64)))])) _
        obtain ⟨_, _, ⟨T9, L9, k9, n9⟩, -, X9, ⟨Lc9, hQ9, l9, y9, z9⟩, st9⟩ := Jvm.LawKit.callS X7 hx (y := (⟨"com/example/xml_graph_join/xmlgraphjoin/topo/BitLevels", "upToBit", "(I)J"⟩ : MethodName)) hown (mvT hZ (hw _ (List.mem_of_getElem? (i := 30) rfl))) (mvT hZ (hw _ (List.mem_of_getElem? (i := 31) rfl))) (mvT hZ (hw _ (List.mem_of_getElem? (i := 3) rfl))) (mvT hZ (hw _ (List.mem_of_getElem? (i := 32) rfl))) (by decide) (backOf (W := 2) (rm6 l Z a0 hw [] ph h0 n0 Z0) hZ (hw _ (List.mem_of_getElem? (i := 32) rfl)) (hw _ (List.mem_of_getElem? (i := 3) rfl)) (by decide) (by decide)) (g := (mkF m 98 #[.val (.ref oa),.val (.int pl),.val (.int ph),.val (.ref ol),.val (.int (2:Int32)),.val (.int (0:Int32)),.val (.ref o0),.val (.int ((pl.toUInt32>>>((6:Int32)&&&31).toUInt32).toInt32)),.val (.int ((ph.toUInt32>>>((6:Int32)&&&31).toUInt32).toInt32))] [(.int ph), (.long (gx (nh / 64)))])) rfl (by rw [hml]; rfl) (argsL := [(.int ph)]) (rest := [(.long (gx (nh / 64)))]) (lenOf pd_0 rfl) rfl (by show 2 * 0 + (2 + 0) ≤ _; decide) (hb hby d4_98) (fun _ _ => ⟨rfl, e7, (by decide : 0 + 0 ≤ _), (by decide : 0 + 0 ≤ _)⟩)
        dsimp only [Pt.U, Pt.locs, Pt.cells, Pt.slots] at X9 l9 y9 z9 st9 hQ9
        rw [l9, y9, z9] at X9
        obtain ⟨rfl, N9q, e9⟩ := hQ9
        have N9 := Fr.app N7 N9q
        refine Goes.by st9 ?_
        show Goes p.tables e below (T9.setTop (mkF m 101 #[.val (.ref oa),.val (.int pl),.val (.int ph),.val (.ref ol),.val (.int (2:Int32)),.val (.int (0:Int32)),.val (.ref o0),.val (.int ((pl.toUInt32>>>((6:Int32)&&&31).toUInt32).toInt32)),.val (.int ((ph.toUInt32>>>((6:Int32)&&&31).toUInt32).toInt32))] [(.long (upB ph)), (.long (gx (nh / 64)))])) _
        refine Goes.by (fun _ k => XS.land X9.here hx rfl (hb hby d4_101) rfl k) ?_
        show Goes p.tables e below (T9.setTop (mkF m 102 #[.val (.ref oa),.val (.int pl),.val (.int ph),.val (.ref ol),.val (.int (2:Int32)),.val (.int (0:Int32)),.val (.ref o0),.val (.int ((pl.toUInt32>>>((6:Int32)&&&31).toUInt32).toInt32)),.val (.int ((ph.toUInt32>>>((6:Int32)&&&31).toUInt32).toInt32))] [(.long ((gx (nh / 64))&&&(upB ph)))])) _
        refine Goes.by (fun _ k => XS.lconst X9.here hx rfl (hb hby d4_102) k) ?_
        show Goes p.tables e below (T9.setTop (mkF m 103 #[.val (.ref oa),.val (.int pl),.val (.int ph),.val (.ref ol),.val (.int (2:Int32)),.val (.int (0:Int32)),.val (.ref o0),.val (.int ((pl.toUInt32>>>((6:Int32)&&&31).toUInt32).toInt32)),.val (.int ((ph.toUInt32>>>((6:Int32)&&&31).toUInt32).toInt32))] [(.long (0:Int64)), (.long ((gx (nh / 64))&&&(upB ph)))])) _
        refine Goes.by (fun _ k => XS.lcmp X9.here hx rfl (hb hby d4_103) rfl k) ?_
        show Goes p.tables e below (T9.setTop (mkF m 104 #[.val (.ref oa),.val (.int pl),.val (.int ph),.val (.ref ol),.val (.int (2:Int32)),.val (.int (0:Int32)),.val (.ref o0),.val (.int ((pl.toUInt32>>>((6:Int32)&&&31).toUInt32).toInt32)),.val (.int ((ph.toUInt32>>>((6:Int32)&&&31).toUInt32).toInt32))] [(.int (lcmpW ((gx (nh / 64))&&&(upB ph)) (0:Int64)))])) _
        by_cases hc10 : ((gx (nh / 64))&&&(upB ph)) = (0:Int64)
        · refine Goes.by (fun _ k => XS.ifYes X9.here hx rfl (pc0 := 104) (pc' := 109) rfl (hb hby d4_104) rfl (je_t hc10).1 (by decide) (by decide) k) ?_
          show Goes p.tables e below (T9.setTop (mkF m 109 #[.val (.ref oa),.val (.int pl),.val (.int ph),.val (.ref ol),.val (.int (2:Int32)),.val (.int (0:Int32)),.val (.ref o0),.val (.int ((pl.toUInt32>>>((6:Int32)&&&31).toUInt32).toInt32)),.val (.int ((ph.toUInt32>>>((6:Int32)&&&31).toUInt32).toInt32))] [])) _
          refine Goes.by (fun _ k => XS.iload X9.here hx rfl (hb hby d4_109) rfl k) ?_
          show Goes p.tables e below (T9.setTop (mkF m 111 #[.val (.ref oa),.val (.int pl),.val (.int ph),.val (.ref ol),.val (.int (2:Int32)),.val (.int (0:Int32)),.val (.ref o0),.val (.int ((pl.toUInt32>>>((6:Int32)&&&31).toUInt32).toInt32)),.val (.int ((ph.toUInt32>>>((6:Int32)&&&31).toUInt32).toInt32))] [(.int ((pl.toUInt32>>>((6:Int32)&&&31).toUInt32).toInt32))])) _
          refine Goes.by (fun _ k => XS.iconst X9.here hx rfl (hb hby d4_111) k) ?_
          show Goes p.tables e below (T9.setTop (mkF m 112 #[.val (.ref oa),.val (.int pl),.val (.int ph),.val (.ref ol),.val (.int (2:Int32)),.val (.int (0:Int32)),.val (.ref o0),.val (.int ((pl.toUInt32>>>((6:Int32)&&&31).toUInt32).toInt32)),.val (.int ((ph.toUInt32>>>((6:Int32)&&&31).toUInt32).toInt32))] [(.int (1:Int32)), (.int ((pl.toUInt32>>>((6:Int32)&&&31).toUInt32).toInt32))])) _
          refine Goes.by (fun _ k => XS.iadd X9.here hx rfl (hb hby d4_112) rfl k) ?_
          show Goes p.tables e below (T9.setTop (mkF m 113 #[.val (.ref oa),.val (.int pl),.val (.int ph),.val (.ref ol),.val (.int (2:Int32)),.val (.int (0:Int32)),.val (.ref o0),.val (.int ((pl.toUInt32>>>((6:Int32)&&&31).toUInt32).toInt32)),.val (.int ((ph.toUInt32>>>((6:Int32)&&&31).toUInt32).toInt32))] [(.int (((pl.toUInt32>>>((6:Int32)&&&31).toUInt32).toInt32) + (1:Int32)))])) _
          refine Goes.by (fun _ k => XS.istoreN X9.here hx rfl (hb hby d4_113) rfl (l' := #[.val (.ref oa),.val (.int (((pl.toUInt32>>>((6:Int32)&&&31).toUInt32).toInt32) + (1:Int32))),.val (.int ph),.val (.ref ol),.val (.int (2:Int32)),.val (.int (0:Int32)),.val (.ref o0),.val (.int ((pl.toUInt32>>>((6:Int32)&&&31).toUInt32).toInt32)),.val (.int ((ph.toUInt32>>>((6:Int32)&&&31).toUInt32).toInt32))]) rfl k) ?_
          show Goes p.tables e below (T9.setTop (mkF m 114 #[.val (.ref oa),.val (.int (((pl.toUInt32>>>((6:Int32)&&&31).toUInt32).toInt32) + (1:Int32))),.val (.int ph),.val (.ref ol),.val (.int (2:Int32)),.val (.int (0:Int32)),.val (.ref o0),.val (.int ((pl.toUInt32>>>((6:Int32)&&&31).toUInt32).toInt32)),.val (.int ((ph.toUInt32>>>((6:Int32)&&&31).toUInt32).toInt32))] [])) _
          refine Goes.by (fun _ k => XS.iload X9.here hx rfl (hb hby d4_114) rfl k) ?_
          show Goes p.tables e below (T9.setTop (mkF m 116 #[.val (.ref oa),.val (.int (((pl.toUInt32>>>((6:Int32)&&&31).toUInt32).toInt32) + (1:Int32))),.val (.int ph),.val (.ref ol),.val (.int (2:Int32)),.val (.int (0:Int32)),.val (.ref o0),.val (.int ((pl.toUInt32>>>((6:Int32)&&&31).toUInt32).toInt32)),.val (.int ((ph.toUInt32>>>((6:Int32)&&&31).toUInt32).toInt32))] [(.int ((ph.toUInt32>>>((6:Int32)&&&31).toUInt32).toInt32))])) _
          refine Goes.by (fun _ k => XS.iconst X9.here hx rfl (hb hby d4_116) k) ?_
          show Goes p.tables e below (T9.setTop (mkF m 117 #[.val (.ref oa),.val (.int (((pl.toUInt32>>>((6:Int32)&&&31).toUInt32).toInt32) + (1:Int32))),.val (.int ph),.val (.ref ol),.val (.int (2:Int32)),.val (.int (0:Int32)),.val (.ref o0),.val (.int ((pl.toUInt32>>>((6:Int32)&&&31).toUInt32).toInt32)),.val (.int ((ph.toUInt32>>>((6:Int32)&&&31).toUInt32).toInt32))] [(.int (1:Int32)), (.int ((ph.toUInt32>>>((6:Int32)&&&31).toUInt32).toInt32))])) _
          refine Goes.by (fun _ k => XS.isub X9.here hx rfl (hb hby d4_117) rfl k) ?_
          show Goes p.tables e below (T9.setTop (mkF m 118 #[.val (.ref oa),.val (.int (((pl.toUInt32>>>((6:Int32)&&&31).toUInt32).toInt32) + (1:Int32))),.val (.int ph),.val (.ref ol),.val (.int (2:Int32)),.val (.int (0:Int32)),.val (.ref o0),.val (.int ((pl.toUInt32>>>((6:Int32)&&&31).toUInt32).toInt32)),.val (.int ((ph.toUInt32>>>((6:Int32)&&&31).toUInt32).toInt32))] [(.int (((ph.toUInt32>>>((6:Int32)&&&31).toUInt32).toInt32) - (1:Int32)))])) _
          refine Goes.by (fun _ k => XS.istoreN X9.here hx rfl (hb hby d4_118) rfl (l' := #[.val (.ref oa),.val (.int (((pl.toUInt32>>>((6:Int32)&&&31).toUInt32).toInt32) + (1:Int32))),.val (.int (((ph.toUInt32>>>((6:Int32)&&&31).toUInt32).toInt32) - (1:Int32))),.val (.ref ol),.val (.int (2:Int32)),.val (.int (0:Int32)),.val (.ref o0),.val (.int ((pl.toUInt32>>>((6:Int32)&&&31).toUInt32).toInt32)),.val (.int ((ph.toUInt32>>>((6:Int32)&&&31).toUInt32).toInt32))]) rfl k) ?_
          show Goes p.tables e below (T9.setTop (mkF m 119 #[.val (.ref oa),.val (.int (((pl.toUInt32>>>((6:Int32)&&&31).toUInt32).toInt32) + (1:Int32))),.val (.int (((ph.toUInt32>>>((6:Int32)&&&31).toUInt32).toInt32) - (1:Int32))),.val (.ref ol),.val (.int (2:Int32)),.val (.int (0:Int32)),.val (.ref o0),.val (.int ((pl.toUInt32>>>((6:Int32)&&&31).toUInt32).toInt32)),.val (.int ((ph.toUInt32>>>((6:Int32)&&&31).toUInt32).toInt32))] [])) _
          refine Goes.by (fun _ k => XS.iinc X9.here hx rfl (hb hby d4_119) rfl (l' := #[.val (.ref oa),.val (.int (((pl.toUInt32>>>((6:Int32)&&&31).toUInt32).toInt32) + (1:Int32))),.val (.int (((ph.toUInt32>>>((6:Int32)&&&31).toUInt32).toInt32) - (1:Int32))),.val (.ref ol),.val (.int (2:Int32)),.val (.int (1:Int32)),.val (.ref o0),.val (.int ((pl.toUInt32>>>((6:Int32)&&&31).toUInt32).toInt32)),.val (.int ((ph.toUInt32>>>((6:Int32)&&&31).toUInt32).toInt32))]) rfl k) ?_
          show Goes p.tables e below (T9.setTop (mkF m 122 #[.val (.ref oa),.val (.int (((pl.toUInt32>>>((6:Int32)&&&31).toUInt32).toInt32) + (1:Int32))),.val (.int (((ph.toUInt32>>>((6:Int32)&&&31).toUInt32).toInt32) - (1:Int32))),.val (.ref ol),.val (.int (2:Int32)),.val (.int (1:Int32)),.val (.ref o0),.val (.int ((pl.toUInt32>>>((6:Int32)&&&31).toUInt32).toInt32)),.val (.int ((ph.toUInt32>>>((6:Int32)&&&31).toUInt32).toInt32))] [])) _
          refine Goes.by (fun _ k => XS.goto X9.here hx rfl (pc0 := 122) (pc' := 12) rfl (hb hby d4_122) (by decide) (by decide) k) ?_
          show Goes p.tables e below (T9.setTop (mkF m 12 #[.val (.ref oa),.val (.int (((pl.toUInt32>>>((6:Int32)&&&31).toUInt32).toInt32) + (1:Int32))),.val (.int (((ph.toUInt32>>>((6:Int32)&&&31).toUInt32).toInt32) - (1:Int32))),.val (.ref ol),.val (.int (2:Int32)),.val (.int (1:Int32)),.val (.ref o0),.val (.int ((pl.toUInt32>>>((6:Int32)&&&31).toUInt32).toInt32)),.val (.int ((ph.toUInt32>>>((6:Int32)&&&31).toUInt32).toInt32))] [])) _
          refine Goes.by (fun _ k => XS.iload X9.here hx rfl (hb hby d4_12) rfl k) ?_
          show Goes p.tables e below (T9.setTop (mkF m 14 #[.val (.ref oa),.val (.int (((pl.toUInt32>>>((6:Int32)&&&31).toUInt32).toInt32) + (1:Int32))),.val (.int (((ph.toUInt32>>>((6:Int32)&&&31).toUInt32).toInt32) - (1:Int32))),.val (.ref ol),.val (.int (2:Int32)),.val (.int (1:Int32)),.val (.ref o0),.val (.int ((pl.toUInt32>>>((6:Int32)&&&31).toUInt32).toInt32)),.val (.int ((ph.toUInt32>>>((6:Int32)&&&31).toUInt32).toInt32))] [(.int (1:Int32))])) _
          refine Goes.by (fun _ k => XS.iload X9.here hx rfl (hb hby d4_14) rfl k) ?_
          show Goes p.tables e below (T9.setTop (mkF m 16 #[.val (.ref oa),.val (.int (((pl.toUInt32>>>((6:Int32)&&&31).toUInt32).toInt32) + (1:Int32))),.val (.int (((ph.toUInt32>>>((6:Int32)&&&31).toUInt32).toInt32) - (1:Int32))),.val (.ref ol),.val (.int (2:Int32)),.val (.int (1:Int32)),.val (.ref o0),.val (.int ((pl.toUInt32>>>((6:Int32)&&&31).toUInt32).toInt32)),.val (.int ((ph.toUInt32>>>((6:Int32)&&&31).toUInt32).toInt32))] [(.int (2:Int32)), (.int (1:Int32))])) _
          refine Goes.by (fun _ k => XS.icmpNo X9.here hx rfl (hb hby d4_16) rfl (tlt (by decide : (1:Int32) < (2:Int32))).2.1 k) ?_
          show Goes p.tables e below (T9.setTop (mkF m 19 #[.val (.ref oa),.val (.int (((pl.toUInt32>>>((6:Int32)&&&31).toUInt32).toInt32) + (1:Int32))),.val (.int (((ph.toUInt32>>>((6:Int32)&&&31).toUInt32).toInt32) - (1:Int32))),.val (.ref ol),.val (.int (2:Int32)),.val (.int (1:Int32)),.val (.ref o0),.val (.int ((pl.toUInt32>>>((6:Int32)&&&31).toUInt32).toInt32)),.val (.int ((ph.toUInt32>>>((6:Int32)&&&31).toUInt32).toInt32))] [])) _
          refine Goes.by (fun _ k => XS.aloadN X9.here hx rfl (hb hby d4_19) rfl rfl k) ?_
          show Goes p.tables e below (T9.setTop (mkF m 20 #[.val (.ref oa),.val (.int (((pl.toUInt32>>>((6:Int32)&&&31).toUInt32).toInt32) + (1:Int32))),.val (.int (((ph.toUInt32>>>((6:Int32)&&&31).toUInt32).toInt32) - (1:Int32))),.val (.ref ol),.val (.int (2:Int32)),.val (.int (1:Int32)),.val (.ref o0),.val (.int ((pl.toUInt32>>>((6:Int32)&&&31).toUInt32).toInt32)),.val (.int ((ph.toUInt32>>>((6:Int32)&&&31).toUInt32).toInt32))] [(.ref ol)])) _
          refine Goes.by (fun _ k => XS.iload X9.here hx rfl (hb hby d4_20) rfl k) ?_
          show Goes p.tables e below (T9.setTop (mkF m 22 #[.val (.ref oa),.val (.int (((pl.toUInt32>>>((6:Int32)&&&31).toUInt32).toInt32) + (1:Int32))),.val (.int (((ph.toUInt32>>>((6:Int32)&&&31).toUInt32).toInt32) - (1:Int32))),.val (.ref ol),.val (.int (2:Int32)),.val (.int (1:Int32)),.val (.ref o0),.val (.int ((pl.toUInt32>>>((6:Int32)&&&31).toUInt32).toInt32)),.val (.int ((ph.toUInt32>>>((6:Int32)&&&31).toUInt32).toInt32))] [(.int (1:Int32)), (.ref ol)])) _
          refine Goes.by (fun _ k => ldR (v := (.ref o1)) (fr := (mkF m 22 #[.val (.ref oa),.val (.int (((pl.toUInt32>>>((6:Int32)&&&31).toUInt32).toInt32) + (1:Int32))),.val (.int (((ph.toUInt32>>>((6:Int32)&&&31).toUInt32).toInt32) - (1:Int32))),.val (.ref ol),.val (.int (2:Int32)),.val (.int (1:Int32)),.val (.ref o0),.val (.int ((pl.toUInt32>>>((6:Int32)&&&31).toUInt32).toInt32)),.val (.int ((ph.toUInt32>>>((6:Int32)&&&31).toUInt32).toInt32))] [(.int (1:Int32)), (.ref ol)])) X9 hx hZ e9 A_ol rfl (i := 1) (by decide) (by decide) rfl rfl rfl (hb hby d4_22) k) ?_
          show Goes p.tables e below (T9.setTop (mkF m 23 #[.val (.ref oa),.val (.int (((pl.toUInt32>>>((6:Int32)&&&31).toUInt32).toInt32) + (1:Int32))),.val (.int (((ph.toUInt32>>>((6:Int32)&&&31).toUInt32).toInt32) - (1:Int32))),.val (.ref ol),.val (.int (2:Int32)),.val (.int (1:Int32)),.val (.ref o0),.val (.int ((pl.toUInt32>>>((6:Int32)&&&31).toUInt32).toInt32)),.val (.int ((ph.toUInt32>>>((6:Int32)&&&31).toUInt32).toInt32))] [(.ref o1)])) _
          refine Goes.by (fun _ k => XS.astore X9.here hx rfl (hb hby d4_23) rfl rfl (l' := #[.val (.ref oa),.val (.int (((pl.toUInt32>>>((6:Int32)&&&31).toUInt32).toInt32) + (1:Int32))),.val (.int (((ph.toUInt32>>>((6:Int32)&&&31).toUInt32).toInt32) - (1:Int32))),.val (.ref ol),.val (.int (2:Int32)),.val (.int (1:Int32)),.val (.ref o1),.val (.int ((pl.toUInt32>>>((6:Int32)&&&31).toUInt32).toInt32)),.val (.int ((ph.toUInt32>>>((6:Int32)&&&31).toUInt32).toInt32))]) rfl k) ?_
          show Goes p.tables e below (T9.setTop (mkF m 25 #[.val (.ref oa),.val (.int (((pl.toUInt32>>>((6:Int32)&&&31).toUInt32).toInt32) + (1:Int32))),.val (.int (((ph.toUInt32>>>((6:Int32)&&&31).toUInt32).toInt32) - (1:Int32))),.val (.ref ol),.val (.int (2:Int32)),.val (.int (1:Int32)),.val (.ref o1),.val (.int ((pl.toUInt32>>>((6:Int32)&&&31).toUInt32).toInt32)),.val (.int ((ph.toUInt32>>>((6:Int32)&&&31).toUInt32).toInt32))] [])) _
          refine Goes.by (fun _ k => XS.iloadN X9.here hx rfl (hb hby d4_25) rfl k) ?_
          show Goes p.tables e below (T9.setTop (mkF m 26 #[.val (.ref oa),.val (.int (((pl.toUInt32>>>((6:Int32)&&&31).toUInt32).toInt32) + (1:Int32))),.val (.int (((ph.toUInt32>>>((6:Int32)&&&31).toUInt32).toInt32) - (1:Int32))),.val (.ref ol),.val (.int (2:Int32)),.val (.int (1:Int32)),.val (.ref o1),.val (.int ((pl.toUInt32>>>((6:Int32)&&&31).toUInt32).toInt32)),.val (.int ((ph.toUInt32>>>((6:Int32)&&&31).toUInt32).toInt32))] [(.int (((ph.toUInt32>>>((6:Int32)&&&31).toUInt32).toInt32) - (1:Int32)))])) _
          refine Goes.by (fun _ k => XS.iloadN X9.here hx rfl (hb hby d4_26) rfl k) ?_
          show Goes p.tables e below (T9.setTop (mkF m 27 #[.val (.ref oa),.val (.int (((pl.toUInt32>>>((6:Int32)&&&31).toUInt32).toInt32) + (1:Int32))),.val (.int (((ph.toUInt32>>>((6:Int32)&&&31).toUInt32).toInt32) - (1:Int32))),.val (.ref ol),.val (.int (2:Int32)),.val (.int (1:Int32)),.val (.ref o1),.val (.int ((pl.toUInt32>>>((6:Int32)&&&31).toUInt32).toInt32)),.val (.int ((ph.toUInt32>>>((6:Int32)&&&31).toUInt32).toInt32))] [(.int (((pl.toUInt32>>>((6:Int32)&&&31).toUInt32).toInt32) + (1:Int32))), (.int (((ph.toUInt32>>>((6:Int32)&&&31).toUInt32).toInt32) - (1:Int32)))])) _
          by_cases hc11 : (((ph.toUInt32>>>((6:Int32)&&&31).toUInt32).toInt32) - (1:Int32)) < (((pl.toUInt32>>>((6:Int32)&&&31).toUInt32).toInt32) + (1:Int32))
          · refine Goes.by (fun _ k => XS.icmpNo X9.here hx rfl (hb hby d4_27) rfl (tlt hc11).2.1 k) ?_
            show Goes p.tables e below (T9.setTop (mkF m 30 #[.val (.ref oa),.val (.int (((pl.toUInt32>>>((6:Int32)&&&31).toUInt32).toInt32) + (1:Int32))),.val (.int (((ph.toUInt32>>>((6:Int32)&&&31).toUInt32).toInt32) - (1:Int32))),.val (.ref ol),.val (.int (2:Int32)),.val (.int (1:Int32)),.val (.ref o1),.val (.int ((pl.toUInt32>>>((6:Int32)&&&31).toUInt32).toInt32)),.val (.int ((ph.toUInt32>>>((6:Int32)&&&31).toUInt32).toInt32))] [])) _
            refine Goes.by (fun _ k => XS.iconst X9.here hx rfl (hb hby d4_30) k) ?_
            show Goes p.tables e below (T9.setTop (mkF m 31 #[.val (.ref oa),.val (.int (((pl.toUInt32>>>((6:Int32)&&&31).toUInt32).toInt32) + (1:Int32))),.val (.int (((ph.toUInt32>>>((6:Int32)&&&31).toUInt32).toInt32) - (1:Int32))),.val (.ref ol),.val (.int (2:Int32)),.val (.int (1:Int32)),.val (.ref o1),.val (.int ((pl.toUInt32>>>((6:Int32)&&&31).toUInt32).toInt32)),.val (.int ((ph.toUInt32>>>((6:Int32)&&&31).toUInt32).toInt32))] [(.int (0:Int32))])) _
            obtain ⟨fs, hr, hrun, hended, hW, hsame⟩ := X9.leave (v := some (.int (0:Int32))) (fun h => by rw [Bd.returns] at h; cases h)
            refine ⟨_, _, retN X9 hx (t := .boolean) Bd.returns (by simp) (hb hby d4_31) hr, hrun, hended, _, _, rfl, ?_, ⟨_, rfl⟩, hW, hsame.mono (by decide) (by decide)⟩
            show Q4d2 Z oa pl ph ol o0 o1 gx gy wx wy nl nh h0 n0 _ T9.heap _
            rw [e9]
            exact ⟨(by rw [fn4d2, if_neg hc2, if_neg hc3, if_pos hc8, if_pos hc10, if_pos hc11]), N9, rfl⟩
          · refine Goes.by (fun _ k => XS.icmpYes X9.here hx rfl (pc0 := 27) (pc' := 32) rfl (hb hby d4_27) rfl (flt hc11).2.1 (by decide) (by decide) k) ?_
            show Goes p.tables e below (T9.setTop (mkF m 32 #[.val (.ref oa),.val (.int (((pl.toUInt32>>>((6:Int32)&&&31).toUInt32).toInt32) + (1:Int32))),.val (.int (((ph.toUInt32>>>((6:Int32)&&&31).toUInt32).toInt32) - (1:Int32))),.val (.ref ol),.val (.int (2:Int32)),.val (.int (1:Int32)),.val (.ref o1),.val (.int ((pl.toUInt32>>>((6:Int32)&&&31).toUInt32).toInt32)),.val (.int ((ph.toUInt32>>>((6:Int32)&&&31).toUInt32).toInt32))] [])) _
            refine Goes.by (fun _ k => XS.iloadN X9.here hx rfl (hb hby d4_32) rfl k) ?_
            show Goes p.tables e below (T9.setTop (mkF m 33 #[.val (.ref oa),.val (.int (((pl.toUInt32>>>((6:Int32)&&&31).toUInt32).toInt32) + (1:Int32))),.val (.int (((ph.toUInt32>>>((6:Int32)&&&31).toUInt32).toInt32) - (1:Int32))),.val (.ref ol),.val (.int (2:Int32)),.val (.int (1:Int32)),.val (.ref o1),.val (.int ((pl.toUInt32>>>((6:Int32)&&&31).toUInt32).toInt32)),.val (.int ((ph.toUInt32>>>((6:Int32)&&&31).toUInt32).toInt32))] [(.int (((pl.toUInt32>>>((6:Int32)&&&31).toUInt32).toInt32) + (1:Int32)))])) _
            refine Goes.by (fun _ k => XS.bipush X9.here hx rfl (hb hby d4_33) k) ?_
            show Goes p.tables e below (T9.setTop (mkF m 35 #[.val (.ref oa),.val (.int (((pl.toUInt32>>>((6:Int32)&&&31).toUInt32).toInt32) + (1:Int32))),.val (.int (((ph.toUInt32>>>((6:Int32)&&&31).toUInt32).toInt32) - (1:Int32))),.val (.ref ol),.val (.int (2:Int32)),.val (.int (1:Int32)),.val (.ref o1),.val (.int ((pl.toUInt32>>>((6:Int32)&&&31).toUInt32).toInt32)),.val (.int ((ph.toUInt32>>>((6:Int32)&&&31).toUInt32).toInt32))] [(.int (6:Int32)), (.int (((pl.toUInt32>>>((6:Int32)&&&31).toUInt32).toInt32) + (1:Int32)))])) _
            refine Goes.by (fun _ k => XS.iushr X9.here hx rfl (hb hby d4_35) rfl k) ?_
            show Goes p.tables e below (T9.setTop (mkF m 36 #[.val (.ref oa),.val (.int (((pl.toUInt32>>>((6:Int32)&&&31).toUInt32).toInt32) + (1:Int32))),.val (.int (((ph.toUInt32>>>((6:Int32)&&&31).toUInt32).toInt32) - (1:Int32))),.val (.ref ol),.val (.int (2:Int32)),.val (.int (1:Int32)),.val (.ref o1),.val (.int ((pl.toUInt32>>>((6:Int32)&&&31).toUInt32).toInt32)),.val (.int ((ph.toUInt32>>>((6:Int32)&&&31).toUInt32).toInt32))] [(.int (((((pl.toUInt32>>>((6:Int32)&&&31).toUInt32).toInt32) + (1:Int32)).toUInt32>>>((6:Int32)&&&31).toUInt32).toInt32))])) _
            refine Goes.by (fun _ k => XS.istore X9.here hx rfl (hb hby d4_36) rfl (l' := #[.val (.ref oa),.val (.int (((pl.toUInt32>>>((6:Int32)&&&31).toUInt32).toInt32) + (1:Int32))),.val (.int (((ph.toUInt32>>>((6:Int32)&&&31).toUInt32).toInt32) - (1:Int32))),.val (.ref ol),.val (.int (2:Int32)),.val (.int (1:Int32)),.val (.ref o1),.val (.int (((((pl.toUInt32>>>((6:Int32)&&&31).toUInt32).toInt32) + (1:Int32)).toUInt32>>>((6:Int32)&&&31).toUInt32).toInt32)),.val (.int ((ph.toUInt32>>>((6:Int32)&&&31).toUInt32).toInt32))]) rfl k) ?_
            show Goes p.tables e below (T9.setTop (mkF m 38 #[.val (.ref oa),.val (.int (((pl.toUInt32>>>((6:Int32)&&&31).toUInt32).toInt32) + (1:Int32))),.val (.int (((ph.toUInt32>>>((6:Int32)&&&31).toUInt32).toInt32) - (1:Int32))),.val (.ref ol),.val (.int (2:Int32)),.val (.int (1:Int32)),.val (.ref o1),.val (.int (((((pl.toUInt32>>>((6:Int32)&&&31).toUInt32).toInt32) + (1:Int32)).toUInt32>>>((6:Int32)&&&31).toUInt32).toInt32)),.val (.int ((ph.toUInt32>>>((6:Int32)&&&31).toUInt32).toInt32))] [])) _
            refine Goes.by (fun _ k => XS.iloadN X9.here hx rfl (hb hby d4_38) rfl k) ?_
            show Goes p.tables e below (T9.setTop (mkF m 39 #[.val (.ref oa),.val (.int (((pl.toUInt32>>>((6:Int32)&&&31).toUInt32).toInt32) + (1:Int32))),.val (.int (((ph.toUInt32>>>((6:Int32)&&&31).toUInt32).toInt32) - (1:Int32))),.val (.ref ol),.val (.int (2:Int32)),.val (.int (1:Int32)),.val (.ref o1),.val (.int (((((pl.toUInt32>>>((6:Int32)&&&31).toUInt32).toInt32) + (1:Int32)).toUInt32>>>((6:Int32)&&&31).toUInt32).toInt32)),.val (.int ((ph.toUInt32>>>((6:Int32)&&&31).toUInt32).toInt32))] [(.int (((ph.toUInt32>>>((6:Int32)&&&31).toUInt32).toInt32) - (1:Int32)))])) _
            refine Goes.by (fun _ k => XS.bipush X9.here hx rfl (hb hby d4_39) k) ?_
            show Goes p.tables e below (T9.setTop (mkF m 41 #[.val (.ref oa),.val (.int (((pl.toUInt32>>>((6:Int32)&&&31).toUInt32).toInt32) + (1:Int32))),.val (.int (((ph.toUInt32>>>((6:Int32)&&&31).toUInt32).toInt32) - (1:Int32))),.val (.ref ol),.val (.int (2:Int32)),.val (.int (1:Int32)),.val (.ref o1),.val (.int (((((pl.toUInt32>>>((6:Int32)&&&31).toUInt32).toInt32) + (1:Int32)).toUInt32>>>((6:Int32)&&&31).toUInt32).toInt32)),.val (.int ((ph.toUInt32>>>((6:Int32)&&&31).toUInt32).toInt32))] [(.int (6:Int32)), (.int (((ph.toUInt32>>>((6:Int32)&&&31).toUInt32).toInt32) - (1:Int32)))])) _
            refine Goes.by (fun _ k => XS.iushr X9.here hx rfl (hb hby d4_41) rfl k) ?_
            show Goes p.tables e below (T9.setTop (mkF m 42 #[.val (.ref oa),.val (.int (((pl.toUInt32>>>((6:Int32)&&&31).toUInt32).toInt32) + (1:Int32))),.val (.int (((ph.toUInt32>>>((6:Int32)&&&31).toUInt32).toInt32) - (1:Int32))),.val (.ref ol),.val (.int (2:Int32)),.val (.int (1:Int32)),.val (.ref o1),.val (.int (((((pl.toUInt32>>>((6:Int32)&&&31).toUInt32).toInt32) + (1:Int32)).toUInt32>>>((6:Int32)&&&31).toUInt32).toInt32)),.val (.int ((ph.toUInt32>>>((6:Int32)&&&31).toUInt32).toInt32))] [(.int (((((ph.toUInt32>>>((6:Int32)&&&31).toUInt32).toInt32) - (1:Int32)).toUInt32>>>((6:Int32)&&&31).toUInt32).toInt32))])) _
            refine Goes.by (fun _ k => XS.istore X9.here hx rfl (hb hby d4_42) rfl (l' := #[.val (.ref oa),.val (.int (((pl.toUInt32>>>((6:Int32)&&&31).toUInt32).toInt32) + (1:Int32))),.val (.int (((ph.toUInt32>>>((6:Int32)&&&31).toUInt32).toInt32) - (1:Int32))),.val (.ref ol),.val (.int (2:Int32)),.val (.int (1:Int32)),.val (.ref o1),.val (.int (((((pl.toUInt32>>>((6:Int32)&&&31).toUInt32).toInt32) + (1:Int32)).toUInt32>>>((6:Int32)&&&31).toUInt32).toInt32)),.val (.int (((((ph.toUInt32>>>((6:Int32)&&&31).toUInt32).toInt32) - (1:Int32)).toUInt32>>>((6:Int32)&&&31).toUInt32).toInt32))]) rfl k) ?_
            show Goes p.tables e below (T9.setTop (mkF m 44 #[.val (.ref oa),.val (.int (((pl.toUInt32>>>((6:Int32)&&&31).toUInt32).toInt32) + (1:Int32))),.val (.int (((ph.toUInt32>>>((6:Int32)&&&31).toUInt32).toInt32) - (1:Int32))),.val (.ref ol),.val (.int (2:Int32)),.val (.int (1:Int32)),.val (.ref o1),.val (.int (((((pl.toUInt32>>>((6:Int32)&&&31).toUInt32).toInt32) + (1:Int32)).toUInt32>>>((6:Int32)&&&31).toUInt32).toInt32)),.val (.int (((((ph.toUInt32>>>((6:Int32)&&&31).toUInt32).toInt32) - (1:Int32)).toUInt32>>>((6:Int32)&&&31).toUInt32).toInt32))] [])) _
            refine Goes.by (fun _ k => XS.iload X9.here hx rfl (hb hby d4_44) rfl k) ?_
            show Goes p.tables e below (T9.setTop (mkF m 46 #[.val (.ref oa),.val (.int (((pl.toUInt32>>>((6:Int32)&&&31).toUInt32).toInt32) + (1:Int32))),.val (.int (((ph.toUInt32>>>((6:Int32)&&&31).toUInt32).toInt32) - (1:Int32))),.val (.ref ol),.val (.int (2:Int32)),.val (.int (1:Int32)),.val (.ref o1),.val (.int (((((pl.toUInt32>>>((6:Int32)&&&31).toUInt32).toInt32) + (1:Int32)).toUInt32>>>((6:Int32)&&&31).toUInt32).toInt32)),.val (.int (((((ph.toUInt32>>>((6:Int32)&&&31).toUInt32).toInt32) - (1:Int32)).toUInt32>>>((6:Int32)&&&31).toUInt32).toInt32))] [(.int (((((pl.toUInt32>>>((6:Int32)&&&31).toUInt32).toInt32) + (1:Int32)).toUInt32>>>((6:Int32)&&&31).toUInt32).toInt32))])) _
            refine Goes.by (fun _ k => XS.iload X9.here hx rfl (hb hby d4_46) rfl k) ?_
            show Goes p.tables e below (T9.setTop (mkF m 48 #[.val (.ref oa),.val (.int (((pl.toUInt32>>>((6:Int32)&&&31).toUInt32).toInt32) + (1:Int32))),.val (.int (((ph.toUInt32>>>((6:Int32)&&&31).toUInt32).toInt32) - (1:Int32))),.val (.ref ol),.val (.int (2:Int32)),.val (.int (1:Int32)),.val (.ref o1),.val (.int (((((pl.toUInt32>>>((6:Int32)&&&31).toUInt32).toInt32) + (1:Int32)).toUInt32>>>((6:Int32)&&&31).toUInt32).toInt32)),.val (.int (((((ph.toUInt32>>>((6:Int32)&&&31).toUInt32).toInt32) - (1:Int32)).toUInt32>>>((6:Int32)&&&31).toUInt32).toInt32))] [(.int (((((ph.toUInt32>>>((6:Int32)&&&31).toUInt32).toInt32) - (1:Int32)).toUInt32>>>((6:Int32)&&&31).toUInt32).toInt32)), (.int (((((pl.toUInt32>>>((6:Int32)&&&31).toUInt32).toInt32) + (1:Int32)).toUInt32>>>((6:Int32)&&&31).toUInt32).toInt32))])) _
            by_cases hc12 : (((((pl.toUInt32>>>((6:Int32)&&&31).toUInt32).toInt32) + (1:Int32)).toUInt32>>>((6:Int32)&&&31).toUInt32).toInt32) = (((((ph.toUInt32>>>((6:Int32)&&&31).toUInt32).toInt32) - (1:Int32)).toUInt32>>>((6:Int32)&&&31).toUInt32).toInt32)
            · refine Goes.by (fun _ k => XS.icmpNo X9.here hx rfl (hb hby d4_48) rfl (teq hc12).2 k) ?_
              show Goes p.tables e below (T9.setTop (mkF m 51 #[.val (.ref oa),.val (.int (((pl.toUInt32>>>((6:Int32)&&&31).toUInt32).toInt32) + (1:Int32))),.val (.int (((ph.toUInt32>>>((6:Int32)&&&31).toUInt32).toInt32) - (1:Int32))),.val (.ref ol),.val (.int (2:Int32)),.val (.int (1:Int32)),.val (.ref o1),.val (.int (((((pl.toUInt32>>>((6:Int32)&&&31).toUInt32).toInt32) + (1:Int32)).toUInt32>>>((6:Int32)&&&31).toUInt32).toInt32)),.val (.int (((((ph.toUInt32>>>((6:Int32)&&&31).toUInt32).toInt32) - (1:Int32)).toUInt32>>>((6:Int32)&&&31).toUInt32).toInt32))] [])) _
              refine Goes.by (fun _ k => XS.aload X9.here hx rfl (hb hby d4_51) rfl rfl k) ?_
              show Goes p.tables e below (T9.setTop (mkF m 53 #[.val (.ref oa),.val (.int (((pl.toUInt32>>>((6:Int32)&&&31).toUInt32).toInt32) + (1:Int32))),.val (.int (((ph.toUInt32>>>((6:Int32)&&&31).toUInt32).toInt32) - (1:Int32))),.val (.ref ol),.val (.int (2:Int32)),.val (.int (1:Int32)),.val (.ref o1),.val (.int (((((pl.toUInt32>>>((6:Int32)&&&31).toUInt32).toInt32) + (1:Int32)).toUInt32>>>((6:Int32)&&&31).toUInt32).toInt32)),.val (.int (((((ph.toUInt32>>>((6:Int32)&&&31).toUInt32).toInt32) - (1:Int32)).toUInt32>>>((6:Int32)&&&31).toUInt32).toInt32))] [(.ref o1)])) _
              refine Goes.by (fun _ k => XS.iload X9.here hx rfl (hb hby d4_53) rfl k) ?_
              show Goes p.tables e below (T9.setTop (mkF m 55 #[.val (.ref oa),.val (.int (((pl.toUInt32>>>((6:Int32)&&&31).toUInt32).toInt32) + (1:Int32))),.val (.int (((ph.toUInt32>>>((6:Int32)&&&31).toUInt32).toInt32) - (1:Int32))),.val (.ref ol),.val (.int (2:Int32)),.val (.int (1:Int32)),.val (.ref o1),.val (.int (((((pl.toUInt32>>>((6:Int32)&&&31).toUInt32).toInt32) + (1:Int32)).toUInt32>>>((6:Int32)&&&31).toUInt32).toInt32)),.val (.int (((((ph.toUInt32>>>((6:Int32)&&&31).toUInt32).toInt32) - (1:Int32)).toUInt32>>>((6:Int32)&&&31).toUInt32).toInt32))] [(.int (((((pl.toUInt32>>>((6:Int32)&&&31).toUInt32).toInt32) + (1:Int32)).toUInt32>>>((6:Int32)&&&31).toUInt32).toInt32)), (.ref o1)])) _
              refine Goes.by (fun _ k => ldJ (v := (gy ((nl / 64 + 1) / 64))) (fr := (mkF m 55 #[.val (.ref oa),.val (.int (((pl.toUInt32>>>((6:Int32)&&&31).toUInt32).toInt32) + (1:Int32))),.val (.int (((ph.toUInt32>>>((6:Int32)&&&31).toUInt32).toInt32) - (1:Int32))),.val (.ref ol),.val (.int (2:Int32)),.val (.int (1:Int32)),.val (.ref o1),.val (.int (((((pl.toUInt32>>>((6:Int32)&&&31).toUInt32).toInt32) + (1:Int32)).toUInt32>>>((6:Int32)&&&31).toUInt32).toInt32)),.val (.int (((((ph.toUInt32>>>((6:Int32)&&&31).toUInt32).toInt32) - (1:Int32)).toUInt32>>>((6:Int32)&&&31).toUInt32).toInt32))] [(.int (((((pl.toUInt32>>>((6:Int32)&&&31).toUInt32).toInt32) + (1:Int32)).toUInt32>>>((6:Int32)&&&31).toUInt32).toInt32)), (.ref o1)])) X9 hx hZ e9 A_o1 (i := ((nl / 64 + 1) / 64)) (own_sh6 _ _ (own_lv hlo hhi hwh hx1 hc3 hc11).1) (own_lv hlo hhi hwh hx1 hc3 hc11).2.2.1 rfl rfl rfl (hb hby d4_55) k) ?_
              show Goes p.tables e below (T9.setTop (mkF m 56 #[.val (.ref oa),.val (.int (((pl.toUInt32>>>((6:Int32)&&&31).toUInt32).toInt32) + (1:Int32))),.val (.int (((ph.toUInt32>>>((6:Int32)&&&31).toUInt32).toInt32) - (1:Int32))),.val (.ref ol),.val (.int (2:Int32)),.val (.int (1:Int32)),.val (.ref o1),.val (.int (((((pl.toUInt32>>>((6:Int32)&&&31).toUInt32).toInt32) + (1:Int32)).toUInt32>>>((6:Int32)&&&31).toUInt32).toInt32)),.val (.int (((((ph.toUInt32>>>((6:Int32)&&&31).toUInt32).toInt32) - (1:Int32)).toUInt32>>>((6:Int32)&&&31).toUInt32).toInt32))] [(.long (gy ((nl / 64 + 1) / 64)))])) _
              refine Goes.by (fun _ k => XS.iloadN X9.here hx rfl (hb hby d4_56) rfl k) ?_
              show Goes p.tables e below (T9.setTop (mkF m 57 #[.val (.ref oa),.val (.int (((pl.toUInt32>>>((6:Int32)&&&31).toUInt32).toInt32) + (1:Int32))),.val (.int (((ph.toUInt32>>>((6:Int32)&&&31).toUInt32).toInt32) - (1:Int32))),.val (.ref ol),.val (.int (2:Int32)),.val (.int (1:Int32)),.val (.ref o1),.val (.int (((((pl.toUInt32>>>((6:Int32)&&&31).toUInt32).toInt32) + (1:Int32)).toUInt32>>>((6:Int32)&&&31).toUInt32).toInt32)),.val (.int (((((ph.toUInt32>>>((6:Int32)&&&31).toUInt32).toInt32) - (1:Int32)).toUInt32>>>((6:Int32)&&&31).toUInt32).toInt32))] [(.int (((pl.toUInt32>>>((6:Int32)&&&31).toUInt32).toInt32) + (1:Int32))), (.long (gy ((nl / 64 + 1) / 64)))])) _
              obtain ⟨_, _, ⟨T13, L13, k13, n13⟩, -, X13, ⟨Lc13, hQ13, l13, y13, z13⟩, st13⟩ := Jvm.LawKit.callS X9 hx (y := (⟨"com/example/xml_graph_join/xmlgraphjoin/topo/BitLevels", "fromBit", "(I)J"⟩ : MethodName)) hown (mvT hZ (hw _ (List.mem_of_getElem? (i := 26) rfl))) (mvT hZ (hw _ (List.mem_of_getElem? (i := 27) rfl))) (mvT hZ (hw _ (List.mem_of_getElem? (i := 3) rfl))) (mvT hZ (hw _ (List.mem_of_getElem? (i := 28) rfl))) (by decide) (backOf (W := 2) (rm5 l Z a0 hw [] (((pl.toUInt32>>>((6:Int32)&&&31).toUInt32).toInt32) + (1:Int32)) h0 n0 Z0) hZ (hw _ (List.mem_of_getElem? (i := 28) rfl)) (hw _ (List.mem_of_getElem? (i := 3) rfl)) (by decide) (by decide)) (g := (mkF m 57 #[.val (.ref oa),.val (.int (((pl.toUInt32>>>((6:Int32)&&&31).toUInt32).toInt32) + (1:Int32))),.val (.int (((ph.toUInt32>>>((6:Int32)&&&31).toUInt32).toInt32) - (1:Int32))),.val (.ref ol),.val (.int (2:Int32)),.val (.int (1:Int32)),.val (.ref o1),.val (.int (((((pl.toUInt32>>>((6:Int32)&&&31).toUInt32).toInt32) + (1:Int32)).toUInt32>>>((6:Int32)&&&31).toUInt32).toInt32)),.val (.int (((((ph.toUInt32>>>((6:Int32)&&&31).toUInt32).toInt32) - (1:Int32)).toUInt32>>>((6:Int32)&&&31).toUInt32).toInt32))] [(.int (((pl.toUInt32>>>((6:Int32)&&&31).toUInt32).toInt32) + (1:Int32))), (.long (gy ((nl / 64 + 1) / 64)))])) rfl (by rw [hml]; rfl) (argsL := [(.int (((pl.toUInt32>>>((6:Int32)&&&31).toUInt32).toInt32) + (1:Int32)))]) (rest := [(.long (gy ((nl / 64 + 1) / 64)))]) (lenOf pd_0 rfl) rfl (by show 2 * 0 + (2 + 0) ≤ _; decide) (hb hby d4_57) (fun _ _ => ⟨rfl, e9, (by decide : 0 + 0 ≤ _), (by decide : 0 + 0 ≤ _)⟩)
              dsimp only [Pt.U, Pt.locs, Pt.cells, Pt.slots] at X13 l13 y13 z13 st13 hQ13
              rw [l13, y13, z13] at X13
              obtain ⟨rfl, N13q, e13⟩ := hQ13
              have N13 := Fr.app N9 N13q
              refine Goes.by st13 ?_
              show Goes p.tables e below (T13.setTop (mkF m 60 #[.val (.ref oa),.val (.int (((pl.toUInt32>>>((6:Int32)&&&31).toUInt32).toInt32) + (1:Int32))),.val (.int (((ph.toUInt32>>>((6:Int32)&&&31).toUInt32).toInt32) - (1:Int32))),.val (.ref ol),.val (.int (2:Int32)),.val (.int (1:Int32)),.val (.ref o1),.val (.int (((((pl.toUInt32>>>((6:Int32)&&&31).toUInt32).toInt32) + (1:Int32)).toUInt32>>>((6:Int32)&&&31).toUInt32).toInt32)),.val (.int (((((ph.toUInt32>>>((6:Int32)&&&31).toUInt32).toInt32) - (1:Int32)).toUInt32>>>((6:Int32)&&&31).toUInt32).toInt32))] [(.long (fromB (((pl.toUInt32>>>((6:Int32)&&&31).toUInt32).toInt32) + (1:Int32)))), (.long (gy ((nl / 64 + 1) / 64)))])) _
              refine Goes.by (fun _ k => XS.land X13.here hx rfl (hb hby d4_60) rfl k) ?_
              show Goes p.tables e below (T13.setTop (mkF m 61 #[.val (.ref oa),.val (.int (((pl.toUInt32>>>((6:Int32)&&&31).toUInt32).toInt32) + (1:Int32))),.val (.int (((ph.toUInt32>>>((6:Int32)&&&31).toUInt32).toInt32) - (1:Int32))),.val (.ref ol),.val (.int (2:Int32)),.val (.int (1:Int32)),.val (.ref o1),.val (.int (((((pl.toUInt32>>>((6:Int32)&&&31).toUInt32).toInt32) + (1:Int32)).toUInt32>>>((6:Int32)&&&31).toUInt32).toInt32)),.val (.int (((((ph.toUInt32>>>((6:Int32)&&&31).toUInt32).toInt32) - (1:Int32)).toUInt32>>>((6:Int32)&&&31).toUInt32).toInt32))] [(.long ((gy ((nl / 64 + 1) / 64))&&&(fromB (((pl.toUInt32>>>((6:Int32)&&&31).toUInt32).toInt32) + (1:Int32)))))])) _
              refine Goes.by (fun _ k => XS.iloadN X13.here hx rfl (hb hby d4_61) rfl k) ?_
              show Goes p.tables e below (T13.setTop (mkF m 62 #[.val (.ref oa),.val (.int (((pl.toUInt32>>>((6:Int32)&&&31).toUInt32).toInt32) + (1:Int32))),.val (.int (((ph.toUInt32>>>((6:Int32)&&&31).toUInt32).toInt32) - (1:Int32))),.val (.ref ol),.val (.int (2:Int32)),.val (.int (1:Int32)),.val (.ref o1),.val (.int (((((pl.toUInt32>>>((6:Int32)&&&31).toUInt32).toInt32) + (1:Int32)).toUInt32>>>((6:Int32)&&&31).toUInt32).toInt32)),.val (.int (((((ph.toUInt32>>>((6:Int32)&&&31).toUInt32).toInt32) - (1:Int32)).toUInt32>>>((6:Int32)&&&31).toUInt32).toInt32))] [(.int (((ph.toUInt32>>>((6:Int32)&&&31).toUInt32).toInt32) - (1:Int32))), (.long ((gy ((nl / 64 + 1) / 64))&&&(fromB (((pl.toUInt32>>>((6:Int32)&&&31).toUInt32).toInt32) + (1:Int32)))))])) _
              obtain ⟨_, _, ⟨T14, L14, k14, n14⟩, -, X14, ⟨Lc14, hQ14, l14, y14, z14⟩, st14⟩ := Jvm.LawKit.callS X13 hx (y := (⟨"com/example/xml_graph_join/xmlgraphjoin/topo/BitLevels", "upToBit", "(I)J"⟩ : MethodName)) hown (mvT hZ (hw _ (List.mem_of_getElem? (i := 30) rfl))) (mvT hZ (hw _ (List.mem_of_getElem? (i := 31) rfl))) (mvT hZ (hw _ (List.mem_of_getElem? (i := 3) rfl))) (mvT hZ (hw _ (List.mem_of_getElem? (i := 32) rfl))) (by decide) (backOf (W := 2) (rm6 l Z a0 hw [] (((ph.toUInt32>>>((6:Int32)&&&31).toUInt32).toInt32) - (1:Int32)) h0 n0 Z0) hZ (hw _ (List.mem_of_getElem? (i := 32) rfl)) (hw _ (List.mem_of_getElem? (i := 3) rfl)) (by decide) (by decide)) (g := (mkF m 62 #[.val (.ref oa),.val (.int (((pl.toUInt32>>>((6:Int32)&&&31).toUInt32).toInt32) + (1:Int32))),.val (.int (((ph.toUInt32>>>((6:Int32)&&&31).toUInt32).toInt32) - (1:Int32))),.val (.ref ol),.val (.int (2:Int32)),.val (.int (1:Int32)),.val (.ref o1),.val (.int (((((pl.toUInt32>>>((6:Int32)&&&31).toUInt32).toInt32) + (1:Int32)).toUInt32>>>((6:Int32)&&&31).toUInt32).toInt32)),.val (.int (((((ph.toUInt32>>>((6:Int32)&&&31).toUInt32).toInt32) - (1:Int32)).toUInt32>>>((6:Int32)&&&31).toUInt32).toInt32))] [(.int (((ph.toUInt32>>>((6:Int32)&&&31).toUInt32).toInt32) - (1:Int32))), (.long ((gy ((nl / 64 + 1) / 64))&&&(fromB (((pl.toUInt32>>>((6:Int32)&&&31).toUInt32).toInt32) + (1:Int32)))))])) rfl (by rw [hml]; rfl) (argsL := [(.int (((ph.toUInt32>>>((6:Int32)&&&31).toUInt32).toInt32) - (1:Int32)))]) (rest := [(.long ((gy ((nl / 64 + 1) / 64))&&&(fromB (((pl.toUInt32>>>((6:Int32)&&&31).toUInt32).toInt32) + (1:Int32)))))]) (lenOf pd_0 rfl) rfl (by show 2 * 0 + (2 + 0) ≤ _; decide) (hb hby d4_62) (fun _ _ => ⟨rfl, e13, (by decide : 0 + 0 ≤ _), (by decide : 0 + 0 ≤ _)⟩)
              dsimp only [Pt.U, Pt.locs, Pt.cells, Pt.slots] at X14 l14 y14 z14 st14 hQ14
              rw [l14, y14, z14] at X14
              obtain ⟨rfl, N14q, e14⟩ := hQ14
              have N14 := Fr.app N13 N14q
              refine Goes.by st14 ?_
              show Goes p.tables e below (T14.setTop (mkF m 65 #[.val (.ref oa),.val (.int (((pl.toUInt32>>>((6:Int32)&&&31).toUInt32).toInt32) + (1:Int32))),.val (.int (((ph.toUInt32>>>((6:Int32)&&&31).toUInt32).toInt32) - (1:Int32))),.val (.ref ol),.val (.int (2:Int32)),.val (.int (1:Int32)),.val (.ref o1),.val (.int (((((pl.toUInt32>>>((6:Int32)&&&31).toUInt32).toInt32) + (1:Int32)).toUInt32>>>((6:Int32)&&&31).toUInt32).toInt32)),.val (.int (((((ph.toUInt32>>>((6:Int32)&&&31).toUInt32).toInt32) - (1:Int32)).toUInt32>>>((6:Int32)&&&31).toUInt32).toInt32))] [(.long (upB (((ph.toUInt32>>>((6:Int32)&&&31).toUInt32).toInt32) - (1:Int32)))), (.long ((gy ((nl / 64 + 1) / 64))&&&(fromB (((pl.toUInt32>>>((6:Int32)&&&31).toUInt32).toInt32) + (1:Int32)))))])) _
              refine Goes.by (fun _ k => XS.land X14.here hx rfl (hb hby d4_65) rfl k) ?_
              show Goes p.tables e below (T14.setTop (mkF m 66 #[.val (.ref oa),.val (.int (((pl.toUInt32>>>((6:Int32)&&&31).toUInt32).toInt32) + (1:Int32))),.val (.int (((ph.toUInt32>>>((6:Int32)&&&31).toUInt32).toInt32) - (1:Int32))),.val (.ref ol),.val (.int (2:Int32)),.val (.int (1:Int32)),.val (.ref o1),.val (.int (((((pl.toUInt32>>>((6:Int32)&&&31).toUInt32).toInt32) + (1:Int32)).toUInt32>>>((6:Int32)&&&31).toUInt32).toInt32)),.val (.int (((((ph.toUInt32>>>((6:Int32)&&&31).toUInt32).toInt32) - (1:Int32)).toUInt32>>>((6:Int32)&&&31).toUInt32).toInt32))] [(.long (((gy ((nl / 64 + 1) / 64))&&&(fromB (((pl.toUInt32>>>((6:Int32)&&&31).toUInt32).toInt32) + (1:Int32))))&&&(upB (((ph.toUInt32>>>((6:Int32)&&&31).toUInt32).toInt32) - (1:Int32)))))])) _
              refine Goes.by (fun _ k => XS.lconst X14.here hx rfl (hb hby d4_66) k) ?_
              show Goes p.tables e below (T14.setTop (mkF m 67 #[.val (.ref oa),.val (.int (((pl.toUInt32>>>((6:Int32)&&&31).toUInt32).toInt32) + (1:Int32))),.val (.int (((ph.toUInt32>>>((6:Int32)&&&31).toUInt32).toInt32) - (1:Int32))),.val (.ref ol),.val (.int (2:Int32)),.val (.int (1:Int32)),.val (.ref o1),.val (.int (((((pl.toUInt32>>>((6:Int32)&&&31).toUInt32).toInt32) + (1:Int32)).toUInt32>>>((6:Int32)&&&31).toUInt32).toInt32)),.val (.int (((((ph.toUInt32>>>((6:Int32)&&&31).toUInt32).toInt32) - (1:Int32)).toUInt32>>>((6:Int32)&&&31).toUInt32).toInt32))] [(.long (0:Int64)), (.long (((gy ((nl / 64 + 1) / 64))&&&(fromB (((pl.toUInt32>>>((6:Int32)&&&31).toUInt32).toInt32) + (1:Int32))))&&&(upB (((ph.toUInt32>>>((6:Int32)&&&31).toUInt32).toInt32) - (1:Int32)))))])) _
              refine Goes.by (fun _ k => XS.lcmp X14.here hx rfl (hb hby d4_67) rfl k) ?_
              show Goes p.tables e below (T14.setTop (mkF m 68 #[.val (.ref oa),.val (.int (((pl.toUInt32>>>((6:Int32)&&&31).toUInt32).toInt32) + (1:Int32))),.val (.int (((ph.toUInt32>>>((6:Int32)&&&31).toUInt32).toInt32) - (1:Int32))),.val (.ref ol),.val (.int (2:Int32)),.val (.int (1:Int32)),.val (.ref o1),.val (.int (((((pl.toUInt32>>>((6:Int32)&&&31).toUInt32).toInt32) + (1:Int32)).toUInt32>>>((6:Int32)&&&31).toUInt32).toInt32)),.val (.int (((((ph.toUInt32>>>((6:Int32)&&&31).toUInt32).toInt32) - (1:Int32)).toUInt32>>>((6:Int32)&&&31).toUInt32).toInt32))] [(.int (lcmpW (((gy ((nl / 64 + 1) / 64))&&&(fromB (((pl.toUInt32>>>((6:Int32)&&&31).toUInt32).toInt32) + (1:Int32))))&&&(upB (((ph.toUInt32>>>((6:Int32)&&&31).toUInt32).toInt32) - (1:Int32)))) (0:Int64)))])) _
              by_cases hc15 : (((gy ((nl / 64 + 1) / 64))&&&(fromB (((pl.toUInt32>>>((6:Int32)&&&31).toUInt32).toInt32) + (1:Int32))))&&&(upB (((ph.toUInt32>>>((6:Int32)&&&31).toUInt32).toInt32) - (1:Int32)))) = (0:Int64)
              · refine Goes.by (fun _ k => XS.ifYes X14.here hx rfl (pc0 := 68) (pc' := 75) rfl (hb hby d4_68) rfl (je_t hc15).1 (by decide) (by decide) k) ?_
                show Goes p.tables e below (T14.setTop (mkF m 75 #[.val (.ref oa),.val (.int (((pl.toUInt32>>>((6:Int32)&&&31).toUInt32).toInt32) + (1:Int32))),.val (.int (((ph.toUInt32>>>((6:Int32)&&&31).toUInt32).toInt32) - (1:Int32))),.val (.ref ol),.val (.int (2:Int32)),.val (.int (1:Int32)),.val (.ref o1),.val (.int (((((pl.toUInt32>>>((6:Int32)&&&31).toUInt32).toInt32) + (1:Int32)).toUInt32>>>((6:Int32)&&&31).toUInt32).toInt32)),.val (.int (((((ph.toUInt32>>>((6:Int32)&&&31).toUInt32).toInt32) - (1:Int32)).toUInt32>>>((6:Int32)&&&31).toUInt32).toInt32))] [])) _
                refine Goes.by (fun _ k => XS.iconst X14.here hx rfl (hb hby d4_75) k) ?_
                show Goes p.tables e below (T14.setTop (mkF m 76 #[.val (.ref oa),.val (.int (((pl.toUInt32>>>((6:Int32)&&&31).toUInt32).toInt32) + (1:Int32))),.val (.int (((ph.toUInt32>>>((6:Int32)&&&31).toUInt32).toInt32) - (1:Int32))),.val (.ref ol),.val (.int (2:Int32)),.val (.int (1:Int32)),.val (.ref o1),.val (.int (((((pl.toUInt32>>>((6:Int32)&&&31).toUInt32).toInt32) + (1:Int32)).toUInt32>>>((6:Int32)&&&31).toUInt32).toInt32)),.val (.int (((((ph.toUInt32>>>((6:Int32)&&&31).toUInt32).toInt32) - (1:Int32)).toUInt32>>>((6:Int32)&&&31).toUInt32).toInt32))] [(.int (0:Int32))])) _
                obtain ⟨fs, hr, hrun, hended, hW, hsame⟩ := X14.leave (v := some (.int (0:Int32))) (fun h => by rw [Bd.returns] at h; cases h)
                refine ⟨_, _, retN X14 hx (t := .boolean) Bd.returns (by simp) (hb hby d4_76) hr, hrun, hended, _, _, rfl, ?_, ⟨_, rfl⟩, hW, hsame.mono (by decide) (by decide)⟩
                show Q4d2 Z oa pl ph ol o0 o1 gx gy wx wy nl nh h0 n0 _ T14.heap _
                rw [e14]
                exact ⟨(by rw [fn4d2, if_neg hc2, if_neg hc3, if_pos hc8, if_pos hc10, if_neg hc11, if_pos hc12, if_pos hc15]), N14, rfl⟩
              · refine Goes.by (fun _ k => XS.ifNo X14.here hx rfl (hb hby d4_68) rfl (je_f hc15).1 k) ?_
                show Goes p.tables e below (T14.setTop (mkF m 71 #[.val (.ref oa),.val (.int (((pl.toUInt32>>>((6:Int32)&&&31).toUInt32).toInt32) + (1:Int32))),.val (.int (((ph.toUInt32>>>((6:Int32)&&&31).toUInt32).toInt32) - (1:Int32))),.val (.ref ol),.val (.int (2:Int32)),.val (.int (1:Int32)),.val (.ref o1),.val (.int (((((pl.toUInt32>>>((6:Int32)&&&31).toUInt32).toInt32) + (1:Int32)).toUInt32>>>((6:Int32)&&&31).toUInt32).toInt32)),.val (.int (((((ph.toUInt32>>>((6:Int32)&&&31).toUInt32).toInt32) - (1:Int32)).toUInt32>>>((6:Int32)&&&31).toUInt32).toInt32))] [])) _
                refine Goes.by (fun _ k => XS.iconst X14.here hx rfl (hb hby d4_71) k) ?_
                show Goes p.tables e below (T14.setTop (mkF m 72 #[.val (.ref oa),.val (.int (((pl.toUInt32>>>((6:Int32)&&&31).toUInt32).toInt32) + (1:Int32))),.val (.int (((ph.toUInt32>>>((6:Int32)&&&31).toUInt32).toInt32) - (1:Int32))),.val (.ref ol),.val (.int (2:Int32)),.val (.int (1:Int32)),.val (.ref o1),.val (.int (((((pl.toUInt32>>>((6:Int32)&&&31).toUInt32).toInt32) + (1:Int32)).toUInt32>>>((6:Int32)&&&31).toUInt32).toInt32)),.val (.int (((((ph.toUInt32>>>((6:Int32)&&&31).toUInt32).toInt32) - (1:Int32)).toUInt32>>>((6:Int32)&&&31).toUInt32).toInt32))] [(.int (1:Int32))])) _
                refine Goes.by (fun _ k => XS.goto X14.here hx rfl (pc0 := 72) (pc' := 76) rfl (hb hby d4_72) (by decide) (by decide) k) ?_
                show Goes p.tables e below (T14.setTop (mkF m 76 #[.val (.ref oa),.val (.int (((pl.toUInt32>>>((6:Int32)&&&31).toUInt32).toInt32) + (1:Int32))),.val (.int (((ph.toUInt32>>>((6:Int32)&&&31).toUInt32).toInt32) - (1:Int32))),.val (.ref ol),.val (.int (2:Int32)),.val (.int (1:Int32)),.val (.ref o1),.val (.int (((((pl.toUInt32>>>((6:Int32)&&&31).toUInt32).toInt32) + (1:Int32)).toUInt32>>>((6:Int32)&&&31).toUInt32).toInt32)),.val (.int (((((ph.toUInt32>>>((6:Int32)&&&31).toUInt32).toInt32) - (1:Int32)).toUInt32>>>((6:Int32)&&&31).toUInt32).toInt32))] [(.int (1:Int32))])) _
                obtain ⟨fs, hr, hrun, hended, hW, hsame⟩ := X14.leave (v := some (.int (1:Int32))) (fun h => by rw [Bd.returns] at h; cases h)
                refine ⟨_, _, retN X14 hx (t := .boolean) Bd.returns (by simp) (hb hby d4_76) hr, hrun, hended, _, _, rfl, ?_, ⟨_, rfl⟩, hW, hsame.mono (by decide) (by decide)⟩
                show Q4d2 Z oa pl ph ol o0 o1 gx gy wx wy nl nh h0 n0 _ T14.heap _
                rw [e14]
                exact ⟨(by rw [fn4d2, if_neg hc2, if_neg hc3, if_pos hc8, if_pos hc10, if_neg hc11, if_pos hc12, if_neg hc15]), N14, rfl⟩
            · refine Goes.by (fun _ k => XS.icmpYes X9.here hx rfl (pc0 := 48) (pc' := 77) rfl (hb hby d4_48) rfl (feq hc12).2 (by decide) (by decide) k) ?_
              show Goes p.tables e below (T9.setTop (mkF m 77 #[.val (.ref oa),.val (.int (((pl.toUInt32>>>((6:Int32)&&&31).toUInt32).toInt32) + (1:Int32))),.val (.int (((ph.toUInt32>>>((6:Int32)&&&31).toUInt32).toInt32) - (1:Int32))),.val (.ref ol),.val (.int (2:Int32)),.val (.int (1:Int32)),.val (.ref o1),.val (.int (((((pl.toUInt32>>>((6:Int32)&&&31).toUInt32).toInt32) + (1:Int32)).toUInt32>>>((6:Int32)&&&31).toUInt32).toInt32)),.val (.int (((((ph.toUInt32>>>((6:Int32)&&&31).toUInt32).toInt32) - (1:Int32)).toUInt32>>>((6:Int32)&&&31).toUInt32).toInt32))] [])) _
              refine Goes.by (fun _ k => XS.aload X9.here hx rfl (hb hby d4_77) rfl rfl k) ?_
              show Goes p.tables e below (T9.setTop (mkF m 79 #[.val (.ref oa),.val (.int (((pl.toUInt32>>>((6:Int32)&&&31).toUInt32).toInt32) + (1:Int32))),.val (.int (((ph.toUInt32>>>((6:Int32)&&&31).toUInt32).toInt32) - (1:Int32))),.val (.ref ol),.val (.int (2:Int32)),.val (.int (1:Int32)),.val (.ref o1),.val (.int (((((pl.toUInt32>>>((6:Int32)&&&31).toUInt32).toInt32) + (1:Int32)).toUInt32>>>((6:Int32)&&&31).toUInt32).toInt32)),.val (.int (((((ph.toUInt32>>>((6:Int32)&&&31).toUInt32).toInt32) - (1:Int32)).toUInt32>>>((6:Int32)&&&31).toUInt32).toInt32))] [(.ref o1)])) _
              refine Goes.by (fun _ k => XS.iload X9.here hx rfl (hb hby d4_79) rfl k) ?_
              show Goes p.tables e below (T9.setTop (mkF m 81 #[.val (.ref oa),.val (.int (((pl.toUInt32>>>((6:Int32)&&&31).toUInt32).toInt32) + (1:Int32))),.val (.int (((ph.toUInt32>>>((6:Int32)&&&31).toUInt32).toInt32) - (1:Int32))),.val (.ref ol),.val (.int (2:Int32)),.val (.int (1:Int32)),.val (.ref o1),.val (.int (((((pl.toUInt32>>>((6:Int32)&&&31).toUInt32).toInt32) + (1:Int32)).toUInt32>>>((6:Int32)&&&31).toUInt32).toInt32)),.val (.int (((((ph.toUInt32>>>((6:Int32)&&&31).toUInt32).toInt32) - (1:Int32)).toUInt32>>>((6:Int32)&&&31).toUInt32).toInt32))] [(.int (((((pl.toUInt32>>>((6:Int32)&&&31).toUInt32).toInt32) + (1:Int32)).toUInt32>>>((6:Int32)&&&31).toUInt32).toInt32)), (.ref o1)])) _
              refine Goes.by (fun _ k => ldJ (v := (gy ((nl / 64 + 1) / 64))) (fr := (mkF m 81 #[.val (.ref oa),.val (.int (((pl.toUInt32>>>((6:Int32)&&&31).toUInt32).toInt32) + (1:Int32))),.val (.int (((ph.toUInt32>>>((6:Int32)&&&31).toUInt32).toInt32) - (1:Int32))),.val (.ref ol),.val (.int (2:Int32)),.val (.int (1:Int32)),.val (.ref o1),.val (.int (((((pl.toUInt32>>>((6:Int32)&&&31).toUInt32).toInt32) + (1:Int32)).toUInt32>>>((6:Int32)&&&31).toUInt32).toInt32)),.val (.int (((((ph.toUInt32>>>((6:Int32)&&&31).toUInt32).toInt32) - (1:Int32)).toUInt32>>>((6:Int32)&&&31).toUInt32).toInt32))] [(.int (((((pl.toUInt32>>>((6:Int32)&&&31).toUInt32).toInt32) + (1:Int32)).toUInt32>>>((6:Int32)&&&31).toUInt32).toInt32)), (.ref o1)])) X9 hx hZ e9 A_o1 (i := ((nl / 64 + 1) / 64)) (own_sh6 _ _ (own_lv hlo hhi hwh hx1 hc3 hc11).1) (own_lv hlo hhi hwh hx1 hc3 hc11).2.2.1 rfl rfl rfl (hb hby d4_81) k) ?_
              show Goes p.tables e below (T9.setTop (mkF m 82 #[.val (.ref oa),.val (.int (((pl.toUInt32>>>((6:Int32)&&&31).toUInt32).toInt32) + (1:Int32))),.val (.int (((ph.toUInt32>>>((6:Int32)&&&31).toUInt32).toInt32) - (1:Int32))),.val (.ref ol),.val (.int (2:Int32)),.val (.int (1:Int32)),.val (.ref o1),.val (.int (((((pl.toUInt32>>>((6:Int32)&&&31).toUInt32).toInt32) + (1:Int32)).toUInt32>>>((6:Int32)&&&31).toUInt32).toInt32)),.val (.int (((((ph.toUInt32>>>((6:Int32)&&&31).toUInt32).toInt32) - (1:Int32)).toUInt32>>>((6:Int32)&&&31).toUInt32).toInt32))] [(.long (gy ((nl / 64 + 1) / 64)))])) _
              refine Goes.by (fun _ k => XS.iloadN X9.here hx rfl (hb hby d4_82) rfl k) ?_
              show Goes p.tables e below (T9.setTop (mkF m 83 #[.val (.ref oa),.val (.int (((pl.toUInt32>>>((6:Int32)&&&31).toUInt32).toInt32) + (1:Int32))),.val (.int (((ph.toUInt32>>>((6:Int32)&&&31).toUInt32).toInt32) - (1:Int32))),.val (.ref ol),.val (.int (2:Int32)),.val (.int (1:Int32)),.val (.ref o1),.val (.int (((((pl.toUInt32>>>((6:Int32)&&&31).toUInt32).toInt32) + (1:Int32)).toUInt32>>>((6:Int32)&&&31).toUInt32).toInt32)),.val (.int (((((ph.toUInt32>>>((6:Int32)&&&31).toUInt32).toInt32) - (1:Int32)).toUInt32>>>((6:Int32)&&&31).toUInt32).toInt32))] [(.int (((pl.toUInt32>>>((6:Int32)&&&31).toUInt32).toInt32) + (1:Int32))), (.long (gy ((nl / 64 + 1) / 64)))])) _
              obtain ⟨_, _, ⟨T16, L16, k16, n16⟩, -, X16, ⟨Lc16, hQ16, l16, y16, z16⟩, st16⟩ := Jvm.LawKit.callS X9 hx (y := (⟨"com/example/xml_graph_join/xmlgraphjoin/topo/BitLevels", "fromBit", "(I)J"⟩ : MethodName)) hown (mvT hZ (hw _ (List.mem_of_getElem? (i := 26) rfl))) (mvT hZ (hw _ (List.mem_of_getElem? (i := 27) rfl))) (mvT hZ (hw _ (List.mem_of_getElem? (i := 3) rfl))) (mvT hZ (hw _ (List.mem_of_getElem? (i := 28) rfl))) (by decide) (backOf (W := 2) (rm5 l Z a0 hw [] (((pl.toUInt32>>>((6:Int32)&&&31).toUInt32).toInt32) + (1:Int32)) h0 n0 Z0) hZ (hw _ (List.mem_of_getElem? (i := 28) rfl)) (hw _ (List.mem_of_getElem? (i := 3) rfl)) (by decide) (by decide)) (g := (mkF m 83 #[.val (.ref oa),.val (.int (((pl.toUInt32>>>((6:Int32)&&&31).toUInt32).toInt32) + (1:Int32))),.val (.int (((ph.toUInt32>>>((6:Int32)&&&31).toUInt32).toInt32) - (1:Int32))),.val (.ref ol),.val (.int (2:Int32)),.val (.int (1:Int32)),.val (.ref o1),.val (.int (((((pl.toUInt32>>>((6:Int32)&&&31).toUInt32).toInt32) + (1:Int32)).toUInt32>>>((6:Int32)&&&31).toUInt32).toInt32)),.val (.int (((((ph.toUInt32>>>((6:Int32)&&&31).toUInt32).toInt32) - (1:Int32)).toUInt32>>>((6:Int32)&&&31).toUInt32).toInt32))] [(.int (((pl.toUInt32>>>((6:Int32)&&&31).toUInt32).toInt32) + (1:Int32))), (.long (gy ((nl / 64 + 1) / 64)))])) rfl (by rw [hml]; rfl) (argsL := [(.int (((pl.toUInt32>>>((6:Int32)&&&31).toUInt32).toInt32) + (1:Int32)))]) (rest := [(.long (gy ((nl / 64 + 1) / 64)))]) (lenOf pd_0 rfl) rfl (by show 2 * 0 + (2 + 0) ≤ _; decide) (hb hby d4_83) (fun _ _ => ⟨rfl, e9, (by decide : 0 + 0 ≤ _), (by decide : 0 + 0 ≤ _)⟩)
              dsimp only [Pt.U, Pt.locs, Pt.cells, Pt.slots] at X16 l16 y16 z16 st16 hQ16
              rw [l16, y16, z16] at X16
              obtain ⟨rfl, N16q, e16⟩ := hQ16
              have N16 := Fr.app N9 N16q
              refine Goes.by st16 ?_
              show Goes p.tables e below (T16.setTop (mkF m 86 #[.val (.ref oa),.val (.int (((pl.toUInt32>>>((6:Int32)&&&31).toUInt32).toInt32) + (1:Int32))),.val (.int (((ph.toUInt32>>>((6:Int32)&&&31).toUInt32).toInt32) - (1:Int32))),.val (.ref ol),.val (.int (2:Int32)),.val (.int (1:Int32)),.val (.ref o1),.val (.int (((((pl.toUInt32>>>((6:Int32)&&&31).toUInt32).toInt32) + (1:Int32)).toUInt32>>>((6:Int32)&&&31).toUInt32).toInt32)),.val (.int (((((ph.toUInt32>>>((6:Int32)&&&31).toUInt32).toInt32) - (1:Int32)).toUInt32>>>((6:Int32)&&&31).toUInt32).toInt32))] [(.long (fromB (((pl.toUInt32>>>((6:Int32)&&&31).toUInt32).toInt32) + (1:Int32)))), (.long (gy ((nl / 64 + 1) / 64)))])) _
              refine Goes.by (fun _ k => XS.land X16.here hx rfl (hb hby d4_86) rfl k) ?_
              show Goes p.tables e below (T16.setTop (mkF m 87 #[.val (.ref oa),.val (.int (((pl.toUInt32>>>((6:Int32)&&&31).toUInt32).toInt32) + (1:Int32))),.val (.int (((ph.toUInt32>>>((6:Int32)&&&31).toUInt32).toInt32) - (1:Int32))),.val (.ref ol),.val (.int (2:Int32)),.val (.int (1:Int32)),.val (.ref o1),.val (.int (((((pl.toUInt32>>>((6:Int32)&&&31).toUInt32).toInt32) + (1:Int32)).toUInt32>>>((6:Int32)&&&31).toUInt32).toInt32)),.val (.int (((((ph.toUInt32>>>((6:Int32)&&&31).toUInt32).toInt32) - (1:Int32)).toUInt32>>>((6:Int32)&&&31).toUInt32).toInt32))] [(.long ((gy ((nl / 64 + 1) / 64))&&&(fromB (((pl.toUInt32>>>((6:Int32)&&&31).toUInt32).toInt32) + (1:Int32)))))])) _
              refine Goes.by (fun _ k => XS.lconst X16.here hx rfl (hb hby d4_87) k) ?_
              show Goes p.tables e below (T16.setTop (mkF m 88 #[.val (.ref oa),.val (.int (((pl.toUInt32>>>((6:Int32)&&&31).toUInt32).toInt32) + (1:Int32))),.val (.int (((ph.toUInt32>>>((6:Int32)&&&31).toUInt32).toInt32) - (1:Int32))),.val (.ref ol),.val (.int (2:Int32)),.val (.int (1:Int32)),.val (.ref o1),.val (.int (((((pl.toUInt32>>>((6:Int32)&&&31).toUInt32).toInt32) + (1:Int32)).toUInt32>>>((6:Int32)&&&31).toUInt32).toInt32)),.val (.int (((((ph.toUInt32>>>((6:Int32)&&&31).toUInt32).toInt32) - (1:Int32)).toUInt32>>>((6:Int32)&&&31).toUInt32).toInt32))] [(.long (0:Int64)), (.long ((gy ((nl / 64 + 1) / 64))&&&(fromB (((pl.toUInt32>>>((6:Int32)&&&31).toUInt32).toInt32) + (1:Int32)))))])) _
              refine Goes.by (fun _ k => XS.lcmp X16.here hx rfl (hb hby d4_88) rfl k) ?_
              show Goes p.tables e below (T16.setTop (mkF m 89 #[.val (.ref oa),.val (.int (((pl.toUInt32>>>((6:Int32)&&&31).toUInt32).toInt32) + (1:Int32))),.val (.int (((ph.toUInt32>>>((6:Int32)&&&31).toUInt32).toInt32) - (1:Int32))),.val (.ref ol),.val (.int (2:Int32)),.val (.int (1:Int32)),.val (.ref o1),.val (.int (((((pl.toUInt32>>>((6:Int32)&&&31).toUInt32).toInt32) + (1:Int32)).toUInt32>>>((6:Int32)&&&31).toUInt32).toInt32)),.val (.int (((((ph.toUInt32>>>((6:Int32)&&&31).toUInt32).toInt32) - (1:Int32)).toUInt32>>>((6:Int32)&&&31).toUInt32).toInt32))] [(.int (lcmpW ((gy ((nl / 64 + 1) / 64))&&&(fromB (((pl.toUInt32>>>((6:Int32)&&&31).toUInt32).toInt32) + (1:Int32)))) (0:Int64)))])) _
              by_cases hc17 : ((gy ((nl / 64 + 1) / 64))&&&(fromB (((pl.toUInt32>>>((6:Int32)&&&31).toUInt32).toInt32) + (1:Int32)))) = (0:Int64)
              · refine Goes.by (fun _ k => XS.ifNo X16.here hx rfl (hb hby d4_89) rfl (je_t hc17).2 k) ?_
                show Goes p.tables e below (T16.setTop (mkF m 92 #[.val (.ref oa),.val (.int (((pl.toUInt32>>>((6:Int32)&&&31).toUInt32).toInt32) + (1:Int32))),.val (.int (((ph.toUInt32>>>((6:Int32)&&&31).toUInt32).toInt32) - (1:Int32))),.val (.ref ol),.val (.int (2:Int32)),.val (.int (1:Int32)),.val (.ref o1),.val (.int (((((pl.toUInt32>>>((6:Int32)&&&31).toUInt32).toInt32) + (1:Int32)).toUInt32>>>((6:Int32)&&&31).toUInt32).toInt32)),.val (.int (((((ph.toUInt32>>>((6:Int32)&&&31).toUInt32).toInt32) - (1:Int32)).toUInt32>>>((6:Int32)&&&31).toUInt32).toInt32))] [])) _
                refine Goes.by (fun _ k => XS.aload X16.here hx rfl (hb hby d4_92) rfl rfl k) ?_
                show Goes p.tables e below (T16.setTop (mkF m 94 #[.val (.ref oa),.val (.int (((pl.toUInt32>>>((6:Int32)&&&31).toUInt32).toInt32) + (1:Int32))),.val (.int (((ph.toUInt32>>>((6:Int32)&&&31).toUInt32).toInt32) - (1:Int32))),.val (.ref ol),.val (.int (2:Int32)),.val (.int (1:Int32)),.val (.ref o1),.val (.int (((((pl.toUInt32>>>((6:Int32)&&&31).toUInt32).toInt32) + (1:Int32)).toUInt32>>>((6:Int32)&&&31).toUInt32).toInt32)),.val (.int (((((ph.toUInt32>>>((6:Int32)&&&31).toUInt32).toInt32) - (1:Int32)).toUInt32>>>((6:Int32)&&&31).toUInt32).toInt32))] [(.ref o1)])) _
                refine Goes.by (fun _ k => XS.iload X16.here hx rfl (hb hby d4_94) rfl k) ?_
                show Goes p.tables e below (T16.setTop (mkF m 96 #[.val (.ref oa),.val (.int (((pl.toUInt32>>>((6:Int32)&&&31).toUInt32).toInt32) + (1:Int32))),.val (.int (((ph.toUInt32>>>((6:Int32)&&&31).toUInt32).toInt32) - (1:Int32))),.val (.ref ol),.val (.int (2:Int32)),.val (.int (1:Int32)),.val (.ref o1),.val (.int (((((pl.toUInt32>>>((6:Int32)&&&31).toUInt32).toInt32) + (1:Int32)).toUInt32>>>((6:Int32)&&&31).toUInt32).toInt32)),.val (.int (((((ph.toUInt32>>>((6:Int32)&&&31).toUInt32).toInt32) - (1:Int32)).toUInt32>>>((6:Int32)&&&31).toUInt32).toInt32))] [(.int (((((ph.toUInt32>>>((6:Int32)&&&31).toUInt32).toInt32) - (1:Int32)).toUInt32>>>((6:Int32)&&&31).toUInt32).toInt32)), (.ref o1)])) _
                refine Goes.by (fun _ k => ldJ (v := (gy ((nh / 64 - 1) / 64))) (fr := (mkF m 96 #[.val (.ref oa),.val (.int (((pl.toUInt32>>>((6:Int32)&&&31).toUInt32).toInt32) + (1:Int32))),.val (.int (((ph.toUInt32>>>((6:Int32)&&&31).toUInt32).toInt32) - (1:Int32))),.val (.ref ol),.val (.int (2:Int32)),.val (.int (1:Int32)),.val (.ref o1),.val (.int (((((pl.toUInt32>>>((6:Int32)&&&31).toUInt32).toInt32) + (1:Int32)).toUInt32>>>((6:Int32)&&&31).toUInt32).toInt32)),.val (.int (((((ph.toUInt32>>>((6:Int32)&&&31).toUInt32).toInt32) - (1:Int32)).toUInt32>>>((6:Int32)&&&31).toUInt32).toInt32))] [(.int (((((ph.toUInt32>>>((6:Int32)&&&31).toUInt32).toInt32) - (1:Int32)).toUInt32>>>((6:Int32)&&&31).toUInt32).toInt32)), (.ref o1)])) X16 hx hZ e16 A_o1 (i := ((nh / 64 - 1) / 64)) (own_sh6 _ _ (own_lv hlo hhi hwh hx1 hc3 hc11).2.1) (own_lv hlo hhi hwh hx1 hc3 hc11).2.2.2 rfl rfl rfl (hb hby d4_96) k) ?_
                show Goes p.tables e below (T16.setTop (mkF m 97 #[.val (.ref oa),.val (.int (((pl.toUInt32>>>((6:Int32)&&&31).toUInt32).toInt32) + (1:Int32))),.val (.int (((ph.toUInt32>>>((6:Int32)&&&31).toUInt32).toInt32) - (1:Int32))),.val (.ref ol),.val (.int (2:Int32)),.val (.int (1:Int32)),.val (.ref o1),.val (.int (((((pl.toUInt32>>>((6:Int32)&&&31).toUInt32).toInt32) + (1:Int32)).toUInt32>>>((6:Int32)&&&31).toUInt32).toInt32)),.val (.int (((((ph.toUInt32>>>((6:Int32)&&&31).toUInt32).toInt32) - (1:Int32)).toUInt32>>>((6:Int32)&&&31).toUInt32).toInt32))] [(.long (gy ((nh / 64 - 1) / 64)))])) _
                refine Goes.by (fun _ k => XS.iloadN X16.here hx rfl (hb hby d4_97) rfl k) ?_
                show Goes p.tables e below (T16.setTop (mkF m 98 #[.val (.ref oa),.val (.int (((pl.toUInt32>>>((6:Int32)&&&31).toUInt32).toInt32) + (1:Int32))),.val (.int (((ph.toUInt32>>>((6:Int32)&&&31).toUInt32).toInt32) - (1:Int32))),.val (.ref ol),.val (.int (2:Int32)),.val (.int (1:Int32)),.val (.ref o1),.val (.int (((((pl.toUInt32>>>((6:Int32)&&&31).toUInt32).toInt32) + (1:Int32)).toUInt32>>>((6:Int32)&&&31).toUInt32).toInt32)),.val (.int (((((ph.toUInt32>>>((6:Int32)&&&31).toUInt32).toInt32) - (1:Int32)).toUInt32>>>((6:Int32)&&&31).toUInt32).toInt32))] [(.int (((ph.toUInt32>>>((6:Int32)&&&31).toUInt32).toInt32) - (1:Int32))), (.long (gy ((nh / 64 - 1) / 64)))])) _
                obtain ⟨_, _, ⟨T18, L18, k18, n18⟩, -, X18, ⟨Lc18, hQ18, l18, y18, z18⟩, st18⟩ := Jvm.LawKit.callS X16 hx (y := (⟨"com/example/xml_graph_join/xmlgraphjoin/topo/BitLevels", "upToBit", "(I)J"⟩ : MethodName)) hown (mvT hZ (hw _ (List.mem_of_getElem? (i := 30) rfl))) (mvT hZ (hw _ (List.mem_of_getElem? (i := 31) rfl))) (mvT hZ (hw _ (List.mem_of_getElem? (i := 3) rfl))) (mvT hZ (hw _ (List.mem_of_getElem? (i := 32) rfl))) (by decide) (backOf (W := 2) (rm6 l Z a0 hw [] (((ph.toUInt32>>>((6:Int32)&&&31).toUInt32).toInt32) - (1:Int32)) h0 n0 Z0) hZ (hw _ (List.mem_of_getElem? (i := 32) rfl)) (hw _ (List.mem_of_getElem? (i := 3) rfl)) (by decide) (by decide)) (g := (mkF m 98 #[.val (.ref oa),.val (.int (((pl.toUInt32>>>((6:Int32)&&&31).toUInt32).toInt32) + (1:Int32))),.val (.int (((ph.toUInt32>>>((6:Int32)&&&31).toUInt32).toInt32) - (1:Int32))),.val (.ref ol),.val (.int (2:Int32)),.val (.int (1:Int32)),.val (.ref o1),.val (.int (((((pl.toUInt32>>>((6:Int32)&&&31).toUInt32).toInt32) + (1:Int32)).toUInt32>>>((6:Int32)&&&31).toUInt32).toInt32)),.val (.int (((((ph.toUInt32>>>((6:Int32)&&&31).toUInt32).toInt32) - (1:Int32)).toUInt32>>>((6:Int32)&&&31).toUInt32).toInt32))] [(.int (((ph.toUInt32>>>((6:Int32)&&&31).toUInt32).toInt32) - (1:Int32))), (.long (gy ((nh / 64 - 1) / 64)))])) rfl (by rw [hml]; rfl) (argsL := [(.int (((ph.toUInt32>>>((6:Int32)&&&31).toUInt32).toInt32) - (1:Int32)))]) (rest := [(.long (gy ((nh / 64 - 1) / 64)))]) (lenOf pd_0 rfl) rfl (by show 2 * 0 + (2 + 0) ≤ _; decide) (hb hby d4_98) (fun _ _ => ⟨rfl, e16, (by decide : 0 + 0 ≤ _), (by decide : 0 + 0 ≤ _)⟩)
                dsimp only [Pt.U, Pt.locs, Pt.cells, Pt.slots] at X18 l18 y18 z18 st18 hQ18
                rw [l18, y18, z18] at X18
                obtain ⟨rfl, N18q, e18⟩ := hQ18
                have N18 := Fr.app N16 N18q
                refine Goes.by st18 ?_
                show Goes p.tables e below (T18.setTop (mkF m 101 #[.val (.ref oa),.val (.int (((pl.toUInt32>>>((6:Int32)&&&31).toUInt32).toInt32) + (1:Int32))),.val (.int (((ph.toUInt32>>>((6:Int32)&&&31).toUInt32).toInt32) - (1:Int32))),.val (.ref ol),.val (.int (2:Int32)),.val (.int (1:Int32)),.val (.ref o1),.val (.int (((((pl.toUInt32>>>((6:Int32)&&&31).toUInt32).toInt32) + (1:Int32)).toUInt32>>>((6:Int32)&&&31).toUInt32).toInt32)),.val (.int (((((ph.toUInt32>>>((6:Int32)&&&31).toUInt32).toInt32) - (1:Int32)).toUInt32>>>((6:Int32)&&&31).toUInt32).toInt32))] [(.long (upB (((ph.toUInt32>>>((6:Int32)&&&31).toUInt32).toInt32) - (1:Int32)))), (.long (gy ((nh / 64 - 1) / 64)))])) _
                refine Goes.by (fun _ k => XS.land X18.here hx rfl (hb hby d4_101) rfl k) ?_
                show Goes p.tables e below (T18.setTop (mkF m 102 #[.val (.ref oa),.val (.int (((pl.toUInt32>>>((6:Int32)&&&31).toUInt32).toInt32) + (1:Int32))),.val (.int (((ph.toUInt32>>>((6:Int32)&&&31).toUInt32).toInt32) - (1:Int32))),.val (.ref ol),.val (.int (2:Int32)),.val (.int (1:Int32)),.val (.ref o1),.val (.int (((((pl.toUInt32>>>((6:Int32)&&&31).toUInt32).toInt32) + (1:Int32)).toUInt32>>>((6:Int32)&&&31).toUInt32).toInt32)),.val (.int (((((ph.toUInt32>>>((6:Int32)&&&31).toUInt32).toInt32) - (1:Int32)).toUInt32>>>((6:Int32)&&&31).toUInt32).toInt32))] [(.long ((gy ((nh / 64 - 1) / 64))&&&(upB (((ph.toUInt32>>>((6:Int32)&&&31).toUInt32).toInt32) - (1:Int32)))))])) _
                refine Goes.by (fun _ k => XS.lconst X18.here hx rfl (hb hby d4_102) k) ?_
                show Goes p.tables e below (T18.setTop (mkF m 103 #[.val (.ref oa),.val (.int (((pl.toUInt32>>>((6:Int32)&&&31).toUInt32).toInt32) + (1:Int32))),.val (.int (((ph.toUInt32>>>((6:Int32)&&&31).toUInt32).toInt32) - (1:Int32))),.val (.ref ol),.val (.int (2:Int32)),.val (.int (1:Int32)),.val (.ref o1),.val (.int (((((pl.toUInt32>>>((6:Int32)&&&31).toUInt32).toInt32) + (1:Int32)).toUInt32>>>((6:Int32)&&&31).toUInt32).toInt32)),.val (.int (((((ph.toUInt32>>>((6:Int32)&&&31).toUInt32).toInt32) - (1:Int32)).toUInt32>>>((6:Int32)&&&31).toUInt32).toInt32))] [(.long (0:Int64)), (.long ((gy ((nh / 64 - 1) / 64))&&&(upB (((ph.toUInt32>>>((6:Int32)&&&31).toUInt32).toInt32) - (1:Int32)))))])) _
                refine Goes.by (fun _ k => XS.lcmp X18.here hx rfl (hb hby d4_103) rfl k) ?_
                show Goes p.tables e below (T18.setTop (mkF m 104 #[.val (.ref oa),.val (.int (((pl.toUInt32>>>((6:Int32)&&&31).toUInt32).toInt32) + (1:Int32))),.val (.int (((ph.toUInt32>>>((6:Int32)&&&31).toUInt32).toInt32) - (1:Int32))),.val (.ref ol),.val (.int (2:Int32)),.val (.int (1:Int32)),.val (.ref o1),.val (.int (((((pl.toUInt32>>>((6:Int32)&&&31).toUInt32).toInt32) + (1:Int32)).toUInt32>>>((6:Int32)&&&31).toUInt32).toInt32)),.val (.int (((((ph.toUInt32>>>((6:Int32)&&&31).toUInt32).toInt32) - (1:Int32)).toUInt32>>>((6:Int32)&&&31).toUInt32).toInt32))] [(.int (lcmpW ((gy ((nh / 64 - 1) / 64))&&&(upB (((ph.toUInt32>>>((6:Int32)&&&31).toUInt32).toInt32) - (1:Int32)))) (0:Int64)))])) _
                by_cases hc19 : ((gy ((nh / 64 - 1) / 64))&&&(upB (((ph.toUInt32>>>((6:Int32)&&&31).toUInt32).toInt32) - (1:Int32)))) = (0:Int64)
                · refine Goes.by (fun _ k => XS.ifYes X18.here hx rfl (pc0 := 104) (pc' := 109) rfl (hb hby d4_104) rfl (je_t hc19).1 (by decide) (by decide) k) ?_
                  show Goes p.tables e below (T18.setTop (mkF m 109 #[.val (.ref oa),.val (.int (((pl.toUInt32>>>((6:Int32)&&&31).toUInt32).toInt32) + (1:Int32))),.val (.int (((ph.toUInt32>>>((6:Int32)&&&31).toUInt32).toInt32) - (1:Int32))),.val (.ref ol),.val (.int (2:Int32)),.val (.int (1:Int32)),.val (.ref o1),.val (.int (((((pl.toUInt32>>>((6:Int32)&&&31).toUInt32).toInt32) + (1:Int32)).toUInt32>>>((6:Int32)&&&31).toUInt32).toInt32)),.val (.int (((((ph.toUInt32>>>((6:Int32)&&&31).toUInt32).toInt32) - (1:Int32)).toUInt32>>>((6:Int32)&&&31).toUInt32).toInt32))] [])) _
                  refine Goes.by (fun _ k => XS.iload X18.here hx rfl (hb hby d4_109) rfl k) ?_
                  show Goes p.tables e below (T18.setTop (mkF m 111 #[.val (.ref oa),.val (.int (((pl.toUInt32>>>((6:Int32)&&&31).toUInt32).toInt32) + (1:Int32))),.val (.int (((ph.toUInt32>>>((6:Int32)&&&31).toUInt32).toInt32) - (1:Int32))),.val (.ref ol),.val (.int (2:Int32)),.val (.int (1:Int32)),.val (.ref o1),.val (.int (((((pl.toUInt32>>>((6:Int32)&&&31).toUInt32).toInt32) + (1:Int32)).toUInt32>>>((6:Int32)&&&31).toUInt32).toInt32)),.val (.int (((((ph.toUInt32>>>((6:Int32)&&&31).toUInt32).toInt32) - (1:Int32)).toUInt32>>>((6:Int32)&&&31).toUInt32).toInt32))] [(.int (((((pl.toUInt32>>>((6:Int32)&&&31).toUInt32).toInt32) + (1:Int32)).toUInt32>>>((6:Int32)&&&31).toUInt32).toInt32))])) _
                  refine Goes.by (fun _ k => XS.iconst X18.here hx rfl (hb hby d4_111) k) ?_
                  show Goes p.tables e below (T18.setTop (mkF m 112 #[.val (.ref oa),.val (.int (((pl.toUInt32>>>((6:Int32)&&&31).toUInt32).toInt32) + (1:Int32))),.val (.int (((ph.toUInt32>>>((6:Int32)&&&31).toUInt32).toInt32) - (1:Int32))),.val (.ref ol),.val (.int (2:Int32)),.val (.int (1:Int32)),.val (.ref o1),.val (.int (((((pl.toUInt32>>>((6:Int32)&&&31).toUInt32).toInt32) + (1:Int32)).toUInt32>>>((6:Int32)&&&31).toUInt32).toInt32)),.val (.int (((((ph.toUInt32>>>((6:Int32)&&&31).toUInt32).toInt32) - (1:Int32)).toUInt32>>>((6:Int32)&&&31).toUInt32).toInt32))] [(.int (1:Int32)), (.int (((((pl.toUInt32>>>((6:Int32)&&&31).toUInt32).toInt32) + (1:Int32)).toUInt32>>>((6:Int32)&&&31).toUInt32).toInt32))])) _
                  refine Goes.by (fun _ k => XS.iadd X18.here hx rfl (hb hby d4_112) rfl k) ?_
                  show Goes p.tables e below (T18.setTop (mkF m 113 #[.val (.ref oa),.val (.int (((pl.toUInt32>>>((6:Int32)&&&31).toUInt32).toInt32) + (1:Int32))),.val (.int (((ph.toUInt32>>>((6:Int32)&&&31).toUInt32).toInt32) - (1:Int32))),.val (.ref ol),.val (.int (2:Int32)),.val (.int (1:Int32)),.val (.ref o1),.val (.int (((((pl.toUInt32>>>((6:Int32)&&&31).toUInt32).toInt32) + (1:Int32)).toUInt32>>>((6:Int32)&&&31).toUInt32).toInt32)),.val (.int (((((ph.toUInt32>>>((6:Int32)&&&31).toUInt32).toInt32) - (1:Int32)).toUInt32>>>((6:Int32)&&&31).toUInt32).toInt32))] [(.int ((((((pl.toUInt32>>>((6:Int32)&&&31).toUInt32).toInt32) + (1:Int32)).toUInt32>>>((6:Int32)&&&31).toUInt32).toInt32) + (1:Int32)))])) _
                  refine Goes.by (fun _ k => XS.istoreN X18.here hx rfl (hb hby d4_113) rfl (l' := #[.val (.ref oa),.val (.int ((((((pl.toUInt32>>>((6:Int32)&&&31).toUInt32).toInt32) + (1:Int32)).toUInt32>>>((6:Int32)&&&31).toUInt32).toInt32) + (1:Int32))),.val (.int (((ph.toUInt32>>>((6:Int32)&&&31).toUInt32).toInt32) - (1:Int32))),.val (.ref ol),.val (.int (2:Int32)),.val (.int (1:Int32)),.val (.ref o1),.val (.int (((((pl.toUInt32>>>((6:Int32)&&&31).toUInt32).toInt32) + (1:Int32)).toUInt32>>>((6:Int32)&&&31).toUInt32).toInt32)),.val (.int (((((ph.toUInt32>>>((6:Int32)&&&31).toUInt32).toInt32) - (1:Int32)).toUInt32>>>((6:Int32)&&&31).toUInt32).toInt32))]) rfl k) ?_
                  show Goes p.tables e below (T18.setTop (mkF m 114 #[.val (.ref oa),.val (.int ((((((pl.toUInt32>>>((6:Int32)&&&31).toUInt32).toInt32) + (1:Int32)).toUInt32>>>((6:Int32)&&&31).toUInt32).toInt32) + (1:Int32))),.val (.int (((ph.toUInt32>>>((6:Int32)&&&31).toUInt32).toInt32) - (1:Int32))),.val (.ref ol),.val (.int (2:Int32)),.val (.int (1:Int32)),.val (.ref o1),.val (.int (((((pl.toUInt32>>>((6:Int32)&&&31).toUInt32).toInt32) + (1:Int32)).toUInt32>>>((6:Int32)&&&31).toUInt32).toInt32)),.val (.int (((((ph.toUInt32>>>((6:Int32)&&&31).toUInt32).toInt32) - (1:Int32)).toUInt32>>>((6:Int32)&&&31).toUInt32).toInt32))] [])) _
                  refine Goes.by (fun _ k => XS.iload X18.here hx rfl (hb hby d4_114) rfl k) ?_
                  show Goes p.tables e below (T18.setTop (mkF m 116 #[.val (.ref oa),.val (.int ((((((pl.toUInt32>>>((6:Int32)&&&31).toUInt32).toInt32) + (1:Int32)).toUInt32>>>((6:Int32)&&&31).toUInt32).toInt32) + (1:Int32))),.val (.int (((ph.toUInt32>>>((6:Int32)&&&31).toUInt32).toInt32) - (1:Int32))),.val (.ref ol),.val (.int (2:Int32)),.val (.int (1:Int32)),.val (.ref o1),.val (.int (((((pl.toUInt32>>>((6:Int32)&&&31).toUInt32).toInt32) + (1:Int32)).toUInt32>>>((6:Int32)&&&31).toUInt32).toInt32)),.val (.int (((((ph.toUInt32>>>((6:Int32)&&&31).toUInt32).toInt32) - (1:Int32)).toUInt32>>>((6:Int32)&&&31).toUInt32).toInt32))] [(.int (((((ph.toUInt32>>>((6:Int32)&&&31).toUInt32).toInt32) - (1:Int32)).toUInt32>>>((6:Int32)&&&31).toUInt32).toInt32))])) _
                  refine Goes.by (fun _ k => XS.iconst X18.here hx rfl (hb hby d4_116) k) ?_
                  show Goes p.tables e below (T18.setTop (mkF m 117 #[.val (.ref oa),.val (.int ((((((pl.toUInt32>>>((6:Int32)&&&31).toUInt32).toInt32) + (1:Int32)).toUInt32>>>((6:Int32)&&&31).toUInt32).toInt32) + (1:Int32))),.val (.int (((ph.toUInt32>>>((6:Int32)&&&31).toUInt32).toInt32) - (1:Int32))),.val (.ref ol),.val (.int (2:Int32)),.val (.int (1:Int32)),.val (.ref o1),.val (.int (((((pl.toUInt32>>>((6:Int32)&&&31).toUInt32).toInt32) + (1:Int32)).toUInt32>>>((6:Int32)&&&31).toUInt32).toInt32)),.val (.int (((((ph.toUInt32>>>((6:Int32)&&&31).toUInt32).toInt32) - (1:Int32)).toUInt32>>>((6:Int32)&&&31).toUInt32).toInt32))] [(.int (1:Int32)), (.int (((((ph.toUInt32>>>((6:Int32)&&&31).toUInt32).toInt32) - (1:Int32)).toUInt32>>>((6:Int32)&&&31).toUInt32).toInt32))])) _
                  refine Goes.by (fun _ k => XS.isub X18.here hx rfl (hb hby d4_117) rfl k) ?_
                  show Goes p.tables e below (T18.setTop (mkF m 118 #[.val (.ref oa),.val (.int ((((((pl.toUInt32>>>((6:Int32)&&&31).toUInt32).toInt32) + (1:Int32)).toUInt32>>>((6:Int32)&&&31).toUInt32).toInt32) + (1:Int32))),.val (.int (((ph.toUInt32>>>((6:Int32)&&&31).toUInt32).toInt32) - (1:Int32))),.val (.ref ol),.val (.int (2:Int32)),.val (.int (1:Int32)),.val (.ref o1),.val (.int (((((pl.toUInt32>>>((6:Int32)&&&31).toUInt32).toInt32) + (1:Int32)).toUInt32>>>((6:Int32)&&&31).toUInt32).toInt32)),.val (.int (((((ph.toUInt32>>>((6:Int32)&&&31).toUInt32).toInt32) - (1:Int32)).toUInt32>>>((6:Int32)&&&31).toUInt32).toInt32))] [(.int ((((((ph.toUInt32>>>((6:Int32)&&&31).toUInt32).toInt32) - (1:Int32)).toUInt32>>>((6:Int32)&&&31).toUInt32).toInt32) - (1:Int32)))])) _
                  refine Goes.by (fun _ k => XS.istoreN X18.here hx rfl (hb hby d4_118) rfl (l' := #[.val (.ref oa),.val (.int ((((((pl.toUInt32>>>((6:Int32)&&&31).toUInt32).toInt32) + (1:Int32)).toUInt32>>>((6:Int32)&&&31).toUInt32).toInt32) + (1:Int32))),.val (.int ((((((ph.toUInt32>>>((6:Int32)&&&31).toUInt32).toInt32) - (1:Int32)).toUInt32>>>((6:Int32)&&&31).toUInt32).toInt32) - (1:Int32))),.val (.ref ol),.val (.int (2:Int32)),.val (.int (1:Int32)),.val (.ref o1),.val (.int (((((pl.toUInt32>>>((6:Int32)&&&31).toUInt32).toInt32) + (1:Int32)).toUInt32>>>((6:Int32)&&&31).toUInt32).toInt32)),.val (.int (((((ph.toUInt32>>>((6:Int32)&&&31).toUInt32).toInt32) - (1:Int32)).toUInt32>>>((6:Int32)&&&31).toUInt32).toInt32))]) rfl k) ?_
                  show Goes p.tables e below (T18.setTop (mkF m 119 #[.val (.ref oa),.val (.int ((((((pl.toUInt32>>>((6:Int32)&&&31).toUInt32).toInt32) + (1:Int32)).toUInt32>>>((6:Int32)&&&31).toUInt32).toInt32) + (1:Int32))),.val (.int ((((((ph.toUInt32>>>((6:Int32)&&&31).toUInt32).toInt32) - (1:Int32)).toUInt32>>>((6:Int32)&&&31).toUInt32).toInt32) - (1:Int32))),.val (.ref ol),.val (.int (2:Int32)),.val (.int (1:Int32)),.val (.ref o1),.val (.int (((((pl.toUInt32>>>((6:Int32)&&&31).toUInt32).toInt32) + (1:Int32)).toUInt32>>>((6:Int32)&&&31).toUInt32).toInt32)),.val (.int (((((ph.toUInt32>>>((6:Int32)&&&31).toUInt32).toInt32) - (1:Int32)).toUInt32>>>((6:Int32)&&&31).toUInt32).toInt32))] [])) _
                  refine Goes.by (fun _ k => XS.iinc X18.here hx rfl (hb hby d4_119) rfl (l' := #[.val (.ref oa),.val (.int ((((((pl.toUInt32>>>((6:Int32)&&&31).toUInt32).toInt32) + (1:Int32)).toUInt32>>>((6:Int32)&&&31).toUInt32).toInt32) + (1:Int32))),.val (.int ((((((ph.toUInt32>>>((6:Int32)&&&31).toUInt32).toInt32) - (1:Int32)).toUInt32>>>((6:Int32)&&&31).toUInt32).toInt32) - (1:Int32))),.val (.ref ol),.val (.int (2:Int32)),.val (.int (2:Int32)),.val (.ref o1),.val (.int (((((pl.toUInt32>>>((6:Int32)&&&31).toUInt32).toInt32) + (1:Int32)).toUInt32>>>((6:Int32)&&&31).toUInt32).toInt32)),.val (.int (((((ph.toUInt32>>>((6:Int32)&&&31).toUInt32).toInt32) - (1:Int32)).toUInt32>>>((6:Int32)&&&31).toUInt32).toInt32))]) rfl k) ?_
                  show Goes p.tables e below (T18.setTop (mkF m 122 #[.val (.ref oa),.val (.int ((((((pl.toUInt32>>>((6:Int32)&&&31).toUInt32).toInt32) + (1:Int32)).toUInt32>>>((6:Int32)&&&31).toUInt32).toInt32) + (1:Int32))),.val (.int ((((((ph.toUInt32>>>((6:Int32)&&&31).toUInt32).toInt32) - (1:Int32)).toUInt32>>>((6:Int32)&&&31).toUInt32).toInt32) - (1:Int32))),.val (.ref ol),.val (.int (2:Int32)),.val (.int (2:Int32)),.val (.ref o1),.val (.int (((((pl.toUInt32>>>((6:Int32)&&&31).toUInt32).toInt32) + (1:Int32)).toUInt32>>>((6:Int32)&&&31).toUInt32).toInt32)),.val (.int (((((ph.toUInt32>>>((6:Int32)&&&31).toUInt32).toInt32) - (1:Int32)).toUInt32>>>((6:Int32)&&&31).toUInt32).toInt32))] [])) _
                  refine Goes.by (fun _ k => XS.goto X18.here hx rfl (pc0 := 122) (pc' := 12) rfl (hb hby d4_122) (by decide) (by decide) k) ?_
                  show Goes p.tables e below (T18.setTop (mkF m 12 #[.val (.ref oa),.val (.int ((((((pl.toUInt32>>>((6:Int32)&&&31).toUInt32).toInt32) + (1:Int32)).toUInt32>>>((6:Int32)&&&31).toUInt32).toInt32) + (1:Int32))),.val (.int ((((((ph.toUInt32>>>((6:Int32)&&&31).toUInt32).toInt32) - (1:Int32)).toUInt32>>>((6:Int32)&&&31).toUInt32).toInt32) - (1:Int32))),.val (.ref ol),.val (.int (2:Int32)),.val (.int (2:Int32)),.val (.ref o1),.val (.int (((((pl.toUInt32>>>((6:Int32)&&&31).toUInt32).toInt32) + (1:Int32)).toUInt32>>>((6:Int32)&&&31).toUInt32).toInt32)),.val (.int (((((ph.toUInt32>>>((6:Int32)&&&31).toUInt32).toInt32) - (1:Int32)).toUInt32>>>((6:Int32)&&&31).toUInt32).toInt32))] [])) _
                  refine Goes.by (fun _ k => XS.iload X18.here hx rfl (hb hby d4_12) rfl k) ?_
                  show Goes p.tables e below (T18.setTop (mkF m 14 #[.val (.ref oa),.val (.int ((((((pl.toUInt32>>>((6:Int32)&&&31).toUInt32).toInt32) + (1:Int32)).toUInt32>>>((6:Int32)&&&31).toUInt32).toInt32) + (1:Int32))),.val (.int ((((((ph.toUInt32>>>((6:Int32)&&&31).toUInt32).toInt32) - (1:Int32)).toUInt32>>>((6:Int32)&&&31).toUInt32).toInt32) - (1:Int32))),.val (.ref ol),.val (.int (2:Int32)),.val (.int (2:Int32)),.val (.ref o1),.val (.int (((((pl.toUInt32>>>((6:Int32)&&&31).toUInt32).toInt32) + (1:Int32)).toUInt32>>>((6:Int32)&&&31).toUInt32).toInt32)),.val (.int (((((ph.toUInt32>>>((6:Int32)&&&31).toUInt32).toInt32) - (1:Int32)).toUInt32>>>((6:Int32)&&&31).toUInt32).toInt32))] [(.int (2:Int32))])) _
                  refine Goes.by (fun _ k => XS.iload X18.here hx rfl (hb hby d4_14) rfl k) ?_
                  show Goes p.tables e below (T18.setTop (mkF m 16 #[.val (.ref oa),.val (.int ((((((pl.toUInt32>>>((6:Int32)&&&31).toUInt32).toInt32) + (1:Int32)).toUInt32>>>((6:Int32)&&&31).toUInt32).toInt32) + (1:Int32))),.val (.int ((((((ph.toUInt32>>>((6:Int32)&&&31).toUInt32).toInt32) - (1:Int32)).toUInt32>>>((6:Int32)&&&31).toUInt32).toInt32) - (1:Int32))),.val (.ref ol),.val (.int (2:Int32)),.val (.int (2:Int32)),.val (.ref o1),.val (.int (((((pl.toUInt32>>>((6:Int32)&&&31).toUInt32).toInt32) + (1:Int32)).toUInt32>>>((6:Int32)&&&31).toUInt32).toInt32)),.val (.int (((((ph.toUInt32>>>((6:Int32)&&&31).toUInt32).toInt32) - (1:Int32)).toUInt32>>>((6:Int32)&&&31).toUInt32).toInt32))] [(.int (2:Int32)), (.int (2:Int32))])) _
                  refine Goes.by (fun _ k => XS.icmpYes X18.here hx rfl (pc0 := 16) (pc' := 125) rfl (hb hby d4_16) rfl (flt (by decide : ¬ ((2:Int32) < (2:Int32)))).2.1 (by decide) (by decide) k) ?_
                  show Goes p.tables e below (T18.setTop (mkF m 125 #[.val (.ref oa),.val (.int ((((((pl.toUInt32>>>((6:Int32)&&&31).toUInt32).toInt32) + (1:Int32)).toUInt32>>>((6:Int32)&&&31).toUInt32).toInt32) + (1:Int32))),.val (.int ((((((ph.toUInt32>>>((6:Int32)&&&31).toUInt32).toInt32) - (1:Int32)).toUInt32>>>((6:Int32)&&&31).toUInt32).toInt32) - (1:Int32))),.val (.ref ol),.val (.int (2:Int32)),.val (.int (2:Int32)),.val (.ref o1),.val (.int (((((pl.toUInt32>>>((6:Int32)&&&31).toUInt32).toInt32) + (1:Int32)).toUInt32>>>((6:Int32)&&&31).toUInt32).toInt32)),.val (.int (((((ph.toUInt32>>>((6:Int32)&&&31).toUInt32).toInt32) - (1:Int32)).toUInt32>>>((6:Int32)&&&31).toUInt32).toInt32))] [])) _
                  refine Goes.by (fun _ k => XS.iconst X18.here hx rfl (hb hby d4_125) k) ?_
                  show Goes p.tables e below (T18.setTop (mkF m 126 #[.val (.ref oa),.val (.int ((((((pl.toUInt32>>>((6:Int32)&&&31).toUInt32).toInt32) + (1:Int32)).toUInt32>>>((6:Int32)&&&31).toUInt32).toInt32) + (1:Int32))),.val (.int ((((((ph.toUInt32>>>((6:Int32)&&&31).toUInt32).toInt32) - (1:Int32)).toUInt32>>>((6:Int32)&&&31).toUInt32).toInt32) - (1:Int32))),.val (.ref ol),.val (.int (2:Int32)),.val (.int (2:Int32)),.val (.ref o1),.val (.int (((((pl.toUInt32>>>((6:Int32)&&&31).toUInt32).toInt32) + (1:Int32)).toUInt32>>>((6:Int32)&&&31).toUInt32).toInt32)),.val (.int (((((ph.toUInt32>>>((6:Int32)&&&31).toUInt32).toInt32) - (1:Int32)).toUInt32>>>((6:Int32)&&&31).toUInt32).toInt32))] [(.int (0:Int32))])) _
                  obtain ⟨fs, hr, hrun, hended, hW, hsame⟩ := X18.leave (v := some (.int (0:Int32))) (fun h => by rw [Bd.returns] at h; cases h)
                  refine ⟨_, _, retN X18 hx (t := .boolean) Bd.returns (by simp) (hb hby d4_126) hr, hrun, hended, _, _, rfl, ?_, ⟨_, rfl⟩, hW, hsame.mono (by decide) (by decide)⟩
                  show Q4d2 Z oa pl ph ol o0 o1 gx gy wx wy nl nh h0 n0 _ T18.heap _
                  rw [e18]
                  exact ⟨(by rw [fn4d2, if_neg hc2, if_neg hc3, if_pos hc8, if_pos hc10, if_neg hc11, if_neg hc12, if_pos hc17, if_pos hc19]), N18, rfl⟩
                · refine Goes.by (fun _ k => XS.ifNo X18.here hx rfl (hb hby d4_104) rfl (je_f hc19).1 k) ?_
                  show Goes p.tables e below (T18.setTop (mkF m 107 #[.val (.ref oa),.val (.int (((pl.toUInt32>>>((6:Int32)&&&31).toUInt32).toInt32) + (1:Int32))),.val (.int (((ph.toUInt32>>>((6:Int32)&&&31).toUInt32).toInt32) - (1:Int32))),.val (.ref ol),.val (.int (2:Int32)),.val (.int (1:Int32)),.val (.ref o1),.val (.int (((((pl.toUInt32>>>((6:Int32)&&&31).toUInt32).toInt32) + (1:Int32)).toUInt32>>>((6:Int32)&&&31).toUInt32).toInt32)),.val (.int (((((ph.toUInt32>>>((6:Int32)&&&31).toUInt32).toInt32) - (1:Int32)).toUInt32>>>((6:Int32)&&&31).toUInt32).toInt32))] [])) _
                  refine Goes.by (fun _ k => XS.iconst X18.here hx rfl (hb hby d4_107) k) ?_
                  show Goes p.tables e below (T18.setTop (mkF m 108 #[.val (.ref oa),.val (.int (((pl.toUInt32>>>((6:Int32)&&&31).toUInt32).toInt32) + (1:Int32))),.val (.int (((ph.toUInt32>>>((6:Int32)&&&31).toUInt32).toInt32) - (1:Int32))),.val (.ref ol),.val (.int (2:Int32)),.val (.int (1:Int32)),.val (.ref o1),.val (.int (((((pl.toUInt32>>>((6:Int32)&&&31).toUInt32).toInt32) + (1:Int32)).toUInt32>>>((6:Int32)&&&31).toUInt32).toInt32)),.val (.int (((((ph.toUInt32>>>((6:Int32)&&&31).toUInt32).toInt32) - (1:Int32)).toUInt32>>>((6:Int32)&&&31).toUInt32).toInt32))] [(.int (1:Int32))])) _
                  obtain ⟨fs, hr, hrun, hended, hW, hsame⟩ := X18.leave (v := some (.int (1:Int32))) (fun h => by rw [Bd.returns] at h; cases h)
                  refine ⟨_, _, retN X18 hx (t := .boolean) Bd.returns (by simp) (hb hby d4_108) hr, hrun, hended, _, _, rfl, ?_, ⟨_, rfl⟩, hW, hsame.mono (by decide) (by decide)⟩
                  show Q4d2 Z oa pl ph ol o0 o1 gx gy wx wy nl nh h0 n0 _ T18.heap _
                  rw [e18]
                  exact ⟨(by rw [fn4d2, if_neg hc2, if_neg hc3, if_pos hc8, if_pos hc10, if_neg hc11, if_neg hc12, if_pos hc17, if_neg hc19]), N18, rfl⟩
              · refine Goes.by (fun _ k => XS.ifYes X16.here hx rfl (pc0 := 89) (pc' := 107) rfl (hb hby d4_89) rfl (je_f hc17).2 (by decide) (by decide) k) ?_
                show Goes p.tables e below (T16.setTop (mkF m 107 #[.val (.ref oa),.val (.int (((pl.toUInt32>>>((6:Int32)&&&31).toUInt32).toInt32) + (1:Int32))),.val (.int (((ph.toUInt32>>>((6:Int32)&&&31).toUInt32).toInt32) - (1:Int32))),.val (.ref ol),.val (.int (2:Int32)),.val (.int (1:Int32)),.val (.ref o1),.val (.int (((((pl.toUInt32>>>((6:Int32)&&&31).toUInt32).toInt32) + (1:Int32)).toUInt32>>>((6:Int32)&&&31).toUInt32).toInt32)),.val (.int (((((ph.toUInt32>>>((6:Int32)&&&31).toUInt32).toInt32) - (1:Int32)).toUInt32>>>((6:Int32)&&&31).toUInt32).toInt32))] [])) _
                refine Goes.by (fun _ k => XS.iconst X16.here hx rfl (hb hby d4_107) k) ?_
                show Goes p.tables e below (T16.setTop (mkF m 108 #[.val (.ref oa),.val (.int (((pl.toUInt32>>>((6:Int32)&&&31).toUInt32).toInt32) + (1:Int32))),.val (.int (((ph.toUInt32>>>((6:Int32)&&&31).toUInt32).toInt32) - (1:Int32))),.val (.ref ol),.val (.int (2:Int32)),.val (.int (1:Int32)),.val (.ref o1),.val (.int (((((pl.toUInt32>>>((6:Int32)&&&31).toUInt32).toInt32) + (1:Int32)).toUInt32>>>((6:Int32)&&&31).toUInt32).toInt32)),.val (.int (((((ph.toUInt32>>>((6:Int32)&&&31).toUInt32).toInt32) - (1:Int32)).toUInt32>>>((6:Int32)&&&31).toUInt32).toInt32))] [(.int (1:Int32))])) _
                obtain ⟨fs, hr, hrun, hended, hW, hsame⟩ := X16.leave (v := some (.int (1:Int32))) (fun h => by rw [Bd.returns] at h; cases h)
                refine ⟨_, _, retN X16 hx (t := .boolean) Bd.returns (by simp) (hb hby d4_108) hr, hrun, hended, _, _, rfl, ?_, ⟨_, rfl⟩, hW, hsame.mono (by decide) (by decide)⟩
                show Q4d2 Z oa pl ph ol o0 o1 gx gy wx wy nl nh h0 n0 _ T16.heap _
                rw [e16]
                exact ⟨(by rw [fn4d2, if_neg hc2, if_neg hc3, if_pos hc8, if_pos hc10, if_neg hc11, if_neg hc12, if_neg hc17]), N16, rfl⟩
        · refine Goes.by (fun _ k => XS.ifNo X9.here hx rfl (hb hby d4_104) rfl (je_f hc10).1 k) ?_
          show Goes p.tables e below (T9.setTop (mkF m 107 #[.val (.ref oa),.val (.int pl),.val (.int ph),.val (.ref ol),.val (.int (2:Int32)),.val (.int (0:Int32)),.val (.ref o0),.val (.int ((pl.toUInt32>>>((6:Int32)&&&31).toUInt32).toInt32)),.val (.int ((ph.toUInt32>>>((6:Int32)&&&31).toUInt32).toInt32))] [])) _
          refine Goes.by (fun _ k => XS.iconst X9.here hx rfl (hb hby d4_107) k) ?_
          show Goes p.tables e below (T9.setTop (mkF m 108 #[.val (.ref oa),.val (.int pl),.val (.int ph),.val (.ref ol),.val (.int (2:Int32)),.val (.int (0:Int32)),.val (.ref o0),.val (.int ((pl.toUInt32>>>((6:Int32)&&&31).toUInt32).toInt32)),.val (.int ((ph.toUInt32>>>((6:Int32)&&&31).toUInt32).toInt32))] [(.int (1:Int32))])) _
          obtain ⟨fs, hr, hrun, hended, hW, hsame⟩ := X9.leave (v := some (.int (1:Int32))) (fun h => by rw [Bd.returns] at h; cases h)
          refine ⟨_, _, retN X9 hx (t := .boolean) Bd.returns (by simp) (hb hby d4_108) hr, hrun, hended, _, _, rfl, ?_, ⟨_, rfl⟩, hW, hsame.mono (by decide) (by decide)⟩
          show Q4d2 Z oa pl ph ol o0 o1 gx gy wx wy nl nh h0 n0 _ T9.heap _
          rw [e9]
          exact ⟨(by rw [fn4d2, if_neg hc2, if_neg hc3, if_pos hc8, if_neg hc10]), N9, rfl⟩
      · refine Goes.by (fun _ k => XS.ifYes X7.here hx rfl (pc0 := 89) (pc' := 107) rfl (hb hby d4_89) rfl (je_f hc8).2 (by decide) (by decide) k) ?_
        show Goes p.tables e below (T7.setTop (mkF m 107 #[.val (.ref oa),.val (.int pl),.val (.int ph),.val (.ref ol),.val (.int (2:Int32)),.val (.int (0:Int32)),.val (.ref o0),.val (.int ((pl.toUInt32>>>((6:Int32)&&&31).toUInt32).toInt32)),.val (.int ((ph.toUInt32>>>((6:Int32)&&&31).toUInt32).toInt32))] [])) _
        refine Goes.by (fun _ k => XS.iconst X7.here hx rfl (hb hby d4_107) k) ?_
        show Goes p.tables e below (T7.setTop (mkF m 108 #[.val (.ref oa),.val (.int pl),.val (.int ph),.val (.ref ol),.val (.int (2:Int32)),.val (.int (0:Int32)),.val (.ref o0),.val (.int ((pl.toUInt32>>>((6:Int32)&&&31).toUInt32).toInt32)),.val (.int ((ph.toUInt32>>>((6:Int32)&&&31).toUInt32).toInt32))] [(.int (1:Int32))])) _
        obtain ⟨fs, hr, hrun, hended, hW, hsame⟩ := X7.leave (v := some (.int (1:Int32))) (fun h => by rw [Bd.returns] at h; cases h)
        refine ⟨_, _, retN X7 hx (t := .boolean) Bd.returns (by simp) (hb hby d4_108) hr, hrun, hended, _, _, rfl, ?_, ⟨_, rfl⟩, hW, hsame.mono (by decide) (by decide)⟩
        show Q4d2 Z oa pl ph ol o0 o1 gx gy wx wy nl nh h0 n0 _ T7.heap _
        rw [e7]
        exact ⟨(by rw [fn4d2, if_neg hc2, if_neg hc3, if_neg hc8]), N7, rfl⟩
def fn8d2 (pn : Int32) (gx : Nat → Int64) (gy : Nat → Int64) (wx : Nat) (wy : Nat) (nn : Nat) : Int32 := (if ((((gx (nn / 64)).toUInt64>>>(pn&&&0x3f).toInt64.toUInt64).toInt64)&&&(1:Int64)) = (0:Int64) then (0:Int32) else (1:Int32))
theorem ef8d2 (m : MethodId) (oa : Addr) (pn : Int32) : entryFrame m #[(.ref oa), (.int pn)] 2 = mkF m 0 #[.val (.ref oa),.val (.int pn)] [] := by first | (simp [entryFrame, mkF, argsToLocals, Value.category]; done) | rfl
def Q8d2 (Z : State) (oa : Addr) (pn : Int32) (ol : Addr) (o0 : Addr) (o1 : Addr) (gx : Nat → Int64) (gy : Nat → Int64) (wx : Nat) (wy : Nat) (nn : Nat) (h0 : Heap) (n0 : Nat) (v : Option Value) (h : Heap) (L : List Loc) : Prop := v = some (.int (fn8d2 pn gx gy wx wy nn)) ∧ Fr n0 L ∧ h = h0
set_option maxRecDepth 65536 in
set_option maxHeartbeats 40000000 in
theorem rm8d2 (l : Launch) (Z : State) (a0 : Array Value) (hw : ∀ d ∈ tables_1, d.before a0 Z = true) (ws : List Jvm.Cond) (oa : Addr) (pn : Int32) (ol : Addr) (o0 : Addr) (o1 : Addr) (gx : Nat → Int64) (gy : Nat → Int64) (wx : Nat) (wy : Nat) (nn : Nat) (h0 : Heap) (n0 : Nat) (Z0 : n0 ≤ h0.size) (F_oa_levels : Fld Z h0 oa "com/example/xml_graph_join/xmlgraphjoin/topo/BitLevels" "levels" "[[J" (.ref ol)) (A_ol : Ar Z h0 ol (.array .long) 2 (up (up (fun _ => .null) 0 (.ref o0)) 1 (.ref o1))) (A_o0 : AJ Z h0 o0 wx gx) (A_o1 : AJ Z h0 o1 wy gy) (hj : pn.toInt = (nn : Int)) (hw0 : nn / 64 < wx) :
    MetFree l (⟨"com/example/xml_graph_join/xmlgraphjoin/topo/BitLevels", "contains", "(I)Z"⟩ : MethodName) (head1 (Jvm.Cond.code (⟨"com/example/xml_graph_join/xmlgraphjoin/topo/BitLevels", "contains", "(I)Z"⟩ : MethodName) prog_96_method_3_code 2 (some .boolean) :: ws) ({ frames := 0, cells := 0, slots := 0, locals := 0 } : Room)) (fun a U => a = #[(.ref oa), (.int pn)] ∧ Z.Warmed39 U.vm ∧ U.heap = h0) (fun _ _ _ _ _ => True) (fun _ U o U' => ∃ v L, o = .returned v ∧ Q8d2 Z oa pn ol o0 o1 gx gy wx wy nn h0 n0 v U'.heap L ∧ FrameEnd U o U' L ({ frames := 0, cells := 0, slots := 0, locals := 0 } : Room).cells ({ frames := 0, cells := 0, slots := 0, locals := 0 } : Room).slots) := by
  refine MetFree.of_bodySF (plainFor_of_name pn_0) hisR ?_
  intro p e s m args below meth c s₁ Bd hml0 hP hK
  obtain ⟨rfl, hZ, hh⟩ := hP
  have hx := Bd.exec
  have hby := Bd.bytes
  have hml : c.maxLocals = 2 := hml0
  have hown : s.vm.findClass "com/example/xml_graph_join/xmlgraphjoin/topo/BitLevels" = some m.cls := findClass_of_methodNamed Bd.named
  have hnm := (name_of_methodNamed Bd.named Bd.method).1
  have X0 : Stand p l e ({ frames := 0, cells := 0, slots := 0, locals := 0 } : Room) s m #[(.ref oa), (.int pn)] below meth c s₁ [] 0 0 := Stand.of_body Bd
  have e0 : s₁.heap = h0 := by rw [← hh, Bd.state]; rfl
  have N0 := Fr.nil n0
  refine Goes.by (fun _ k => castTop (ef8d2 m oa pn) k) ?_
  show Goes p.tables e below (s₁.setTop (mkF m 0 #[.val (.ref oa),.val (.int pn)] [])) _
  refine Goes.by (fun _ k => XS.aloadN X0.here hx rfl (hb hby d8_0) rfl rfl k) ?_
  show Goes p.tables e below (s₁.setTop (mkF m 1 #[.val (.ref oa),.val (.int pn)] [(.ref oa)])) _
  obtain ⟨T1, X1, e1, st1⟩ := getF X0 hx hZ hown (host := "") (Or.inl (hw _ (List.mem_of_getElem? (i := 12) rfl))) Via.refl e0 F_oa_levels (g := (mkF m 1 #[.val (.ref oa),.val (.int pn)] [(.ref oa)])) rfl rfl (hb hby d8_1)
  refine Goes.by st1 ?_
  show Goes p.tables e below (T1.setTop (mkF m 4 #[.val (.ref oa),.val (.int pn)] [(.ref ol)])) _
  refine Goes.by (fun _ k => XS.iconst X1.here hx rfl (hb hby d8_4) k) ?_
  show Goes p.tables e below (T1.setTop (mkF m 5 #[.val (.ref oa),.val (.int pn)] [(.int (0:Int32)), (.ref ol)])) _
  refine Goes.by (fun _ k => ldR (v := (.ref o0)) (fr := (mkF m 5 #[.val (.ref oa),.val (.int pn)] [(.int (0:Int32)), (.ref ol)])) X1 hx hZ e1 A_ol rfl (i := 0) (by decide) (by decide) rfl rfl rfl (hb hby d8_5) k) ?_
  show Goes p.tables e below (T1.setTop (mkF m 6 #[.val (.ref oa),.val (.int pn)] [(.ref o0)])) _
  refine Goes.by (fun _ k => XS.iloadN X1.here hx rfl (hb hby d8_6) rfl k) ?_
  show Goes p.tables e below (T1.setTop (mkF m 7 #[.val (.ref oa),.val (.int pn)] [(.int pn), (.ref o0)])) _
  refine Goes.by (fun _ k => XS.bipush X1.here hx rfl (hb hby d8_7) k) ?_
  show Goes p.tables e below (T1.setTop (mkF m 9 #[.val (.ref oa),.val (.int pn)] [(.int (6:Int32)), (.int pn), (.ref o0)])) _
  refine Goes.by (fun _ k => XS.iushr X1.here hx rfl (hb hby d8_9) rfl k) ?_
  show Goes p.tables e below (T1.setTop (mkF m 10 #[.val (.ref oa),.val (.int pn)] [(.int ((pn.toUInt32>>>((6:Int32)&&&31).toUInt32).toInt32)), (.ref o0)])) _
  refine Goes.by (fun _ k => ldJ (v := (gx (nn / 64))) (fr := (mkF m 10 #[.val (.ref oa),.val (.int pn)] [(.int ((pn.toUInt32>>>((6:Int32)&&&31).toUInt32).toInt32)), (.ref o0)])) X1 hx hZ e1 A_o0 (i := (nn / 64)) (own_sh6 _ _ hj) hw0 rfl rfl rfl (hb hby d8_10) k) ?_
  show Goes p.tables e below (T1.setTop (mkF m 11 #[.val (.ref oa),.val (.int pn)] [(.long (gx (nn / 64)))])) _
  refine Goes.by (fun _ k => XS.iloadN X1.here hx rfl (hb hby d8_11) rfl k) ?_
  show Goes p.tables e below (T1.setTop (mkF m 12 #[.val (.ref oa),.val (.int pn)] [(.int pn), (.long (gx (nn / 64)))])) _
  refine Goes.by (fun _ k => XS.lushr X1.here hx rfl (hb hby d8_12) rfl k) ?_
  show Goes p.tables e below (T1.setTop (mkF m 13 #[.val (.ref oa),.val (.int pn)] [(.long (((gx (nn / 64)).toUInt64>>>(pn&&&0x3f).toInt64.toUInt64).toInt64))])) _
  refine Goes.by (fun _ k => XS.lconst X1.here hx rfl (hb hby d8_13) k) ?_
  show Goes p.tables e below (T1.setTop (mkF m 14 #[.val (.ref oa),.val (.int pn)] [(.long (1:Int64)), (.long (((gx (nn / 64)).toUInt64>>>(pn&&&0x3f).toInt64.toUInt64).toInt64))])) _
  refine Goes.by (fun _ k => XS.land X1.here hx rfl (hb hby d8_14) rfl k) ?_
  show Goes p.tables e below (T1.setTop (mkF m 15 #[.val (.ref oa),.val (.int pn)] [(.long ((((gx (nn / 64)).toUInt64>>>(pn&&&0x3f).toInt64.toUInt64).toInt64)&&&(1:Int64)))])) _
  refine Goes.by (fun _ k => XS.lconst X1.here hx rfl (hb hby d8_15) k) ?_
  show Goes p.tables e below (T1.setTop (mkF m 16 #[.val (.ref oa),.val (.int pn)] [(.long (0:Int64)), (.long ((((gx (nn / 64)).toUInt64>>>(pn&&&0x3f).toInt64.toUInt64).toInt64)&&&(1:Int64)))])) _
  refine Goes.by (fun _ k => XS.lcmp X1.here hx rfl (hb hby d8_16) rfl k) ?_
  show Goes p.tables e below (T1.setTop (mkF m 17 #[.val (.ref oa),.val (.int pn)] [(.int (lcmpW ((((gx (nn / 64)).toUInt64>>>(pn&&&0x3f).toInt64.toUInt64).toInt64)&&&(1:Int64)) (0:Int64)))])) _
  by_cases hc2 : ((((gx (nn / 64)).toUInt64>>>(pn&&&0x3f).toInt64.toUInt64).toInt64)&&&(1:Int64)) = (0:Int64)
  · refine Goes.by (fun _ k => XS.ifYes X1.here hx rfl (pc0 := 17) (pc' := 24) rfl (hb hby d8_17) rfl (je_t hc2).1 (by decide) (by decide) k) ?_
    show Goes p.tables e below (T1.setTop (mkF m 24 #[.val (.ref oa),.val (.int pn)] [])) _
    refine Goes.by (fun _ k => XS.iconst X1.here hx rfl (hb hby d8_24) k) ?_
    show Goes p.tables e below (T1.setTop (mkF m 25 #[.val (.ref oa),.val (.int pn)] [(.int (0:Int32))])) _
    obtain ⟨fs, hr, hrun, hended, hW, hsame⟩ := X1.leave (v := some (.int (0:Int32))) (fun h => by rw [Bd.returns] at h; cases h)
    refine ⟨_, _, retN X1 hx (t := .boolean) Bd.returns (by simp) (hb hby d8_25) hr, hrun, hended, _, _, rfl, ?_, ⟨_, rfl⟩, hW, hsame.mono (by decide) (by decide)⟩
    show Q8d2 Z oa pn ol o0 o1 gx gy wx wy nn h0 n0 _ T1.heap _
    rw [e1]
    exact ⟨(by rw [fn8d2, if_pos hc2]), N0, rfl⟩
  · refine Goes.by (fun _ k => XS.ifNo X1.here hx rfl (hb hby d8_17) rfl (je_f hc2).1 k) ?_
    show Goes p.tables e below (T1.setTop (mkF m 20 #[.val (.ref oa),.val (.int pn)] [])) _
    refine Goes.by (fun _ k => XS.iconst X1.here hx rfl (hb hby d8_20) k) ?_
    show Goes p.tables e below (T1.setTop (mkF m 21 #[.val (.ref oa),.val (.int pn)] [(.int (1:Int32))])) _
    refine Goes.by (fun _ k => XS.goto X1.here hx rfl (pc0 := 21) (pc' := 25) rfl (hb hby d8_21) (by decide) (by decide) k) ?_
    show Goes p.tables e below (T1.setTop (mkF m 25 #[.val (.ref oa),.val (.int pn)] [(.int (1:Int32))])) _
    obtain ⟨fs, hr, hrun, hended, hW, hsame⟩ := X1.leave (v := some (.int (1:Int32))) (fun h => by rw [Bd.returns] at h; cases h)
    refine ⟨_, _, retN X1 hx (t := .boolean) Bd.returns (by simp) (hb hby d8_25) hr, hrun, hended, _, _, rfl, ?_, ⟨_, rfl⟩, hW, hsame.mono (by decide) (by decide)⟩
    show Q8d2 Z oa pn ol o0 o1 gx gy wx wy nn h0 n0 _ T1.heap _
    rw [e1]
    exact ⟨(by rw [fn8d2, if_neg hc2]), N0, rfl⟩
theorem ef3d3 (m : MethodId) (oa : Addr) (pn : Int32) : entryFrame m #[(.ref oa), (.int pn)] 8 = mkF m 0 #[.val (.ref oa),.val (.int pn),.unset,.unset,.unset,.unset,.unset,.unset] [] := by first | (simp [entryFrame, mkF, argsToLocals, Value.category]; done) | rfl
def Q3d3 (Z : State) (oa : Addr) (pn : Int32) (ol : Addr) (o0 : Addr) (o1 : Addr) (o2 : Addr) (gx : Nat → Int64) (gy : Nat → Int64) (gz : Nat → Int64) (wx : Nat) (wy : Nat) (wz : Nat) (nn : Nat) (h0 : Heap) (n0 : Nat) (v : Option Value) (h : Heap) (L : List Loc) : Prop := v = none ∧ Fr n0 L ∧ Keep h0 h [o0, o1, o2] ∧ Fld Z h oa "com/example/xml_graph_join/xmlgraphjoin/topo/BitLevels" "levels" "[[J" (.ref ol) ∧ Ar Z h ol (.array .long) 3 (up (up (up (fun _ => .null) 0 (.ref o0)) 1 (.ref o1)) 2 (.ref o2)) ∧ AJ Z h o0 wx (up gx (nn / 64) (((gx (nn / 64))) ||| (oneB pn))) ∧ AJ Z h o1 wy (if (gx (nn / 64)) = (0:Int64) then (up gy (nn / 64 / 64) (((gy (nn / 64 / 64))) ||| (oneB ((pn.toUInt32>>>((6:Int32)&&&31).toUInt32).toInt32)))) else gy) ∧ AJ Z h o2 wz (if (gx (nn / 64)) = (0:Int64) then (if (gy (nn / 64 / 64)) = (0:Int64) then (up gz (nn / 64 / 64 / 64) (((gz (nn / 64 / 64 / 64))) ||| (oneB ((((pn.toUInt32>>>((6:Int32)&&&31).toUInt32).toInt32).toUInt32>>>((6:Int32)&&&31).toUInt32).toInt32)))) else gz) else gz)
set_option maxRecDepth 65536 in
set_option maxHeartbeats 40000000 in
theorem rm3d3 (l : Launch) (Z : State) (a0 : Array Value) (hw : ∀ d ∈ tables_1, d.before a0 Z = true) (ws : List Jvm.Cond) (oa : Addr) (pn : Int32) (ol : Addr) (o0 : Addr) (o1 : Addr) (o2 : Addr) (gx : Nat → Int64) (gy : Nat → Int64) (gz : Nat → Int64) (wx : Nat) (wy : Nat) (wz : Nat) (nn : Nat) (h0 : Heap) (n0 : Nat) (Z0 : n0 ≤ h0.size) (F_oa_levels : Fld Z h0 oa "com/example/xml_graph_join/xmlgraphjoin/topo/BitLevels" "levels" "[[J" (.ref ol)) (A_ol : Ar Z h0 ol (.array .long) 3 (up (up (up (fun _ => .null) 0 (.ref o0)) 1 (.ref o1)) 2 (.ref o2))) (A_o0 : AJ Z h0 o0 wx gx) (A_o1 : AJ Z h0 o1 wy gy) (A_o2 : AJ Z h0 o2 wz gz) (hj : pn.toInt = (nn : Int)) (hw0 : nn / 64 < wx) (hw1 : nn / 64 / 64 < wy) (hw2 : nn / 64 / 64 / 64 < wz) (ne_oa_o0 : oa ≠ o0) (ne_oa_o1 : oa ≠ o1) (ne_oa_o2 : oa ≠ o2) (ne_ol_o0 : ol ≠ o0) (ne_ol_o1 : ol ≠ o1) (ne_ol_o2 : ol ≠ o2) (ne_o0_o1 : o0 ≠ o1) (ne_o0_o2 : o0 ≠ o2) (ne_o1_o2 : o1 ≠ o2) (g_o0 : n0 ≤ o0) (g_o1 : n0 ≤ o1) (g_o2 : n0 ≤ o2) :
    MetFree l (⟨"com/example/xml_graph_join/xmlgraphjoin/topo/BitLevels", "add", "(I)V"⟩ : MethodName) (head1 (Jvm.Cond.code (⟨"com/example/xml_graph_join/xmlgraphjoin/topo/BitLevels", "add", "(I)V"⟩ : MethodName) prog_96_method_2_code 8 none :: ws) ({ frames := 0, cells := 0, slots := 0, locals := 0 } : Room)) (fun a U => a = #[(.ref oa), (.int pn)] ∧ Z.Warmed39 U.vm ∧ U.heap = h0) (fun _ _ _ _ _ => True) (fun _ U o U' => ∃ v L, o = .returned v ∧ Q3d3 Z oa pn ol o0 o1 o2 gx gy gz wx wy wz nn h0 n0 v U'.heap L ∧ FrameEnd U o U' L ({ frames := 0, cells := 0, slots := 0, locals := 0 } : Room).cells ({ frames := 0, cells := 0, slots := 0, locals := 0 } : Room).slots) := by
  refine MetFree.of_bodySF (plainFor_of_name pn_0) hisR ?_
  intro p e s m args below meth c s₁ Bd hml0 hP hK
  obtain ⟨rfl, hZ, hh⟩ := hP
  have hx := Bd.exec
  have hby := Bd.bytes
  have hml : c.maxLocals = 8 := hml0
  have hown : s.vm.findClass "com/example/xml_graph_join/xmlgraphjoin/topo/BitLevels" = some m.cls := findClass_of_methodNamed Bd.named
  have hnm := (name_of_methodNamed Bd.named Bd.method).1
  have X0 : Stand p l e ({ frames := 0, cells := 0, slots := 0, locals := 0 } : Room) s m #[(.ref oa), (.int pn)] below meth c s₁ [] 0 0 := Stand.of_body Bd
  have e0 : s₁.heap = h0 := by rw [← hh, Bd.state]; rfl
  have N0 := Fr.nil n0
  refine Goes.by (fun _ k => castTop (ef3d3 m oa pn) k) ?_
  show Goes p.tables e below (s₁.setTop (mkF m 0 #[.val (.ref oa),.val (.int pn),.unset,.unset,.unset,.unset,.unset,.unset] [])) _
  refine Goes.by (fun _ k => XS.aloadN X0.here hx rfl (hb hby d3_0) rfl rfl k) ?_
  show Goes p.tables e below (s₁.setTop (mkF m 1 #[.val (.ref oa),.val (.int pn),.unset,.unset,.unset,.unset,.unset,.unset] [(.ref oa)])) _
  obtain ⟨T1, X1, e1, st1⟩ := getF X0 hx hZ hown (host := "") (Or.inl (hw _ (List.mem_of_getElem? (i := 12) rfl))) Via.refl e0 F_oa_levels (g := (mkF m 1 #[.val (.ref oa),.val (.int pn),.unset,.unset,.unset,.unset,.unset,.unset] [(.ref oa)])) rfl rfl (hb hby d3_1)
  refine Goes.by st1 ?_
  show Goes p.tables e below (T1.setTop (mkF m 4 #[.val (.ref oa),.val (.int pn),.unset,.unset,.unset,.unset,.unset,.unset] [(.ref ol)])) _
  refine Goes.by (fun _ k => XS.astoreN X1.here hx rfl (hb hby d3_4) rfl rfl (l' := #[.val (.ref oa),.val (.int pn),.val (.ref ol),.unset,.unset,.unset,.unset,.unset]) rfl k) ?_
  show Goes p.tables e below (T1.setTop (mkF m 5 #[.val (.ref oa),.val (.int pn),.val (.ref ol),.unset,.unset,.unset,.unset,.unset] [])) _
  refine Goes.by (fun _ k => XS.aloadN X1.here hx rfl (hb hby d3_5) rfl rfl k) ?_
  show Goes p.tables e below (T1.setTop (mkF m 6 #[.val (.ref oa),.val (.int pn),.val (.ref ol),.unset,.unset,.unset,.unset,.unset] [(.ref ol)])) _
  refine Goes.by (fun _ k => alen (z := (3:Int32)) (fr := (mkF m 6 #[.val (.ref oa),.val (.int pn),.val (.ref ol),.unset,.unset,.unset,.unset,.unset] [(.ref ol)])) X1 hx hZ e1 A_ol (by decide) rfl rfl (hb hby d3_6) k) ?_
  show Goes p.tables e below (T1.setTop (mkF m 7 #[.val (.ref oa),.val (.int pn),.val (.ref ol),.unset,.unset,.unset,.unset,.unset] [(.int (3:Int32))])) _
  refine Goes.by (fun _ k => XS.istoreN X1.here hx rfl (hb hby d3_7) rfl (l' := #[.val (.ref oa),.val (.int pn),.val (.ref ol),.val (.int (3:Int32)),.unset,.unset,.unset,.unset]) rfl k) ?_
  show Goes p.tables e below (T1.setTop (mkF m 8 #[.val (.ref oa),.val (.int pn),.val (.ref ol),.val (.int (3:Int32)),.unset,.unset,.unset,.unset] [])) _
  refine Goes.by (fun _ k => XS.iconst X1.here hx rfl (hb hby d3_8) k) ?_
  show Goes p.tables e below (T1.setTop (mkF m 9 #[.val (.ref oa),.val (.int pn),.val (.ref ol),.val (.int (3:Int32)),.unset,.unset,.unset,.unset] [(.int (0:Int32))])) _
  refine Goes.by (fun _ k => XS.istore X1.here hx rfl (hb hby d3_9) rfl (l' := #[.val (.ref oa),.val (.int pn),.val (.ref ol),.val (.int (3:Int32)),.val (.int (0:Int32)),.unset,.unset,.unset]) rfl k) ?_
  show Goes p.tables e below (T1.setTop (mkF m 11 #[.val (.ref oa),.val (.int pn),.val (.ref ol),.val (.int (3:Int32)),.val (.int (0:Int32)),.unset,.unset,.unset] [])) _
  refine Goes.by (fun _ k => XS.iload X1.here hx rfl (hb hby d3_11) rfl k) ?_
  show Goes p.tables e below (T1.setTop (mkF m 13 #[.val (.ref oa),.val (.int pn),.val (.ref ol),.val (.int (3:Int32)),.val (.int (0:Int32)),.unset,.unset,.unset] [(.int (0:Int32))])) _
  refine Goes.by (fun _ k => XS.iloadN X1.here hx rfl (hb hby d3_13) rfl k) ?_
  show Goes p.tables e below (T1.setTop (mkF m 14 #[.val (.ref oa),.val (.int pn),.val (.ref ol),.val (.int (3:Int32)),.val (.int (0:Int32)),.unset,.unset,.unset] [(.int (3:Int32)), (.int (0:Int32))])) _
  refine Goes.by (fun _ k => XS.icmpNo X1.here hx rfl (hb hby d3_14) rfl (tlt (by decide : (0:Int32) < (3:Int32))).2.1 k) ?_
  show Goes p.tables e below (T1.setTop (mkF m 17 #[.val (.ref oa),.val (.int pn),.val (.ref ol),.val (.int (3:Int32)),.val (.int (0:Int32)),.unset,.unset,.unset] [])) _
  refine Goes.by (fun _ k => XS.aloadN X1.here hx rfl (hb hby d3_17) rfl rfl k) ?_
  show Goes p.tables e below (T1.setTop (mkF m 18 #[.val (.ref oa),.val (.int pn),.val (.ref ol),.val (.int (3:Int32)),.val (.int (0:Int32)),.unset,.unset,.unset] [(.ref ol)])) _
  refine Goes.by (fun _ k => XS.iload X1.here hx rfl (hb hby d3_18) rfl k) ?_
  show Goes p.tables e below (T1.setTop (mkF m 20 #[.val (.ref oa),.val (.int pn),.val (.ref ol),.val (.int (3:Int32)),.val (.int (0:Int32)),.unset,.unset,.unset] [(.int (0:Int32)), (.ref ol)])) _
  refine Goes.by (fun _ k => ldR (v := (.ref o0)) (fr := (mkF m 20 #[.val (.ref oa),.val (.int pn),.val (.ref ol),.val (.int (3:Int32)),.val (.int (0:Int32)),.unset,.unset,.unset] [(.int (0:Int32)), (.ref ol)])) X1 hx hZ e1 A_ol rfl (i := 0) (by decide) (by decide) rfl rfl rfl (hb hby d3_20) k) ?_
  show Goes p.tables e below (T1.setTop (mkF m 21 #[.val (.ref oa),.val (.int pn),.val (.ref ol),.val (.int (3:Int32)),.val (.int (0:Int32)),.unset,.unset,.unset] [(.ref o0)])) _
  refine Goes.by (fun _ k => XS.astore X1.here hx rfl (hb hby d3_21) rfl rfl (l' := #[.val (.ref oa),.val (.int pn),.val (.ref ol),.val (.int (3:Int32)),.val (.int (0:Int32)),.val (.ref o0),.unset,.unset]) rfl k) ?_
  show Goes p.tables e below (T1.setTop (mkF m 23 #[.val (.ref oa),.val (.int pn),.val (.ref ol),.val (.int (3:Int32)),.val (.int (0:Int32)),.val (.ref o0),.unset,.unset] [])) _
  refine Goes.by (fun _ k => XS.aload X1.here hx rfl (hb hby d3_23) rfl rfl k) ?_
  show Goes p.tables e below (T1.setTop (mkF m 25 #[.val (.ref oa),.val (.int pn),.val (.ref ol),.val (.int (3:Int32)),.val (.int (0:Int32)),.val (.ref o0),.unset,.unset] [(.ref o0)])) _
  refine Goes.by (fun _ k => XS.iloadN X1.here hx rfl (hb hby d3_25) rfl k) ?_
  show Goes p.tables e below (T1.setTop (mkF m 26 #[.val (.ref oa),.val (.int pn),.val (.ref ol),.val (.int (3:Int32)),.val (.int (0:Int32)),.val (.ref o0),.unset,.unset] [(.int pn), (.ref o0)])) _
  refine Goes.by (fun _ k => XS.bipush X1.here hx rfl (hb hby d3_26) k) ?_
  show Goes p.tables e below (T1.setTop (mkF m 28 #[.val (.ref oa),.val (.int pn),.val (.ref ol),.val (.int (3:Int32)),.val (.int (0:Int32)),.val (.ref o0),.unset,.unset] [(.int (6:Int32)), (.int pn), (.ref o0)])) _
  refine Goes.by (fun _ k => XS.iushr X1.here hx rfl (hb hby d3_28) rfl k) ?_
  show Goes p.tables e below (T1.setTop (mkF m 29 #[.val (.ref oa),.val (.int pn),.val (.ref ol),.val (.int (3:Int32)),.val (.int (0:Int32)),.val (.ref o0),.unset,.unset] [(.int ((pn.toUInt32>>>((6:Int32)&&&31).toUInt32).toInt32)), (.ref o0)])) _
  refine Goes.by (fun _ k => ldJ (v := (gx (nn / 64))) (fr := (mkF m 29 #[.val (.ref oa),.val (.int pn),.val (.ref ol),.val (.int (3:Int32)),.val (.int (0:Int32)),.val (.ref o0),.unset,.unset] [(.int ((pn.toUInt32>>>((6:Int32)&&&31).toUInt32).toInt32)), (.ref o0)])) X1 hx hZ e1 A_o0 (i := (nn / 64)) (own_sh6 _ _ hj) hw0 rfl rfl rfl (hb hby d3_29) k) ?_
  show Goes p.tables e below (T1.setTop (mkF m 30 #[.val (.ref oa),.val (.int pn),.val (.ref ol),.val (.int (3:Int32)),.val (.int (0:Int32)),.val (.ref o0),.unset,.unset] [(.long (gx (nn / 64)))])) _
  refine Goes.by (fun _ k => XS.lstore X1.here hx rfl (hb hby d3_30) rfl (l' := #[.val (.ref oa),.val (.int pn),.val (.ref ol),.val (.int (3:Int32)),.val (.int (0:Int32)),.val (.ref o0),.val (.long (gx (nn / 64))),.second]) rfl k) ?_
  show Goes p.tables e below (T1.setTop (mkF m 32 #[.val (.ref oa),.val (.int pn),.val (.ref ol),.val (.int (3:Int32)),.val (.int (0:Int32)),.val (.ref o0),.val (.long (gx (nn / 64))),.second] [])) _
  refine Goes.by (fun _ k => XS.aload X1.here hx rfl (hb hby d3_32) rfl rfl k) ?_
  show Goes p.tables e below (T1.setTop (mkF m 34 #[.val (.ref oa),.val (.int pn),.val (.ref ol),.val (.int (3:Int32)),.val (.int (0:Int32)),.val (.ref o0),.val (.long (gx (nn / 64))),.second] [(.ref o0)])) _
  refine Goes.by (fun _ k => XS.iloadN X1.here hx rfl (hb hby d3_34) rfl k) ?_
  show Goes p.tables e below (T1.setTop (mkF m 35 #[.val (.ref oa),.val (.int pn),.val (.ref ol),.val (.int (3:Int32)),.val (.int (0:Int32)),.val (.ref o0),.val (.long (gx (nn / 64))),.second] [(.int pn), (.ref o0)])) _
  refine Goes.by (fun _ k => XS.bipush X1.here hx rfl (hb hby d3_35) k) ?_
  show Goes p.tables e below (T1.setTop (mkF m 37 #[.val (.ref oa),.val (.int pn),.val (.ref ol),.val (.int (3:Int32)),.val (.int (0:Int32)),.val (.ref o0),.val (.long (gx (nn / 64))),.second] [(.int (6:Int32)), (.int pn), (.ref o0)])) _
  refine Goes.by (fun _ k => XS.iushr X1.here hx rfl (hb hby d3_37) rfl k) ?_
  show Goes p.tables e below (T1.setTop (mkF m 38 #[.val (.ref oa),.val (.int pn),.val (.ref ol),.val (.int (3:Int32)),.val (.int (0:Int32)),.val (.ref o0),.val (.long (gx (nn / 64))),.second] [(.int ((pn.toUInt32>>>((6:Int32)&&&31).toUInt32).toInt32)), (.ref o0)])) _
  refine Goes.by (fun _ k => XS.lload X1.here hx rfl (hb hby d3_38) rfl k) ?_
  show Goes p.tables e below (T1.setTop (mkF m 40 #[.val (.ref oa),.val (.int pn),.val (.ref ol),.val (.int (3:Int32)),.val (.int (0:Int32)),.val (.ref o0),.val (.long (gx (nn / 64))),.second] [(.long (gx (nn / 64))), (.int ((pn.toUInt32>>>((6:Int32)&&&31).toUInt32).toInt32)), (.ref o0)])) _
  refine Goes.by (fun _ k => XS.lconst X1.here hx rfl (hb hby d3_40) k) ?_
  show Goes p.tables e below (T1.setTop (mkF m 41 #[.val (.ref oa),.val (.int pn),.val (.ref ol),.val (.int (3:Int32)),.val (.int (0:Int32)),.val (.ref o0),.val (.long (gx (nn / 64))),.second] [(.long (1:Int64)), (.long (gx (nn / 64))), (.int ((pn.toUInt32>>>((6:Int32)&&&31).toUInt32).toInt32)), (.ref o0)])) _
  refine Goes.by (fun _ k => XS.iloadN X1.here hx rfl (hb hby d3_41) rfl k) ?_
  show Goes p.tables e below (T1.setTop (mkF m 42 #[.val (.ref oa),.val (.int pn),.val (.ref ol),.val (.int (3:Int32)),.val (.int (0:Int32)),.val (.ref o0),.val (.long (gx (nn / 64))),.second] [(.int pn), (.long (1:Int64)), (.long (gx (nn / 64))), (.int ((pn.toUInt32>>>((6:Int32)&&&31).toUInt32).toInt32)), (.ref o0)])) _
  refine Goes.by (fun _ k => XS.lshl X1.here hx rfl (hb hby d3_42) rfl k) ?_
  show Goes p.tables e below (T1.setTop (mkF m 43 #[.val (.ref oa),.val (.int pn),.val (.ref ol),.val (.int (3:Int32)),.val (.int (0:Int32)),.val (.ref o0),.val (.long (gx (nn / 64))),.second] [(.long ((1:Int64) <<< (pn&&&0x3f).toInt64)), (.long (gx (nn / 64))), (.int ((pn.toUInt32>>>((6:Int32)&&&31).toUInt32).toInt32)), (.ref o0)])) _
  refine Goes.by (fun _ k => XS.lor X1.here hx rfl (hb hby d3_43) rfl k) ?_
  show Goes p.tables e below (T1.setTop (mkF m 44 #[.val (.ref oa),.val (.int pn),.val (.ref ol),.val (.int (3:Int32)),.val (.int (0:Int32)),.val (.ref o0),.val (.long (gx (nn / 64))),.second] [(.long ((gx (nn / 64)) ||| ((1:Int64) <<< (pn&&&0x3f).toInt64))), (.int ((pn.toUInt32>>>((6:Int32)&&&31).toUInt32).toInt32)), (.ref o0)])) _
  obtain ⟨T2, h2, X2, e2, W2, A2, st2⟩ := stAJ (fr := (mkF m 44 #[.val (.ref oa),.val (.int pn),.val (.ref ol),.val (.int (3:Int32)),.val (.int (0:Int32)),.val (.ref o0),.val (.long (gx (nn / 64))),.second] [(.long ((gx (nn / 64)) ||| ((1:Int64) <<< (pn&&&0x3f).toInt64))), (.int ((pn.toUInt32>>>((6:Int32)&&&31).toUInt32).toInt32)), (.ref o0)])) X1 hx hZ e1 A_o0 (i := (nn / 64)) (own_sh6 _ _ hj) hw0 rfl rfl (hb hby d3_44)
  refine Goes.by st2 ?_
  have A_o0 : AJ Z h2 o0 wx (up gx (nn / 64) ((gx (nn / 64)) ||| ((1:Int64) <<< (pn&&&0x3f).toInt64))) := A2
  have N2 := Fr.snoc X2 N0 g_o0
  have Zs2 : n0 ≤ h2.size := Nat.le_trans Z0 (Keep.of_wr W2).1
  have K2 : Keep h0 h2 [o0, o1, o2] := (Keep.refl h0 [o0, o1, o2]).wr W2 (Or.inl (List.mem_of_getElem? (i := 0) rfl))
  have F_oa_levels : Fld Z h2 oa "com/example/xml_graph_join/xmlgraphjoin/topo/BitLevels" "levels" "[[J" (.ref ol) := F_oa_levels.other W2 (Or.inl ne_oa_o0)
  have A_ol : Ar Z h2 ol (.array .long) 3 (up (up (up (fun _ => .null) 0 (.ref o0)) 1 (.ref o1)) 2 (.ref o2)) := A_ol.other W2 ne_ol_o0
  have A_o1 : AJ Z h2 o1 wy gy := A_o1.other W2 (Ne.symm ne_o0_o1)
  have A_o2 : AJ Z h2 o2 wz gz := A_o2.other W2 (Ne.symm ne_o0_o2)
  show Goes p.tables e below (T2.setTop (mkF m 45 #[.val (.ref oa),.val (.int pn),.val (.ref ol),.val (.int (3:Int32)),.val (.int (0:Int32)),.val (.ref o0),.val (.long (gx (nn / 64))),.second] [])) _
  refine Goes.by (fun _ k => XS.lload X2.here hx rfl (hb hby d3_45) rfl k) ?_
  show Goes p.tables e below (T2.setTop (mkF m 47 #[.val (.ref oa),.val (.int pn),.val (.ref ol),.val (.int (3:Int32)),.val (.int (0:Int32)),.val (.ref o0),.val (.long (gx (nn / 64))),.second] [(.long (gx (nn / 64)))])) _
  refine Goes.by (fun _ k => XS.lconst X2.here hx rfl (hb hby d3_47) k) ?_
  show Goes p.tables e below (T2.setTop (mkF m 48 #[.val (.ref oa),.val (.int pn),.val (.ref ol),.val (.int (3:Int32)),.val (.int (0:Int32)),.val (.ref o0),.val (.long (gx (nn / 64))),.second] [(.long (0:Int64)), (.long (gx (nn / 64)))])) _
  refine Goes.by (fun _ k => XS.lcmp X2.here hx rfl (hb hby d3_48) rfl k) ?_
  show Goes p.tables e below (T2.setTop (mkF m 49 #[.val (.ref oa),.val (.int pn),.val (.ref ol),.val (.int (3:Int32)),.val (.int (0:Int32)),.val (.ref o0),.val (.long (gx (nn / 64))),.second] [(.int (lcmpW (gx (nn / 64)) (0:Int64)))])) _
  by_cases hc3 : (gx (nn / 64)) = (0:Int64)
  · refine Goes.by (fun _ k => XS.ifYes X2.here hx rfl (pc0 := 49) (pc' := 53) rfl (hb hby d3_49) rfl (je_t hc3).1 (by decide) (by decide) k) ?_
    show Goes p.tables e below (T2.setTop (mkF m 53 #[.val (.ref oa),.val (.int pn),.val (.ref ol),.val (.int (3:Int32)),.val (.int (0:Int32)),.val (.ref o0),.val (.long (gx (nn / 64))),.second] [])) _
    refine Goes.by (fun _ k => XS.iloadN X2.here hx rfl (hb hby d3_53) rfl k) ?_
    show Goes p.tables e below (T2.setTop (mkF m 54 #[.val (.ref oa),.val (.int pn),.val (.ref ol),.val (.int (3:Int32)),.val (.int (0:Int32)),.val (.ref o0),.val (.long (gx (nn / 64))),.second] [(.int pn)])) _
    refine Goes.by (fun _ k => XS.bipush X2.here hx rfl (hb hby d3_54) k) ?_
    show Goes p.tables e below (T2.setTop (mkF m 56 #[.val (.ref oa),.val (.int pn),.val (.ref ol),.val (.int (3:Int32)),.val (.int (0:Int32)),.val (.ref o0),.val (.long (gx (nn / 64))),.second] [(.int (6:Int32)), (.int pn)])) _
    refine Goes.by (fun _ k => XS.iushr X2.here hx rfl (hb hby d3_56) rfl k) ?_
    show Goes p.tables e below (T2.setTop (mkF m 57 #[.val (.ref oa),.val (.int pn),.val (.ref ol),.val (.int (3:Int32)),.val (.int (0:Int32)),.val (.ref o0),.val (.long (gx (nn / 64))),.second] [(.int ((pn.toUInt32>>>((6:Int32)&&&31).toUInt32).toInt32))])) _
    refine Goes.by (fun _ k => XS.istoreN X2.here hx rfl (hb hby d3_57) rfl (l' := #[.val (.ref oa),.val (.int ((pn.toUInt32>>>((6:Int32)&&&31).toUInt32).toInt32)),.val (.ref ol),.val (.int (3:Int32)),.val (.int (0:Int32)),.val (.ref o0),.val (.long (gx (nn / 64))),.second]) rfl k) ?_
    show Goes p.tables e below (T2.setTop (mkF m 58 #[.val (.ref oa),.val (.int ((pn.toUInt32>>>((6:Int32)&&&31).toUInt32).toInt32)),.val (.ref ol),.val (.int (3:Int32)),.val (.int (0:Int32)),.val (.ref o0),.val (.long (gx (nn / 64))),.second] [])) _
    refine Goes.by (fun _ k => XS.iinc X2.here hx rfl (hb hby d3_58) rfl (l' := #[.val (.ref oa),.val (.int ((pn.toUInt32>>>((6:Int32)&&&31).toUInt32).toInt32)),.val (.ref ol),.val (.int (3:Int32)),.val (.int (1:Int32)),.val (.ref o0),.val (.long (gx (nn / 64))),.second]) rfl k) ?_
    show Goes p.tables e below (T2.setTop (mkF m 61 #[.val (.ref oa),.val (.int ((pn.toUInt32>>>((6:Int32)&&&31).toUInt32).toInt32)),.val (.ref ol),.val (.int (3:Int32)),.val (.int (1:Int32)),.val (.ref o0),.val (.long (gx (nn / 64))),.second] [])) _
    refine Goes.by (fun _ k => XS.goto X2.here hx rfl (pc0 := 61) (pc' := 11) rfl (hb hby d3_61) (by decide) (by decide) k) ?_
    show Goes p.tables e below (T2.setTop (mkF m 11 #[.val (.ref oa),.val (.int ((pn.toUInt32>>>((6:Int32)&&&31).toUInt32).toInt32)),.val (.ref ol),.val (.int (3:Int32)),.val (.int (1:Int32)),.val (.ref o0),.val (.long (gx (nn / 64))),.second] [])) _
    refine Goes.by (fun _ k => XS.iload X2.here hx rfl (hb hby d3_11) rfl k) ?_
    show Goes p.tables e below (T2.setTop (mkF m 13 #[.val (.ref oa),.val (.int ((pn.toUInt32>>>((6:Int32)&&&31).toUInt32).toInt32)),.val (.ref ol),.val (.int (3:Int32)),.val (.int (1:Int32)),.val (.ref o0),.val (.long (gx (nn / 64))),.second] [(.int (1:Int32))])) _
    refine Goes.by (fun _ k => XS.iloadN X2.here hx rfl (hb hby d3_13) rfl k) ?_
    show Goes p.tables e below (T2.setTop (mkF m 14 #[.val (.ref oa),.val (.int ((pn.toUInt32>>>((6:Int32)&&&31).toUInt32).toInt32)),.val (.ref ol),.val (.int (3:Int32)),.val (.int (1:Int32)),.val (.ref o0),.val (.long (gx (nn / 64))),.second] [(.int (3:Int32)), (.int (1:Int32))])) _
    refine Goes.by (fun _ k => XS.icmpNo X2.here hx rfl (hb hby d3_14) rfl (tlt (by decide : (1:Int32) < (3:Int32))).2.1 k) ?_
    show Goes p.tables e below (T2.setTop (mkF m 17 #[.val (.ref oa),.val (.int ((pn.toUInt32>>>((6:Int32)&&&31).toUInt32).toInt32)),.val (.ref ol),.val (.int (3:Int32)),.val (.int (1:Int32)),.val (.ref o0),.val (.long (gx (nn / 64))),.second] [])) _
    refine Goes.by (fun _ k => XS.aloadN X2.here hx rfl (hb hby d3_17) rfl rfl k) ?_
    show Goes p.tables e below (T2.setTop (mkF m 18 #[.val (.ref oa),.val (.int ((pn.toUInt32>>>((6:Int32)&&&31).toUInt32).toInt32)),.val (.ref ol),.val (.int (3:Int32)),.val (.int (1:Int32)),.val (.ref o0),.val (.long (gx (nn / 64))),.second] [(.ref ol)])) _
    refine Goes.by (fun _ k => XS.iload X2.here hx rfl (hb hby d3_18) rfl k) ?_
    show Goes p.tables e below (T2.setTop (mkF m 20 #[.val (.ref oa),.val (.int ((pn.toUInt32>>>((6:Int32)&&&31).toUInt32).toInt32)),.val (.ref ol),.val (.int (3:Int32)),.val (.int (1:Int32)),.val (.ref o0),.val (.long (gx (nn / 64))),.second] [(.int (1:Int32)), (.ref ol)])) _
    refine Goes.by (fun _ k => ldR (v := (.ref o1)) (fr := (mkF m 20 #[.val (.ref oa),.val (.int ((pn.toUInt32>>>((6:Int32)&&&31).toUInt32).toInt32)),.val (.ref ol),.val (.int (3:Int32)),.val (.int (1:Int32)),.val (.ref o0),.val (.long (gx (nn / 64))),.second] [(.int (1:Int32)), (.ref ol)])) X2 hx hZ e2 A_ol rfl (i := 1) (by decide) (by decide) rfl rfl rfl (hb hby d3_20) k) ?_
    show Goes p.tables e below (T2.setTop (mkF m 21 #[.val (.ref oa),.val (.int ((pn.toUInt32>>>((6:Int32)&&&31).toUInt32).toInt32)),.val (.ref ol),.val (.int (3:Int32)),.val (.int (1:Int32)),.val (.ref o0),.val (.long (gx (nn / 64))),.second] [(.ref o1)])) _
    refine Goes.by (fun _ k => XS.astore X2.here hx rfl (hb hby d3_21) rfl rfl (l' := #[.val (.ref oa),.val (.int ((pn.toUInt32>>>((6:Int32)&&&31).toUInt32).toInt32)),.val (.ref ol),.val (.int (3:Int32)),.val (.int (1:Int32)),.val (.ref o1),.val (.long (gx (nn / 64))),.second]) rfl k) ?_
    show Goes p.tables e below (T2.setTop (mkF m 23 #[.val (.ref oa),.val (.int ((pn.toUInt32>>>((6:Int32)&&&31).toUInt32).toInt32)),.val (.ref ol),.val (.int (3:Int32)),.val (.int (1:Int32)),.val (.ref o1),.val (.long (gx (nn / 64))),.second] [])) _
    refine Goes.by (fun _ k => XS.aload X2.here hx rfl (hb hby d3_23) rfl rfl k) ?_
    show Goes p.tables e below (T2.setTop (mkF m 25 #[.val (.ref oa),.val (.int ((pn.toUInt32>>>((6:Int32)&&&31).toUInt32).toInt32)),.val (.ref ol),.val (.int (3:Int32)),.val (.int (1:Int32)),.val (.ref o1),.val (.long (gx (nn / 64))),.second] [(.ref o1)])) _
    refine Goes.by (fun _ k => XS.iloadN X2.here hx rfl (hb hby d3_25) rfl k) ?_
    show Goes p.tables e below (T2.setTop (mkF m 26 #[.val (.ref oa),.val (.int ((pn.toUInt32>>>((6:Int32)&&&31).toUInt32).toInt32)),.val (.ref ol),.val (.int (3:Int32)),.val (.int (1:Int32)),.val (.ref o1),.val (.long (gx (nn / 64))),.second] [(.int ((pn.toUInt32>>>((6:Int32)&&&31).toUInt32).toInt32)), (.ref o1)])) _
    refine Goes.by (fun _ k => XS.bipush X2.here hx rfl (hb hby d3_26) k) ?_
    show Goes p.tables e below (T2.setTop (mkF m 28 #[.val (.ref oa),.val (.int ((pn.toUInt32>>>((6:Int32)&&&31).toUInt32).toInt32)),.val (.ref ol),.val (.int (3:Int32)),.val (.int (1:Int32)),.val (.ref o1),.val (.long (gx (nn / 64))),.second] [(.int (6:Int32)), (.int ((pn.toUInt32>>>((6:Int32)&&&31).toUInt32).toInt32)), (.ref o1)])) _
    refine Goes.by (fun _ k => XS.iushr X2.here hx rfl (hb hby d3_28) rfl k) ?_
    show Goes p.tables e below (T2.setTop (mkF m 29 #[.val (.ref oa),.val (.int ((pn.toUInt32>>>((6:Int32)&&&31).toUInt32).toInt32)),.val (.ref ol),.val (.int (3:Int32)),.val (.int (1:Int32)),.val (.ref o1),.val (.long (gx (nn / 64))),.second] [(.int ((((pn.toUInt32>>>((6:Int32)&&&31).toUInt32).toInt32).toUInt32>>>((6:Int32)&&&31).toUInt32).toInt32)), (.ref o1)])) _
    refine Goes.by (fun _ k => ldJ (v := (gy (nn / 64 / 64))) (fr := (mkF m 29 #[.val (.ref oa),.val (.int ((pn.toUInt32>>>((6:Int32)&&&31).toUInt32).toInt32)),.val (.ref ol),.val (.int (3:Int32)),.val (.int (1:Int32)),.val (.ref o1),.val (.long (gx (nn / 64))),.second] [(.int ((((pn.toUInt32>>>((6:Int32)&&&31).toUInt32).toInt32).toUInt32>>>((6:Int32)&&&31).toUInt32).toInt32)), (.ref o1)])) X2 hx hZ e2 A_o1 (i := (nn / 64 / 64)) (own_sh6 _ _ (own_sh6 _ _ hj)) hw1 rfl rfl rfl (hb hby d3_29) k) ?_
    show Goes p.tables e below (T2.setTop (mkF m 30 #[.val (.ref oa),.val (.int ((pn.toUInt32>>>((6:Int32)&&&31).toUInt32).toInt32)),.val (.ref ol),.val (.int (3:Int32)),.val (.int (1:Int32)),.val (.ref o1),.val (.long (gx (nn / 64))),.second] [(.long (gy (nn / 64 / 64)))])) _
    refine Goes.by (fun _ k => XS.lstore X2.here hx rfl (hb hby d3_30) rfl (l' := #[.val (.ref oa),.val (.int ((pn.toUInt32>>>((6:Int32)&&&31).toUInt32).toInt32)),.val (.ref ol),.val (.int (3:Int32)),.val (.int (1:Int32)),.val (.ref o1),.val (.long (gy (nn / 64 / 64))),.second]) rfl k) ?_
    show Goes p.tables e below (T2.setTop (mkF m 32 #[.val (.ref oa),.val (.int ((pn.toUInt32>>>((6:Int32)&&&31).toUInt32).toInt32)),.val (.ref ol),.val (.int (3:Int32)),.val (.int (1:Int32)),.val (.ref o1),.val (.long (gy (nn / 64 / 64))),.second] [])) _
    refine Goes.by (fun _ k => XS.aload X2.here hx rfl (hb hby d3_32) rfl rfl k) ?_
    show Goes p.tables e below (T2.setTop (mkF m 34 #[.val (.ref oa),.val (.int ((pn.toUInt32>>>((6:Int32)&&&31).toUInt32).toInt32)),.val (.ref ol),.val (.int (3:Int32)),.val (.int (1:Int32)),.val (.ref o1),.val (.long (gy (nn / 64 / 64))),.second] [(.ref o1)])) _
    refine Goes.by (fun _ k => XS.iloadN X2.here hx rfl (hb hby d3_34) rfl k) ?_
    show Goes p.tables e below (T2.setTop (mkF m 35 #[.val (.ref oa),.val (.int ((pn.toUInt32>>>((6:Int32)&&&31).toUInt32).toInt32)),.val (.ref ol),.val (.int (3:Int32)),.val (.int (1:Int32)),.val (.ref o1),.val (.long (gy (nn / 64 / 64))),.second] [(.int ((pn.toUInt32>>>((6:Int32)&&&31).toUInt32).toInt32)), (.ref o1)])) _
    refine Goes.by (fun _ k => XS.bipush X2.here hx rfl (hb hby d3_35) k) ?_
    show Goes p.tables e below (T2.setTop (mkF m 37 #[.val (.ref oa),.val (.int ((pn.toUInt32>>>((6:Int32)&&&31).toUInt32).toInt32)),.val (.ref ol),.val (.int (3:Int32)),.val (.int (1:Int32)),.val (.ref o1),.val (.long (gy (nn / 64 / 64))),.second] [(.int (6:Int32)), (.int ((pn.toUInt32>>>((6:Int32)&&&31).toUInt32).toInt32)), (.ref o1)])) _
    refine Goes.by (fun _ k => XS.iushr X2.here hx rfl (hb hby d3_37) rfl k) ?_
    show Goes p.tables e below (T2.setTop (mkF m 38 #[.val (.ref oa),.val (.int ((pn.toUInt32>>>((6:Int32)&&&31).toUInt32).toInt32)),.val (.ref ol),.val (.int (3:Int32)),.val (.int (1:Int32)),.val (.ref o1),.val (.long (gy (nn / 64 / 64))),.second] [(.int ((((pn.toUInt32>>>((6:Int32)&&&31).toUInt32).toInt32).toUInt32>>>((6:Int32)&&&31).toUInt32).toInt32)), (.ref o1)])) _
    refine Goes.by (fun _ k => XS.lload X2.here hx rfl (hb hby d3_38) rfl k) ?_
    show Goes p.tables e below (T2.setTop (mkF m 40 #[.val (.ref oa),.val (.int ((pn.toUInt32>>>((6:Int32)&&&31).toUInt32).toInt32)),.val (.ref ol),.val (.int (3:Int32)),.val (.int (1:Int32)),.val (.ref o1),.val (.long (gy (nn / 64 / 64))),.second] [(.long (gy (nn / 64 / 64))), (.int ((((pn.toUInt32>>>((6:Int32)&&&31).toUInt32).toInt32).toUInt32>>>((6:Int32)&&&31).toUInt32).toInt32)), (.ref o1)])) _
    refine Goes.by (fun _ k => XS.lconst X2.here hx rfl (hb hby d3_40) k) ?_
    show Goes p.tables e below (T2.setTop (mkF m 41 #[.val (.ref oa),.val (.int ((pn.toUInt32>>>((6:Int32)&&&31).toUInt32).toInt32)),.val (.ref ol),.val (.int (3:Int32)),.val (.int (1:Int32)),.val (.ref o1),.val (.long (gy (nn / 64 / 64))),.second] [(.long (1:Int64)), (.long (gy (nn / 64 / 64))), (.int ((((pn.toUInt32>>>((6:Int32)&&&31).toUInt32).toInt32).toUInt32>>>((6:Int32)&&&31).toUInt32).toInt32)), (.ref o1)])) _
    refine Goes.by (fun _ k => XS.iloadN X2.here hx rfl (hb hby d3_41) rfl k) ?_
    show Goes p.tables e below (T2.setTop (mkF m 42 #[.val (.ref oa),.val (.int ((pn.toUInt32>>>((6:Int32)&&&31).toUInt32).toInt32)),.val (.ref ol),.val (.int (3:Int32)),.val (.int (1:Int32)),.val (.ref o1),.val (.long (gy (nn / 64 / 64))),.second] [(.int ((pn.toUInt32>>>((6:Int32)&&&31).toUInt32).toInt32)), (.long (1:Int64)), (.long (gy (nn / 64 / 64))), (.int ((((pn.toUInt32>>>((6:Int32)&&&31).toUInt32).toInt32).toUInt32>>>((6:Int32)&&&31).toUInt32).toInt32)), (.ref o1)])) _
    refine Goes.by (fun _ k => XS.lshl X2.here hx rfl (hb hby d3_42) rfl k) ?_
    show Goes p.tables e below (T2.setTop (mkF m 43 #[.val (.ref oa),.val (.int ((pn.toUInt32>>>((6:Int32)&&&31).toUInt32).toInt32)),.val (.ref ol),.val (.int (3:Int32)),.val (.int (1:Int32)),.val (.ref o1),.val (.long (gy (nn / 64 / 64))),.second] [(.long ((1:Int64) <<< (((pn.toUInt32>>>((6:Int32)&&&31).toUInt32).toInt32)&&&0x3f).toInt64)), (.long (gy (nn / 64 / 64))), (.int ((((pn.toUInt32>>>((6:Int32)&&&31).toUInt32).toInt32).toUInt32>>>((6:Int32)&&&31).toUInt32).toInt32)), (.ref o1)])) _
    refine Goes.by (fun _ k => XS.lor X2.here hx rfl (hb hby d3_43) rfl k) ?_
    show Goes p.tables e below (T2.setTop (mkF m 44 #[.val (.ref oa),.val (.int ((pn.toUInt32>>>((6:Int32)&&&31).toUInt32).toInt32)),.val (.ref ol),.val (.int (3:Int32)),.val (.int (1:Int32)),.val (.ref o1),.val (.long (gy (nn / 64 / 64))),.second] [(.long ((gy (nn / 64 / 64)) ||| ((1:Int64) <<< (((pn.toUInt32>>>((6:Int32)&&&31).toUInt32).toInt32)&&&0x3f).toInt64))), (.int ((((pn.toUInt32>>>((6:Int32)&&&31).toUInt32).toInt32).toUInt32>>>((6:Int32)&&&31).toUInt32).toInt32)), (.ref o1)])) _
    obtain ⟨T4, h4, X4, e4, W4, A4, st4⟩ := stAJ (fr := (mkF m 44 #[.val (.ref oa),.val (.int ((pn.toUInt32>>>((6:Int32)&&&31).toUInt32).toInt32)),.val (.ref ol),.val (.int (3:Int32)),.val (.int (1:Int32)),.val (.ref o1),.val (.long (gy (nn / 64 / 64))),.second] [(.long ((gy (nn / 64 / 64)) ||| ((1:Int64) <<< (((pn.toUInt32>>>((6:Int32)&&&31).toUInt32).toInt32)&&&0x3f).toInt64))), (.int ((((pn.toUInt32>>>((6:Int32)&&&31).toUInt32).toInt32).toUInt32>>>((6:Int32)&&&31).toUInt32).toInt32)), (.ref o1)])) X2 hx hZ e2 A_o1 (i := (nn / 64 / 64)) (own_sh6 _ _ (own_sh6 _ _ hj)) hw1 rfl rfl (hb hby d3_44)
    refine Goes.by st4 ?_
    have A_o1 : AJ Z h4 o1 wy (up gy (nn / 64 / 64) ((gy (nn / 64 / 64)) ||| ((1:Int64) <<< (((pn.toUInt32>>>((6:Int32)&&&31).toUInt32).toInt32)&&&0x3f).toInt64))) := A4
    have N4 := Fr.snoc X4 N2 g_o1
    have Zs4 : n0 ≤ h4.size := Nat.le_trans Zs2 (Keep.of_wr W4).1
    have K4 : Keep h0 h4 [o0, o1, o2] := K2.wr W4 (Or.inl (List.mem_of_getElem? (i := 1) rfl))
    have F_oa_levels : Fld Z h4 oa "com/example/xml_graph_join/xmlgraphjoin/topo/BitLevels" "levels" "[[J" (.ref ol) := F_oa_levels.other W4 (Or.inl ne_oa_o1)
    have A_ol : Ar Z h4 ol (.array .long) 3 (up (up (up (fun _ => .null) 0 (.ref o0)) 1 (.ref o1)) 2 (.ref o2)) := A_ol.other W4 ne_ol_o1
    have A_o0 : AJ Z h4 o0 wx (up gx (nn / 64) ((gx (nn / 64)) ||| ((1:Int64) <<< (pn&&&0x3f).toInt64))) := A_o0.other W4 ne_o0_o1
    have A_o2 : AJ Z h4 o2 wz gz := A_o2.other W4 (Ne.symm ne_o1_o2)
    show Goes p.tables e below (T4.setTop (mkF m 45 #[.val (.ref oa),.val (.int ((pn.toUInt32>>>((6:Int32)&&&31).toUInt32).toInt32)),.val (.ref ol),.val (.int (3:Int32)),.val (.int (1:Int32)),.val (.ref o1),.val (.long (gy (nn / 64 / 64))),.second] [])) _
    refine Goes.by (fun _ k => XS.lload X4.here hx rfl (hb hby d3_45) rfl k) ?_
    show Goes p.tables e below (T4.setTop (mkF m 47 #[.val (.ref oa),.val (.int ((pn.toUInt32>>>((6:Int32)&&&31).toUInt32).toInt32)),.val (.ref ol),.val (.int (3:Int32)),.val (.int (1:Int32)),.val (.ref o1),.val (.long (gy (nn / 64 / 64))),.second] [(.long (gy (nn / 64 / 64)))])) _
    refine Goes.by (fun _ k => XS.lconst X4.here hx rfl (hb hby d3_47) k) ?_
    show Goes p.tables e below (T4.setTop (mkF m 48 #[.val (.ref oa),.val (.int ((pn.toUInt32>>>((6:Int32)&&&31).toUInt32).toInt32)),.val (.ref ol),.val (.int (3:Int32)),.val (.int (1:Int32)),.val (.ref o1),.val (.long (gy (nn / 64 / 64))),.second] [(.long (0:Int64)), (.long (gy (nn / 64 / 64)))])) _
    refine Goes.by (fun _ k => XS.lcmp X4.here hx rfl (hb hby d3_48) rfl k) ?_
    show Goes p.tables e below (T4.setTop (mkF m 49 #[.val (.ref oa),.val (.int ((pn.toUInt32>>>((6:Int32)&&&31).toUInt32).toInt32)),.val (.ref ol),.val (.int (3:Int32)),.val (.int (1:Int32)),.val (.ref o1),.val (.long (gy (nn / 64 / 64))),.second] [(.int (lcmpW (gy (nn / 64 / 64)) (0:Int64)))])) _
    by_cases hc5 : (gy (nn / 64 / 64)) = (0:Int64)
    · refine Goes.by (fun _ k => XS.ifYes X4.here hx rfl (pc0 := 49) (pc' := 53) rfl (hb hby d3_49) rfl (je_t hc5).1 (by decide) (by decide) k) ?_
      show Goes p.tables e below (T4.setTop (mkF m 53 #[.val (.ref oa),.val (.int ((pn.toUInt32>>>((6:Int32)&&&31).toUInt32).toInt32)),.val (.ref ol),.val (.int (3:Int32)),.val (.int (1:Int32)),.val (.ref o1),.val (.long (gy (nn / 64 / 64))),.second] [])) _
      refine Goes.by (fun _ k => XS.iloadN X4.here hx rfl (hb hby d3_53) rfl k) ?_
      show Goes p.tables e below (T4.setTop (mkF m 54 #[.val (.ref oa),.val (.int ((pn.toUInt32>>>((6:Int32)&&&31).toUInt32).toInt32)),.val (.ref ol),.val (.int (3:Int32)),.val (.int (1:Int32)),.val (.ref o1),.val (.long (gy (nn / 64 / 64))),.second] [(.int ((pn.toUInt32>>>((6:Int32)&&&31).toUInt32).toInt32))])) _
      refine Goes.by (fun _ k => XS.bipush X4.here hx rfl (hb hby d3_54) k) ?_
      show Goes p.tables e below (T4.setTop (mkF m 56 #[.val (.ref oa),.val (.int ((pn.toUInt32>>>((6:Int32)&&&31).toUInt32).toInt32)),.val (.ref ol),.val (.int (3:Int32)),.val (.int (1:Int32)),.val (.ref o1),.val (.long (gy (nn / 64 / 64))),.second] [(.int (6:Int32)), (.int ((pn.toUInt32>>>((6:Int32)&&&31).toUInt32).toInt32))])) _
      refine Goes.by (fun _ k => XS.iushr X4.here hx rfl (hb hby d3_56) rfl k) ?_
      show Goes p.tables e below (T4.setTop (mkF m 57 #[.val (.ref oa),.val (.int ((pn.toUInt32>>>((6:Int32)&&&31).toUInt32).toInt32)),.val (.ref ol),.val (.int (3:Int32)),.val (.int (1:Int32)),.val (.ref o1),.val (.long (gy (nn / 64 / 64))),.second] [(.int ((((pn.toUInt32>>>((6:Int32)&&&31).toUInt32).toInt32).toUInt32>>>((6:Int32)&&&31).toUInt32).toInt32))])) _
      refine Goes.by (fun _ k => XS.istoreN X4.here hx rfl (hb hby d3_57) rfl (l' := #[.val (.ref oa),.val (.int ((((pn.toUInt32>>>((6:Int32)&&&31).toUInt32).toInt32).toUInt32>>>((6:Int32)&&&31).toUInt32).toInt32)),.val (.ref ol),.val (.int (3:Int32)),.val (.int (1:Int32)),.val (.ref o1),.val (.long (gy (nn / 64 / 64))),.second]) rfl k) ?_
      show Goes p.tables e below (T4.setTop (mkF m 58 #[.val (.ref oa),.val (.int ((((pn.toUInt32>>>((6:Int32)&&&31).toUInt32).toInt32).toUInt32>>>((6:Int32)&&&31).toUInt32).toInt32)),.val (.ref ol),.val (.int (3:Int32)),.val (.int (1:Int32)),.val (.ref o1),.val (.long (gy (nn / 64 / 64))),.second] [])) _
      refine Goes.by (fun _ k => XS.iinc X4.here hx rfl (hb hby d3_58) rfl (l' := #[.val (.ref oa),.val (.int ((((pn.toUInt32>>>((6:Int32)&&&31).toUInt32).toInt32).toUInt32>>>((6:Int32)&&&31).toUInt32).toInt32)),.val (.ref ol),.val (.int (3:Int32)),.val (.int (2:Int32)),.val (.ref o1),.val (.long (gy (nn / 64 / 64))),.second]) rfl k) ?_
      show Goes p.tables e below (T4.setTop (mkF m 61 #[.val (.ref oa),.val (.int ((((pn.toUInt32>>>((6:Int32)&&&31).toUInt32).toInt32).toUInt32>>>((6:Int32)&&&31).toUInt32).toInt32)),.val (.ref ol),.val (.int (3:Int32)),.val (.int (2:Int32)),.val (.ref o1),.val (.long (gy (nn / 64 / 64))),.second] [])) _
      refine Goes.by (fun _ k => XS.goto X4.here hx rfl (pc0 := 61) (pc' := 11) rfl (hb hby d3_61) (by decide) (by decide) k) ?_
      show Goes p.tables e below (T4.setTop (mkF m 11 #[.val (.ref oa),.val (.int ((((pn.toUInt32>>>((6:Int32)&&&31).toUInt32).toInt32).toUInt32>>>((6:Int32)&&&31).toUInt32).toInt32)),.val (.ref ol),.val (.int (3:Int32)),.val (.int (2:Int32)),.val (.ref o1),.val (.long (gy (nn / 64 / 64))),.second] [])) _
      refine Goes.by (fun _ k => XS.iload X4.here hx rfl (hb hby d3_11) rfl k) ?_
      show Goes p.tables e below (T4.setTop (mkF m 13 #[.val (.ref oa),.val (.int ((((pn.toUInt32>>>((6:Int32)&&&31).toUInt32).toInt32).toUInt32>>>((6:Int32)&&&31).toUInt32).toInt32)),.val (.ref ol),.val (.int (3:Int32)),.val (.int (2:Int32)),.val (.ref o1),.val (.long (gy (nn / 64 / 64))),.second] [(.int (2:Int32))])) _
      refine Goes.by (fun _ k => XS.iloadN X4.here hx rfl (hb hby d3_13) rfl k) ?_
      show Goes p.tables e below (T4.setTop (mkF m 14 #[.val (.ref oa),.val (.int ((((pn.toUInt32>>>((6:Int32)&&&31).toUInt32).toInt32).toUInt32>>>((6:Int32)&&&31).toUInt32).toInt32)),.val (.ref ol),.val (.int (3:Int32)),.val (.int (2:Int32)),.val (.ref o1),.val (.long (gy (nn / 64 / 64))),.second] [(.int (3:Int32)), (.int (2:Int32))])) _
      refine Goes.by (fun _ k => XS.icmpNo X4.here hx rfl (hb hby d3_14) rfl (tlt (by decide : (2:Int32) < (3:Int32))).2.1 k) ?_
      show Goes p.tables e below (T4.setTop (mkF m 17 #[.val (.ref oa),.val (.int ((((pn.toUInt32>>>((6:Int32)&&&31).toUInt32).toInt32).toUInt32>>>((6:Int32)&&&31).toUInt32).toInt32)),.val (.ref ol),.val (.int (3:Int32)),.val (.int (2:Int32)),.val (.ref o1),.val (.long (gy (nn / 64 / 64))),.second] [])) _
      refine Goes.by (fun _ k => XS.aloadN X4.here hx rfl (hb hby d3_17) rfl rfl k) ?_
      show Goes p.tables e below (T4.setTop (mkF m 18 #[.val (.ref oa),.val (.int ((((pn.toUInt32>>>((6:Int32)&&&31).toUInt32).toInt32).toUInt32>>>((6:Int32)&&&31).toUInt32).toInt32)),.val (.ref ol),.val (.int (3:Int32)),.val (.int (2:Int32)),.val (.ref o1),.val (.long (gy (nn / 64 / 64))),.second] [(.ref ol)])) _
      refine Goes.by (fun _ k => XS.iload X4.here hx rfl (hb hby d3_18) rfl k) ?_
      show Goes p.tables e below (T4.setTop (mkF m 20 #[.val (.ref oa),.val (.int ((((pn.toUInt32>>>((6:Int32)&&&31).toUInt32).toInt32).toUInt32>>>((6:Int32)&&&31).toUInt32).toInt32)),.val (.ref ol),.val (.int (3:Int32)),.val (.int (2:Int32)),.val (.ref o1),.val (.long (gy (nn / 64 / 64))),.second] [(.int (2:Int32)), (.ref ol)])) _
      refine Goes.by (fun _ k => ldR (v := (.ref o2)) (fr := (mkF m 20 #[.val (.ref oa),.val (.int ((((pn.toUInt32>>>((6:Int32)&&&31).toUInt32).toInt32).toUInt32>>>((6:Int32)&&&31).toUInt32).toInt32)),.val (.ref ol),.val (.int (3:Int32)),.val (.int (2:Int32)),.val (.ref o1),.val (.long (gy (nn / 64 / 64))),.second] [(.int (2:Int32)), (.ref ol)])) X4 hx hZ e4 A_ol rfl (i := 2) (by decide) (by decide) rfl rfl rfl (hb hby d3_20) k) ?_
      show Goes p.tables e below (T4.setTop (mkF m 21 #[.val (.ref oa),.val (.int ((((pn.toUInt32>>>((6:Int32)&&&31).toUInt32).toInt32).toUInt32>>>((6:Int32)&&&31).toUInt32).toInt32)),.val (.ref ol),.val (.int (3:Int32)),.val (.int (2:Int32)),.val (.ref o1),.val (.long (gy (nn / 64 / 64))),.second] [(.ref o2)])) _
      refine Goes.by (fun _ k => XS.astore X4.here hx rfl (hb hby d3_21) rfl rfl (l' := #[.val (.ref oa),.val (.int ((((pn.toUInt32>>>((6:Int32)&&&31).toUInt32).toInt32).toUInt32>>>((6:Int32)&&&31).toUInt32).toInt32)),.val (.ref ol),.val (.int (3:Int32)),.val (.int (2:Int32)),.val (.ref o2),.val (.long (gy (nn / 64 / 64))),.second]) rfl k) ?_
      show Goes p.tables e below (T4.setTop (mkF m 23 #[.val (.ref oa),.val (.int ((((pn.toUInt32>>>((6:Int32)&&&31).toUInt32).toInt32).toUInt32>>>((6:Int32)&&&31).toUInt32).toInt32)),.val (.ref ol),.val (.int (3:Int32)),.val (.int (2:Int32)),.val (.ref o2),.val (.long (gy (nn / 64 / 64))),.second] [])) _
      refine Goes.by (fun _ k => XS.aload X4.here hx rfl (hb hby d3_23) rfl rfl k) ?_
      show Goes p.tables e below (T4.setTop (mkF m 25 #[.val (.ref oa),.val (.int ((((pn.toUInt32>>>((6:Int32)&&&31).toUInt32).toInt32).toUInt32>>>((6:Int32)&&&31).toUInt32).toInt32)),.val (.ref ol),.val (.int (3:Int32)),.val (.int (2:Int32)),.val (.ref o2),.val (.long (gy (nn / 64 / 64))),.second] [(.ref o2)])) _
      refine Goes.by (fun _ k => XS.iloadN X4.here hx rfl (hb hby d3_25) rfl k) ?_
      show Goes p.tables e below (T4.setTop (mkF m 26 #[.val (.ref oa),.val (.int ((((pn.toUInt32>>>((6:Int32)&&&31).toUInt32).toInt32).toUInt32>>>((6:Int32)&&&31).toUInt32).toInt32)),.val (.ref ol),.val (.int (3:Int32)),.val (.int (2:Int32)),.val (.ref o2),.val (.long (gy (nn / 64 / 64))),.second] [(.int ((((pn.toUInt32>>>((6:Int32)&&&31).toUInt32).toInt32).toUInt32>>>((6:Int32)&&&31).toUInt32).toInt32)), (.ref o2)])) _
      refine Goes.by (fun _ k => XS.bipush X4.here hx rfl (hb hby d3_26) k) ?_
      show Goes p.tables e below (T4.setTop (mkF m 28 #[.val (.ref oa),.val (.int ((((pn.toUInt32>>>((6:Int32)&&&31).toUInt32).toInt32).toUInt32>>>((6:Int32)&&&31).toUInt32).toInt32)),.val (.ref ol),.val (.int (3:Int32)),.val (.int (2:Int32)),.val (.ref o2),.val (.long (gy (nn / 64 / 64))),.second] [(.int (6:Int32)), (.int ((((pn.toUInt32>>>((6:Int32)&&&31).toUInt32).toInt32).toUInt32>>>((6:Int32)&&&31).toUInt32).toInt32)), (.ref o2)])) _
      refine Goes.by (fun _ k => XS.iushr X4.here hx rfl (hb hby d3_28) rfl k) ?_
      show Goes p.tables e below (T4.setTop (mkF m 29 #[.val (.ref oa),.val (.int ((((pn.toUInt32>>>((6:Int32)&&&31).toUInt32).toInt32).toUInt32>>>((6:Int32)&&&31).toUInt32).toInt32)),.val (.ref ol),.val (.int (3:Int32)),.val (.int (2:Int32)),.val (.ref o2),.val (.long (gy (nn / 64 / 64))),.second] [(.int ((((((pn.toUInt32>>>((6:Int32)&&&31).toUInt32).toInt32).toUInt32>>>((6:Int32)&&&31).toUInt32).toInt32).toUInt32>>>((6:Int32)&&&31).toUInt32).toInt32)), (.ref o2)])) _
      refine Goes.by (fun _ k => ldJ (v := (gz (nn / 64 / 64 / 64))) (fr := (mkF m 29 #[.val (.ref oa),.val (.int ((((pn.toUInt32>>>((6:Int32)&&&31).toUInt32).toInt32).toUInt32>>>((6:Int32)&&&31).toUInt32).toInt32)),.val (.ref ol),.val (.int (3:Int32)),.val (.int (2:Int32)),.val (.ref o2),.val (.long (gy (nn / 64 / 64))),.second] [(.int ((((((pn.toUInt32>>>((6:Int32)&&&31).toUInt32).toInt32).toUInt32>>>((6:Int32)&&&31).toUInt32).toInt32).toUInt32>>>((6:Int32)&&&31).toUInt32).toInt32)), (.ref o2)])) X4 hx hZ e4 A_o2 (i := (nn / 64 / 64 / 64)) (own_sh6 _ _ (own_sh6 _ _ (own_sh6 _ _ hj))) hw2 rfl rfl rfl (hb hby d3_29) k) ?_
      show Goes p.tables e below (T4.setTop (mkF m 30 #[.val (.ref oa),.val (.int ((((pn.toUInt32>>>((6:Int32)&&&31).toUInt32).toInt32).toUInt32>>>((6:Int32)&&&31).toUInt32).toInt32)),.val (.ref ol),.val (.int (3:Int32)),.val (.int (2:Int32)),.val (.ref o2),.val (.long (gy (nn / 64 / 64))),.second] [(.long (gz (nn / 64 / 64 / 64)))])) _
      refine Goes.by (fun _ k => XS.lstore X4.here hx rfl (hb hby d3_30) rfl (l' := #[.val (.ref oa),.val (.int ((((pn.toUInt32>>>((6:Int32)&&&31).toUInt32).toInt32).toUInt32>>>((6:Int32)&&&31).toUInt32).toInt32)),.val (.ref ol),.val (.int (3:Int32)),.val (.int (2:Int32)),.val (.ref o2),.val (.long (gz (nn / 64 / 64 / 64))),.second]) rfl k) ?_
      show Goes p.tables e below (T4.setTop (mkF m 32 #[.val (.ref oa),.val (.int ((((pn.toUInt32>>>((6:Int32)&&&31).toUInt32).toInt32).toUInt32>>>((6:Int32)&&&31).toUInt32).toInt32)),.val (.ref ol),.val (.int (3:Int32)),.val (.int (2:Int32)),.val (.ref o2),.val (.long (gz (nn / 64 / 64 / 64))),.second] [])) _
      refine Goes.by (fun _ k => XS.aload X4.here hx rfl (hb hby d3_32) rfl rfl k) ?_
      show Goes p.tables e below (T4.setTop (mkF m 34 #[.val (.ref oa),.val (.int ((((pn.toUInt32>>>((6:Int32)&&&31).toUInt32).toInt32).toUInt32>>>((6:Int32)&&&31).toUInt32).toInt32)),.val (.ref ol),.val (.int (3:Int32)),.val (.int (2:Int32)),.val (.ref o2),.val (.long (gz (nn / 64 / 64 / 64))),.second] [(.ref o2)])) _
      refine Goes.by (fun _ k => XS.iloadN X4.here hx rfl (hb hby d3_34) rfl k) ?_
      show Goes p.tables e below (T4.setTop (mkF m 35 #[.val (.ref oa),.val (.int ((((pn.toUInt32>>>((6:Int32)&&&31).toUInt32).toInt32).toUInt32>>>((6:Int32)&&&31).toUInt32).toInt32)),.val (.ref ol),.val (.int (3:Int32)),.val (.int (2:Int32)),.val (.ref o2),.val (.long (gz (nn / 64 / 64 / 64))),.second] [(.int ((((pn.toUInt32>>>((6:Int32)&&&31).toUInt32).toInt32).toUInt32>>>((6:Int32)&&&31).toUInt32).toInt32)), (.ref o2)])) _
      refine Goes.by (fun _ k => XS.bipush X4.here hx rfl (hb hby d3_35) k) ?_
      show Goes p.tables e below (T4.setTop (mkF m 37 #[.val (.ref oa),.val (.int ((((pn.toUInt32>>>((6:Int32)&&&31).toUInt32).toInt32).toUInt32>>>((6:Int32)&&&31).toUInt32).toInt32)),.val (.ref ol),.val (.int (3:Int32)),.val (.int (2:Int32)),.val (.ref o2),.val (.long (gz (nn / 64 / 64 / 64))),.second] [(.int (6:Int32)), (.int ((((pn.toUInt32>>>((6:Int32)&&&31).toUInt32).toInt32).toUInt32>>>((6:Int32)&&&31).toUInt32).toInt32)), (.ref o2)])) _
      refine Goes.by (fun _ k => XS.iushr X4.here hx rfl (hb hby d3_37) rfl k) ?_
      show Goes p.tables e below (T4.setTop (mkF m 38 #[.val (.ref oa),.val (.int ((((pn.toUInt32>>>((6:Int32)&&&31).toUInt32).toInt32).toUInt32>>>((6:Int32)&&&31).toUInt32).toInt32)),.val (.ref ol),.val (.int (3:Int32)),.val (.int (2:Int32)),.val (.ref o2),.val (.long (gz (nn / 64 / 64 / 64))),.second] [(.int ((((((pn.toUInt32>>>((6:Int32)&&&31).toUInt32).toInt32).toUInt32>>>((6:Int32)&&&31).toUInt32).toInt32).toUInt32>>>((6:Int32)&&&31).toUInt32).toInt32)), (.ref o2)])) _
      refine Goes.by (fun _ k => XS.lload X4.here hx rfl (hb hby d3_38) rfl k) ?_
      show Goes p.tables e below (T4.setTop (mkF m 40 #[.val (.ref oa),.val (.int ((((pn.toUInt32>>>((6:Int32)&&&31).toUInt32).toInt32).toUInt32>>>((6:Int32)&&&31).toUInt32).toInt32)),.val (.ref ol),.val (.int (3:Int32)),.val (.int (2:Int32)),.val (.ref o2),.val (.long (gz (nn / 64 / 64 / 64))),.second] [(.long (gz (nn / 64 / 64 / 64))), (.int ((((((pn.toUInt32>>>((6:Int32)&&&31).toUInt32).toInt32).toUInt32>>>((6:Int32)&&&31).toUInt32).toInt32).toUInt32>>>((6:Int32)&&&31).toUInt32).toInt32)), (.ref o2)])) _
      refine Goes.by (fun _ k => XS.lconst X4.here hx rfl (hb hby d3_40) k) ?_
      show Goes p.tables e below (T4.setTop (mkF m 41 #[.val (.ref oa),.val (.int ((((pn.toUInt32>>>((6:Int32)&&&31).toUInt32).toInt32).toUInt32>>>((6:Int32)&&&31).toUInt32).toInt32)),.val (.ref ol),.val (.int (3:Int32)),.val (.int (2:Int32)),.val (.ref o2),.val (.long (gz (nn / 64 / 64 / 64))),.second] [(.long (1:Int64)), (.long (gz (nn / 64 / 64 / 64))), (.int ((((((pn.toUInt32>>>((6:Int32)&&&31).toUInt32).toInt32).toUInt32>>>((6:Int32)&&&31).toUInt32).toInt32).toUInt32>>>((6:Int32)&&&31).toUInt32).toInt32)), (.ref o2)])) _
      refine Goes.by (fun _ k => XS.iloadN X4.here hx rfl (hb hby d3_41) rfl k) ?_
      show Goes p.tables e below (T4.setTop (mkF m 42 #[.val (.ref oa),.val (.int ((((pn.toUInt32>>>((6:Int32)&&&31).toUInt32).toInt32).toUInt32>>>((6:Int32)&&&31).toUInt32).toInt32)),.val (.ref ol),.val (.int (3:Int32)),.val (.int (2:Int32)),.val (.ref o2),.val (.long (gz (nn / 64 / 64 / 64))),.second] [(.int ((((pn.toUInt32>>>((6:Int32)&&&31).toUInt32).toInt32).toUInt32>>>((6:Int32)&&&31).toUInt32).toInt32)), (.long (1:Int64)), (.long (gz (nn / 64 / 64 / 64))), (.int ((((((pn.toUInt32>>>((6:Int32)&&&31).toUInt32).toInt32).toUInt32>>>((6:Int32)&&&31).toUInt32).toInt32).toUInt32>>>((6:Int32)&&&31).toUInt32).toInt32)), (.ref o2)])) _
      refine Goes.by (fun _ k => XS.lshl X4.here hx rfl (hb hby d3_42) rfl k) ?_
      show Goes p.tables e below (T4.setTop (mkF m 43 #[.val (.ref oa),.val (.int ((((pn.toUInt32>>>((6:Int32)&&&31).toUInt32).toInt32).toUInt32>>>((6:Int32)&&&31).toUInt32).toInt32)),.val (.ref ol),.val (.int (3:Int32)),.val (.int (2:Int32)),.val (.ref o2),.val (.long (gz (nn / 64 / 64 / 64))),.second] [(.long ((1:Int64) <<< (((((pn.toUInt32>>>((6:Int32)&&&31).toUInt32).toInt32).toUInt32>>>((6:Int32)&&&31).toUInt32).toInt32)&&&0x3f).toInt64)), (.long (gz (nn / 64 / 64 / 64))), (.int ((((((pn.toUInt32>>>((6:Int32)&&&31).toUInt32).toInt32).toUInt32>>>((6:Int32)&&&31).toUInt32).toInt32).toUInt32>>>((6:Int32)&&&31).toUInt32).toInt32)), (.ref o2)])) _
      refine Goes.by (fun _ k => XS.lor X4.here hx rfl (hb hby d3_43) rfl k) ?_
      show Goes p.tables e below (T4.setTop (mkF m 44 #[.val (.ref oa),.val (.int ((((pn.toUInt32>>>((6:Int32)&&&31).toUInt32).toInt32).toUInt32>>>((6:Int32)&&&31).toUInt32).toInt32)),.val (.ref ol),.val (.int (3:Int32)),.val (.int (2:Int32)),.val (.ref o2),.val (.long (gz (nn / 64 / 64 / 64))),.second] [(.long ((gz (nn / 64 / 64 / 64)) ||| ((1:Int64) <<< (((((pn.toUInt32>>>((6:Int32)&&&31).toUInt32).toInt32).toUInt32>>>((6:Int32)&&&31).toUInt32).toInt32)&&&0x3f).toInt64))), (.int ((((((pn.toUInt32>>>((6:Int32)&&&31).toUInt32).toInt32).toUInt32>>>((6:Int32)&&&31).toUInt32).toInt32).toUInt32>>>((6:Int32)&&&31).toUInt32).toInt32)), (.ref o2)])) _
      obtain ⟨T6, h6, X6, e6, W6, A6, st6⟩ := stAJ (fr := (mkF m 44 #[.val (.ref oa),.val (.int ((((pn.toUInt32>>>((6:Int32)&&&31).toUInt32).toInt32).toUInt32>>>((6:Int32)&&&31).toUInt32).toInt32)),.val (.ref ol),.val (.int (3:Int32)),.val (.int (2:Int32)),.val (.ref o2),.val (.long (gz (nn / 64 / 64 / 64))),.second] [(.long ((gz (nn / 64 / 64 / 64)) ||| ((1:Int64) <<< (((((pn.toUInt32>>>((6:Int32)&&&31).toUInt32).toInt32).toUInt32>>>((6:Int32)&&&31).toUInt32).toInt32)&&&0x3f).toInt64))), (.int ((((((pn.toUInt32>>>((6:Int32)&&&31).toUInt32).toInt32).toUInt32>>>((6:Int32)&&&31).toUInt32).toInt32).toUInt32>>>((6:Int32)&&&31).toUInt32).toInt32)), (.ref o2)])) X4 hx hZ e4 A_o2 (i := (nn / 64 / 64 / 64)) (own_sh6 _ _ (own_sh6 _ _ (own_sh6 _ _ hj))) hw2 rfl rfl (hb hby d3_44)
      refine Goes.by st6 ?_
      have A_o2 : AJ Z h6 o2 wz (up gz (nn / 64 / 64 / 64) ((gz (nn / 64 / 64 / 64)) ||| ((1:Int64) <<< (((((pn.toUInt32>>>((6:Int32)&&&31).toUInt32).toInt32).toUInt32>>>((6:Int32)&&&31).toUInt32).toInt32)&&&0x3f).toInt64))) := A6
      have N6 := Fr.snoc X6 N4 g_o2
      have Zs6 : n0 ≤ h6.size := Nat.le_trans Zs4 (Keep.of_wr W6).1
      have K6 : Keep h0 h6 [o0, o1, o2] := K4.wr W6 (Or.inl (List.mem_of_getElem? (i := 2) rfl))
      have F_oa_levels : Fld Z h6 oa "com/example/xml_graph_join/xmlgraphjoin/topo/BitLevels" "levels" "[[J" (.ref ol) := F_oa_levels.other W6 (Or.inl ne_oa_o2)
      have A_ol : Ar Z h6 ol (.array .long) 3 (up (up (up (fun _ => .null) 0 (.ref o0)) 1 (.ref o1)) 2 (.ref o2)) := A_ol.other W6 ne_ol_o2
      have A_o0 : AJ Z h6 o0 wx (up gx (nn / 64) ((gx (nn / 64)) ||| ((1:Int64) <<< (pn&&&0x3f).toInt64))) := A_o0.other W6 ne_o0_o2
      have A_o1 : AJ Z h6 o1 wy (up gy (nn / 64 / 64) ((gy (nn / 64 / 64)) ||| ((1:Int64) <<< (((pn.toUInt32>>>((6:Int32)&&&31).toUInt32).toInt32)&&&0x3f).toInt64))) := A_o1.other W6 ne_o1_o2
      show Goes p.tables e below (T6.setTop (mkF m 45 #[.val (.ref oa),.val (.int ((((pn.toUInt32>>>((6:Int32)&&&31).toUInt32).toInt32).toUInt32>>>((6:Int32)&&&31).toUInt32).toInt32)),.val (.ref ol),.val (.int (3:Int32)),.val (.int (2:Int32)),.val (.ref o2),.val (.long (gz (nn / 64 / 64 / 64))),.second] [])) _
      refine Goes.by (fun _ k => XS.lload X6.here hx rfl (hb hby d3_45) rfl k) ?_
      show Goes p.tables e below (T6.setTop (mkF m 47 #[.val (.ref oa),.val (.int ((((pn.toUInt32>>>((6:Int32)&&&31).toUInt32).toInt32).toUInt32>>>((6:Int32)&&&31).toUInt32).toInt32)),.val (.ref ol),.val (.int (3:Int32)),.val (.int (2:Int32)),.val (.ref o2),.val (.long (gz (nn / 64 / 64 / 64))),.second] [(.long (gz (nn / 64 / 64 / 64)))])) _
      refine Goes.by (fun _ k => XS.lconst X6.here hx rfl (hb hby d3_47) k) ?_
      show Goes p.tables e below (T6.setTop (mkF m 48 #[.val (.ref oa),.val (.int ((((pn.toUInt32>>>((6:Int32)&&&31).toUInt32).toInt32).toUInt32>>>((6:Int32)&&&31).toUInt32).toInt32)),.val (.ref ol),.val (.int (3:Int32)),.val (.int (2:Int32)),.val (.ref o2),.val (.long (gz (nn / 64 / 64 / 64))),.second] [(.long (0:Int64)), (.long (gz (nn / 64 / 64 / 64)))])) _
      refine Goes.by (fun _ k => XS.lcmp X6.here hx rfl (hb hby d3_48) rfl k) ?_
      show Goes p.tables e below (T6.setTop (mkF m 49 #[.val (.ref oa),.val (.int ((((pn.toUInt32>>>((6:Int32)&&&31).toUInt32).toInt32).toUInt32>>>((6:Int32)&&&31).toUInt32).toInt32)),.val (.ref ol),.val (.int (3:Int32)),.val (.int (2:Int32)),.val (.ref o2),.val (.long (gz (nn / 64 / 64 / 64))),.second] [(.int (lcmpW (gz (nn / 64 / 64 / 64)) (0:Int64)))])) _
      by_cases hc7 : (gz (nn / 64 / 64 / 64)) = (0:Int64)
      · refine Goes.by (fun _ k => XS.ifYes X6.here hx rfl (pc0 := 49) (pc' := 53) rfl (hb hby d3_49) rfl (je_t hc7).1 (by decide) (by decide) k) ?_
        show Goes p.tables e below (T6.setTop (mkF m 53 #[.val (.ref oa),.val (.int ((((pn.toUInt32>>>((6:Int32)&&&31).toUInt32).toInt32).toUInt32>>>((6:Int32)&&&31).toUInt32).toInt32)),.val (.ref ol),.val (.int (3:Int32)),.val (.int (2:Int32)),.val (.ref o2),.val (.long (gz (nn / 64 / 64 / 64))),.second] [])) _
        refine Goes.by (fun _ k => XS.iloadN X6.here hx rfl (hb hby d3_53) rfl k) ?_
        show Goes p.tables e below (T6.setTop (mkF m 54 #[.val (.ref oa),.val (.int ((((pn.toUInt32>>>((6:Int32)&&&31).toUInt32).toInt32).toUInt32>>>((6:Int32)&&&31).toUInt32).toInt32)),.val (.ref ol),.val (.int (3:Int32)),.val (.int (2:Int32)),.val (.ref o2),.val (.long (gz (nn / 64 / 64 / 64))),.second] [(.int ((((pn.toUInt32>>>((6:Int32)&&&31).toUInt32).toInt32).toUInt32>>>((6:Int32)&&&31).toUInt32).toInt32))])) _
        refine Goes.by (fun _ k => XS.bipush X6.here hx rfl (hb hby d3_54) k) ?_
        show Goes p.tables e below (T6.setTop (mkF m 56 #[.val (.ref oa),.val (.int ((((pn.toUInt32>>>((6:Int32)&&&31).toUInt32).toInt32).toUInt32>>>((6:Int32)&&&31).toUInt32).toInt32)),.val (.ref ol),.val (.int (3:Int32)),.val (.int (2:Int32)),.val (.ref o2),.val (.long (gz (nn / 64 / 64 / 64))),.second] [(.int (6:Int32)), (.int ((((pn.toUInt32>>>((6:Int32)&&&31).toUInt32).toInt32).toUInt32>>>((6:Int32)&&&31).toUInt32).toInt32))])) _
        refine Goes.by (fun _ k => XS.iushr X6.here hx rfl (hb hby d3_56) rfl k) ?_
        show Goes p.tables e below (T6.setTop (mkF m 57 #[.val (.ref oa),.val (.int ((((pn.toUInt32>>>((6:Int32)&&&31).toUInt32).toInt32).toUInt32>>>((6:Int32)&&&31).toUInt32).toInt32)),.val (.ref ol),.val (.int (3:Int32)),.val (.int (2:Int32)),.val (.ref o2),.val (.long (gz (nn / 64 / 64 / 64))),.second] [(.int ((((((pn.toUInt32>>>((6:Int32)&&&31).toUInt32).toInt32).toUInt32>>>((6:Int32)&&&31).toUInt32).toInt32).toUInt32>>>((6:Int32)&&&31).toUInt32).toInt32))])) _
        refine Goes.by (fun _ k => XS.istoreN X6.here hx rfl (hb hby d3_57) rfl (l' := #[.val (.ref oa),.val (.int ((((((pn.toUInt32>>>((6:Int32)&&&31).toUInt32).toInt32).toUInt32>>>((6:Int32)&&&31).toUInt32).toInt32).toUInt32>>>((6:Int32)&&&31).toUInt32).toInt32)),.val (.ref ol),.val (.int (3:Int32)),.val (.int (2:Int32)),.val (.ref o2),.val (.long (gz (nn / 64 / 64 / 64))),.second]) rfl k) ?_
        show Goes p.tables e below (T6.setTop (mkF m 58 #[.val (.ref oa),.val (.int ((((((pn.toUInt32>>>((6:Int32)&&&31).toUInt32).toInt32).toUInt32>>>((6:Int32)&&&31).toUInt32).toInt32).toUInt32>>>((6:Int32)&&&31).toUInt32).toInt32)),.val (.ref ol),.val (.int (3:Int32)),.val (.int (2:Int32)),.val (.ref o2),.val (.long (gz (nn / 64 / 64 / 64))),.second] [])) _
        refine Goes.by (fun _ k => XS.iinc X6.here hx rfl (hb hby d3_58) rfl (l' := #[.val (.ref oa),.val (.int ((((((pn.toUInt32>>>((6:Int32)&&&31).toUInt32).toInt32).toUInt32>>>((6:Int32)&&&31).toUInt32).toInt32).toUInt32>>>((6:Int32)&&&31).toUInt32).toInt32)),.val (.ref ol),.val (.int (3:Int32)),.val (.int (3:Int32)),.val (.ref o2),.val (.long (gz (nn / 64 / 64 / 64))),.second]) rfl k) ?_
        show Goes p.tables e below (T6.setTop (mkF m 61 #[.val (.ref oa),.val (.int ((((((pn.toUInt32>>>((6:Int32)&&&31).toUInt32).toInt32).toUInt32>>>((6:Int32)&&&31).toUInt32).toInt32).toUInt32>>>((6:Int32)&&&31).toUInt32).toInt32)),.val (.ref ol),.val (.int (3:Int32)),.val (.int (3:Int32)),.val (.ref o2),.val (.long (gz (nn / 64 / 64 / 64))),.second] [])) _
        refine Goes.by (fun _ k => XS.goto X6.here hx rfl (pc0 := 61) (pc' := 11) rfl (hb hby d3_61) (by decide) (by decide) k) ?_
        show Goes p.tables e below (T6.setTop (mkF m 11 #[.val (.ref oa),.val (.int ((((((pn.toUInt32>>>((6:Int32)&&&31).toUInt32).toInt32).toUInt32>>>((6:Int32)&&&31).toUInt32).toInt32).toUInt32>>>((6:Int32)&&&31).toUInt32).toInt32)),.val (.ref ol),.val (.int (3:Int32)),.val (.int (3:Int32)),.val (.ref o2),.val (.long (gz (nn / 64 / 64 / 64))),.second] [])) _
        refine Goes.by (fun _ k => XS.iload X6.here hx rfl (hb hby d3_11) rfl k) ?_
        show Goes p.tables e below (T6.setTop (mkF m 13 #[.val (.ref oa),.val (.int ((((((pn.toUInt32>>>((6:Int32)&&&31).toUInt32).toInt32).toUInt32>>>((6:Int32)&&&31).toUInt32).toInt32).toUInt32>>>((6:Int32)&&&31).toUInt32).toInt32)),.val (.ref ol),.val (.int (3:Int32)),.val (.int (3:Int32)),.val (.ref o2),.val (.long (gz (nn / 64 / 64 / 64))),.second] [(.int (3:Int32))])) _
        refine Goes.by (fun _ k => XS.iloadN X6.here hx rfl (hb hby d3_13) rfl k) ?_
        show Goes p.tables e below (T6.setTop (mkF m 14 #[.val (.ref oa),.val (.int ((((((pn.toUInt32>>>((6:Int32)&&&31).toUInt32).toInt32).toUInt32>>>((6:Int32)&&&31).toUInt32).toInt32).toUInt32>>>((6:Int32)&&&31).toUInt32).toInt32)),.val (.ref ol),.val (.int (3:Int32)),.val (.int (3:Int32)),.val (.ref o2),.val (.long (gz (nn / 64 / 64 / 64))),.second] [(.int (3:Int32)), (.int (3:Int32))])) _
        refine Goes.by (fun _ k => XS.icmpYes X6.here hx rfl (pc0 := 14) (pc' := 64) rfl (hb hby d3_14) rfl (flt (by decide : ¬ ((3:Int32) < (3:Int32)))).2.1 (by decide) (by decide) k) ?_
        show Goes p.tables e below (T6.setTop (mkF m 64 #[.val (.ref oa),.val (.int ((((((pn.toUInt32>>>((6:Int32)&&&31).toUInt32).toInt32).toUInt32>>>((6:Int32)&&&31).toUInt32).toInt32).toUInt32>>>((6:Int32)&&&31).toUInt32).toInt32)),.val (.ref ol),.val (.int (3:Int32)),.val (.int (3:Int32)),.val (.ref o2),.val (.long (gz (nn / 64 / 64 / 64))),.second] [])) _
        have A_o1 : AJ Z h6 o1 wy (if (gx (nn / 64)) = (0:Int64) then (up gy (nn / 64 / 64) (((gy (nn / 64 / 64))) ||| (oneB ((pn.toUInt32>>>((6:Int32)&&&31).toUInt32).toInt32)))) else gy) := by rw [if_pos hc3]; exact A_o1
        have A_o2 : AJ Z h6 o2 wz (if (gx (nn / 64)) = (0:Int64) then (if (gy (nn / 64 / 64)) = (0:Int64) then (up gz (nn / 64 / 64 / 64) (((gz (nn / 64 / 64 / 64))) ||| (oneB ((((pn.toUInt32>>>((6:Int32)&&&31).toUInt32).toInt32).toUInt32>>>((6:Int32)&&&31).toUInt32).toInt32)))) else gz) else gz) := by rw [if_pos hc3, if_pos hc5]; exact A_o2
        have A_o0 : AJ Z h6 o0 wx (up gx (nn / 64) (((gx (nn / 64))) ||| (oneB pn))) := A_o0
        obtain ⟨fs, hr, hrun, hended, hW, hsame⟩ := X6.leave (v := none) (fun _ => rfl)
        refine ⟨_, _, X6.returnOut hx Bd.returns (hb hby d3_64) hr, hrun, hended, _, _, rfl, ?_, ⟨_, rfl⟩, hW, hsame.mono (by decide) (by decide)⟩
        show Q3d3 Z oa pn ol o0 o1 o2 gx gy gz wx wy wz nn h0 n0 _ T6.heap _
        rw [e6]
        exact ⟨rfl, N6, K6, F_oa_levels, A_ol, A_o0, A_o1, A_o2⟩
      · refine Goes.by (fun _ k => XS.ifNo X6.here hx rfl (hb hby d3_49) rfl (je_f hc7).1 k) ?_
        show Goes p.tables e below (T6.setTop (mkF m 52 #[.val (.ref oa),.val (.int ((((pn.toUInt32>>>((6:Int32)&&&31).toUInt32).toInt32).toUInt32>>>((6:Int32)&&&31).toUInt32).toInt32)),.val (.ref ol),.val (.int (3:Int32)),.val (.int (2:Int32)),.val (.ref o2),.val (.long (gz (nn / 64 / 64 / 64))),.second] [])) _
        have A_o1 : AJ Z h6 o1 wy (if (gx (nn / 64)) = (0:Int64) then (up gy (nn / 64 / 64) (((gy (nn / 64 / 64))) ||| (oneB ((pn.toUInt32>>>((6:Int32)&&&31).toUInt32).toInt32)))) else gy) := by rw [if_pos hc3]; exact A_o1
        have A_o2 : AJ Z h6 o2 wz (if (gx (nn / 64)) = (0:Int64) then (if (gy (nn / 64 / 64)) = (0:Int64) then (up gz (nn / 64 / 64 / 64) (((gz (nn / 64 / 64 / 64))) ||| (oneB ((((pn.toUInt32>>>((6:Int32)&&&31).toUInt32).toInt32).toUInt32>>>((6:Int32)&&&31).toUInt32).toInt32)))) else gz) else gz) := by rw [if_pos hc3, if_pos hc5]; exact A_o2
        have A_o0 : AJ Z h6 o0 wx (up gx (nn / 64) (((gx (nn / 64))) ||| (oneB pn))) := A_o0
        obtain ⟨fs, hr, hrun, hended, hW, hsame⟩ := X6.leave (v := none) (fun _ => rfl)
        refine ⟨_, _, X6.returnOut hx Bd.returns (hb hby d3_52) hr, hrun, hended, _, _, rfl, ?_, ⟨_, rfl⟩, hW, hsame.mono (by decide) (by decide)⟩
        show Q3d3 Z oa pn ol o0 o1 o2 gx gy gz wx wy wz nn h0 n0 _ T6.heap _
        rw [e6]
        exact ⟨rfl, N6, K6, F_oa_levels, A_ol, A_o0, A_o1, A_o2⟩
    · refine Goes.by (fun _ k => XS.ifNo X4.here hx rfl (hb hby d3_49) rfl (je_f hc5).1 k) ?_
      show Goes p.tables e below (T4.setTop (mkF m 52 #[.val (.ref oa),.val (.int ((pn.toUInt32>>>((6:Int32)&&&31).toUInt32).toInt32)),.val (.ref ol),.val (.int (3:Int32)),.val (.int (1:Int32)),.val (.ref o1),.val (.long (gy (nn / 64 / 64))),.second] [])) _
      have A_o1 : AJ Z h4 o1 wy (if (gx (nn / 64)) = (0:Int64) then (up gy (nn / 64 / 64) (((gy (nn / 64 / 64))) ||| (oneB ((pn.toUInt32>>>((6:Int32)&&&31).toUInt32).toInt32)))) else gy) := by rw [if_pos hc3]; exact A_o1
      have A_o2 : AJ Z h4 o2 wz (if (gx (nn / 64)) = (0:Int64) then (if (gy (nn / 64 / 64)) = (0:Int64) then (up gz (nn / 64 / 64 / 64) (((gz (nn / 64 / 64 / 64))) ||| (oneB ((((pn.toUInt32>>>((6:Int32)&&&31).toUInt32).toInt32).toUInt32>>>((6:Int32)&&&31).toUInt32).toInt32)))) else gz) else gz) := by rw [if_pos hc3, if_neg hc5]; exact A_o2
      have A_o0 : AJ Z h4 o0 wx (up gx (nn / 64) (((gx (nn / 64))) ||| (oneB pn))) := A_o0
      obtain ⟨fs, hr, hrun, hended, hW, hsame⟩ := X4.leave (v := none) (fun _ => rfl)
      refine ⟨_, _, X4.returnOut hx Bd.returns (hb hby d3_52) hr, hrun, hended, _, _, rfl, ?_, ⟨_, rfl⟩, hW, hsame.mono (by decide) (by decide)⟩
      show Q3d3 Z oa pn ol o0 o1 o2 gx gy gz wx wy wz nn h0 n0 _ T4.heap _
      rw [e4]
      exact ⟨rfl, N4, K4, F_oa_levels, A_ol, A_o0, A_o1, A_o2⟩
  · refine Goes.by (fun _ k => XS.ifNo X2.here hx rfl (hb hby d3_49) rfl (je_f hc3).1 k) ?_
    show Goes p.tables e below (T2.setTop (mkF m 52 #[.val (.ref oa),.val (.int pn),.val (.ref ol),.val (.int (3:Int32)),.val (.int (0:Int32)),.val (.ref o0),.val (.long (gx (nn / 64))),.second] [])) _
    have A_o1 : AJ Z h2 o1 wy (if (gx (nn / 64)) = (0:Int64) then (up gy (nn / 64 / 64) (((gy (nn / 64 / 64))) ||| (oneB ((pn.toUInt32>>>((6:Int32)&&&31).toUInt32).toInt32)))) else gy) := by rw [if_neg hc3]; exact A_o1
    have A_o2 : AJ Z h2 o2 wz (if (gx (nn / 64)) = (0:Int64) then (if (gy (nn / 64 / 64)) = (0:Int64) then (up gz (nn / 64 / 64 / 64) (((gz (nn / 64 / 64 / 64))) ||| (oneB ((((pn.toUInt32>>>((6:Int32)&&&31).toUInt32).toInt32).toUInt32>>>((6:Int32)&&&31).toUInt32).toInt32)))) else gz) else gz) := by rw [if_neg hc3]; exact A_o2
    have A_o0 : AJ Z h2 o0 wx (up gx (nn / 64) (((gx (nn / 64))) ||| (oneB pn))) := A_o0
    obtain ⟨fs, hr, hrun, hended, hW, hsame⟩ := X2.leave (v := none) (fun _ => rfl)
    refine ⟨_, _, X2.returnOut hx Bd.returns (hb hby d3_52) hr, hrun, hended, _, _, rfl, ?_, ⟨_, rfl⟩, hW, hsame.mono (by decide) (by decide)⟩
    show Q3d3 Z oa pn ol o0 o1 o2 gx gy gz wx wy wz nn h0 n0 _ T2.heap _
    rw [e2]
    exact ⟨rfl, N2, K2, F_oa_levels, A_ol, A_o0, A_o1, A_o2⟩
def fn4d3 (pl : Int32) (ph : Int32) (gx : Nat → Int64) (gy : Nat → Int64) (gz : Nat → Int64) (wx : Nat) (wy : Nat) (wz : Nat) (nl : Nat) (nh : Nat) : Int32 := (if ph < pl then (0:Int32) else (if ((pl.toUInt32>>>((6:Int32)&&&31).toUInt32).toInt32) = ((ph.toUInt32>>>((6:Int32)&&&31).toUInt32).toInt32) then (if (((gx (nl / 64))&&&(fromB pl))&&&(upB ph)) = (0:Int64) then (0:Int32) else (1:Int32)) else (if ((gx (nl / 64))&&&(fromB pl)) = (0:Int64) then (if ((gx (nh / 64))&&&(upB ph)) = (0:Int64) then (if (((ph.toUInt32>>>((6:Int32)&&&31).toUInt32).toInt32) - (1:Int32)) < (((pl.toUInt32>>>((6:Int32)&&&31).toUInt32).toInt32) + (1:Int32)) then (0:Int32) else (if (((((pl.toUInt32>>>((6:Int32)&&&31).toUInt32).toInt32) + (1:Int32)).toUInt32>>>((6:Int32)&&&31).toUInt32).toInt32) = (((((ph.toUInt32>>>((6:Int32)&&&31).toUInt32).toInt32) - (1:Int32)).toUInt32>>>((6:Int32)&&&31).toUInt32).toInt32) then (if (((gy ((nl / 64 + 1) / 64))&&&(fromB (((pl.toUInt32>>>((6:Int32)&&&31).toUInt32).toInt32) + (1:Int32))))&&&(upB (((ph.toUInt32>>>((6:Int32)&&&31).toUInt32).toInt32) - (1:Int32)))) = (0:Int64) then (0:Int32) else (1:Int32)) else (if ((gy ((nl / 64 + 1) / 64))&&&(fromB (((pl.toUInt32>>>((6:Int32)&&&31).toUInt32).toInt32) + (1:Int32)))) = (0:Int64) then (if ((gy ((nh / 64 - 1) / 64))&&&(upB (((ph.toUInt32>>>((6:Int32)&&&31).toUInt32).toInt32) - (1:Int32)))) = (0:Int64) then (if ((((((ph.toUInt32>>>((6:Int32)&&&31).toUInt32).toInt32) - (1:Int32)).toUInt32>>>((6:Int32)&&&31).toUInt32).toInt32) - (1:Int32)) < ((((((pl.toUInt32>>>((6:Int32)&&&31).toUInt32).toInt32) + (1:Int32)).toUInt32>>>((6:Int32)&&&31).toUInt32).toInt32) + (1:Int32)) then (0:Int32) else (if ((((((((pl.toUInt32>>>((6:Int32)&&&31).toUInt32).toInt32) + (1:Int32)).toUInt32>>>((6:Int32)&&&31).toUInt32).toInt32) + (1:Int32)).toUInt32>>>((6:Int32)&&&31).toUInt32).toInt32) = ((((((((ph.toUInt32>>>((6:Int32)&&&31).toUInt32).toInt32) - (1:Int32)).toUInt32>>>((6:Int32)&&&31).toUInt32).toInt32) - (1:Int32)).toUInt32>>>((6:Int32)&&&31).toUInt32).toInt32) then (if (((gz (((nl / 64 + 1) / 64 + 1) / 64))&&&(fromB ((((((pl.toUInt32>>>((6:Int32)&&&31).toUInt32).toInt32) + (1:Int32)).toUInt32>>>((6:Int32)&&&31).toUInt32).toInt32) + (1:Int32))))&&&(upB ((((((ph.toUInt32>>>((6:Int32)&&&31).toUInt32).toInt32) - (1:Int32)).toUInt32>>>((6:Int32)&&&31).toUInt32).toInt32) - (1:Int32)))) = (0:Int64) then (0:Int32) else (1:Int32)) else (if ((gz (((nl / 64 + 1) / 64 + 1) / 64))&&&(fromB ((((((pl.toUInt32>>>((6:Int32)&&&31).toUInt32).toInt32) + (1:Int32)).toUInt32>>>((6:Int32)&&&31).toUInt32).toInt32) + (1:Int32)))) = (0:Int64) then (if ((gz (((nh / 64 - 1) / 64 - 1) / 64))&&&(upB ((((((ph.toUInt32>>>((6:Int32)&&&31).toUInt32).toInt32) - (1:Int32)).toUInt32>>>((6:Int32)&&&31).toUInt32).toInt32) - (1:Int32)))) = (0:Int64) then (0:Int32) else (1:Int32)) else (1:Int32)))) else (1:Int32)) else (1:Int32)))) else (1:Int32)) else (1:Int32))))
theorem ef4d3 (m : MethodId) (oa : Addr) (pl : Int32) (ph : Int32) : entryFrame m #[(.ref oa), (.int pl), (.int ph)] 9 = mkF m 0 #[.val (.ref oa),.val (.int pl),.val (.int ph),.unset,.unset,.unset,.unset,.unset,.unset] [] := by first | (simp [entryFrame, mkF, argsToLocals, Value.category]; done) | rfl
def Q4d3 (Z : State) (oa : Addr) (pl : Int32) (ph : Int32) (ol : Addr) (o0 : Addr) (o1 : Addr) (o2 : Addr) (gx : Nat → Int64) (gy : Nat → Int64) (gz : Nat → Int64) (wx : Nat) (wy : Nat) (wz : Nat) (nl : Nat) (nh : Nat) (h0 : Heap) (n0 : Nat) (v : Option Value) (h : Heap) (L : List Loc) : Prop := v = some (.int (fn4d3 pl ph gx gy gz wx wy wz nl nh)) ∧ Fr n0 L ∧ h = h0
set_option maxRecDepth 65536 in
set_option maxHeartbeats 40000000 in
theorem rm4d3 (l : Launch) (Z : State) (a0 : Array Value) (hw : ∀ d ∈ tables_1, d.before a0 Z = true) (ws : List Jvm.Cond) (oa : Addr) (pl : Int32) (ph : Int32) (ol : Addr) (o0 : Addr) (o1 : Addr) (o2 : Addr) (gx : Nat → Int64) (gy : Nat → Int64) (gz : Nat → Int64) (wx : Nat) (wy : Nat) (wz : Nat) (nl : Nat) (nh : Nat) (h0 : Heap) (n0 : Nat) (Z0 : n0 ≤ h0.size) (F_oa_levels : Fld Z h0 oa "com/example/xml_graph_join/xmlgraphjoin/topo/BitLevels" "levels" "[[J" (.ref ol)) (A_ol : Ar Z h0 ol (.array .long) 3 (up (up (up (fun _ => .null) 0 (.ref o0)) 1 (.ref o1)) 2 (.ref o2))) (A_o0 : AJ Z h0 o0 wx gx) (A_o1 : AJ Z h0 o1 wy gy) (A_o2 : AJ Z h0 o2 wz gz) (hlo : pl.toInt = (nl : Int)) (hhi : ph.toInt = (nh : Int)) (hwl : nl / 64 < wx) (hwh : nh / 64 < wx) (hx1 : wx ≤ 64 * wy) (hx2 : wy ≤ 64 * wz) :
    MetFree l (⟨"com/example/xml_graph_join/xmlgraphjoin/topo/BitLevels", "anyIn", "(II)Z"⟩ : MethodName) (head1 (Jvm.Cond.code (⟨"com/example/xml_graph_join/xmlgraphjoin/topo/BitLevels", "anyIn", "(II)Z"⟩ : MethodName) prog_96_method_4_code 9 (some .boolean) :: ws) ({ frames := 1, cells := 0, slots := 0, locals := 14 } : Room)) (fun a U => a = #[(.ref oa), (.int pl), (.int ph)] ∧ Z.Warmed39 U.vm ∧ U.heap = h0) (fun _ _ _ _ _ => True) (fun _ U o U' => ∃ v L, o = .returned v ∧ Q4d3 Z oa pl ph ol o0 o1 o2 gx gy gz wx wy wz nl nh h0 n0 v U'.heap L ∧ FrameEnd U o U' L ({ frames := 1, cells := 0, slots := 0, locals := 14 } : Room).cells ({ frames := 1, cells := 0, slots := 0, locals := 14 } : Room).slots) := by
  refine MetFree.of_bodySF (plainFor_of_name pn_0) hisR ?_
  intro p e s m args below meth c s₁ Bd hml0 hP hK
  obtain ⟨rfl, hZ, hh⟩ := hP
  have hx := Bd.exec
  have hby := Bd.bytes
  have hml : c.maxLocals = 9 := hml0
  have hown : s.vm.findClass "com/example/xml_graph_join/xmlgraphjoin/topo/BitLevels" = some m.cls := findClass_of_methodNamed Bd.named
  have hnm := (name_of_methodNamed Bd.named Bd.method).1
  have X0 : Stand p l e ({ frames := 1, cells := 0, slots := 0, locals := 14 } : Room) s m #[(.ref oa), (.int pl), (.int ph)] below meth c s₁ [] 0 0 := Stand.of_body Bd
  have e0 : s₁.heap = h0 := by rw [← hh, Bd.state]; rfl
  have N0 := Fr.nil n0
  refine Goes.by (fun _ k => castTop (ef4d3 m oa pl ph) k) ?_
  show Goes p.tables e below (s₁.setTop (mkF m 0 #[.val (.ref oa),.val (.int pl),.val (.int ph),.unset,.unset,.unset,.unset,.unset,.unset] [])) _
  refine Goes.by (fun _ k => XS.aloadN X0.here hx rfl (hb hby d4_0) rfl rfl k) ?_
  show Goes p.tables e below (s₁.setTop (mkF m 1 #[.val (.ref oa),.val (.int pl),.val (.int ph),.unset,.unset,.unset,.unset,.unset,.unset] [(.ref oa)])) _
  obtain ⟨T1, X1, e1, st1⟩ := getF X0 hx hZ hown (host := "") (Or.inl (hw _ (List.mem_of_getElem? (i := 12) rfl))) Via.refl e0 F_oa_levels (g := (mkF m 1 #[.val (.ref oa),.val (.int pl),.val (.int ph),.unset,.unset,.unset,.unset,.unset,.unset] [(.ref oa)])) rfl rfl (hb hby d4_1)
  refine Goes.by st1 ?_
  show Goes p.tables e below (T1.setTop (mkF m 4 #[.val (.ref oa),.val (.int pl),.val (.int ph),.unset,.unset,.unset,.unset,.unset,.unset] [(.ref ol)])) _
  refine Goes.by (fun _ k => XS.astoreN X1.here hx rfl (hb hby d4_4) rfl rfl (l' := #[.val (.ref oa),.val (.int pl),.val (.int ph),.val (.ref ol),.unset,.unset,.unset,.unset,.unset]) rfl k) ?_
  show Goes p.tables e below (T1.setTop (mkF m 5 #[.val (.ref oa),.val (.int pl),.val (.int ph),.val (.ref ol),.unset,.unset,.unset,.unset,.unset] [])) _
  refine Goes.by (fun _ k => XS.aloadN X1.here hx rfl (hb hby d4_5) rfl rfl k) ?_
  show Goes p.tables e below (T1.setTop (mkF m 6 #[.val (.ref oa),.val (.int pl),.val (.int ph),.val (.ref ol),.unset,.unset,.unset,.unset,.unset] [(.ref ol)])) _
  refine Goes.by (fun _ k => alen (z := (3:Int32)) (fr := (mkF m 6 #[.val (.ref oa),.val (.int pl),.val (.int ph),.val (.ref ol),.unset,.unset,.unset,.unset,.unset] [(.ref ol)])) X1 hx hZ e1 A_ol (by decide) rfl rfl (hb hby d4_6) k) ?_
  show Goes p.tables e below (T1.setTop (mkF m 7 #[.val (.ref oa),.val (.int pl),.val (.int ph),.val (.ref ol),.unset,.unset,.unset,.unset,.unset] [(.int (3:Int32))])) _
  refine Goes.by (fun _ k => XS.istore X1.here hx rfl (hb hby d4_7) rfl (l' := #[.val (.ref oa),.val (.int pl),.val (.int ph),.val (.ref ol),.val (.int (3:Int32)),.unset,.unset,.unset,.unset]) rfl k) ?_
  show Goes p.tables e below (T1.setTop (mkF m 9 #[.val (.ref oa),.val (.int pl),.val (.int ph),.val (.ref ol),.val (.int (3:Int32)),.unset,.unset,.unset,.unset] [])) _
  refine Goes.by (fun _ k => XS.iconst X1.here hx rfl (hb hby d4_9) k) ?_
  show Goes p.tables e below (T1.setTop (mkF m 10 #[.val (.ref oa),.val (.int pl),.val (.int ph),.val (.ref ol),.val (.int (3:Int32)),.unset,.unset,.unset,.unset] [(.int (0:Int32))])) _
  refine Goes.by (fun _ k => XS.istore X1.here hx rfl (hb hby d4_10) rfl (l' := #[.val (.ref oa),.val (.int pl),.val (.int ph),.val (.ref ol),.val (.int (3:Int32)),.val (.int (0:Int32)),.unset,.unset,.unset]) rfl k) ?_
  show Goes p.tables e below (T1.setTop (mkF m 12 #[.val (.ref oa),.val (.int pl),.val (.int ph),.val (.ref ol),.val (.int (3:Int32)),.val (.int (0:Int32)),.unset,.unset,.unset] [])) _
  refine Goes.by (fun _ k => XS.iload X1.here hx rfl (hb hby d4_12) rfl k) ?_
  show Goes p.tables e below (T1.setTop (mkF m 14 #[.val (.ref oa),.val (.int pl),.val (.int ph),.val (.ref ol),.val (.int (3:Int32)),.val (.int (0:Int32)),.unset,.unset,.unset] [(.int (0:Int32))])) _
  refine Goes.by (fun _ k => XS.iload X1.here hx rfl (hb hby d4_14) rfl k) ?_
  show Goes p.tables e below (T1.setTop (mkF m 16 #[.val (.ref oa),.val (.int pl),.val (.int ph),.val (.ref ol),.val (.int (3:Int32)),.val (.int (0:Int32)),.unset,.unset,.unset] [(.int (3:Int32)), (.int (0:Int32))])) _
  refine Goes.by (fun _ k => XS.icmpNo X1.here hx rfl (hb hby d4_16) rfl (tlt (by decide : (0:Int32) < (3:Int32))).2.1 k) ?_
  show Goes p.tables e below (T1.setTop (mkF m 19 #[.val (.ref oa),.val (.int pl),.val (.int ph),.val (.ref ol),.val (.int (3:Int32)),.val (.int (0:Int32)),.unset,.unset,.unset] [])) _
  refine Goes.by (fun _ k => XS.aloadN X1.here hx rfl (hb hby d4_19) rfl rfl k) ?_
  show Goes p.tables e below (T1.setTop (mkF m 20 #[.val (.ref oa),.val (.int pl),.val (.int ph),.val (.ref ol),.val (.int (3:Int32)),.val (.int (0:Int32)),.unset,.unset,.unset] [(.ref ol)])) _
  refine Goes.by (fun _ k => XS.iload X1.here hx rfl (hb hby d4_20) rfl k) ?_
  show Goes p.tables e below (T1.setTop (mkF m 22 #[.val (.ref oa),.val (.int pl),.val (.int ph),.val (.ref ol),.val (.int (3:Int32)),.val (.int (0:Int32)),.unset,.unset,.unset] [(.int (0:Int32)), (.ref ol)])) _
  refine Goes.by (fun _ k => ldR (v := (.ref o0)) (fr := (mkF m 22 #[.val (.ref oa),.val (.int pl),.val (.int ph),.val (.ref ol),.val (.int (3:Int32)),.val (.int (0:Int32)),.unset,.unset,.unset] [(.int (0:Int32)), (.ref ol)])) X1 hx hZ e1 A_ol rfl (i := 0) (by decide) (by decide) rfl rfl rfl (hb hby d4_22) k) ?_
  show Goes p.tables e below (T1.setTop (mkF m 23 #[.val (.ref oa),.val (.int pl),.val (.int ph),.val (.ref ol),.val (.int (3:Int32)),.val (.int (0:Int32)),.unset,.unset,.unset] [(.ref o0)])) _
  refine Goes.by (fun _ k => XS.astore X1.here hx rfl (hb hby d4_23) rfl rfl (l' := #[.val (.ref oa),.val (.int pl),.val (.int ph),.val (.ref ol),.val (.int (3:Int32)),.val (.int (0:Int32)),.val (.ref o0),.unset,.unset]) rfl k) ?_
  show Goes p.tables e below (T1.setTop (mkF m 25 #[.val (.ref oa),.val (.int pl),.val (.int ph),.val (.ref ol),.val (.int (3:Int32)),.val (.int (0:Int32)),.val (.ref o0),.unset,.unset] [])) _
  refine Goes.by (fun _ k => XS.iloadN X1.here hx rfl (hb hby d4_25) rfl k) ?_
  show Goes p.tables e below (T1.setTop (mkF m 26 #[.val (.ref oa),.val (.int pl),.val (.int ph),.val (.ref ol),.val (.int (3:Int32)),.val (.int (0:Int32)),.val (.ref o0),.unset,.unset] [(.int ph)])) _
  refine Goes.by (fun _ k => XS.iloadN X1.here hx rfl (hb hby d4_26) rfl k) ?_
  show Goes p.tables e below (T1.setTop (mkF m 27 #[.val (.ref oa),.val (.int pl),.val (.int ph),.val (.ref ol),.val (.int (3:Int32)),.val (.int (0:Int32)),.val (.ref o0),.unset,.unset] [(.int pl), (.int ph)])) _
  by_cases hc2 : ph < pl
  · refine Goes.by (fun _ k => XS.icmpNo X1.here hx rfl (hb hby d4_27) rfl (tlt hc2).2.1 k) ?_
    show Goes p.tables e below (T1.setTop (mkF m 30 #[.val (.ref oa),.val (.int pl),.val (.int ph),.val (.ref ol),.val (.int (3:Int32)),.val (.int (0:Int32)),.val (.ref o0),.unset,.unset] [])) _
    refine Goes.by (fun _ k => XS.iconst X1.here hx rfl (hb hby d4_30) k) ?_
    show Goes p.tables e below (T1.setTop (mkF m 31 #[.val (.ref oa),.val (.int pl),.val (.int ph),.val (.ref ol),.val (.int (3:Int32)),.val (.int (0:Int32)),.val (.ref o0),.unset,.unset] [(.int (0:Int32))])) _
    obtain ⟨fs, hr, hrun, hended, hW, hsame⟩ := X1.leave (v := some (.int (0:Int32))) (fun h => by rw [Bd.returns] at h; cases h)
    refine ⟨_, _, retN X1 hx (t := .boolean) Bd.returns (by simp) (hb hby d4_31) hr, hrun, hended, _, _, rfl, ?_, ⟨_, rfl⟩, hW, hsame.mono (by decide) (by decide)⟩
    show Q4d3 Z oa pl ph ol o0 o1 o2 gx gy gz wx wy wz nl nh h0 n0 _ T1.heap _
    rw [e1]
    exact ⟨(by rw [fn4d3, if_pos hc2]), N0, rfl⟩
  · refine Goes.by (fun _ k => XS.icmpYes X1.here hx rfl (pc0 := 27) (pc' := 32) rfl (hb hby d4_27) rfl (flt hc2).2.1 (by decide) (by decide) k) ?_
    show Goes p.tables e below (T1.setTop (mkF m 32 #[.val (.ref oa),.val (.int pl),.val (.int ph),.val (.ref ol),.val (.int (3:Int32)),.val (.int (0:Int32)),.val (.ref o0),.unset,.unset] [])) _
    refine Goes.by (fun _ k => XS.iloadN X1.here hx rfl (hb hby d4_32) rfl k) ?_
    show Goes p.tables e below (T1.setTop (mkF m 33 #[.val (.ref oa),.val (.int pl),.val (.int ph),.val (.ref ol),.val (.int (3:Int32)),.val (.int (0:Int32)),.val (.ref o0),.unset,.unset] [(.int pl)])) _
    refine Goes.by (fun _ k => XS.bipush X1.here hx rfl (hb hby d4_33) k) ?_
    show Goes p.tables e below (T1.setTop (mkF m 35 #[.val (.ref oa),.val (.int pl),.val (.int ph),.val (.ref ol),.val (.int (3:Int32)),.val (.int (0:Int32)),.val (.ref o0),.unset,.unset] [(.int (6:Int32)), (.int pl)])) _
    refine Goes.by (fun _ k => XS.iushr X1.here hx rfl (hb hby d4_35) rfl k) ?_
    show Goes p.tables e below (T1.setTop (mkF m 36 #[.val (.ref oa),.val (.int pl),.val (.int ph),.val (.ref ol),.val (.int (3:Int32)),.val (.int (0:Int32)),.val (.ref o0),.unset,.unset] [(.int ((pl.toUInt32>>>((6:Int32)&&&31).toUInt32).toInt32))])) _
    refine Goes.by (fun _ k => XS.istore X1.here hx rfl (hb hby d4_36) rfl (l' := #[.val (.ref oa),.val (.int pl),.val (.int ph),.val (.ref ol),.val (.int (3:Int32)),.val (.int (0:Int32)),.val (.ref o0),.val (.int ((pl.toUInt32>>>((6:Int32)&&&31).toUInt32).toInt32)),.unset]) rfl k) ?_
    show Goes p.tables e below (T1.setTop (mkF m 38 #[.val (.ref oa),.val (.int pl),.val (.int ph),.val (.ref ol),.val (.int (3:Int32)),.val (.int (0:Int32)),.val (.ref o0),.val (.int ((pl.toUInt32>>>((6:Int32)&&&31).toUInt32).toInt32)),.unset] [])) _
    refine Goes.by (fun _ k => XS.iloadN X1.here hx rfl (hb hby d4_38) rfl k) ?_
    show Goes p.tables e below (T1.setTop (mkF m 39 #[.val (.ref oa),.val (.int pl),.val (.int ph),.val (.ref ol),.val (.int (3:Int32)),.val (.int (0:Int32)),.val (.ref o0),.val (.int ((pl.toUInt32>>>((6:Int32)&&&31).toUInt32).toInt32)),.unset] [(.int ph)])) _
    refine Goes.by (fun _ k => XS.bipush X1.here hx rfl (hb hby d4_39) k) ?_
    show Goes p.tables e below (T1.setTop (mkF m 41 #[.val (.ref oa),.val (.int pl),.val (.int ph),.val (.ref ol),.val (.int (3:Int32)),.val (.int (0:Int32)),.val (.ref o0),.val (.int ((pl.toUInt32>>>((6:Int32)&&&31).toUInt32).toInt32)),.unset] [(.int (6:Int32)), (.int ph)])) _
    refine Goes.by (fun _ k => XS.iushr X1.here hx rfl (hb hby d4_41) rfl k) ?_
    show Goes p.tables e below (T1.setTop (mkF m 42 #[.val (.ref oa),.val (.int pl),.val (.int ph),.val (.ref ol),.val (.int (3:Int32)),.val (.int (0:Int32)),.val (.ref o0),.val (.int ((pl.toUInt32>>>((6:Int32)&&&31).toUInt32).toInt32)),.unset] [(.int ((ph.toUInt32>>>((6:Int32)&&&31).toUInt32).toInt32))])) _
    refine Goes.by (fun _ k => XS.istore X1.here hx rfl (hb hby d4_42) rfl (l' := #[.val (.ref oa),.val (.int pl),.val (.int ph),.val (.ref ol),.val (.int (3:Int32)),.val (.int (0:Int32)),.val (.ref o0),.val (.int ((pl.toUInt32>>>((6:Int32)&&&31).toUInt32).toInt32)),.val (.int ((ph.toUInt32>>>((6:Int32)&&&31).toUInt32).toInt32))]) rfl k) ?_
    show Goes p.tables e below (T1.setTop (mkF m 44 #[.val (.ref oa),.val (.int pl),.val (.int ph),.val (.ref ol),.val (.int (3:Int32)),.val (.int (0:Int32)),.val (.ref o0),.val (.int ((pl.toUInt32>>>((6:Int32)&&&31).toUInt32).toInt32)),.val (.int ((ph.toUInt32>>>((6:Int32)&&&31).toUInt32).toInt32))] [])) _
    refine Goes.by (fun _ k => XS.iload X1.here hx rfl (hb hby d4_44) rfl k) ?_
    show Goes p.tables e below (T1.setTop (mkF m 46 #[.val (.ref oa),.val (.int pl),.val (.int ph),.val (.ref ol),.val (.int (3:Int32)),.val (.int (0:Int32)),.val (.ref o0),.val (.int ((pl.toUInt32>>>((6:Int32)&&&31).toUInt32).toInt32)),.val (.int ((ph.toUInt32>>>((6:Int32)&&&31).toUInt32).toInt32))] [(.int ((pl.toUInt32>>>((6:Int32)&&&31).toUInt32).toInt32))])) _
    refine Goes.by (fun _ k => XS.iload X1.here hx rfl (hb hby d4_46) rfl k) ?_
    show Goes p.tables e below (T1.setTop (mkF m 48 #[.val (.ref oa),.val (.int pl),.val (.int ph),.val (.ref ol),.val (.int (3:Int32)),.val (.int (0:Int32)),.val (.ref o0),.val (.int ((pl.toUInt32>>>((6:Int32)&&&31).toUInt32).toInt32)),.val (.int ((ph.toUInt32>>>((6:Int32)&&&31).toUInt32).toInt32))] [(.int ((ph.toUInt32>>>((6:Int32)&&&31).toUInt32).toInt32)), (.int ((pl.toUInt32>>>((6:Int32)&&&31).toUInt32).toInt32))])) _
    by_cases hc3 : ((pl.toUInt32>>>((6:Int32)&&&31).toUInt32).toInt32) = ((ph.toUInt32>>>((6:Int32)&&&31).toUInt32).toInt32)
    · refine Goes.by (fun _ k => XS.icmpNo X1.here hx rfl (hb hby d4_48) rfl (teq hc3).2 k) ?_
      show Goes p.tables e below (T1.setTop (mkF m 51 #[.val (.ref oa),.val (.int pl),.val (.int ph),.val (.ref ol),.val (.int (3:Int32)),.val (.int (0:Int32)),.val (.ref o0),.val (.int ((pl.toUInt32>>>((6:Int32)&&&31).toUInt32).toInt32)),.val (.int ((ph.toUInt32>>>((6:Int32)&&&31).toUInt32).toInt32))] [])) _
      refine Goes.by (fun _ k => XS.aload X1.here hx rfl (hb hby d4_51) rfl rfl k) ?_
      show Goes p.tables e below (T1.setTop (mkF m 53 #[.val (.ref oa),.val (.int pl),.val (.int ph),.val (.ref ol),.val (.int (3:Int32)),.val (.int (0:Int32)),.val (.ref o0),.val (.int ((pl.toUInt32>>>((6:Int32)&&&31).toUInt32).toInt32)),.val (.int ((ph.toUInt32>>>((6:Int32)&&&31).toUInt32).toInt32))] [(.ref o0)])) _
      refine Goes.by (fun _ k => XS.iload X1.here hx rfl (hb hby d4_53) rfl k) ?_
      show Goes p.tables e below (T1.setTop (mkF m 55 #[.val (.ref oa),.val (.int pl),.val (.int ph),.val (.ref ol),.val (.int (3:Int32)),.val (.int (0:Int32)),.val (.ref o0),.val (.int ((pl.toUInt32>>>((6:Int32)&&&31).toUInt32).toInt32)),.val (.int ((ph.toUInt32>>>((6:Int32)&&&31).toUInt32).toInt32))] [(.int ((pl.toUInt32>>>((6:Int32)&&&31).toUInt32).toInt32)), (.ref o0)])) _
      refine Goes.by (fun _ k => ldJ (v := (gx (nl / 64))) (fr := (mkF m 55 #[.val (.ref oa),.val (.int pl),.val (.int ph),.val (.ref ol),.val (.int (3:Int32)),.val (.int (0:Int32)),.val (.ref o0),.val (.int ((pl.toUInt32>>>((6:Int32)&&&31).toUInt32).toInt32)),.val (.int ((ph.toUInt32>>>((6:Int32)&&&31).toUInt32).toInt32))] [(.int ((pl.toUInt32>>>((6:Int32)&&&31).toUInt32).toInt32)), (.ref o0)])) X1 hx hZ e1 A_o0 (i := (nl / 64)) (own_sh6 _ _ (own_lv0 hlo hhi hwl hwh).1) (own_lv0 hlo hhi hwl hwh).2.2.1 rfl rfl rfl (hb hby d4_55) k) ?_
      show Goes p.tables e below (T1.setTop (mkF m 56 #[.val (.ref oa),.val (.int pl),.val (.int ph),.val (.ref ol),.val (.int (3:Int32)),.val (.int (0:Int32)),.val (.ref o0),.val (.int ((pl.toUInt32>>>((6:Int32)&&&31).toUInt32).toInt32)),.val (.int ((ph.toUInt32>>>((6:Int32)&&&31).toUInt32).toInt32))] [(.long (gx (nl / 64)))])) _
      refine Goes.by (fun _ k => XS.iloadN X1.here hx rfl (hb hby d4_56) rfl k) ?_
      show Goes p.tables e below (T1.setTop (mkF m 57 #[.val (.ref oa),.val (.int pl),.val (.int ph),.val (.ref ol),.val (.int (3:Int32)),.val (.int (0:Int32)),.val (.ref o0),.val (.int ((pl.toUInt32>>>((6:Int32)&&&31).toUInt32).toInt32)),.val (.int ((ph.toUInt32>>>((6:Int32)&&&31).toUInt32).toInt32))] [(.int pl), (.long (gx (nl / 64)))])) _
      obtain ⟨_, _, ⟨T4, L4, k4, n4⟩, -, X4, ⟨Lc4, hQ4, l4, y4, z4⟩, st4⟩ := Jvm.LawKit.callS X1 hx (y := (⟨"com/example/xml_graph_join/xmlgraphjoin/topo/BitLevels", "fromBit", "(I)J"⟩ : MethodName)) hown (mvT hZ (hw _ (List.mem_of_getElem? (i := 26) rfl))) (mvT hZ (hw _ (List.mem_of_getElem? (i := 27) rfl))) (mvT hZ (hw _ (List.mem_of_getElem? (i := 3) rfl))) (mvT hZ (hw _ (List.mem_of_getElem? (i := 28) rfl))) (by decide) (backOf (W := 2) (rm5 l Z a0 hw [] pl h0 n0 Z0) hZ (hw _ (List.mem_of_getElem? (i := 28) rfl)) (hw _ (List.mem_of_getElem? (i := 3) rfl)) (by decide) (by decide)) (g := (mkF m 57 #[.val (.ref oa),.val (.int pl),.val (.int ph),.val (.ref ol),.val (.int (3:Int32)),.val (.int (0:Int32)),.val (.ref o0),.val (.int ((pl.toUInt32>>>((6:Int32)&&&31).toUInt32).toInt32)),.val (.int ((ph.toUInt32>>>((6:Int32)&&&31).toUInt32).toInt32))] [(.int pl), (.long (gx (nl / 64)))])) rfl (by rw [hml]; rfl) (argsL := [(.int pl)]) (rest := [(.long (gx (nl / 64)))]) (lenOf pd_0 rfl) rfl (by show 2 * 0 + (2 + 0) ≤ _; decide) (hb hby d4_57) (fun _ _ => ⟨rfl, e1, (by decide : 0 + 0 ≤ _), (by decide : 0 + 0 ≤ _)⟩)
      dsimp only [Pt.U, Pt.locs, Pt.cells, Pt.slots] at X4 l4 y4 z4 st4 hQ4
      rw [l4, y4, z4] at X4
      obtain ⟨rfl, N4q, e4⟩ := hQ4
      have N4 := Fr.app N0 N4q
      refine Goes.by st4 ?_
      show Goes p.tables e below (T4.setTop (mkF m 60 #[.val (.ref oa),.val (.int pl),.val (.int ph),.val (.ref ol),.val (.int (3:Int32)),.val (.int (0:Int32)),.val (.ref o0),.val (.int ((pl.toUInt32>>>((6:Int32)&&&31).toUInt32).toInt32)),.val (.int ((ph.toUInt32>>>((6:Int32)&&&31).toUInt32).toInt32))] [(.long (fromB pl)), (.long (gx (nl / 64)))])) _
      refine Goes.by (fun _ k => XS.land X4.here hx rfl (hb hby d4_60) rfl k) ?_
      show Goes p.tables e below (T4.setTop (mkF m 61 #[.val (.ref oa),.val (.int pl),.val (.int ph),.val (.ref ol),.val (.int (3:Int32)),.val (.int (0:Int32)),.val (.ref o0),.val (.int ((pl.toUInt32>>>((6:Int32)&&&31).toUInt32).toInt32)),.val (.int ((ph.toUInt32>>>((6:Int32)&&&31).toUInt32).toInt32))] [(.long ((gx (nl / 64))&&&(fromB pl)))])) _
      refine Goes.by (fun _ k => XS.iloadN X4.here hx rfl (hb hby d4_61) rfl k) ?_
      show Goes p.tables e below (T4.setTop (mkF m 62 #[.val (.ref oa),.val (.int pl),.val (.int ph),.val (.ref ol),.val (.int (3:Int32)),.val (.int (0:Int32)),.val (.ref o0),.val (.int ((pl.toUInt32>>>((6:Int32)&&&31).toUInt32).toInt32)),.val (.int ((ph.toUInt32>>>((6:Int32)&&&31).toUInt32).toInt32))] [(.int ph), (.long ((gx (nl / 64))&&&(fromB pl)))])) _
      obtain ⟨_, _, ⟨T5, L5, k5, n5⟩, -, X5, ⟨Lc5, hQ5, l5, y5, z5⟩, st5⟩ := Jvm.LawKit.callS X4 hx (y := (⟨"com/example/xml_graph_join/xmlgraphjoin/topo/BitLevels", "upToBit", "(I)J"⟩ : MethodName)) hown (mvT hZ (hw _ (List.mem_of_getElem? (i := 30) rfl))) (mvT hZ (hw _ (List.mem_of_getElem? (i := 31) rfl))) (mvT hZ (hw _ (List.mem_of_getElem? (i := 3) rfl))) (mvT hZ (hw _ (List.mem_of_getElem? (i := 32) rfl))) (by decide) (backOf (W := 2) (rm6 l Z a0 hw [] ph h0 n0 Z0) hZ (hw _ (List.mem_of_getElem? (i := 32) rfl)) (hw _ (List.mem_of_getElem? (i := 3) rfl)) (by decide) (by decide)) (g := (mkF m 62 #[.val (.ref oa),.val (.int pl),.val (.int ph),.val (.ref ol),.val (.int (3:Int32)),.val (.int (0:Int32)),.val (.ref o0),.val (.int ((pl.toUInt32>>>((6:Int32)&&&31).toUInt32).toInt32)),.val (.int ((ph.toUInt32>>>((6:Int32)&&&31).toUInt32).toInt32))] [(.int ph), (.long ((gx (nl / 64))&&&(fromB pl)))])) rfl (by rw [hml]; rfl) (argsL := [(.int ph)]) (rest := [(.long ((gx (nl / 64))&&&(fromB pl)))]) (lenOf pd_0 rfl) rfl (by show 2 * 0 + (2 + 0) ≤ _; decide) (hb hby d4_62) (fun _ _ => ⟨rfl, e4, (by decide : 0 + 0 ≤ _), (by decide : 0 + 0 ≤ _)⟩)
      dsimp only [Pt.U, Pt.locs, Pt.cells, Pt.slots] at X5 l5 y5 z5 st5 hQ5
      rw [l5, y5, z5] at X5
      obtain ⟨rfl, N5q, e5⟩ := hQ5
      have N5 := Fr.app N4 N5q
      refine Goes.by st5 ?_
      show Goes p.tables e below (T5.setTop (mkF m 65 #[.val (.ref oa),.val (.int pl),.val (.int ph),.val (.ref ol),.val (.int (3:Int32)),.val (.int (0:Int32)),.val (.ref o0),.val (.int ((pl.toUInt32>>>((6:Int32)&&&31).toUInt32).toInt32)),.val (.int ((ph.toUInt32>>>((6:Int32)&&&31).toUInt32).toInt32))] [(.long (upB ph)), (.long ((gx (nl / 64))&&&(fromB pl)))])) _
      refine Goes.by (fun _ k => XS.land X5.here hx rfl (hb hby d4_65) rfl k) ?_
      show Goes p.tables e below (T5.setTop (mkF m 66 #[.val (.ref oa),.val (.int pl),.val (.int ph),.val (.ref ol),.val (.int (3:Int32)),.val (.int (0:Int32)),.val (.ref o0),.val (.int ((pl.toUInt32>>>((6:Int32)&&&31).toUInt32).toInt32)),.val (.int ((ph.toUInt32>>>((6:Int32)&&&31).toUInt32).toInt32))] [(.long (((gx (nl / 64))&&&(fromB pl))&&&(upB ph)))])) _
      refine Goes.by (fun _ k => XS.lconst X5.here hx rfl (hb hby d4_66) k) ?_
      show Goes p.tables e below (T5.setTop (mkF m 67 #[.val (.ref oa),.val (.int pl),.val (.int ph),.val (.ref ol),.val (.int (3:Int32)),.val (.int (0:Int32)),.val (.ref o0),.val (.int ((pl.toUInt32>>>((6:Int32)&&&31).toUInt32).toInt32)),.val (.int ((ph.toUInt32>>>((6:Int32)&&&31).toUInt32).toInt32))] [(.long (0:Int64)), (.long (((gx (nl / 64))&&&(fromB pl))&&&(upB ph)))])) _
      refine Goes.by (fun _ k => XS.lcmp X5.here hx rfl (hb hby d4_67) rfl k) ?_
      show Goes p.tables e below (T5.setTop (mkF m 68 #[.val (.ref oa),.val (.int pl),.val (.int ph),.val (.ref ol),.val (.int (3:Int32)),.val (.int (0:Int32)),.val (.ref o0),.val (.int ((pl.toUInt32>>>((6:Int32)&&&31).toUInt32).toInt32)),.val (.int ((ph.toUInt32>>>((6:Int32)&&&31).toUInt32).toInt32))] [(.int (lcmpW (((gx (nl / 64))&&&(fromB pl))&&&(upB ph)) (0:Int64)))])) _
      by_cases hc6 : (((gx (nl / 64))&&&(fromB pl))&&&(upB ph)) = (0:Int64)
      · refine Goes.by (fun _ k => XS.ifYes X5.here hx rfl (pc0 := 68) (pc' := 75) rfl (hb hby d4_68) rfl (je_t hc6).1 (by decide) (by decide) k) ?_
        show Goes p.tables e below (T5.setTop (mkF m 75 #[.val (.ref oa),.val (.int pl),.val (.int ph),.val (.ref ol),.val (.int (3:Int32)),.val (.int (0:Int32)),.val (.ref o0),.val (.int ((pl.toUInt32>>>((6:Int32)&&&31).toUInt32).toInt32)),.val (.int ((ph.toUInt32>>>((6:Int32)&&&31).toUInt32).toInt32))] [])) _
        refine Goes.by (fun _ k => XS.iconst X5.here hx rfl (hb hby d4_75) k) ?_
        show Goes p.tables e below (T5.setTop (mkF m 76 #[.val (.ref oa),.val (.int pl),.val (.int ph),.val (.ref ol),.val (.int (3:Int32)),.val (.int (0:Int32)),.val (.ref o0),.val (.int ((pl.toUInt32>>>((6:Int32)&&&31).toUInt32).toInt32)),.val (.int ((ph.toUInt32>>>((6:Int32)&&&31).toUInt32).toInt32))] [(.int (0:Int32))])) _
        obtain ⟨fs, hr, hrun, hended, hW, hsame⟩ := X5.leave (v := some (.int (0:Int32))) (fun h => by rw [Bd.returns] at h; cases h)
        refine ⟨_, _, retN X5 hx (t := .boolean) Bd.returns (by simp) (hb hby d4_76) hr, hrun, hended, _, _, rfl, ?_, ⟨_, rfl⟩, hW, hsame.mono (by decide) (by decide)⟩
        show Q4d3 Z oa pl ph ol o0 o1 o2 gx gy gz wx wy wz nl nh h0 n0 _ T5.heap _
        rw [e5]
        exact ⟨(by rw [fn4d3, if_neg hc2, if_pos hc3, if_pos hc6]), N5, rfl⟩
      · refine Goes.by (fun _ k => XS.ifNo X5.here hx rfl (hb hby d4_68) rfl (je_f hc6).1 k) ?_
        show Goes p.tables e below (T5.setTop (mkF m 71 #[.val (.ref oa),.val (.int pl),.val (.int ph),.val (.ref ol),.val (.int (3:Int32)),.val (.int (0:Int32)),.val (.ref o0),.val (.int ((pl.toUInt32>>>((6:Int32)&&&31).toUInt32).toInt32)),.val (.int ((ph.toUInt32>>>((6:Int32)&&&31).toUInt32).toInt32))] [])) _
        refine Goes.by (fun _ k => XS.iconst X5.here hx rfl (hb hby d4_71) k) ?_
        show Goes p.tables e below (T5.setTop (mkF m 72 #[.val (.ref oa),.val (.int pl),.val (.int ph),.val (.ref ol),.val (.int (3:Int32)),.val (.int (0:Int32)),.val (.ref o0),.val (.int ((pl.toUInt32>>>((6:Int32)&&&31).toUInt32).toInt32)),.val (.int ((ph.toUInt32>>>((6:Int32)&&&31).toUInt32).toInt32))] [(.int (1:Int32))])) _
        refine Goes.by (fun _ k => XS.goto X5.here hx rfl (pc0 := 72) (pc' := 76) rfl (hb hby d4_72) (by decide) (by decide) k) ?_
        show Goes p.tables e below (T5.setTop (mkF m 76 #[.val (.ref oa),.val (.int pl),.val (.int ph),.val (.ref ol),.val (.int (3:Int32)),.val (.int (0:Int32)),.val (.ref o0),.val (.int ((pl.toUInt32>>>((6:Int32)&&&31).toUInt32).toInt32)),.val (.int ((ph.toUInt32>>>((6:Int32)&&&31).toUInt32).toInt32))] [(.int (1:Int32))])) _
        obtain ⟨fs, hr, hrun, hended, hW, hsame⟩ := X5.leave (v := some (.int (1:Int32))) (fun h => by rw [Bd.returns] at h; cases h)
        refine ⟨_, _, retN X5 hx (t := .boolean) Bd.returns (by simp) (hb hby d4_76) hr, hrun, hended, _, _, rfl, ?_, ⟨_, rfl⟩, hW, hsame.mono (by decide) (by decide)⟩
        show Q4d3 Z oa pl ph ol o0 o1 o2 gx gy gz wx wy wz nl nh h0 n0 _ T5.heap _
        rw [e5]
        exact ⟨(by rw [fn4d3, if_neg hc2, if_pos hc3, if_neg hc6]), N5, rfl⟩
    · refine Goes.by (fun _ k => XS.icmpYes X1.here hx rfl (pc0 := 48) (pc' := 77) rfl (hb hby d4_48) rfl (feq hc3).2 (by decide) (by decide) k) ?_
      show Goes p.tables e below (T1.setTop (mkF m 77 #[.val (.ref oa),.val (.int pl),.val (.int ph),.val (.ref ol),.val (.int (3:Int32)),.val (.int (0:Int32)),.val (.ref o0),.val (.int ((pl.toUInt32>>>((6:Int32)&&&31).toUInt32).toInt32)),.val (.int ((ph.toUInt32>>>((6:Int32)&&&31).toUInt32).toInt32))] [])) _
      refine Goes.by (fun _ k => XS.aload X1.here hx rfl (hb hby d4_77) rfl rfl k) ?_
      show Goes p.tables e below (T1.setTop (mkF m 79 #[.val (.ref oa),.val (.int pl),.val (.int ph),.val (.ref ol),.val (.int (3:Int32)),.val (.int (0:Int32)),.val (.ref o0),.val (.int ((pl.toUInt32>>>((6:Int32)&&&31).toUInt32).toInt32)),.val (.int ((ph.toUInt32>>>((6:Int32)&&&31).toUInt32).toInt32))] [(.ref o0)])) _
      refine Goes.by (fun _ k => XS.iload X1.here hx rfl (hb hby d4_79) rfl k) ?_
      show Goes p.tables e below (T1.setTop (mkF m 81 #[.val (.ref oa),.val (.int pl),.val (.int ph),.val (.ref ol),.val (.int (3:Int32)),.val (.int (0:Int32)),.val (.ref o0),.val (.int ((pl.toUInt32>>>((6:Int32)&&&31).toUInt32).toInt32)),.val (.int ((ph.toUInt32>>>((6:Int32)&&&31).toUInt32).toInt32))] [(.int ((pl.toUInt32>>>((6:Int32)&&&31).toUInt32).toInt32)), (.ref o0)])) _
      refine Goes.by (fun _ k => ldJ (v := (gx (nl / 64))) (fr := (mkF m 81 #[.val (.ref oa),.val (.int pl),.val (.int ph),.val (.ref ol),.val (.int (3:Int32)),.val (.int (0:Int32)),.val (.ref o0),.val (.int ((pl.toUInt32>>>((6:Int32)&&&31).toUInt32).toInt32)),.val (.int ((ph.toUInt32>>>((6:Int32)&&&31).toUInt32).toInt32))] [(.int ((pl.toUInt32>>>((6:Int32)&&&31).toUInt32).toInt32)), (.ref o0)])) X1 hx hZ e1 A_o0 (i := (nl / 64)) (own_sh6 _ _ (own_lv0 hlo hhi hwl hwh).1) (own_lv0 hlo hhi hwl hwh).2.2.1 rfl rfl rfl (hb hby d4_81) k) ?_
      show Goes p.tables e below (T1.setTop (mkF m 82 #[.val (.ref oa),.val (.int pl),.val (.int ph),.val (.ref ol),.val (.int (3:Int32)),.val (.int (0:Int32)),.val (.ref o0),.val (.int ((pl.toUInt32>>>((6:Int32)&&&31).toUInt32).toInt32)),.val (.int ((ph.toUInt32>>>((6:Int32)&&&31).toUInt32).toInt32))] [(.long (gx (nl / 64)))])) _
      refine Goes.by (fun _ k => XS.iloadN X1.here hx rfl (hb hby d4_82) rfl k) ?_
      show Goes p.tables e below (T1.setTop (mkF m 83 #[.val (.ref oa),.val (.int pl),.val (.int ph),.val (.ref ol),.val (.int (3:Int32)),.val (.int (0:Int32)),.val (.ref o0),.val (.int ((pl.toUInt32>>>((6:Int32)&&&31).toUInt32).toInt32)),.val (.int ((ph.toUInt32>>>((6:Int32)&&&31).toUInt32).toInt32))] [(.int pl), (.long (gx (nl / 64)))])) _
      obtain ⟨_, _, ⟨T7, L7, k7, n7⟩, -, X7, ⟨Lc7, hQ7, l7, y7, z7⟩, st7⟩ := Jvm.LawKit.callS X1 hx (y := (⟨"com/example/xml_graph_join/xmlgraphjoin/topo/BitLevels", "fromBit", "(I)J"⟩ : MethodName)) hown (mvT hZ (hw _ (List.mem_of_getElem? (i := 26) rfl))) (mvT hZ (hw _ (List.mem_of_getElem? (i := 27) rfl))) (mvT hZ (hw _ (List.mem_of_getElem? (i := 3) rfl))) (mvT hZ (hw _ (List.mem_of_getElem? (i := 28) rfl))) (by decide) (backOf (W := 2) (rm5 l Z a0 hw [] pl h0 n0 Z0) hZ (hw _ (List.mem_of_getElem? (i := 28) rfl)) (hw _ (List.mem_of_getElem? (i := 3) rfl)) (by decide) (by decide)) (g := (mkF m 83 #[.val (.ref oa),.val (.int pl),.val (.int ph),.val (.ref ol),.val (.int (3:Int32)),.val (.int (0:Int32)),.val (.ref o0),.val (.int ((pl.toUInt32>>>((6:Int32)&&&31).toUInt32).toInt32)),.val (.int ((ph.toUInt32>>>((6:Int32)&&&31).toUInt32).toInt32))] [(.int pl), (.long (gx (nl / 64)))])) rfl (by rw [hml]; rfl) (argsL := [(.int pl)]) (rest := [(.long (gx (nl / 64)))]) (lenOf pd_0 rfl) rfl (by show 2 * 0 + (2 + 0) ≤ _; decide) (hb hby d4_83) (fun _ _ => ⟨rfl, e1, (by decide : 0 + 0 ≤ _), (by decide : 0 + 0 ≤ _)⟩)
      dsimp only [Pt.U, Pt.locs, Pt.cells, Pt.slots] at X7 l7 y7 z7 st7 hQ7
      rw [l7, y7, z7] at X7
      obtain ⟨rfl, N7q, e7⟩ := hQ7
      have N7 := Fr.app N0 N7q
      refine Goes.by st7 ?_
      show Goes p.tables e below (T7.setTop (mkF m 86 #[.val (.ref oa),.val (.int pl),.val (.int ph),.val (.ref ol),.val (.int (3:Int32)),.val (.int (0:Int32)),.val (.ref o0),.val (.int ((pl.toUInt32>>>((6:Int32)&&&31).toUInt32).toInt32)),.val (.int ((ph.toUInt32>>>((6:Int32)&&&31).toUInt32).toInt32))] [(.long (fromB pl)), (.long (gx (nl / 64)))])) _
      refine Goes.by (fun _ k => XS.land X7.here hx rfl (hb hby d4_86) rfl k) ?_
      show Goes p.tables e below (T7.setTop (mkF m 87 #[.val (.ref oa),.val (.int pl),.val (.int ph),.val (.ref ol),.val (.int (3:Int32)),.val (.int (0:Int32)),.val (.ref o0),.val (.int ((pl.toUInt32>>>((6:Int32)&&&31).toUInt32).toInt32)),.val (.int ((ph.toUInt32>>>((6:Int32)&&&31).toUInt32).toInt32))] [(.long ((gx (nl / 64))&&&(fromB pl)))])) _
      refine Goes.by (fun _ k => XS.lconst X7.here hx rfl (hb hby d4_87) k) ?_
      show Goes p.tables e below (T7.setTop (mkF m 88 #[.val (.ref oa),.val (.int pl),.val (.int ph),.val (.ref ol),.val (.int (3:Int32)),.val (.int (0:Int32)),.val (.ref o0),.val (.int ((pl.toUInt32>>>((6:Int32)&&&31).toUInt32).toInt32)),.val (.int ((ph.toUInt32>>>((6:Int32)&&&31).toUInt32).toInt32))] [(.long (0:Int64)), (.long ((gx (nl / 64))&&&(fromB pl)))])) _
      refine Goes.by (fun _ k => XS.lcmp X7.here hx rfl (hb hby d4_88) rfl k) ?_
      show Goes p.tables e below (T7.setTop (mkF m 89 #[.val (.ref oa),.val (.int pl),.val (.int ph),.val (.ref ol),.val (.int (3:Int32)),.val (.int (0:Int32)),.val (.ref o0),.val (.int ((pl.toUInt32>>>((6:Int32)&&&31).toUInt32).toInt32)),.val (.int ((ph.toUInt32>>>((6:Int32)&&&31).toUInt32).toInt32))] [(.int (lcmpW ((gx (nl / 64))&&&(fromB pl)) (0:Int64)))])) _
      by_cases hc8 : ((gx (nl / 64))&&&(fromB pl)) = (0:Int64)
      · refine Goes.by (fun _ k => XS.ifNo X7.here hx rfl (hb hby d4_89) rfl (je_t hc8).2 k) ?_
        show Goes p.tables e below (T7.setTop (mkF m 92 #[.val (.ref oa),.val (.int pl),.val (.int ph),.val (.ref ol),.val (.int (3:Int32)),.val (.int (0:Int32)),.val (.ref o0),.val (.int ((pl.toUInt32>>>((6:Int32)&&&31).toUInt32).toInt32)),.val (.int ((ph.toUInt32>>>((6:Int32)&&&31).toUInt32).toInt32))] [])) _
        refine Goes.by (fun _ k => XS.aload X7.here hx rfl (hb hby d4_92) rfl rfl k) ?_
        show Goes p.tables e below (T7.setTop (mkF m 94 #[.val (.ref oa),.val (.int pl),.val (.int ph),.val (.ref ol),.val (.int (3:Int32)),.val (.int (0:Int32)),.val (.ref o0),.val (.int ((pl.toUInt32>>>((6:Int32)&&&31).toUInt32).toInt32)),.val (.int ((ph.toUInt32>>>((6:Int32)&&&31).toUInt32).toInt32))] [(.ref o0)])) _
        refine Goes.by (fun _ k => XS.iload X7.here hx rfl (hb hby d4_94) rfl k) ?_
        show Goes p.tables e below (T7.setTop (mkF m 96 #[.val (.ref oa),.val (.int pl),.val (.int ph),.val (.ref ol),.val (.int (3:Int32)),.val (.int (0:Int32)),.val (.ref o0),.val (.int ((pl.toUInt32>>>((6:Int32)&&&31).toUInt32).toInt32)),.val (.int ((ph.toUInt32>>>((6:Int32)&&&31).toUInt32).toInt32))] [(.int ((ph.toUInt32>>>((6:Int32)&&&31).toUInt32).toInt32)), (.ref o0)])) _
        refine Goes.by (fun _ k => ldJ (v := (gx (nh / 64))) (fr := (mkF m 96 #[.val (.ref oa),.val (.int pl),.val (.int ph),.val (.ref ol),.val (.int (3:Int32)),.val (.int (0:Int32)),.val (.ref o0),.val (.int ((pl.toUInt32>>>((6:Int32)&&&31).toUInt32).toInt32)),.val (.int ((ph.toUInt32>>>((6:Int32)&&&31).toUInt32).toInt32))] [(.int ((ph.toUInt32>>>((6:Int32)&&&31).toUInt32).toInt32)), (.ref o0)])) X7 hx hZ e7 A_o0 (i := (nh / 64)) (own_sh6 _ _ (own_lv0 hlo hhi hwl hwh).2.1) (own_lv0 hlo hhi hwl hwh).2.2.2 rfl rfl rfl (hb hby d4_96) k) ?_
        show Goes p.tables e below (T7.setTop (mkF m 97 #[.val (.ref oa),.val (.int pl),.val (.int ph),.val (.ref ol),.val (.int (3:Int32)),.val (.int (0:Int32)),.val (.ref o0),.val (.int ((pl.toUInt32>>>((6:Int32)&&&31).toUInt32).toInt32)),.val (.int ((ph.toUInt32>>>((6:Int32)&&&31).toUInt32).toInt32))] [(.long (gx (nh / 64)))])) _
        refine Goes.by (fun _ k => XS.iloadN X7.here hx rfl (hb hby d4_97) rfl k) ?_
        show Goes p.tables e below (T7.setTop (mkF m 98 #[.val (.ref oa),.val (.int pl),.val (.int ph),.val (.ref ol),.val (.int (3:Int32)),.val (.int (0:Int32)),.val (.ref o0),.val (.int ((pl.toUInt32>>>((6:Int32)&&&31).toUInt32).toInt32)),.val (.int ((ph.toUInt32>>>((6:Int32)&&&31).toUInt32).toInt32))] [(.int ph), (.long (gx (nh / 64)))])) _
        obtain ⟨_, _, ⟨T9, L9, k9, n9⟩, -, X9, ⟨Lc9, hQ9, l9, y9, z9⟩, st9⟩ := Jvm.LawKit.callS X7 hx (y := (⟨"com/example/xml_graph_join/xmlgraphjoin/topo/BitLevels", "upToBit", "(I)J"⟩ : MethodName)) hown (mvT hZ (hw _ (List.mem_of_getElem? (i := 30) rfl))) (mvT hZ (hw _ (List.mem_of_getElem? (i := 31) rfl))) (mvT hZ (hw _ (List.mem_of_getElem? (i := 3) rfl))) (mvT hZ (hw _ (List.mem_of_getElem? (i := 32) rfl))) (by decide) (backOf (W := 2) (rm6 l Z a0 hw [] ph h0 n0 Z0) hZ (hw _ (List.mem_of_getElem? (i := 32) rfl)) (hw _ (List.mem_of_getElem? (i := 3) rfl)) (by decide) (by decide)) (g := (mkF m 98 #[.val (.ref oa),.val (.int pl),.val (.int ph),.val (.ref ol),.val (.int (3:Int32)),.val (.int (0:Int32)),.val (.ref o0),.val (.int ((pl.toUInt32>>>((6:Int32)&&&31).toUInt32).toInt32)),.val (.int ((ph.toUInt32>>>((6:Int32)&&&31).toUInt32).toInt32))] [(.int ph), (.long (gx (nh / 64)))])) rfl (by rw [hml]; rfl) (argsL := [(.int ph)]) (rest := [(.long (gx (nh / 64)))]) (lenOf pd_0 rfl) rfl (by show 2 * 0 + (2 + 0) ≤ _; decide) (hb hby d4_98) (fun _ _ => ⟨rfl, e7, (by decide : 0 + 0 ≤ _), (by decide : 0 + 0 ≤ _)⟩)
        dsimp only [Pt.U, Pt.locs, Pt.cells, Pt.slots] at X9 l9 y9 z9 st9 hQ9
        rw [l9, y9, z9] at X9
        obtain ⟨rfl, N9q, e9⟩ := hQ9
        have N9 := Fr.app N7 N9q
        refine Goes.by st9 ?_
        show Goes p.tables e below (T9.setTop (mkF m 101 #[.val (.ref oa),.val (.int pl),.val (.int ph),.val (.ref ol),.val (.int (3:Int32)),.val (.int (0:Int32)),.val (.ref o0),.val (.int ((pl.toUInt32>>>((6:Int32)&&&31).toUInt32).toInt32)),.val (.int ((ph.toUInt32>>>((6:Int32)&&&31).toUInt32).toInt32))] [(.long (upB ph)), (.long (gx (nh / 64)))])) _
        refine Goes.by (fun _ k => XS.land X9.here hx rfl (hb hby d4_101) rfl k) ?_
        show Goes p.tables e below (T9.setTop (mkF m 102 #[.val (.ref oa),.val (.int pl),.val (.int ph),.val (.ref ol),.val (.int (3:Int32)),.val (.int (0:Int32)),.val (.ref o0),.val (.int ((pl.toUInt32>>>((6:Int32)&&&31).toUInt32).toInt32)),.val (.int ((ph.toUInt32>>>((6:Int32)&&&31).toUInt32).toInt32))] [(.long ((gx (nh / 64))&&&(upB ph)))])) _
        refine Goes.by (fun _ k => XS.lconst X9.here hx rfl (hb hby d4_102) k) ?_
        show Goes p.tables e below (T9.setTop (mkF m 103 #[.val (.ref oa),.val (.int pl),.val (.int ph),.val (.ref ol),.val (.int (3:Int32)),.val (.int (0:Int32)),.val (.ref o0),.val (.int ((pl.toUInt32>>>((6:Int32)&&&31).toUInt32).toInt32)),.val (.int ((ph.toUInt32>>>((6:Int32)&&&31).toUInt32).toInt32))] [(.long (0:Int64)), (.long ((gx (nh / 64))&&&(upB ph)))])) _
        refine Goes.by (fun _ k => XS.lcmp X9.here hx rfl (hb hby d4_103) rfl k) ?_
        show Goes p.tables e below (T9.setTop (mkF m 104 #[.val (.ref oa),.val (.int pl),.val (.int ph),.val (.ref ol),.val (.int (3:Int32)),.val (.int (0:Int32)),.val (.ref o0),.val (.int ((pl.toUInt32>>>((6:Int32)&&&31).toUInt32).toInt32)),.val (.int ((ph.toUInt32>>>((6:Int32)&&&31).toUInt32).toInt32))] [(.int (lcmpW ((gx (nh / 64))&&&(upB ph)) (0:Int64)))])) _
        by_cases hc10 : ((gx (nh / 64))&&&(upB ph)) = (0:Int64)
        · refine Goes.by (fun _ k => XS.ifYes X9.here hx rfl (pc0 := 104) (pc' := 109) rfl (hb hby d4_104) rfl (je_t hc10).1 (by decide) (by decide) k) ?_
          show Goes p.tables e below (T9.setTop (mkF m 109 #[.val (.ref oa),.val (.int pl),.val (.int ph),.val (.ref ol),.val (.int (3:Int32)),.val (.int (0:Int32)),.val (.ref o0),.val (.int ((pl.toUInt32>>>((6:Int32)&&&31).toUInt32).toInt32)),.val (.int ((ph.toUInt32>>>((6:Int32)&&&31).toUInt32).toInt32))] [])) _
          refine Goes.by (fun _ k => XS.iload X9.here hx rfl (hb hby d4_109) rfl k) ?_
          show Goes p.tables e below (T9.setTop (mkF m 111 #[.val (.ref oa),.val (.int pl),.val (.int ph),.val (.ref ol),.val (.int (3:Int32)),.val (.int (0:Int32)),.val (.ref o0),.val (.int ((pl.toUInt32>>>((6:Int32)&&&31).toUInt32).toInt32)),.val (.int ((ph.toUInt32>>>((6:Int32)&&&31).toUInt32).toInt32))] [(.int ((pl.toUInt32>>>((6:Int32)&&&31).toUInt32).toInt32))])) _
          refine Goes.by (fun _ k => XS.iconst X9.here hx rfl (hb hby d4_111) k) ?_
          show Goes p.tables e below (T9.setTop (mkF m 112 #[.val (.ref oa),.val (.int pl),.val (.int ph),.val (.ref ol),.val (.int (3:Int32)),.val (.int (0:Int32)),.val (.ref o0),.val (.int ((pl.toUInt32>>>((6:Int32)&&&31).toUInt32).toInt32)),.val (.int ((ph.toUInt32>>>((6:Int32)&&&31).toUInt32).toInt32))] [(.int (1:Int32)), (.int ((pl.toUInt32>>>((6:Int32)&&&31).toUInt32).toInt32))])) _
          refine Goes.by (fun _ k => XS.iadd X9.here hx rfl (hb hby d4_112) rfl k) ?_
          show Goes p.tables e below (T9.setTop (mkF m 113 #[.val (.ref oa),.val (.int pl),.val (.int ph),.val (.ref ol),.val (.int (3:Int32)),.val (.int (0:Int32)),.val (.ref o0),.val (.int ((pl.toUInt32>>>((6:Int32)&&&31).toUInt32).toInt32)),.val (.int ((ph.toUInt32>>>((6:Int32)&&&31).toUInt32).toInt32))] [(.int (((pl.toUInt32>>>((6:Int32)&&&31).toUInt32).toInt32) + (1:Int32)))])) _
          refine Goes.by (fun _ k => XS.istoreN X9.here hx rfl (hb hby d4_113) rfl (l' := #[.val (.ref oa),.val (.int (((pl.toUInt32>>>((6:Int32)&&&31).toUInt32).toInt32) + (1:Int32))),.val (.int ph),.val (.ref ol),.val (.int (3:Int32)),.val (.int (0:Int32)),.val (.ref o0),.val (.int ((pl.toUInt32>>>((6:Int32)&&&31).toUInt32).toInt32)),.val (.int ((ph.toUInt32>>>((6:Int32)&&&31).toUInt32).toInt32))]) rfl k) ?_
          show Goes p.tables e below (T9.setTop (mkF m 114 #[.val (.ref oa),.val (.int (((pl.toUInt32>>>((6:Int32)&&&31).toUInt32).toInt32) + (1:Int32))),.val (.int ph),.val (.ref ol),.val (.int (3:Int32)),.val (.int (0:Int32)),.val (.ref o0),.val (.int ((pl.toUInt32>>>((6:Int32)&&&31).toUInt32).toInt32)),.val (.int ((ph.toUInt32>>>((6:Int32)&&&31).toUInt32).toInt32))] [])) _
          refine Goes.by (fun _ k => XS.iload X9.here hx rfl (hb hby d4_114) rfl k) ?_
          show Goes p.tables e below (T9.setTop (mkF m 116 #[.val (.ref oa),.val (.int (((pl.toUInt32>>>((6:Int32)&&&31).toUInt32).toInt32) + (1:Int32))),.val (.int ph),.val (.ref ol),.val (.int (3:Int32)),.val (.int (0:Int32)),.val (.ref o0),.val (.int ((pl.toUInt32>>>((6:Int32)&&&31).toUInt32).toInt32)),.val (.int ((ph.toUInt32>>>((6:Int32)&&&31).toUInt32).toInt32))] [(.int ((ph.toUInt32>>>((6:Int32)&&&31).toUInt32).toInt32))])) _
          refine Goes.by (fun _ k => XS.iconst X9.here hx rfl (hb hby d4_116) k) ?_
          show Goes p.tables e below (T9.setTop (mkF m 117 #[.val (.ref oa),.val (.int (((pl.toUInt32>>>((6:Int32)&&&31).toUInt32).toInt32) + (1:Int32))),.val (.int ph),.val (.ref ol),.val (.int (3:Int32)),.val (.int (0:Int32)),.val (.ref o0),.val (.int ((pl.toUInt32>>>((6:Int32)&&&31).toUInt32).toInt32)),.val (.int ((ph.toUInt32>>>((6:Int32)&&&31).toUInt32).toInt32))] [(.int (1:Int32)), (.int ((ph.toUInt32>>>((6:Int32)&&&31).toUInt32).toInt32))])) _
          refine Goes.by (fun _ k => XS.isub X9.here hx rfl (hb hby d4_117) rfl k) ?_
          show Goes p.tables e below (T9.setTop (mkF m 118 #[.val (.ref oa),.val (.int (((pl.toUInt32>>>((6:Int32)&&&31).toUInt32).toInt32) + (1:Int32))),.val (.int ph),.val (.ref ol),.val (.int (3:Int32)),.val (.int (0:Int32)),.val (.ref o0),.val (.int ((pl.toUInt32>>>((6:Int32)&&&31).toUInt32).toInt32)),.val (.int ((ph.toUInt32>>>((6:Int32)&&&31).toUInt32).toInt32))] [(.int (((ph.toUInt32>>>((6:Int32)&&&31).toUInt32).toInt32) - (1:Int32)))])) _
          refine Goes.by (fun _ k => XS.istoreN X9.here hx rfl (hb hby d4_118) rfl (l' := #[.val (.ref oa),.val (.int (((pl.toUInt32>>>((6:Int32)&&&31).toUInt32).toInt32) + (1:Int32))),.val (.int (((ph.toUInt32>>>((6:Int32)&&&31).toUInt32).toInt32) - (1:Int32))),.val (.ref ol),.val (.int (3:Int32)),.val (.int (0:Int32)),.val (.ref o0),.val (.int ((pl.toUInt32>>>((6:Int32)&&&31).toUInt32).toInt32)),.val (.int ((ph.toUInt32>>>((6:Int32)&&&31).toUInt32).toInt32))]) rfl k) ?_
          show Goes p.tables e below (T9.setTop (mkF m 119 #[.val (.ref oa),.val (.int (((pl.toUInt32>>>((6:Int32)&&&31).toUInt32).toInt32) + (1:Int32))),.val (.int (((ph.toUInt32>>>((6:Int32)&&&31).toUInt32).toInt32) - (1:Int32))),.val (.ref ol),.val (.int (3:Int32)),.val (.int (0:Int32)),.val (.ref o0),.val (.int ((pl.toUInt32>>>((6:Int32)&&&31).toUInt32).toInt32)),.val (.int ((ph.toUInt32>>>((6:Int32)&&&31).toUInt32).toInt32))] [])) _
          refine Goes.by (fun _ k => XS.iinc X9.here hx rfl (hb hby d4_119) rfl (l' := #[.val (.ref oa),.val (.int (((pl.toUInt32>>>((6:Int32)&&&31).toUInt32).toInt32) + (1:Int32))),.val (.int (((ph.toUInt32>>>((6:Int32)&&&31).toUInt32).toInt32) - (1:Int32))),.val (.ref ol),.val (.int (3:Int32)),.val (.int (1:Int32)),.val (.ref o0),.val (.int ((pl.toUInt32>>>((6:Int32)&&&31).toUInt32).toInt32)),.val (.int ((ph.toUInt32>>>((6:Int32)&&&31).toUInt32).toInt32))]) rfl k) ?_
          show Goes p.tables e below (T9.setTop (mkF m 122 #[.val (.ref oa),.val (.int (((pl.toUInt32>>>((6:Int32)&&&31).toUInt32).toInt32) + (1:Int32))),.val (.int (((ph.toUInt32>>>((6:Int32)&&&31).toUInt32).toInt32) - (1:Int32))),.val (.ref ol),.val (.int (3:Int32)),.val (.int (1:Int32)),.val (.ref o0),.val (.int ((pl.toUInt32>>>((6:Int32)&&&31).toUInt32).toInt32)),.val (.int ((ph.toUInt32>>>((6:Int32)&&&31).toUInt32).toInt32))] [])) _
          refine Goes.by (fun _ k => XS.goto X9.here hx rfl (pc0 := 122) (pc' := 12) rfl (hb hby d4_122) (by decide) (by decide) k) ?_
          show Goes p.tables e below (T9.setTop (mkF m 12 #[.val (.ref oa),.val (.int (((pl.toUInt32>>>((6:Int32)&&&31).toUInt32).toInt32) + (1:Int32))),.val (.int (((ph.toUInt32>>>((6:Int32)&&&31).toUInt32).toInt32) - (1:Int32))),.val (.ref ol),.val (.int (3:Int32)),.val (.int (1:Int32)),.val (.ref o0),.val (.int ((pl.toUInt32>>>((6:Int32)&&&31).toUInt32).toInt32)),.val (.int ((ph.toUInt32>>>((6:Int32)&&&31).toUInt32).toInt32))] [])) _
          refine Goes.by (fun _ k => XS.iload X9.here hx rfl (hb hby d4_12) rfl k) ?_
          show Goes p.tables e below (T9.setTop (mkF m 14 #[.val (.ref oa),.val (.int (((pl.toUInt32>>>((6:Int32)&&&31).toUInt32).toInt32) + (1:Int32))),.val (.int (((ph.toUInt32>>>((6:Int32)&&&31).toUInt32).toInt32) - (1:Int32))),.val (.ref ol),.val (.int (3:Int32)),.val (.int (1:Int32)),.val (.ref o0),.val (.int ((pl.toUInt32>>>((6:Int32)&&&31).toUInt32).toInt32)),.val (.int ((ph.toUInt32>>>((6:Int32)&&&31).toUInt32).toInt32))] [(.int (1:Int32))])) _
          refine Goes.by (fun _ k => XS.iload X9.here hx rfl (hb hby d4_14) rfl k) ?_
          show Goes p.tables e below (T9.setTop (mkF m 16 #[.val (.ref oa),.val (.int (((pl.toUInt32>>>((6:Int32)&&&31).toUInt32).toInt32) + (1:Int32))),.val (.int (((ph.toUInt32>>>((6:Int32)&&&31).toUInt32).toInt32) - (1:Int32))),.val (.ref ol),.val (.int (3:Int32)),.val (.int (1:Int32)),.val (.ref o0),.val (.int ((pl.toUInt32>>>((6:Int32)&&&31).toUInt32).toInt32)),.val (.int ((ph.toUInt32>>>((6:Int32)&&&31).toUInt32).toInt32))] [(.int (3:Int32)), (.int (1:Int32))])) _
          refine Goes.by (fun _ k => XS.icmpNo X9.here hx rfl (hb hby d4_16) rfl (tlt (by decide : (1:Int32) < (3:Int32))).2.1 k) ?_
          show Goes p.tables e below (T9.setTop (mkF m 19 #[.val (.ref oa),.val (.int (((pl.toUInt32>>>((6:Int32)&&&31).toUInt32).toInt32) + (1:Int32))),.val (.int (((ph.toUInt32>>>((6:Int32)&&&31).toUInt32).toInt32) - (1:Int32))),.val (.ref ol),.val (.int (3:Int32)),.val (.int (1:Int32)),.val (.ref o0),.val (.int ((pl.toUInt32>>>((6:Int32)&&&31).toUInt32).toInt32)),.val (.int ((ph.toUInt32>>>((6:Int32)&&&31).toUInt32).toInt32))] [])) _
          refine Goes.by (fun _ k => XS.aloadN X9.here hx rfl (hb hby d4_19) rfl rfl k) ?_
          show Goes p.tables e below (T9.setTop (mkF m 20 #[.val (.ref oa),.val (.int (((pl.toUInt32>>>((6:Int32)&&&31).toUInt32).toInt32) + (1:Int32))),.val (.int (((ph.toUInt32>>>((6:Int32)&&&31).toUInt32).toInt32) - (1:Int32))),.val (.ref ol),.val (.int (3:Int32)),.val (.int (1:Int32)),.val (.ref o0),.val (.int ((pl.toUInt32>>>((6:Int32)&&&31).toUInt32).toInt32)),.val (.int ((ph.toUInt32>>>((6:Int32)&&&31).toUInt32).toInt32))] [(.ref ol)])) _
          refine Goes.by (fun _ k => XS.iload X9.here hx rfl (hb hby d4_20) rfl k) ?_
          show Goes p.tables e below (T9.setTop (mkF m 22 #[.val (.ref oa),.val (.int (((pl.toUInt32>>>((6:Int32)&&&31).toUInt32).toInt32) + (1:Int32))),.val (.int (((ph.toUInt32>>>((6:Int32)&&&31).toUInt32).toInt32) - (1:Int32))),.val (.ref ol),.val (.int (3:Int32)),.val (.int (1:Int32)),.val (.ref o0),.val (.int ((pl.toUInt32>>>((6:Int32)&&&31).toUInt32).toInt32)),.val (.int ((ph.toUInt32>>>((6:Int32)&&&31).toUInt32).toInt32))] [(.int (1:Int32)), (.ref ol)])) _
          refine Goes.by (fun _ k => ldR (v := (.ref o1)) (fr := (mkF m 22 #[.val (.ref oa),.val (.int (((pl.toUInt32>>>((6:Int32)&&&31).toUInt32).toInt32) + (1:Int32))),.val (.int (((ph.toUInt32>>>((6:Int32)&&&31).toUInt32).toInt32) - (1:Int32))),.val (.ref ol),.val (.int (3:Int32)),.val (.int (1:Int32)),.val (.ref o0),.val (.int ((pl.toUInt32>>>((6:Int32)&&&31).toUInt32).toInt32)),.val (.int ((ph.toUInt32>>>((6:Int32)&&&31).toUInt32).toInt32))] [(.int (1:Int32)), (.ref ol)])) X9 hx hZ e9 A_ol rfl (i := 1) (by decide) (by decide) rfl rfl rfl (hb hby d4_22) k) ?_
          show Goes p.tables e below (T9.setTop (mkF m 23 #[.val (.ref oa),.val (.int (((pl.toUInt32>>>((6:Int32)&&&31).toUInt32).toInt32) + (1:Int32))),.val (.int (((ph.toUInt32>>>((6:Int32)&&&31).toUInt32).toInt32) - (1:Int32))),.val (.ref ol),.val (.int (3:Int32)),.val (.int (1:Int32)),.val (.ref o0),.val (.int ((pl.toUInt32>>>((6:Int32)&&&31).toUInt32).toInt32)),.val (.int ((ph.toUInt32>>>((6:Int32)&&&31).toUInt32).toInt32))] [(.ref o1)])) _
          refine Goes.by (fun _ k => XS.astore X9.here hx rfl (hb hby d4_23) rfl rfl (l' := #[.val (.ref oa),.val (.int (((pl.toUInt32>>>((6:Int32)&&&31).toUInt32).toInt32) + (1:Int32))),.val (.int (((ph.toUInt32>>>((6:Int32)&&&31).toUInt32).toInt32) - (1:Int32))),.val (.ref ol),.val (.int (3:Int32)),.val (.int (1:Int32)),.val (.ref o1),.val (.int ((pl.toUInt32>>>((6:Int32)&&&31).toUInt32).toInt32)),.val (.int ((ph.toUInt32>>>((6:Int32)&&&31).toUInt32).toInt32))]) rfl k) ?_
          show Goes p.tables e below (T9.setTop (mkF m 25 #[.val (.ref oa),.val (.int (((pl.toUInt32>>>((6:Int32)&&&31).toUInt32).toInt32) + (1:Int32))),.val (.int (((ph.toUInt32>>>((6:Int32)&&&31).toUInt32).toInt32) - (1:Int32))),.val (.ref ol),.val (.int (3:Int32)),.val (.int (1:Int32)),.val (.ref o1),.val (.int ((pl.toUInt32>>>((6:Int32)&&&31).toUInt32).toInt32)),.val (.int ((ph.toUInt32>>>((6:Int32)&&&31).toUInt32).toInt32))] [])) _
          refine Goes.by (fun _ k => XS.iloadN X9.here hx rfl (hb hby d4_25) rfl k) ?_
          show Goes p.tables e below (T9.setTop (mkF m 26 #[.val (.ref oa),.val (.int (((pl.toUInt32>>>((6:Int32)&&&31).toUInt32).toInt32) + (1:Int32))),.val (.int (((ph.toUInt32>>>((6:Int32)&&&31).toUInt32).toInt32) - (1:Int32))),.val (.ref ol),.val (.int (3:Int32)),.val (.int (1:Int32)),.val (.ref o1),.val (.int ((pl.toUInt32>>>((6:Int32)&&&31).toUInt32).toInt32)),.val (.int ((ph.toUInt32>>>((6:Int32)&&&31).toUInt32).toInt32))] [(.int (((ph.toUInt32>>>((6:Int32)&&&31).toUInt32).toInt32) - (1:Int32)))])) _
          refine Goes.by (fun _ k => XS.iloadN X9.here hx rfl (hb hby d4_26) rfl k) ?_
          show Goes p.tables e below (T9.setTop (mkF m 27 #[.val (.ref oa),.val (.int (((pl.toUInt32>>>((6:Int32)&&&31).toUInt32).toInt32) + (1:Int32))),.val (.int (((ph.toUInt32>>>((6:Int32)&&&31).toUInt32).toInt32) - (1:Int32))),.val (.ref ol),.val (.int (3:Int32)),.val (.int (1:Int32)),.val (.ref o1),.val (.int ((pl.toUInt32>>>((6:Int32)&&&31).toUInt32).toInt32)),.val (.int ((ph.toUInt32>>>((6:Int32)&&&31).toUInt32).toInt32))] [(.int (((pl.toUInt32>>>((6:Int32)&&&31).toUInt32).toInt32) + (1:Int32))), (.int (((ph.toUInt32>>>((6:Int32)&&&31).toUInt32).toInt32) - (1:Int32)))])) _
          by_cases hc11 : (((ph.toUInt32>>>((6:Int32)&&&31).toUInt32).toInt32) - (1:Int32)) < (((pl.toUInt32>>>((6:Int32)&&&31).toUInt32).toInt32) + (1:Int32))
          · refine Goes.by (fun _ k => XS.icmpNo X9.here hx rfl (hb hby d4_27) rfl (tlt hc11).2.1 k) ?_
            show Goes p.tables e below (T9.setTop (mkF m 30 #[.val (.ref oa),.val (.int (((pl.toUInt32>>>((6:Int32)&&&31).toUInt32).toInt32) + (1:Int32))),.val (.int (((ph.toUInt32>>>((6:Int32)&&&31).toUInt32).toInt32) - (1:Int32))),.val (.ref ol),.val (.int (3:Int32)),.val (.int (1:Int32)),.val (.ref o1),.val (.int ((pl.toUInt32>>>((6:Int32)&&&31).toUInt32).toInt32)),.val (.int ((ph.toUInt32>>>((6:Int32)&&&31).toUInt32).toInt32))] [])) _
            refine Goes.by (fun _ k => XS.iconst X9.here hx rfl (hb hby d4_30) k) ?_
            show Goes p.tables e below (T9.setTop (mkF m 31 #[.val (.ref oa),.val (.int (((pl.toUInt32>>>((6:Int32)&&&31).toUInt32).toInt32) + (1:Int32))),.val (.int (((ph.toUInt32>>>((6:Int32)&&&31).toUInt32).toInt32) - (1:Int32))),.val (.ref ol),.val (.int (3:Int32)),.val (.int (1:Int32)),.val (.ref o1),.val (.int ((pl.toUInt32>>>((6:Int32)&&&31).toUInt32).toInt32)),.val (.int ((ph.toUInt32>>>((6:Int32)&&&31).toUInt32).toInt32))] [(.int (0:Int32))])) _
            obtain ⟨fs, hr, hrun, hended, hW, hsame⟩ := X9.leave (v := some (.int (0:Int32))) (fun h => by rw [Bd.returns] at h; cases h)
            refine ⟨_, _, retN X9 hx (t := .boolean) Bd.returns (by simp) (hb hby d4_31) hr, hrun, hended, _, _, rfl, ?_, ⟨_, rfl⟩, hW, hsame.mono (by decide) (by decide)⟩
            show Q4d3 Z oa pl ph ol o0 o1 o2 gx gy gz wx wy wz nl nh h0 n0 _ T9.heap _
            rw [e9]
            exact ⟨(by rw [fn4d3, if_neg hc2, if_neg hc3, if_pos hc8, if_pos hc10, if_pos hc11]), N9, rfl⟩
          · refine Goes.by (fun _ k => XS.icmpYes X9.here hx rfl (pc0 := 27) (pc' := 32) rfl (hb hby d4_27) rfl (flt hc11).2.1 (by decide) (by decide) k) ?_
            show Goes p.tables e below (T9.setTop (mkF m 32 #[.val (.ref oa),.val (.int (((pl.toUInt32>>>((6:Int32)&&&31).toUInt32).toInt32) + (1:Int32))),.val (.int (((ph.toUInt32>>>((6:Int32)&&&31).toUInt32).toInt32) - (1:Int32))),.val (.ref ol),.val (.int (3:Int32)),.val (.int (1:Int32)),.val (.ref o1),.val (.int ((pl.toUInt32>>>((6:Int32)&&&31).toUInt32).toInt32)),.val (.int ((ph.toUInt32>>>((6:Int32)&&&31).toUInt32).toInt32))] [])) _
            refine Goes.by (fun _ k => XS.iloadN X9.here hx rfl (hb hby d4_32) rfl k) ?_
            show Goes p.tables e below (T9.setTop (mkF m 33 #[.val (.ref oa),.val (.int (((pl.toUInt32>>>((6:Int32)&&&31).toUInt32).toInt32) + (1:Int32))),.val (.int (((ph.toUInt32>>>((6:Int32)&&&31).toUInt32).toInt32) - (1:Int32))),.val (.ref ol),.val (.int (3:Int32)),.val (.int (1:Int32)),.val (.ref o1),.val (.int ((pl.toUInt32>>>((6:Int32)&&&31).toUInt32).toInt32)),.val (.int ((ph.toUInt32>>>((6:Int32)&&&31).toUInt32).toInt32))] [(.int (((pl.toUInt32>>>((6:Int32)&&&31).toUInt32).toInt32) + (1:Int32)))])) _
            refine Goes.by (fun _ k => XS.bipush X9.here hx rfl (hb hby d4_33) k) ?_
            show Goes p.tables e below (T9.setTop (mkF m 35 #[.val (.ref oa),.val (.int (((pl.toUInt32>>>((6:Int32)&&&31).toUInt32).toInt32) + (1:Int32))),.val (.int (((ph.toUInt32>>>((6:Int32)&&&31).toUInt32).toInt32) - (1:Int32))),.val (.ref ol),.val (.int (3:Int32)),.val (.int (1:Int32)),.val (.ref o1),.val (.int ((pl.toUInt32>>>((6:Int32)&&&31).toUInt32).toInt32)),.val (.int ((ph.toUInt32>>>((6:Int32)&&&31).toUInt32).toInt32))] [(.int (6:Int32)), (.int (((pl.toUInt32>>>((6:Int32)&&&31).toUInt32).toInt32) + (1:Int32)))])) _
            refine Goes.by (fun _ k => XS.iushr X9.here hx rfl (hb hby d4_35) rfl k) ?_
            show Goes p.tables e below (T9.setTop (mkF m 36 #[.val (.ref oa),.val (.int (((pl.toUInt32>>>((6:Int32)&&&31).toUInt32).toInt32) + (1:Int32))),.val (.int (((ph.toUInt32>>>((6:Int32)&&&31).toUInt32).toInt32) - (1:Int32))),.val (.ref ol),.val (.int (3:Int32)),.val (.int (1:Int32)),.val (.ref o1),.val (.int ((pl.toUInt32>>>((6:Int32)&&&31).toUInt32).toInt32)),.val (.int ((ph.toUInt32>>>((6:Int32)&&&31).toUInt32).toInt32))] [(.int (((((pl.toUInt32>>>((6:Int32)&&&31).toUInt32).toInt32) + (1:Int32)).toUInt32>>>((6:Int32)&&&31).toUInt32).toInt32))])) _
            refine Goes.by (fun _ k => XS.istore X9.here hx rfl (hb hby d4_36) rfl (l' := #[.val (.ref oa),.val (.int (((pl.toUInt32>>>((6:Int32)&&&31).toUInt32).toInt32) + (1:Int32))),.val (.int (((ph.toUInt32>>>((6:Int32)&&&31).toUInt32).toInt32) - (1:Int32))),.val (.ref ol),.val (.int (3:Int32)),.val (.int (1:Int32)),.val (.ref o1),.val (.int (((((pl.toUInt32>>>((6:Int32)&&&31).toUInt32).toInt32) + (1:Int32)).toUInt32>>>((6:Int32)&&&31).toUInt32).toInt32)),.val (.int ((ph.toUInt32>>>((6:Int32)&&&31).toUInt32).toInt32))]) rfl k) ?_
            show Goes p.tables e below (T9.setTop (mkF m 38 #[.val (.ref oa),.val (.int (((pl.toUInt32>>>((6:Int32)&&&31).toUInt32).toInt32) + (1:Int32))),.val (.int (((ph.toUInt32>>>((6:Int32)&&&31).toUInt32).toInt32) - (1:Int32))),.val (.ref ol),.val (.int (3:Int32)),.val (.int (1:Int32)),.val (.ref o1),.val (.int (((((pl.toUInt32>>>((6:Int32)&&&31).toUInt32).toInt32) + (1:Int32)).toUInt32>>>((6:Int32)&&&31).toUInt32).toInt32)),.val (.int ((ph.toUInt32>>>((6:Int32)&&&31).toUInt32).toInt32))] [])) _
            refine Goes.by (fun _ k => XS.iloadN X9.here hx rfl (hb hby d4_38) rfl k) ?_
            show Goes p.tables e below (T9.setTop (mkF m 39 #[.val (.ref oa),.val (.int (((pl.toUInt32>>>((6:Int32)&&&31).toUInt32).toInt32) + (1:Int32))),.val (.int (((ph.toUInt32>>>((6:Int32)&&&31).toUInt32).toInt32) - (1:Int32))),.val (.ref ol),.val (.int (3:Int32)),.val (.int (1:Int32)),.val (.ref o1),.val (.int (((((pl.toUInt32>>>((6:Int32)&&&31).toUInt32).toInt32) + (1:Int32)).toUInt32>>>((6:Int32)&&&31).toUInt32).toInt32)),.val (.int ((ph.toUInt32>>>((6:Int32)&&&31).toUInt32).toInt32))] [(.int (((ph.toUInt32>>>((6:Int32)&&&31).toUInt32).toInt32) - (1:Int32)))])) _
            refine Goes.by (fun _ k => XS.bipush X9.here hx rfl (hb hby d4_39) k) ?_
            show Goes p.tables e below (T9.setTop (mkF m 41 #[.val (.ref oa),.val (.int (((pl.toUInt32>>>((6:Int32)&&&31).toUInt32).toInt32) + (1:Int32))),.val (.int (((ph.toUInt32>>>((6:Int32)&&&31).toUInt32).toInt32) - (1:Int32))),.val (.ref ol),.val (.int (3:Int32)),.val (.int (1:Int32)),.val (.ref o1),.val (.int (((((pl.toUInt32>>>((6:Int32)&&&31).toUInt32).toInt32) + (1:Int32)).toUInt32>>>((6:Int32)&&&31).toUInt32).toInt32)),.val (.int ((ph.toUInt32>>>((6:Int32)&&&31).toUInt32).toInt32))] [(.int (6:Int32)), (.int (((ph.toUInt32>>>((6:Int32)&&&31).toUInt32).toInt32) - (1:Int32)))])) _
            refine Goes.by (fun _ k => XS.iushr X9.here hx rfl (hb hby d4_41) rfl k) ?_
            show Goes p.tables e below (T9.setTop (mkF m 42 #[.val (.ref oa),.val (.int (((pl.toUInt32>>>((6:Int32)&&&31).toUInt32).toInt32) + (1:Int32))),.val (.int (((ph.toUInt32>>>((6:Int32)&&&31).toUInt32).toInt32) - (1:Int32))),.val (.ref ol),.val (.int (3:Int32)),.val (.int (1:Int32)),.val (.ref o1),.val (.int (((((pl.toUInt32>>>((6:Int32)&&&31).toUInt32).toInt32) + (1:Int32)).toUInt32>>>((6:Int32)&&&31).toUInt32).toInt32)),.val (.int ((ph.toUInt32>>>((6:Int32)&&&31).toUInt32).toInt32))] [(.int (((((ph.toUInt32>>>((6:Int32)&&&31).toUInt32).toInt32) - (1:Int32)).toUInt32>>>((6:Int32)&&&31).toUInt32).toInt32))])) _
            refine Goes.by (fun _ k => XS.istore X9.here hx rfl (hb hby d4_42) rfl (l' := #[.val (.ref oa),.val (.int (((pl.toUInt32>>>((6:Int32)&&&31).toUInt32).toInt32) + (1:Int32))),.val (.int (((ph.toUInt32>>>((6:Int32)&&&31).toUInt32).toInt32) - (1:Int32))),.val (.ref ol),.val (.int (3:Int32)),.val (.int (1:Int32)),.val (.ref o1),.val (.int (((((pl.toUInt32>>>((6:Int32)&&&31).toUInt32).toInt32) + (1:Int32)).toUInt32>>>((6:Int32)&&&31).toUInt32).toInt32)),.val (.int (((((ph.toUInt32>>>((6:Int32)&&&31).toUInt32).toInt32) - (1:Int32)).toUInt32>>>((6:Int32)&&&31).toUInt32).toInt32))]) rfl k) ?_
            show Goes p.tables e below (T9.setTop (mkF m 44 #[.val (.ref oa),.val (.int (((pl.toUInt32>>>((6:Int32)&&&31).toUInt32).toInt32) + (1:Int32))),.val (.int (((ph.toUInt32>>>((6:Int32)&&&31).toUInt32).toInt32) - (1:Int32))),.val (.ref ol),.val (.int (3:Int32)),.val (.int (1:Int32)),.val (.ref o1),.val (.int (((((pl.toUInt32>>>((6:Int32)&&&31).toUInt32).toInt32) + (1:Int32)).toUInt32>>>((6:Int32)&&&31).toUInt32).toInt32)),.val (.int (((((ph.toUInt32>>>((6:Int32)&&&31).toUInt32).toInt32) - (1:Int32)).toUInt32>>>((6:Int32)&&&31).toUInt32).toInt32))] [])) _
            refine Goes.by (fun _ k => XS.iload X9.here hx rfl (hb hby d4_44) rfl k) ?_
            show Goes p.tables e below (T9.setTop (mkF m 46 #[.val (.ref oa),.val (.int (((pl.toUInt32>>>((6:Int32)&&&31).toUInt32).toInt32) + (1:Int32))),.val (.int (((ph.toUInt32>>>((6:Int32)&&&31).toUInt32).toInt32) - (1:Int32))),.val (.ref ol),.val (.int (3:Int32)),.val (.int (1:Int32)),.val (.ref o1),.val (.int (((((pl.toUInt32>>>((6:Int32)&&&31).toUInt32).toInt32) + (1:Int32)).toUInt32>>>((6:Int32)&&&31).toUInt32).toInt32)),.val (.int (((((ph.toUInt32>>>((6:Int32)&&&31).toUInt32).toInt32) - (1:Int32)).toUInt32>>>((6:Int32)&&&31).toUInt32).toInt32))] [(.int (((((pl.toUInt32>>>((6:Int32)&&&31).toUInt32).toInt32) + (1:Int32)).toUInt32>>>((6:Int32)&&&31).toUInt32).toInt32))])) _
            refine Goes.by (fun _ k => XS.iload X9.here hx rfl (hb hby d4_46) rfl k) ?_
            show Goes p.tables e below (T9.setTop (mkF m 48 #[.val (.ref oa),.val (.int (((pl.toUInt32>>>((6:Int32)&&&31).toUInt32).toInt32) + (1:Int32))),.val (.int (((ph.toUInt32>>>((6:Int32)&&&31).toUInt32).toInt32) - (1:Int32))),.val (.ref ol),.val (.int (3:Int32)),.val (.int (1:Int32)),.val (.ref o1),.val (.int (((((pl.toUInt32>>>((6:Int32)&&&31).toUInt32).toInt32) + (1:Int32)).toUInt32>>>((6:Int32)&&&31).toUInt32).toInt32)),.val (.int (((((ph.toUInt32>>>((6:Int32)&&&31).toUInt32).toInt32) - (1:Int32)).toUInt32>>>((6:Int32)&&&31).toUInt32).toInt32))] [(.int (((((ph.toUInt32>>>((6:Int32)&&&31).toUInt32).toInt32) - (1:Int32)).toUInt32>>>((6:Int32)&&&31).toUInt32).toInt32)), (.int (((((pl.toUInt32>>>((6:Int32)&&&31).toUInt32).toInt32) + (1:Int32)).toUInt32>>>((6:Int32)&&&31).toUInt32).toInt32))])) _
            by_cases hc12 : (((((pl.toUInt32>>>((6:Int32)&&&31).toUInt32).toInt32) + (1:Int32)).toUInt32>>>((6:Int32)&&&31).toUInt32).toInt32) = (((((ph.toUInt32>>>((6:Int32)&&&31).toUInt32).toInt32) - (1:Int32)).toUInt32>>>((6:Int32)&&&31).toUInt32).toInt32)
            · refine Goes.by (fun _ k => XS.icmpNo X9.here hx rfl (hb hby d4_48) rfl (teq hc12).2 k) ?_
              show Goes p.tables e below (T9.setTop (mkF m 51 #[.val (.ref oa),.val (.int (((pl.toUInt32>>>((6:Int32)&&&31).toUInt32).toInt32) + (1:Int32))),.val (.int (((ph.toUInt32>>>((6:Int32)&&&31).toUInt32).toInt32) - (1:Int32))),.val (.ref ol),.val (.int (3:Int32)),.val (.int (1:Int32)),.val (.ref o1),.val (.int (((((pl.toUInt32>>>((6:Int32)&&&31).toUInt32).toInt32) + (1:Int32)).toUInt32>>>((6:Int32)&&&31).toUInt32).toInt32)),.val (.int (((((ph.toUInt32>>>((6:Int32)&&&31).toUInt32).toInt32) - (1:Int32)).toUInt32>>>((6:Int32)&&&31).toUInt32).toInt32))] [])) _
              refine Goes.by (fun _ k => XS.aload X9.here hx rfl (hb hby d4_51) rfl rfl k) ?_
              show Goes p.tables e below (T9.setTop (mkF m 53 #[.val (.ref oa),.val (.int (((pl.toUInt32>>>((6:Int32)&&&31).toUInt32).toInt32) + (1:Int32))),.val (.int (((ph.toUInt32>>>((6:Int32)&&&31).toUInt32).toInt32) - (1:Int32))),.val (.ref ol),.val (.int (3:Int32)),.val (.int (1:Int32)),.val (.ref o1),.val (.int (((((pl.toUInt32>>>((6:Int32)&&&31).toUInt32).toInt32) + (1:Int32)).toUInt32>>>((6:Int32)&&&31).toUInt32).toInt32)),.val (.int (((((ph.toUInt32>>>((6:Int32)&&&31).toUInt32).toInt32) - (1:Int32)).toUInt32>>>((6:Int32)&&&31).toUInt32).toInt32))] [(.ref o1)])) _
              refine Goes.by (fun _ k => XS.iload X9.here hx rfl (hb hby d4_53) rfl k) ?_
              show Goes p.tables e below (T9.setTop (mkF m 55 #[.val (.ref oa),.val (.int (((pl.toUInt32>>>((6:Int32)&&&31).toUInt32).toInt32) + (1:Int32))),.val (.int (((ph.toUInt32>>>((6:Int32)&&&31).toUInt32).toInt32) - (1:Int32))),.val (.ref ol),.val (.int (3:Int32)),.val (.int (1:Int32)),.val (.ref o1),.val (.int (((((pl.toUInt32>>>((6:Int32)&&&31).toUInt32).toInt32) + (1:Int32)).toUInt32>>>((6:Int32)&&&31).toUInt32).toInt32)),.val (.int (((((ph.toUInt32>>>((6:Int32)&&&31).toUInt32).toInt32) - (1:Int32)).toUInt32>>>((6:Int32)&&&31).toUInt32).toInt32))] [(.int (((((pl.toUInt32>>>((6:Int32)&&&31).toUInt32).toInt32) + (1:Int32)).toUInt32>>>((6:Int32)&&&31).toUInt32).toInt32)), (.ref o1)])) _
              refine Goes.by (fun _ k => ldJ (v := (gy ((nl / 64 + 1) / 64))) (fr := (mkF m 55 #[.val (.ref oa),.val (.int (((pl.toUInt32>>>((6:Int32)&&&31).toUInt32).toInt32) + (1:Int32))),.val (.int (((ph.toUInt32>>>((6:Int32)&&&31).toUInt32).toInt32) - (1:Int32))),.val (.ref ol),.val (.int (3:Int32)),.val (.int (1:Int32)),.val (.ref o1),.val (.int (((((pl.toUInt32>>>((6:Int32)&&&31).toUInt32).toInt32) + (1:Int32)).toUInt32>>>((6:Int32)&&&31).toUInt32).toInt32)),.val (.int (((((ph.toUInt32>>>((6:Int32)&&&31).toUInt32).toInt32) - (1:Int32)).toUInt32>>>((6:Int32)&&&31).toUInt32).toInt32))] [(.int (((((pl.toUInt32>>>((6:Int32)&&&31).toUInt32).toInt32) + (1:Int32)).toUInt32>>>((6:Int32)&&&31).toUInt32).toInt32)), (.ref o1)])) X9 hx hZ e9 A_o1 (i := ((nl / 64 + 1) / 64)) (own_sh6 _ _ (own_lv hlo hhi hwh hx1 hc3 hc11).1) (own_lv hlo hhi hwh hx1 hc3 hc11).2.2.1 rfl rfl rfl (hb hby d4_55) k) ?_
              show Goes p.tables e below (T9.setTop (mkF m 56 #[.val (.ref oa),.val (.int (((pl.toUInt32>>>((6:Int32)&&&31).toUInt32).toInt32) + (1:Int32))),.val (.int (((ph.toUInt32>>>((6:Int32)&&&31).toUInt32).toInt32) - (1:Int32))),.val (.ref ol),.val (.int (3:Int32)),.val (.int (1:Int32)),.val (.ref o1),.val (.int (((((pl.toUInt32>>>((6:Int32)&&&31).toUInt32).toInt32) + (1:Int32)).toUInt32>>>((6:Int32)&&&31).toUInt32).toInt32)),.val (.int (((((ph.toUInt32>>>((6:Int32)&&&31).toUInt32).toInt32) - (1:Int32)).toUInt32>>>((6:Int32)&&&31).toUInt32).toInt32))] [(.long (gy ((nl / 64 + 1) / 64)))])) _
              refine Goes.by (fun _ k => XS.iloadN X9.here hx rfl (hb hby d4_56) rfl k) ?_
              show Goes p.tables e below (T9.setTop (mkF m 57 #[.val (.ref oa),.val (.int (((pl.toUInt32>>>((6:Int32)&&&31).toUInt32).toInt32) + (1:Int32))),.val (.int (((ph.toUInt32>>>((6:Int32)&&&31).toUInt32).toInt32) - (1:Int32))),.val (.ref ol),.val (.int (3:Int32)),.val (.int (1:Int32)),.val (.ref o1),.val (.int (((((pl.toUInt32>>>((6:Int32)&&&31).toUInt32).toInt32) + (1:Int32)).toUInt32>>>((6:Int32)&&&31).toUInt32).toInt32)),.val (.int (((((ph.toUInt32>>>((6:Int32)&&&31).toUInt32).toInt32) - (1:Int32)).toUInt32>>>((6:Int32)&&&31).toUInt32).toInt32))] [(.int (((pl.toUInt32>>>((6:Int32)&&&31).toUInt32).toInt32) + (1:Int32))), (.long (gy ((nl / 64 + 1) / 64)))])) _
              obtain ⟨_, _, ⟨T13, L13, k13, n13⟩, -, X13, ⟨Lc13, hQ13, l13, y13, z13⟩, st13⟩ := Jvm.LawKit.callS X9 hx (y := (⟨"com/example/xml_graph_join/xmlgraphjoin/topo/BitLevels", "fromBit", "(I)J"⟩ : MethodName)) hown (mvT hZ (hw _ (List.mem_of_getElem? (i := 26) rfl))) (mvT hZ (hw _ (List.mem_of_getElem? (i := 27) rfl))) (mvT hZ (hw _ (List.mem_of_getElem? (i := 3) rfl))) (mvT hZ (hw _ (List.mem_of_getElem? (i := 28) rfl))) (by decide) (backOf (W := 2) (rm5 l Z a0 hw [] (((pl.toUInt32>>>((6:Int32)&&&31).toUInt32).toInt32) + (1:Int32)) h0 n0 Z0) hZ (hw _ (List.mem_of_getElem? (i := 28) rfl)) (hw _ (List.mem_of_getElem? (i := 3) rfl)) (by decide) (by decide)) (g := (mkF m 57 #[.val (.ref oa),.val (.int (((pl.toUInt32>>>((6:Int32)&&&31).toUInt32).toInt32) + (1:Int32))),.val (.int (((ph.toUInt32>>>((6:Int32)&&&31).toUInt32).toInt32) - (1:Int32))),.val (.ref ol),.val (.int (3:Int32)),.val (.int (1:Int32)),.val (.ref o1),.val (.int (((((pl.toUInt32>>>((6:Int32)&&&31).toUInt32).toInt32) + (1:Int32)).toUInt32>>>((6:Int32)&&&31).toUInt32).toInt32)),.val (.int (((((ph.toUInt32>>>((6:Int32)&&&31).toUInt32).toInt32) - (1:Int32)).toUInt32>>>((6:Int32)&&&31).toUInt32).toInt32))] [(.int (((pl.toUInt32>>>((6:Int32)&&&31).toUInt32).toInt32) + (1:Int32))), (.long (gy ((nl / 64 + 1) / 64)))])) rfl (by rw [hml]; rfl) (argsL := [(.int (((pl.toUInt32>>>((6:Int32)&&&31).toUInt32).toInt32) + (1:Int32)))]) (rest := [(.long (gy ((nl / 64 + 1) / 64)))]) (lenOf pd_0 rfl) rfl (by show 2 * 0 + (2 + 0) ≤ _; decide) (hb hby d4_57) (fun _ _ => ⟨rfl, e9, (by decide : 0 + 0 ≤ _), (by decide : 0 + 0 ≤ _)⟩)
              dsimp only [Pt.U, Pt.locs, Pt.cells, Pt.slots] at X13 l13 y13 z13 st13 hQ13
              rw [l13, y13, z13] at X13
              obtain ⟨rfl, N13q, e13⟩ := hQ13
              have N13 := Fr.app N9 N13q
              refine Goes.by st13 ?_
              show Goes p.tables e below (T13.setTop (mkF m 60 #[.val (.ref oa),.val (.int (((pl.toUInt32>>>((6:Int32)&&&31).toUInt32).toInt32) + (1:Int32))),.val (.int (((ph.toUInt32>>>((6:Int32)&&&31).toUInt32).toInt32) - (1:Int32))),.val (.ref ol),.val (.int (3:Int32)),.val (.int (1:Int32)),.val (.ref o1),.val (.int (((((pl.toUInt32>>>((6:Int32)&&&31).toUInt32).toInt32) + (1:Int32)).toUInt32>>>((6:Int32)&&&31).toUInt32).toInt32)),.val (.int (((((ph.toUInt32>>>((6:Int32)&&&31).toUInt32).toInt32) - (1:Int32)).toUInt32>>>((6:Int32)&&&31).toUInt32).toInt32))] [(.long (fromB (((pl.toUInt32>>>((6:Int32)&&&31).toUInt32).toInt32) + (1:Int32)))), (.long (gy ((nl / 64 + 1) / 64)))])) _
              refine Goes.by (fun _ k => XS.land X13.here hx rfl (hb hby d4_60) rfl k) ?_
              show Goes p.tables e below (T13.setTop (mkF m 61 #[.val (.ref oa),.val (.int (((pl.toUInt32>>>((6:Int32)&&&31).toUInt32).toInt32) + (1:Int32))),.val (.int (((ph.toUInt32>>>((6:Int32)&&&31).toUInt32).toInt32) - (1:Int32))),.val (.ref ol),.val (.int (3:Int32)),.val (.int (1:Int32)),.val (.ref o1),.val (.int (((((pl.toUInt32>>>((6:Int32)&&&31).toUInt32).toInt32) + (1:Int32)).toUInt32>>>((6:Int32)&&&31).toUInt32).toInt32)),.val (.int (((((ph.toUInt32>>>((6:Int32)&&&31).toUInt32).toInt32) - (1:Int32)).toUInt32>>>((6:Int32)&&&31).toUInt32).toInt32))] [(.long ((gy ((nl / 64 + 1) / 64))&&&(fromB (((pl.toUInt32>>>((6:Int32)&&&31).toUInt32).toInt32) + (1:Int32)))))])) _
              refine Goes.by (fun _ k => XS.iloadN X13.here hx rfl (hb hby d4_61) rfl k) ?_
              show Goes p.tables e below (T13.setTop (mkF m 62 #[.val (.ref oa),.val (.int (((pl.toUInt32>>>((6:Int32)&&&31).toUInt32).toInt32) + (1:Int32))),.val (.int (((ph.toUInt32>>>((6:Int32)&&&31).toUInt32).toInt32) - (1:Int32))),.val (.ref ol),.val (.int (3:Int32)),.val (.int (1:Int32)),.val (.ref o1),.val (.int (((((pl.toUInt32>>>((6:Int32)&&&31).toUInt32).toInt32) + (1:Int32)).toUInt32>>>((6:Int32)&&&31).toUInt32).toInt32)),.val (.int (((((ph.toUInt32>>>((6:Int32)&&&31).toUInt32).toInt32) - (1:Int32)).toUInt32>>>((6:Int32)&&&31).toUInt32).toInt32))] [(.int (((ph.toUInt32>>>((6:Int32)&&&31).toUInt32).toInt32) - (1:Int32))), (.long ((gy ((nl / 64 + 1) / 64))&&&(fromB (((pl.toUInt32>>>((6:Int32)&&&31).toUInt32).toInt32) + (1:Int32)))))])) _
              obtain ⟨_, _, ⟨T14, L14, k14, n14⟩, -, X14, ⟨Lc14, hQ14, l14, y14, z14⟩, st14⟩ := Jvm.LawKit.callS X13 hx (y := (⟨"com/example/xml_graph_join/xmlgraphjoin/topo/BitLevels", "upToBit", "(I)J"⟩ : MethodName)) hown (mvT hZ (hw _ (List.mem_of_getElem? (i := 30) rfl))) (mvT hZ (hw _ (List.mem_of_getElem? (i := 31) rfl))) (mvT hZ (hw _ (List.mem_of_getElem? (i := 3) rfl))) (mvT hZ (hw _ (List.mem_of_getElem? (i := 32) rfl))) (by decide) (backOf (W := 2) (rm6 l Z a0 hw [] (((ph.toUInt32>>>((6:Int32)&&&31).toUInt32).toInt32) - (1:Int32)) h0 n0 Z0) hZ (hw _ (List.mem_of_getElem? (i := 32) rfl)) (hw _ (List.mem_of_getElem? (i := 3) rfl)) (by decide) (by decide)) (g := (mkF m 62 #[.val (.ref oa),.val (.int (((pl.toUInt32>>>((6:Int32)&&&31).toUInt32).toInt32) + (1:Int32))),.val (.int (((ph.toUInt32>>>((6:Int32)&&&31).toUInt32).toInt32) - (1:Int32))),.val (.ref ol),.val (.int (3:Int32)),.val (.int (1:Int32)),.val (.ref o1),.val (.int (((((pl.toUInt32>>>((6:Int32)&&&31).toUInt32).toInt32) + (1:Int32)).toUInt32>>>((6:Int32)&&&31).toUInt32).toInt32)),.val (.int (((((ph.toUInt32>>>((6:Int32)&&&31).toUInt32).toInt32) - (1:Int32)).toUInt32>>>((6:Int32)&&&31).toUInt32).toInt32))] [(.int (((ph.toUInt32>>>((6:Int32)&&&31).toUInt32).toInt32) - (1:Int32))), (.long ((gy ((nl / 64 + 1) / 64))&&&(fromB (((pl.toUInt32>>>((6:Int32)&&&31).toUInt32).toInt32) + (1:Int32)))))])) rfl (by rw [hml]; rfl) (argsL := [(.int (((ph.toUInt32>>>((6:Int32)&&&31).toUInt32).toInt32) - (1:Int32)))]) (rest := [(.long ((gy ((nl / 64 + 1) / 64))&&&(fromB (((pl.toUInt32>>>((6:Int32)&&&31).toUInt32).toInt32) + (1:Int32)))))]) (lenOf pd_0 rfl) rfl (by show 2 * 0 + (2 + 0) ≤ _; decide) (hb hby d4_62) (fun _ _ => ⟨rfl, e13, (by decide : 0 + 0 ≤ _), (by decide : 0 + 0 ≤ _)⟩)
              dsimp only [Pt.U, Pt.locs, Pt.cells, Pt.slots] at X14 l14 y14 z14 st14 hQ14
              rw [l14, y14, z14] at X14
              obtain ⟨rfl, N14q, e14⟩ := hQ14
              have N14 := Fr.app N13 N14q
              refine Goes.by st14 ?_
              show Goes p.tables e below (T14.setTop (mkF m 65 #[.val (.ref oa),.val (.int (((pl.toUInt32>>>((6:Int32)&&&31).toUInt32).toInt32) + (1:Int32))),.val (.int (((ph.toUInt32>>>((6:Int32)&&&31).toUInt32).toInt32) - (1:Int32))),.val (.ref ol),.val (.int (3:Int32)),.val (.int (1:Int32)),.val (.ref o1),.val (.int (((((pl.toUInt32>>>((6:Int32)&&&31).toUInt32).toInt32) + (1:Int32)).toUInt32>>>((6:Int32)&&&31).toUInt32).toInt32)),.val (.int (((((ph.toUInt32>>>((6:Int32)&&&31).toUInt32).toInt32) - (1:Int32)).toUInt32>>>((6:Int32)&&&31).toUInt32).toInt32))] [(.long (upB (((ph.toUInt32>>>((6:Int32)&&&31).toUInt32).toInt32) - (1:Int32)))), (.long ((gy ((nl / 64 + 1) / 64))&&&(fromB (((pl.toUInt32>>>((6:Int32)&&&31).toUInt32).toInt32) + (1:Int32)))))])) _
              refine Goes.by (fun _ k => XS.land X14.here hx rfl (hb hby d4_65) rfl k) ?_
              show Goes p.tables e below (T14.setTop (mkF m 66 #[.val (.ref oa),.val (.int (((pl.toUInt32>>>((6:Int32)&&&31).toUInt32).toInt32) + (1:Int32))),.val (.int (((ph.toUInt32>>>((6:Int32)&&&31).toUInt32).toInt32) - (1:Int32))),.val (.ref ol),.val (.int (3:Int32)),.val (.int (1:Int32)),.val (.ref o1),.val (.int (((((pl.toUInt32>>>((6:Int32)&&&31).toUInt32).toInt32) + (1:Int32)).toUInt32>>>((6:Int32)&&&31).toUInt32).toInt32)),.val (.int (((((ph.toUInt32>>>((6:Int32)&&&31).toUInt32).toInt32) - (1:Int32)).toUInt32>>>((6:Int32)&&&31).toUInt32).toInt32))] [(.long (((gy ((nl / 64 + 1) / 64))&&&(fromB (((pl.toUInt32>>>((6:Int32)&&&31).toUInt32).toInt32) + (1:Int32))))&&&(upB (((ph.toUInt32>>>((6:Int32)&&&31).toUInt32).toInt32) - (1:Int32)))))])) _
              refine Goes.by (fun _ k => XS.lconst X14.here hx rfl (hb hby d4_66) k) ?_
              show Goes p.tables e below (T14.setTop (mkF m 67 #[.val (.ref oa),.val (.int (((pl.toUInt32>>>((6:Int32)&&&31).toUInt32).toInt32) + (1:Int32))),.val (.int (((ph.toUInt32>>>((6:Int32)&&&31).toUInt32).toInt32) - (1:Int32))),.val (.ref ol),.val (.int (3:Int32)),.val (.int (1:Int32)),.val (.ref o1),.val (.int (((((pl.toUInt32>>>((6:Int32)&&&31).toUInt32).toInt32) + (1:Int32)).toUInt32>>>((6:Int32)&&&31).toUInt32).toInt32)),.val (.int (((((ph.toUInt32>>>((6:Int32)&&&31).toUInt32).toInt32) - (1:Int32)).toUInt32>>>((6:Int32)&&&31).toUInt32).toInt32))] [(.long (0:Int64)), (.long (((gy ((nl / 64 + 1) / 64))&&&(fromB (((pl.toUInt32>>>((6:Int32)&&&31).toUInt32).toInt32) + (1:Int32))))&&&(upB (((ph.toUInt32>>>((6:Int32)&&&31).toUInt32).toInt32) - (1:Int32)))))])) _
              refine Goes.by (fun _ k => XS.lcmp X14.here hx rfl (hb hby d4_67) rfl k) ?_
              show Goes p.tables e below (T14.setTop (mkF m 68 #[.val (.ref oa),.val (.int (((pl.toUInt32>>>((6:Int32)&&&31).toUInt32).toInt32) + (1:Int32))),.val (.int (((ph.toUInt32>>>((6:Int32)&&&31).toUInt32).toInt32) - (1:Int32))),.val (.ref ol),.val (.int (3:Int32)),.val (.int (1:Int32)),.val (.ref o1),.val (.int (((((pl.toUInt32>>>((6:Int32)&&&31).toUInt32).toInt32) + (1:Int32)).toUInt32>>>((6:Int32)&&&31).toUInt32).toInt32)),.val (.int (((((ph.toUInt32>>>((6:Int32)&&&31).toUInt32).toInt32) - (1:Int32)).toUInt32>>>((6:Int32)&&&31).toUInt32).toInt32))] [(.int (lcmpW (((gy ((nl / 64 + 1) / 64))&&&(fromB (((pl.toUInt32>>>((6:Int32)&&&31).toUInt32).toInt32) + (1:Int32))))&&&(upB (((ph.toUInt32>>>((6:Int32)&&&31).toUInt32).toInt32) - (1:Int32)))) (0:Int64)))])) _
              by_cases hc15 : (((gy ((nl / 64 + 1) / 64))&&&(fromB (((pl.toUInt32>>>((6:Int32)&&&31).toUInt32).toInt32) + (1:Int32))))&&&(upB (((ph.toUInt32>>>((6:Int32)&&&31).toUInt32).toInt32) - (1:Int32)))) = (0:Int64)
              · refine Goes.by (fun _ k => XS.ifYes X14.here hx rfl (pc0 := 68) (pc' := 75) rfl (hb hby d4_68) rfl (je_t hc15).1 (by decide) (by decide) k) ?_
                show Goes p.tables e below (T14.setTop (mkF m 75 #[.val (.ref oa),.val (.int (((pl.toUInt32>>>((6:Int32)&&&31).toUInt32).toInt32) + (1:Int32))),.val (.int (((ph.toUInt32>>>((6:Int32)&&&31).toUInt32).toInt32) - (1:Int32))),.val (.ref ol),.val (.int (3:Int32)),.val (.int (1:Int32)),.val (.ref o1),.val (.int (((((pl.toUInt32>>>((6:Int32)&&&31).toUInt32).toInt32) + (1:Int32)).toUInt32>>>((6:Int32)&&&31).toUInt32).toInt32)),.val (.int (((((ph.toUInt32>>>((6:Int32)&&&31).toUInt32).toInt32) - (1:Int32)).toUInt32>>>((6:Int32)&&&31).toUInt32).toInt32))] [])) _
                refine Goes.by (fun _ k => XS.iconst X14.here hx rfl (hb hby d4_75) k) ?_
                show Goes p.tables e below (T14.setTop (mkF m 76 #[.val (.ref oa),.val (.int (((pl.toUInt32>>>((6:Int32)&&&31).toUInt32).toInt32) + (1:Int32))),.val (.int (((ph.toUInt32>>>((6:Int32)&&&31).toUInt32).toInt32) - (1:Int32))),.val (.ref ol),.val (.int (3:Int32)),.val (.int (1:Int32)),.val (.ref o1),.val (.int (((((pl.toUInt32>>>((6:Int32)&&&31).toUInt32).toInt32) + (1:Int32)).toUInt32>>>((6:Int32)&&&31).toUInt32).toInt32)),.val (.int (((((ph.toUInt32>>>((6:Int32)&&&31).toUInt32).toInt32) - (1:Int32)).toUInt32>>>((6:Int32)&&&31).toUInt32).toInt32))] [(.int (0:Int32))])) _
                obtain ⟨fs, hr, hrun, hended, hW, hsame⟩ := X14.leave (v := some (.int (0:Int32))) (fun h => by rw [Bd.returns] at h; cases h)
                refine ⟨_, _, retN X14 hx (t := .boolean) Bd.returns (by simp) (hb hby d4_76) hr, hrun, hended, _, _, rfl, ?_, ⟨_, rfl⟩, hW, hsame.mono (by decide) (by decide)⟩
                show Q4d3 Z oa pl ph ol o0 o1 o2 gx gy gz wx wy wz nl nh h0 n0 _ T14.heap _
                rw [e14]
                exact ⟨(by rw [fn4d3, if_neg hc2, if_neg hc3, if_pos hc8, if_pos hc10, if_neg hc11, if_pos hc12, if_pos hc15]), N14, rfl⟩
              · refine Goes.by (fun _ k => XS.ifNo X14.here hx rfl (hb hby d4_68) rfl (je_f hc15).1 k) ?_
                show Goes p.tables e below (T14.setTop (mkF m 71 #[.val (.ref oa),.val (.int (((pl.toUInt32>>>((6:Int32)&&&31).toUInt32).toInt32) + (1:Int32))),.val (.int (((ph.toUInt32>>>((6:Int32)&&&31).toUInt32).toInt32) - (1:Int32))),.val (.ref ol),.val (.int (3:Int32)),.val (.int (1:Int32)),.val (.ref o1),.val (.int (((((pl.toUInt32>>>((6:Int32)&&&31).toUInt32).toInt32) + (1:Int32)).toUInt32>>>((6:Int32)&&&31).toUInt32).toInt32)),.val (.int (((((ph.toUInt32>>>((6:Int32)&&&31).toUInt32).toInt32) - (1:Int32)).toUInt32>>>((6:Int32)&&&31).toUInt32).toInt32))] [])) _
                refine Goes.by (fun _ k => XS.iconst X14.here hx rfl (hb hby d4_71) k) ?_
                show Goes p.tables e below (T14.setTop (mkF m 72 #[.val (.ref oa),.val (.int (((pl.toUInt32>>>((6:Int32)&&&31).toUInt32).toInt32) + (1:Int32))),.val (.int (((ph.toUInt32>>>((6:Int32)&&&31).toUInt32).toInt32) - (1:Int32))),.val (.ref ol),.val (.int (3:Int32)),.val (.int (1:Int32)),.val (.ref o1),.val (.int (((((pl.toUInt32>>>((6:Int32)&&&31).toUInt32).toInt32) + (1:Int32)).toUInt32>>>((6:Int32)&&&31).toUInt32).toInt32)),.val (.int (((((ph.toUInt32>>>((6:Int32)&&&31).toUInt32).toInt32) - (1:Int32)).toUInt32>>>((6:Int32)&&&31).toUInt32).toInt32))] [(.int (1:Int32))])) _
                refine Goes.by (fun _ k => XS.goto X14.here hx rfl (pc0 := 72) (pc' := 76) rfl (hb hby d4_72) (by decide) (by decide) k) ?_
                show Goes p.tables e below (T14.setTop (mkF m 76 #[.val (.ref oa),.val (.int (((pl.toUInt32>>>((6:Int32)&&&31).toUInt32).toInt32) + (1:Int32))),.val (.int (((ph.toUInt32>>>((6:Int32)&&&31).toUInt32).toInt32) - (1:Int32))),.val (.ref ol),.val (.int (3:Int32)),.val (.int (1:Int32)),.val (.ref o1),.val (.int (((((pl.toUInt32>>>((6:Int32)&&&31).toUInt32).toInt32) + (1:Int32)).toUInt32>>>((6:Int32)&&&31).toUInt32).toInt32)),.val (.int (((((ph.toUInt32>>>((6:Int32)&&&31).toUInt32).toInt32) - (1:Int32)).toUInt32>>>((6:Int32)&&&31).toUInt32).toInt32))] [(.int (1:Int32))])) _
                obtain ⟨fs, hr, hrun, hended, hW, hsame⟩ := X14.leave (v := some (.int (1:Int32))) (fun h => by rw [Bd.returns] at h; cases h)
                refine ⟨_, _, retN X14 hx (t := .boolean) Bd.returns (by simp) (hb hby d4_76) hr, hrun, hended, _, _, rfl, ?_, ⟨_, rfl⟩, hW, hsame.mono (by decide) (by decide)⟩
                show Q4d3 Z oa pl ph ol o0 o1 o2 gx gy gz wx wy wz nl nh h0 n0 _ T14.heap _
                rw [e14]
                exact ⟨(by rw [fn4d3, if_neg hc2, if_neg hc3, if_pos hc8, if_pos hc10, if_neg hc11, if_pos hc12, if_neg hc15]), N14, rfl⟩
            · refine Goes.by (fun _ k => XS.icmpYes X9.here hx rfl (pc0 := 48) (pc' := 77) rfl (hb hby d4_48) rfl (feq hc12).2 (by decide) (by decide) k) ?_
              show Goes p.tables e below (T9.setTop (mkF m 77 #[.val (.ref oa),.val (.int (((pl.toUInt32>>>((6:Int32)&&&31).toUInt32).toInt32) + (1:Int32))),.val (.int (((ph.toUInt32>>>((6:Int32)&&&31).toUInt32).toInt32) - (1:Int32))),.val (.ref ol),.val (.int (3:Int32)),.val (.int (1:Int32)),.val (.ref o1),.val (.int (((((pl.toUInt32>>>((6:Int32)&&&31).toUInt32).toInt32) + (1:Int32)).toUInt32>>>((6:Int32)&&&31).toUInt32).toInt32)),.val (.int (((((ph.toUInt32>>>((6:Int32)&&&31).toUInt32).toInt32) - (1:Int32)).toUInt32>>>((6:Int32)&&&31).toUInt32).toInt32))] [])) _
              refine Goes.by (fun _ k => XS.aload X9.here hx rfl (hb hby d4_77) rfl rfl k) ?_
              show Goes p.tables e below (T9.setTop (mkF m 79 #[.val (.ref oa),.val (.int (((pl.toUInt32>>>((6:Int32)&&&31).toUInt32).toInt32) + (1:Int32))),.val (.int (((ph.toUInt32>>>((6:Int32)&&&31).toUInt32).toInt32) - (1:Int32))),.val (.ref ol),.val (.int (3:Int32)),.val (.int (1:Int32)),.val (.ref o1),.val (.int (((((pl.toUInt32>>>((6:Int32)&&&31).toUInt32).toInt32) + (1:Int32)).toUInt32>>>((6:Int32)&&&31).toUInt32).toInt32)),.val (.int (((((ph.toUInt32>>>((6:Int32)&&&31).toUInt32).toInt32) - (1:Int32)).toUInt32>>>((6:Int32)&&&31).toUInt32).toInt32))] [(.ref o1)])) _
              refine Goes.by (fun _ k => XS.iload X9.here hx rfl (hb hby d4_79) rfl k) ?_
              show Goes p.tables e below (T9.setTop (mkF m 81 #[.val (.ref oa),.val (.int (((pl.toUInt32>>>((6:Int32)&&&31).toUInt32).toInt32) + (1:Int32))),.val (.int (((ph.toUInt32>>>((6:Int32)&&&31).toUInt32).toInt32) - (1:Int32))),.val (.ref ol),.val (.int (3:Int32)),.val (.int (1:Int32)),.val (.ref o1),.val (.int (((((pl.toUInt32>>>((6:Int32)&&&31).toUInt32).toInt32) + (1:Int32)).toUInt32>>>((6:Int32)&&&31).toUInt32).toInt32)),.val (.int (((((ph.toUInt32>>>((6:Int32)&&&31).toUInt32).toInt32) - (1:Int32)).toUInt32>>>((6:Int32)&&&31).toUInt32).toInt32))] [(.int (((((pl.toUInt32>>>((6:Int32)&&&31).toUInt32).toInt32) + (1:Int32)).toUInt32>>>((6:Int32)&&&31).toUInt32).toInt32)), (.ref o1)])) _
              refine Goes.by (fun _ k => ldJ (v := (gy ((nl / 64 + 1) / 64))) (fr := (mkF m 81 #[.val (.ref oa),.val (.int (((pl.toUInt32>>>((6:Int32)&&&31).toUInt32).toInt32) + (1:Int32))),.val (.int (((ph.toUInt32>>>((6:Int32)&&&31).toUInt32).toInt32) - (1:Int32))),.val (.ref ol),.val (.int (3:Int32)),.val (.int (1:Int32)),.val (.ref o1),.val (.int (((((pl.toUInt32>>>((6:Int32)&&&31).toUInt32).toInt32) + (1:Int32)).toUInt32>>>((6:Int32)&&&31).toUInt32).toInt32)),.val (.int (((((ph.toUInt32>>>((6:Int32)&&&31).toUInt32).toInt32) - (1:Int32)).toUInt32>>>((6:Int32)&&&31).toUInt32).toInt32))] [(.int (((((pl.toUInt32>>>((6:Int32)&&&31).toUInt32).toInt32) + (1:Int32)).toUInt32>>>((6:Int32)&&&31).toUInt32).toInt32)), (.ref o1)])) X9 hx hZ e9 A_o1 (i := ((nl / 64 + 1) / 64)) (own_sh6 _ _ (own_lv hlo hhi hwh hx1 hc3 hc11).1) (own_lv hlo hhi hwh hx1 hc3 hc11).2.2.1 rfl rfl rfl (hb hby d4_81) k) ?_
              show Goes p.tables e below (T9.setTop (mkF m 82 #[.val (.ref oa),.val (.int (((pl.toUInt32>>>((6:Int32)&&&31).toUInt32).toInt32) + (1:Int32))),.val (.int (((ph.toUInt32>>>((6:Int32)&&&31).toUInt32).toInt32) - (1:Int32))),.val (.ref ol),.val (.int (3:Int32)),.val (.int (1:Int32)),.val (.ref o1),.val (.int (((((pl.toUInt32>>>((6:Int32)&&&31).toUInt32).toInt32) + (1:Int32)).toUInt32>>>((6:Int32)&&&31).toUInt32).toInt32)),.val (.int (((((ph.toUInt32>>>((6:Int32)&&&31).toUInt32).toInt32) - (1:Int32)).toUInt32>>>((6:Int32)&&&31).toUInt32).toInt32))] [(.long (gy ((nl / 64 + 1) / 64)))])) _
              refine Goes.by (fun _ k => XS.iloadN X9.here hx rfl (hb hby d4_82) rfl k) ?_
              show Goes p.tables e below (T9.setTop (mkF m 83 #[.val (.ref oa),.val (.int (((pl.toUInt32>>>((6:Int32)&&&31).toUInt32).toInt32) + (1:Int32))),.val (.int (((ph.toUInt32>>>((6:Int32)&&&31).toUInt32).toInt32) - (1:Int32))),.val (.ref ol),.val (.int (3:Int32)),.val (.int (1:Int32)),.val (.ref o1),.val (.int (((((pl.toUInt32>>>((6:Int32)&&&31).toUInt32).toInt32) + (1:Int32)).toUInt32>>>((6:Int32)&&&31).toUInt32).toInt32)),.val (.int (((((ph.toUInt32>>>((6:Int32)&&&31).toUInt32).toInt32) - (1:Int32)).toUInt32>>>((6:Int32)&&&31).toUInt32).toInt32))] [(.int (((pl.toUInt32>>>((6:Int32)&&&31).toUInt32).toInt32) + (1:Int32))), (.long (gy ((nl / 64 + 1) / 64)))])) _
              obtain ⟨_, _, ⟨T16, L16, k16, n16⟩, -, X16, ⟨Lc16, hQ16, l16, y16, z16⟩, st16⟩ := Jvm.LawKit.callS X9 hx (y := (⟨"com/example/xml_graph_join/xmlgraphjoin/topo/BitLevels", "fromBit", "(I)J"⟩ : MethodName)) hown (mvT hZ (hw _ (List.mem_of_getElem? (i := 26) rfl))) (mvT hZ (hw _ (List.mem_of_getElem? (i := 27) rfl))) (mvT hZ (hw _ (List.mem_of_getElem? (i := 3) rfl))) (mvT hZ (hw _ (List.mem_of_getElem? (i := 28) rfl))) (by decide) (backOf (W := 2) (rm5 l Z a0 hw [] (((pl.toUInt32>>>((6:Int32)&&&31).toUInt32).toInt32) + (1:Int32)) h0 n0 Z0) hZ (hw _ (List.mem_of_getElem? (i := 28) rfl)) (hw _ (List.mem_of_getElem? (i := 3) rfl)) (by decide) (by decide)) (g := (mkF m 83 #[.val (.ref oa),.val (.int (((pl.toUInt32>>>((6:Int32)&&&31).toUInt32).toInt32) + (1:Int32))),.val (.int (((ph.toUInt32>>>((6:Int32)&&&31).toUInt32).toInt32) - (1:Int32))),.val (.ref ol),.val (.int (3:Int32)),.val (.int (1:Int32)),.val (.ref o1),.val (.int (((((pl.toUInt32>>>((6:Int32)&&&31).toUInt32).toInt32) + (1:Int32)).toUInt32>>>((6:Int32)&&&31).toUInt32).toInt32)),.val (.int (((((ph.toUInt32>>>((6:Int32)&&&31).toUInt32).toInt32) - (1:Int32)).toUInt32>>>((6:Int32)&&&31).toUInt32).toInt32))] [(.int (((pl.toUInt32>>>((6:Int32)&&&31).toUInt32).toInt32) + (1:Int32))), (.long (gy ((nl / 64 + 1) / 64)))])) rfl (by rw [hml]; rfl) (argsL := [(.int (((pl.toUInt32>>>((6:Int32)&&&31).toUInt32).toInt32) + (1:Int32)))]) (rest := [(.long (gy ((nl / 64 + 1) / 64)))]) (lenOf pd_0 rfl) rfl (by show 2 * 0 + (2 + 0) ≤ _; decide) (hb hby d4_83) (fun _ _ => ⟨rfl, e9, (by decide : 0 + 0 ≤ _), (by decide : 0 + 0 ≤ _)⟩)
              dsimp only [Pt.U, Pt.locs, Pt.cells, Pt.slots] at X16 l16 y16 z16 st16 hQ16
              rw [l16, y16, z16] at X16
              obtain ⟨rfl, N16q, e16⟩ := hQ16
              have N16 := Fr.app N9 N16q
              refine Goes.by st16 ?_
              show Goes p.tables e below (T16.setTop (mkF m 86 #[.val (.ref oa),.val (.int (((pl.toUInt32>>>((6:Int32)&&&31).toUInt32).toInt32) + (1:Int32))),.val (.int (((ph.toUInt32>>>((6:Int32)&&&31).toUInt32).toInt32) - (1:Int32))),.val (.ref ol),.val (.int (3:Int32)),.val (.int (1:Int32)),.val (.ref o1),.val (.int (((((pl.toUInt32>>>((6:Int32)&&&31).toUInt32).toInt32) + (1:Int32)).toUInt32>>>((6:Int32)&&&31).toUInt32).toInt32)),.val (.int (((((ph.toUInt32>>>((6:Int32)&&&31).toUInt32).toInt32) - (1:Int32)).toUInt32>>>((6:Int32)&&&31).toUInt32).toInt32))] [(.long (fromB (((pl.toUInt32>>>((6:Int32)&&&31).toUInt32).toInt32) + (1:Int32)))), (.long (gy ((nl / 64 + 1) / 64)))])) _
              refine Goes.by (fun _ k => XS.land X16.here hx rfl (hb hby d4_86) rfl k) ?_
              show Goes p.tables e below (T16.setTop (mkF m 87 #[.val (.ref oa),.val (.int (((pl.toUInt32>>>((6:Int32)&&&31).toUInt32).toInt32) + (1:Int32))),.val (.int (((ph.toUInt32>>>((6:Int32)&&&31).toUInt32).toInt32) - (1:Int32))),.val (.ref ol),.val (.int (3:Int32)),.val (.int (1:Int32)),.val (.ref o1),.val (.int (((((pl.toUInt32>>>((6:Int32)&&&31).toUInt32).toInt32) + (1:Int32)).toUInt32>>>((6:Int32)&&&31).toUInt32).toInt32)),.val (.int (((((ph.toUInt32>>>((6:Int32)&&&31).toUInt32).toInt32) - (1:Int32)).toUInt32>>>((6:Int32)&&&31).toUInt32).toInt32))] [(.long ((gy ((nl / 64 + 1) / 64))&&&(fromB (((pl.toUInt32>>>((6:Int32)&&&31).toUInt32).toInt32) + (1:Int32)))))])) _
              refine Goes.by (fun _ k => XS.lconst X16.here hx rfl (hb hby d4_87) k) ?_
              show Goes p.tables e below (T16.setTop (mkF m 88 #[.val (.ref oa),.val (.int (((pl.toUInt32>>>((6:Int32)&&&31).toUInt32).toInt32) + (1:Int32))),.val (.int (((ph.toUInt32>>>((6:Int32)&&&31).toUInt32).toInt32) - (1:Int32))),.val (.ref ol),.val (.int (3:Int32)),.val (.int (1:Int32)),.val (.ref o1),.val (.int (((((pl.toUInt32>>>((6:Int32)&&&31).toUInt32).toInt32) + (1:Int32)).toUInt32>>>((6:Int32)&&&31).toUInt32).toInt32)),.val (.int (((((ph.toUInt32>>>((6:Int32)&&&31).toUInt32).toInt32) - (1:Int32)).toUInt32>>>((6:Int32)&&&31).toUInt32).toInt32))] [(.long (0:Int64)), (.long ((gy ((nl / 64 + 1) / 64))&&&(fromB (((pl.toUInt32>>>((6:Int32)&&&31).toUInt32).toInt32) + (1:Int32)))))])) _
              refine Goes.by (fun _ k => XS.lcmp X16.here hx rfl (hb hby d4_88) rfl k) ?_
              show Goes p.tables e below (T16.setTop (mkF m 89 #[.val (.ref oa),.val (.int (((pl.toUInt32>>>((6:Int32)&&&31).toUInt32).toInt32) + (1:Int32))),.val (.int (((ph.toUInt32>>>((6:Int32)&&&31).toUInt32).toInt32) - (1:Int32))),.val (.ref ol),.val (.int (3:Int32)),.val (.int (1:Int32)),.val (.ref o1),.val (.int (((((pl.toUInt32>>>((6:Int32)&&&31).toUInt32).toInt32) + (1:Int32)).toUInt32>>>((6:Int32)&&&31).toUInt32).toInt32)),.val (.int (((((ph.toUInt32>>>((6:Int32)&&&31).toUInt32).toInt32) - (1:Int32)).toUInt32>>>((6:Int32)&&&31).toUInt32).toInt32))] [(.int (lcmpW ((gy ((nl / 64 + 1) / 64))&&&(fromB (((pl.toUInt32>>>((6:Int32)&&&31).toUInt32).toInt32) + (1:Int32)))) (0:Int64)))])) _
              by_cases hc17 : ((gy ((nl / 64 + 1) / 64))&&&(fromB (((pl.toUInt32>>>((6:Int32)&&&31).toUInt32).toInt32) + (1:Int32)))) = (0:Int64)
              · refine Goes.by (fun _ k => XS.ifNo X16.here hx rfl (hb hby d4_89) rfl (je_t hc17).2 k) ?_
                show Goes p.tables e below (T16.setTop (mkF m 92 #[.val (.ref oa),.val (.int (((pl.toUInt32>>>((6:Int32)&&&31).toUInt32).toInt32) + (1:Int32))),.val (.int (((ph.toUInt32>>>((6:Int32)&&&31).toUInt32).toInt32) - (1:Int32))),.val (.ref ol),.val (.int (3:Int32)),.val (.int (1:Int32)),.val (.ref o1),.val (.int (((((pl.toUInt32>>>((6:Int32)&&&31).toUInt32).toInt32) + (1:Int32)).toUInt32>>>((6:Int32)&&&31).toUInt32).toInt32)),.val (.int (((((ph.toUInt32>>>((6:Int32)&&&31).toUInt32).toInt32) - (1:Int32)).toUInt32>>>((6:Int32)&&&31).toUInt32).toInt32))] [])) _
                refine Goes.by (fun _ k => XS.aload X16.here hx rfl (hb hby d4_92) rfl rfl k) ?_
                show Goes p.tables e below (T16.setTop (mkF m 94 #[.val (.ref oa),.val (.int (((pl.toUInt32>>>((6:Int32)&&&31).toUInt32).toInt32) + (1:Int32))),.val (.int (((ph.toUInt32>>>((6:Int32)&&&31).toUInt32).toInt32) - (1:Int32))),.val (.ref ol),.val (.int (3:Int32)),.val (.int (1:Int32)),.val (.ref o1),.val (.int (((((pl.toUInt32>>>((6:Int32)&&&31).toUInt32).toInt32) + (1:Int32)).toUInt32>>>((6:Int32)&&&31).toUInt32).toInt32)),.val (.int (((((ph.toUInt32>>>((6:Int32)&&&31).toUInt32).toInt32) - (1:Int32)).toUInt32>>>((6:Int32)&&&31).toUInt32).toInt32))] [(.ref o1)])) _
                refine Goes.by (fun _ k => XS.iload X16.here hx rfl (hb hby d4_94) rfl k) ?_
                show Goes p.tables e below (T16.setTop (mkF m 96 #[.val (.ref oa),.val (.int (((pl.toUInt32>>>((6:Int32)&&&31).toUInt32).toInt32) + (1:Int32))),.val (.int (((ph.toUInt32>>>((6:Int32)&&&31).toUInt32).toInt32) - (1:Int32))),.val (.ref ol),.val (.int (3:Int32)),.val (.int (1:Int32)),.val (.ref o1),.val (.int (((((pl.toUInt32>>>((6:Int32)&&&31).toUInt32).toInt32) + (1:Int32)).toUInt32>>>((6:Int32)&&&31).toUInt32).toInt32)),.val (.int (((((ph.toUInt32>>>((6:Int32)&&&31).toUInt32).toInt32) - (1:Int32)).toUInt32>>>((6:Int32)&&&31).toUInt32).toInt32))] [(.int (((((ph.toUInt32>>>((6:Int32)&&&31).toUInt32).toInt32) - (1:Int32)).toUInt32>>>((6:Int32)&&&31).toUInt32).toInt32)), (.ref o1)])) _
                refine Goes.by (fun _ k => ldJ (v := (gy ((nh / 64 - 1) / 64))) (fr := (mkF m 96 #[.val (.ref oa),.val (.int (((pl.toUInt32>>>((6:Int32)&&&31).toUInt32).toInt32) + (1:Int32))),.val (.int (((ph.toUInt32>>>((6:Int32)&&&31).toUInt32).toInt32) - (1:Int32))),.val (.ref ol),.val (.int (3:Int32)),.val (.int (1:Int32)),.val (.ref o1),.val (.int (((((pl.toUInt32>>>((6:Int32)&&&31).toUInt32).toInt32) + (1:Int32)).toUInt32>>>((6:Int32)&&&31).toUInt32).toInt32)),.val (.int (((((ph.toUInt32>>>((6:Int32)&&&31).toUInt32).toInt32) - (1:Int32)).toUInt32>>>((6:Int32)&&&31).toUInt32).toInt32))] [(.int (((((ph.toUInt32>>>((6:Int32)&&&31).toUInt32).toInt32) - (1:Int32)).toUInt32>>>((6:Int32)&&&31).toUInt32).toInt32)), (.ref o1)])) X16 hx hZ e16 A_o1 (i := ((nh / 64 - 1) / 64)) (own_sh6 _ _ (own_lv hlo hhi hwh hx1 hc3 hc11).2.1) (own_lv hlo hhi hwh hx1 hc3 hc11).2.2.2 rfl rfl rfl (hb hby d4_96) k) ?_
                show Goes p.tables e below (T16.setTop (mkF m 97 #[.val (.ref oa),.val (.int (((pl.toUInt32>>>((6:Int32)&&&31).toUInt32).toInt32) + (1:Int32))),.val (.int (((ph.toUInt32>>>((6:Int32)&&&31).toUInt32).toInt32) - (1:Int32))),.val (.ref ol),.val (.int (3:Int32)),.val (.int (1:Int32)),.val (.ref o1),.val (.int (((((pl.toUInt32>>>((6:Int32)&&&31).toUInt32).toInt32) + (1:Int32)).toUInt32>>>((6:Int32)&&&31).toUInt32).toInt32)),.val (.int (((((ph.toUInt32>>>((6:Int32)&&&31).toUInt32).toInt32) - (1:Int32)).toUInt32>>>((6:Int32)&&&31).toUInt32).toInt32))] [(.long (gy ((nh / 64 - 1) / 64)))])) _
                refine Goes.by (fun _ k => XS.iloadN X16.here hx rfl (hb hby d4_97) rfl k) ?_
                show Goes p.tables e below (T16.setTop (mkF m 98 #[.val (.ref oa),.val (.int (((pl.toUInt32>>>((6:Int32)&&&31).toUInt32).toInt32) + (1:Int32))),.val (.int (((ph.toUInt32>>>((6:Int32)&&&31).toUInt32).toInt32) - (1:Int32))),.val (.ref ol),.val (.int (3:Int32)),.val (.int (1:Int32)),.val (.ref o1),.val (.int (((((pl.toUInt32>>>((6:Int32)&&&31).toUInt32).toInt32) + (1:Int32)).toUInt32>>>((6:Int32)&&&31).toUInt32).toInt32)),.val (.int (((((ph.toUInt32>>>((6:Int32)&&&31).toUInt32).toInt32) - (1:Int32)).toUInt32>>>((6:Int32)&&&31).toUInt32).toInt32))] [(.int (((ph.toUInt32>>>((6:Int32)&&&31).toUInt32).toInt32) - (1:Int32))), (.long (gy ((nh / 64 - 1) / 64)))])) _
                obtain ⟨_, _, ⟨T18, L18, k18, n18⟩, -, X18, ⟨Lc18, hQ18, l18, y18, z18⟩, st18⟩ := Jvm.LawKit.callS X16 hx (y := (⟨"com/example/xml_graph_join/xmlgraphjoin/topo/BitLevels", "upToBit", "(I)J"⟩ : MethodName)) hown (mvT hZ (hw _ (List.mem_of_getElem? (i := 30) rfl))) (mvT hZ (hw _ (List.mem_of_getElem? (i := 31) rfl))) (mvT hZ (hw _ (List.mem_of_getElem? (i := 3) rfl))) (mvT hZ (hw _ (List.mem_of_getElem? (i := 32) rfl))) (by decide) (backOf (W := 2) (rm6 l Z a0 hw [] (((ph.toUInt32>>>((6:Int32)&&&31).toUInt32).toInt32) - (1:Int32)) h0 n0 Z0) hZ (hw _ (List.mem_of_getElem? (i := 32) rfl)) (hw _ (List.mem_of_getElem? (i := 3) rfl)) (by decide) (by decide)) (g := (mkF m 98 #[.val (.ref oa),.val (.int (((pl.toUInt32>>>((6:Int32)&&&31).toUInt32).toInt32) + (1:Int32))),.val (.int (((ph.toUInt32>>>((6:Int32)&&&31).toUInt32).toInt32) - (1:Int32))),.val (.ref ol),.val (.int (3:Int32)),.val (.int (1:Int32)),.val (.ref o1),.val (.int (((((pl.toUInt32>>>((6:Int32)&&&31).toUInt32).toInt32) + (1:Int32)).toUInt32>>>((6:Int32)&&&31).toUInt32).toInt32)),.val (.int (((((ph.toUInt32>>>((6:Int32)&&&31).toUInt32).toInt32) - (1:Int32)).toUInt32>>>((6:Int32)&&&31).toUInt32).toInt32))] [(.int (((ph.toUInt32>>>((6:Int32)&&&31).toUInt32).toInt32) - (1:Int32))), (.long (gy ((nh / 64 - 1) / 64)))])) rfl (by rw [hml]; rfl) (argsL := [(.int (((ph.toUInt32>>>((6:Int32)&&&31).toUInt32).toInt32) - (1:Int32)))]) (rest := [(.long (gy ((nh / 64 - 1) / 64)))]) (lenOf pd_0 rfl) rfl (by show 2 * 0 + (2 + 0) ≤ _; decide) (hb hby d4_98) (fun _ _ => ⟨rfl, e16, (by decide : 0 + 0 ≤ _), (by decide : 0 + 0 ≤ _)⟩)
                dsimp only [Pt.U, Pt.locs, Pt.cells, Pt.slots] at X18 l18 y18 z18 st18 hQ18
                rw [l18, y18, z18] at X18
                obtain ⟨rfl, N18q, e18⟩ := hQ18
                have N18 := Fr.app N16 N18q
                refine Goes.by st18 ?_
                show Goes p.tables e below (T18.setTop (mkF m 101 #[.val (.ref oa),.val (.int (((pl.toUInt32>>>((6:Int32)&&&31).toUInt32).toInt32) + (1:Int32))),.val (.int (((ph.toUInt32>>>((6:Int32)&&&31).toUInt32).toInt32) - (1:Int32))),.val (.ref ol),.val (.int (3:Int32)),.val (.int (1:Int32)),.val (.ref o1),.val (.int (((((pl.toUInt32>>>((6:Int32)&&&31).toUInt32).toInt32) + (1:Int32)).toUInt32>>>((6:Int32)&&&31).toUInt32).toInt32)),.val (.int (((((ph.toUInt32>>>((6:Int32)&&&31).toUInt32).toInt32) - (1:Int32)).toUInt32>>>((6:Int32)&&&31).toUInt32).toInt32))] [(.long (upB (((ph.toUInt32>>>((6:Int32)&&&31).toUInt32).toInt32) - (1:Int32)))), (.long (gy ((nh / 64 - 1) / 64)))])) _
                refine Goes.by (fun _ k => XS.land X18.here hx rfl (hb hby d4_101) rfl k) ?_
                show Goes p.tables e below (T18.setTop (mkF m 102 #[.val (.ref oa),.val (.int (((pl.toUInt32>>>((6:Int32)&&&31).toUInt32).toInt32) + (1:Int32))),.val (.int (((ph.toUInt32>>>((6:Int32)&&&31).toUInt32).toInt32) - (1:Int32))),.val (.ref ol),.val (.int (3:Int32)),.val (.int (1:Int32)),.val (.ref o1),.val (.int (((((pl.toUInt32>>>((6:Int32)&&&31).toUInt32).toInt32) + (1:Int32)).toUInt32>>>((6:Int32)&&&31).toUInt32).toInt32)),.val (.int (((((ph.toUInt32>>>((6:Int32)&&&31).toUInt32).toInt32) - (1:Int32)).toUInt32>>>((6:Int32)&&&31).toUInt32).toInt32))] [(.long ((gy ((nh / 64 - 1) / 64))&&&(upB (((ph.toUInt32>>>((6:Int32)&&&31).toUInt32).toInt32) - (1:Int32)))))])) _
                refine Goes.by (fun _ k => XS.lconst X18.here hx rfl (hb hby d4_102) k) ?_
                show Goes p.tables e below (T18.setTop (mkF m 103 #[.val (.ref oa),.val (.int (((pl.toUInt32>>>((6:Int32)&&&31).toUInt32).toInt32) + (1:Int32))),.val (.int (((ph.toUInt32>>>((6:Int32)&&&31).toUInt32).toInt32) - (1:Int32))),.val (.ref ol),.val (.int (3:Int32)),.val (.int (1:Int32)),.val (.ref o1),.val (.int (((((pl.toUInt32>>>((6:Int32)&&&31).toUInt32).toInt32) + (1:Int32)).toUInt32>>>((6:Int32)&&&31).toUInt32).toInt32)),.val (.int (((((ph.toUInt32>>>((6:Int32)&&&31).toUInt32).toInt32) - (1:Int32)).toUInt32>>>((6:Int32)&&&31).toUInt32).toInt32))] [(.long (0:Int64)), (.long ((gy ((nh / 64 - 1) / 64))&&&(upB (((ph.toUInt32>>>((6:Int32)&&&31).toUInt32).toInt32) - (1:Int32)))))])) _
                refine Goes.by (fun _ k => XS.lcmp X18.here hx rfl (hb hby d4_103) rfl k) ?_
                show Goes p.tables e below (T18.setTop (mkF m 104 #[.val (.ref oa),.val (.int (((pl.toUInt32>>>((6:Int32)&&&31).toUInt32).toInt32) + (1:Int32))),.val (.int (((ph.toUInt32>>>((6:Int32)&&&31).toUInt32).toInt32) - (1:Int32))),.val (.ref ol),.val (.int (3:Int32)),.val (.int (1:Int32)),.val (.ref o1),.val (.int (((((pl.toUInt32>>>((6:Int32)&&&31).toUInt32).toInt32) + (1:Int32)).toUInt32>>>((6:Int32)&&&31).toUInt32).toInt32)),.val (.int (((((ph.toUInt32>>>((6:Int32)&&&31).toUInt32).toInt32) - (1:Int32)).toUInt32>>>((6:Int32)&&&31).toUInt32).toInt32))] [(.int (lcmpW ((gy ((nh / 64 - 1) / 64))&&&(upB (((ph.toUInt32>>>((6:Int32)&&&31).toUInt32).toInt32) - (1:Int32)))) (0:Int64)))])) _
                by_cases hc19 : ((gy ((nh / 64 - 1) / 64))&&&(upB (((ph.toUInt32>>>((6:Int32)&&&31).toUInt32).toInt32) - (1:Int32)))) = (0:Int64)
                · refine Goes.by (fun _ k => XS.ifYes X18.here hx rfl (pc0 := 104) (pc' := 109) rfl (hb hby d4_104) rfl (je_t hc19).1 (by decide) (by decide) k) ?_
                  show Goes p.tables e below (T18.setTop (mkF m 109 #[.val (.ref oa),.val (.int (((pl.toUInt32>>>((6:Int32)&&&31).toUInt32).toInt32) + (1:Int32))),.val (.int (((ph.toUInt32>>>((6:Int32)&&&31).toUInt32).toInt32) - (1:Int32))),.val (.ref ol),.val (.int (3:Int32)),.val (.int (1:Int32)),.val (.ref o1),.val (.int (((((pl.toUInt32>>>((6:Int32)&&&31).toUInt32).toInt32) + (1:Int32)).toUInt32>>>((6:Int32)&&&31).toUInt32).toInt32)),.val (.int (((((ph.toUInt32>>>((6:Int32)&&&31).toUInt32).toInt32) - (1:Int32)).toUInt32>>>((6:Int32)&&&31).toUInt32).toInt32))] [])) _
                  refine Goes.by (fun _ k => XS.iload X18.here hx rfl (hb hby d4_109) rfl k) ?_
                  show Goes p.tables e below (T18.setTop (mkF m 111 #[.val (.ref oa),.val (.int (((pl.toUInt32>>>((6:Int32)&&&31).toUInt32).toInt32) + (1:Int32))),.val (.int (((ph.toUInt32>>>((6:Int32)&&&31).toUInt32).toInt32) - (1:Int32))),.val (.ref ol),.val (.int (3:Int32)),.val (.int (1:Int32)),.val (.ref o1),.val (.int (((((pl.toUInt32>>>((6:Int32)&&&31).toUInt32).toInt32) + (1:Int32)).toUInt32>>>((6:Int32)&&&31).toUInt32).toInt32)),.val (.int (((((ph.toUInt32>>>((6:Int32)&&&31).toUInt32).toInt32) - (1:Int32)).toUInt32>>>((6:Int32)&&&31).toUInt32).toInt32))] [(.int (((((pl.toUInt32>>>((6:Int32)&&&31).toUInt32).toInt32) + (1:Int32)).toUInt32>>>((6:Int32)&&&31).toUInt32).toInt32))])) _
                  refine Goes.by (fun _ k => XS.iconst X18.here hx rfl (hb hby d4_111) k) ?_
                  show Goes p.tables e below (T18.setTop (mkF m 112 #[.val (.ref oa),.val (.int (((pl.toUInt32>>>((6:Int32)&&&31).toUInt32).toInt32) + (1:Int32))),.val (.int (((ph.toUInt32>>>((6:Int32)&&&31).toUInt32).toInt32) - (1:Int32))),.val (.ref ol),.val (.int (3:Int32)),.val (.int (1:Int32)),.val (.ref o1),.val (.int (((((pl.toUInt32>>>((6:Int32)&&&31).toUInt32).toInt32) + (1:Int32)).toUInt32>>>((6:Int32)&&&31).toUInt32).toInt32)),.val (.int (((((ph.toUInt32>>>((6:Int32)&&&31).toUInt32).toInt32) - (1:Int32)).toUInt32>>>((6:Int32)&&&31).toUInt32).toInt32))] [(.int (1:Int32)), (.int (((((pl.toUInt32>>>((6:Int32)&&&31).toUInt32).toInt32) + (1:Int32)).toUInt32>>>((6:Int32)&&&31).toUInt32).toInt32))])) _
                  refine Goes.by (fun _ k => XS.iadd X18.here hx rfl (hb hby d4_112) rfl k) ?_
                  show Goes p.tables e below (T18.setTop (mkF m 113 #[.val (.ref oa),.val (.int (((pl.toUInt32>>>((6:Int32)&&&31).toUInt32).toInt32) + (1:Int32))),.val (.int (((ph.toUInt32>>>((6:Int32)&&&31).toUInt32).toInt32) - (1:Int32))),.val (.ref ol),.val (.int (3:Int32)),.val (.int (1:Int32)),.val (.ref o1),.val (.int (((((pl.toUInt32>>>((6:Int32)&&&31).toUInt32).toInt32) + (1:Int32)).toUInt32>>>((6:Int32)&&&31).toUInt32).toInt32)),.val (.int (((((ph.toUInt32>>>((6:Int32)&&&31).toUInt32).toInt32) - (1:Int32)).toUInt32>>>((6:Int32)&&&31).toUInt32).toInt32))] [(.int ((((((pl.toUInt32>>>((6:Int32)&&&31).toUInt32).toInt32) + (1:Int32)).toUInt32>>>((6:Int32)&&&31).toUInt32).toInt32) + (1:Int32)))])) _
                  refine Goes.by (fun _ k => XS.istoreN X18.here hx rfl (hb hby d4_113) rfl (l' := #[.val (.ref oa),.val (.int ((((((pl.toUInt32>>>((6:Int32)&&&31).toUInt32).toInt32) + (1:Int32)).toUInt32>>>((6:Int32)&&&31).toUInt32).toInt32) + (1:Int32))),.val (.int (((ph.toUInt32>>>((6:Int32)&&&31).toUInt32).toInt32) - (1:Int32))),.val (.ref ol),.val (.int (3:Int32)),.val (.int (1:Int32)),.val (.ref o1),.val (.int (((((pl.toUInt32>>>((6:Int32)&&&31).toUInt32).toInt32) + (1:Int32)).toUInt32>>>((6:Int32)&&&31).toUInt32).toInt32)),.val (.int (((((ph.toUInt32>>>((6:Int32)&&&31).toUInt32).toInt32) - (1:Int32)).toUInt32>>>((6:Int32)&&&31).toUInt32).toInt32))]) rfl k) ?_
                  show Goes p.tables e below (T18.setTop (mkF m 114 #[.val (.ref oa),.val (.int ((((((pl.toUInt32>>>((6:Int32)&&&31).toUInt32).toInt32) + (1:Int32)).toUInt32>>>((6:Int32)&&&31).toUInt32).toInt32) + (1:Int32))),.val (.int (((ph.toUInt32>>>((6:Int32)&&&31).toUInt32).toInt32) - (1:Int32))),.val (.ref ol),.val (.int (3:Int32)),.val (.int (1:Int32)),.val (.ref o1),.val (.int (((((pl.toUInt32>>>((6:Int32)&&&31).toUInt32).toInt32) + (1:Int32)).toUInt32>>>((6:Int32)&&&31).toUInt32).toInt32)),.val (.int (((((ph.toUInt32>>>((6:Int32)&&&31).toUInt32).toInt32) - (1:Int32)).toUInt32>>>((6:Int32)&&&31).toUInt32).toInt32))] [])) _
                  refine Goes.by (fun _ k => XS.iload X18.here hx rfl (hb hby d4_114) rfl k) ?_
                  show Goes p.tables e below (T18.setTop (mkF m 116 #[.val (.ref oa),.val (.int ((((((pl.toUInt32>>>((6:Int32)&&&31).toUInt32).toInt32) + (1:Int32)).toUInt32>>>((6:Int32)&&&31).toUInt32).toInt32) + (1:Int32))),.val (.int (((ph.toUInt32>>>((6:Int32)&&&31).toUInt32).toInt32) - (1:Int32))),.val (.ref ol),.val (.int (3:Int32)),.val (.int (1:Int32)),.val (.ref o1),.val (.int (((((pl.toUInt32>>>((6:Int32)&&&31).toUInt32).toInt32) + (1:Int32)).toUInt32>>>((6:Int32)&&&31).toUInt32).toInt32)),.val (.int (((((ph.toUInt32>>>((6:Int32)&&&31).toUInt32).toInt32) - (1:Int32)).toUInt32>>>((6:Int32)&&&31).toUInt32).toInt32))] [(.int (((((ph.toUInt32>>>((6:Int32)&&&31).toUInt32).toInt32) - (1:Int32)).toUInt32>>>((6:Int32)&&&31).toUInt32).toInt32))])) _
                  refine Goes.by (fun _ k => XS.iconst X18.here hx rfl (hb hby d4_116) k) ?_
                  show Goes p.tables e below (T18.setTop (mkF m 117 #[.val (.ref oa),.val (.int ((((((pl.toUInt32>>>((6:Int32)&&&31).toUInt32).toInt32) + (1:Int32)).toUInt32>>>((6:Int32)&&&31).toUInt32).toInt32) + (1:Int32))),.val (.int (((ph.toUInt32>>>((6:Int32)&&&31).toUInt32).toInt32) - (1:Int32))),.val (.ref ol),.val (.int (3:Int32)),.val (.int (1:Int32)),.val (.ref o1),.val (.int (((((pl.toUInt32>>>((6:Int32)&&&31).toUInt32).toInt32) + (1:Int32)).toUInt32>>>((6:Int32)&&&31).toUInt32).toInt32)),.val (.int (((((ph.toUInt32>>>((6:Int32)&&&31).toUInt32).toInt32) - (1:Int32)).toUInt32>>>((6:Int32)&&&31).toUInt32).toInt32))] [(.int (1:Int32)), (.int (((((ph.toUInt32>>>((6:Int32)&&&31).toUInt32).toInt32) - (1:Int32)).toUInt32>>>((6:Int32)&&&31).toUInt32).toInt32))])) _
                  refine Goes.by (fun _ k => XS.isub X18.here hx rfl (hb hby d4_117) rfl k) ?_
                  show Goes p.tables e below (T18.setTop (mkF m 118 #[.val (.ref oa),.val (.int ((((((pl.toUInt32>>>((6:Int32)&&&31).toUInt32).toInt32) + (1:Int32)).toUInt32>>>((6:Int32)&&&31).toUInt32).toInt32) + (1:Int32))),.val (.int (((ph.toUInt32>>>((6:Int32)&&&31).toUInt32).toInt32) - (1:Int32))),.val (.ref ol),.val (.int (3:Int32)),.val (.int (1:Int32)),.val (.ref o1),.val (.int (((((pl.toUInt32>>>((6:Int32)&&&31).toUInt32).toInt32) + (1:Int32)).toUInt32>>>((6:Int32)&&&31).toUInt32).toInt32)),.val (.int (((((ph.toUInt32>>>((6:Int32)&&&31).toUInt32).toInt32) - (1:Int32)).toUInt32>>>((6:Int32)&&&31).toUInt32).toInt32))] [(.int ((((((ph.toUInt32>>>((6:Int32)&&&31).toUInt32).toInt32) - (1:Int32)).toUInt32>>>((6:Int32)&&&31).toUInt32).toInt32) - (1:Int32)))])) _
                  refine Goes.by (fun _ k => XS.istoreN X18.here hx rfl (hb hby d4_118) rfl (l' := #[.val (.ref oa),.val (.int ((((((pl.toUInt32>>>((6:Int32)&&&31).toUInt32).toInt32) + (1:Int32)).toUInt32>>>((6:Int32)&&&31).toUInt32).toInt32) + (1:Int32))),.val (.int ((((((ph.toUInt32>>>((6:Int32)&&&31).toUInt32).toInt32) - (1:Int32)).toUInt32>>>((6:Int32)&&&31).toUInt32).toInt32) - (1:Int32))),.val (.ref ol),.val (.int (3:Int32)),.val (.int (1:Int32)),.val (.ref o1),.val (.int (((((pl.toUInt32>>>((6:Int32)&&&31).toUInt32).toInt32) + (1:Int32)).toUInt32>>>((6:Int32)&&&31).toUInt32).toInt32)),.val (.int (((((ph.toUInt32>>>((6:Int32)&&&31).toUInt32).toInt32) - (1:Int32)).toUInt32>>>((6:Int32)&&&31).toUInt32).toInt32))]) rfl k) ?_
                  show Goes p.tables e below (T18.setTop (mkF m 119 #[.val (.ref oa),.val (.int ((((((pl.toUInt32>>>((6:Int32)&&&31).toUInt32).toInt32) + (1:Int32)).toUInt32>>>((6:Int32)&&&31).toUInt32).toInt32) + (1:Int32))),.val (.int ((((((ph.toUInt32>>>((6:Int32)&&&31).toUInt32).toInt32) - (1:Int32)).toUInt32>>>((6:Int32)&&&31).toUInt32).toInt32) - (1:Int32))),.val (.ref ol),.val (.int (3:Int32)),.val (.int (1:Int32)),.val (.ref o1),.val (.int (((((pl.toUInt32>>>((6:Int32)&&&31).toUInt32).toInt32) + (1:Int32)).toUInt32>>>((6:Int32)&&&31).toUInt32).toInt32)),.val (.int (((((ph.toUInt32>>>((6:Int32)&&&31).toUInt32).toInt32) - (1:Int32)).toUInt32>>>((6:Int32)&&&31).toUInt32).toInt32))] [])) _
                  refine Goes.by (fun _ k => XS.iinc X18.here hx rfl (hb hby d4_119) rfl (l' := #[.val (.ref oa),.val (.int ((((((pl.toUInt32>>>((6:Int32)&&&31).toUInt32).toInt32) + (1:Int32)).toUInt32>>>((6:Int32)&&&31).toUInt32).toInt32) + (1:Int32))),.val (.int ((((((ph.toUInt32>>>((6:Int32)&&&31).toUInt32).toInt32) - (1:Int32)).toUInt32>>>((6:Int32)&&&31).toUInt32).toInt32) - (1:Int32))),.val (.ref ol),.val (.int (3:Int32)),.val (.int (2:Int32)),.val (.ref o1),.val (.int (((((pl.toUInt32>>>((6:Int32)&&&31).toUInt32).toInt32) + (1:Int32)).toUInt32>>>((6:Int32)&&&31).toUInt32).toInt32)),.val (.int (((((ph.toUInt32>>>((6:Int32)&&&31).toUInt32).toInt32) - (1:Int32)).toUInt32>>>((6:Int32)&&&31).toUInt32).toInt32))]) rfl k) ?_
                  show Goes p.tables e below (T18.setTop (mkF m 122 #[.val (.ref oa),.val (.int ((((((pl.toUInt32>>>((6:Int32)&&&31).toUInt32).toInt32) + (1:Int32)).toUInt32>>>((6:Int32)&&&31).toUInt32).toInt32) + (1:Int32))),.val (.int ((((((ph.toUInt32>>>((6:Int32)&&&31).toUInt32).toInt32) - (1:Int32)).toUInt32>>>((6:Int32)&&&31).toUInt32).toInt32) - (1:Int32))),.val (.ref ol),.val (.int (3:Int32)),.val (.int (2:Int32)),.val (.ref o1),.val (.int (((((pl.toUInt32>>>((6:Int32)&&&31).toUInt32).toInt32) + (1:Int32)).toUInt32>>>((6:Int32)&&&31).toUInt32).toInt32)),.val (.int (((((ph.toUInt32>>>((6:Int32)&&&31).toUInt32).toInt32) - (1:Int32)).toUInt32>>>((6:Int32)&&&31).toUInt32).toInt32))] [])) _
                  refine Goes.by (fun _ k => XS.goto X18.here hx rfl (pc0 := 122) (pc' := 12) rfl (hb hby d4_122) (by decide) (by decide) k) ?_
                  show Goes p.tables e below (T18.setTop (mkF m 12 #[.val (.ref oa),.val (.int ((((((pl.toUInt32>>>((6:Int32)&&&31).toUInt32).toInt32) + (1:Int32)).toUInt32>>>((6:Int32)&&&31).toUInt32).toInt32) + (1:Int32))),.val (.int ((((((ph.toUInt32>>>((6:Int32)&&&31).toUInt32).toInt32) - (1:Int32)).toUInt32>>>((6:Int32)&&&31).toUInt32).toInt32) - (1:Int32))),.val (.ref ol),.val (.int (3:Int32)),.val (.int (2:Int32)),.val (.ref o1),.val (.int (((((pl.toUInt32>>>((6:Int32)&&&31).toUInt32).toInt32) + (1:Int32)).toUInt32>>>((6:Int32)&&&31).toUInt32).toInt32)),.val (.int (((((ph.toUInt32>>>((6:Int32)&&&31).toUInt32).toInt32) - (1:Int32)).toUInt32>>>((6:Int32)&&&31).toUInt32).toInt32))] [])) _
                  refine Goes.by (fun _ k => XS.iload X18.here hx rfl (hb hby d4_12) rfl k) ?_
                  show Goes p.tables e below (T18.setTop (mkF m 14 #[.val (.ref oa),.val (.int ((((((pl.toUInt32>>>((6:Int32)&&&31).toUInt32).toInt32) + (1:Int32)).toUInt32>>>((6:Int32)&&&31).toUInt32).toInt32) + (1:Int32))),.val (.int ((((((ph.toUInt32>>>((6:Int32)&&&31).toUInt32).toInt32) - (1:Int32)).toUInt32>>>((6:Int32)&&&31).toUInt32).toInt32) - (1:Int32))),.val (.ref ol),.val (.int (3:Int32)),.val (.int (2:Int32)),.val (.ref o1),.val (.int (((((pl.toUInt32>>>((6:Int32)&&&31).toUInt32).toInt32) + (1:Int32)).toUInt32>>>((6:Int32)&&&31).toUInt32).toInt32)),.val (.int (((((ph.toUInt32>>>((6:Int32)&&&31).toUInt32).toInt32) - (1:Int32)).toUInt32>>>((6:Int32)&&&31).toUInt32).toInt32))] [(.int (2:Int32))])) _
                  refine Goes.by (fun _ k => XS.iload X18.here hx rfl (hb hby d4_14) rfl k) ?_
                  show Goes p.tables e below (T18.setTop (mkF m 16 #[.val (.ref oa),.val (.int ((((((pl.toUInt32>>>((6:Int32)&&&31).toUInt32).toInt32) + (1:Int32)).toUInt32>>>((6:Int32)&&&31).toUInt32).toInt32) + (1:Int32))),.val (.int ((((((ph.toUInt32>>>((6:Int32)&&&31).toUInt32).toInt32) - (1:Int32)).toUInt32>>>((6:Int32)&&&31).toUInt32).toInt32) - (1:Int32))),.val (.ref ol),.val (.int (3:Int32)),.val (.int (2:Int32)),.val (.ref o1),.val (.int (((((pl.toUInt32>>>((6:Int32)&&&31).toUInt32).toInt32) + (1:Int32)).toUInt32>>>((6:Int32)&&&31).toUInt32).toInt32)),.val (.int (((((ph.toUInt32>>>((6:Int32)&&&31).toUInt32).toInt32) - (1:Int32)).toUInt32>>>((6:Int32)&&&31).toUInt32).toInt32))] [(.int (3:Int32)), (.int (2:Int32))])) _
                  refine Goes.by (fun _ k => XS.icmpNo X18.here hx rfl (hb hby d4_16) rfl (tlt (by decide : (2:Int32) < (3:Int32))).2.1 k) ?_
                  show Goes p.tables e below (T18.setTop (mkF m 19 #[.val (.ref oa),.val (.int ((((((pl.toUInt32>>>((6:Int32)&&&31).toUInt32).toInt32) + (1:Int32)).toUInt32>>>((6:Int32)&&&31).toUInt32).toInt32) + (1:Int32))),.val (.int ((((((ph.toUInt32>>>((6:Int32)&&&31).toUInt32).toInt32) - (1:Int32)).toUInt32>>>((6:Int32)&&&31).toUInt32).toInt32) - (1:Int32))),.val (.ref ol),.val (.int (3:Int32)),.val (.int (2:Int32)),.val (.ref o1),.val (.int (((((pl.toUInt32>>>((6:Int32)&&&31).toUInt32).toInt32) + (1:Int32)).toUInt32>>>((6:Int32)&&&31).toUInt32).toInt32)),.val (.int (((((ph.toUInt32>>>((6:Int32)&&&31).toUInt32).toInt32) - (1:Int32)).toUInt32>>>((6:Int32)&&&31).toUInt32).toInt32))] [])) _
                  refine Goes.by (fun _ k => XS.aloadN X18.here hx rfl (hb hby d4_19) rfl rfl k) ?_
                  show Goes p.tables e below (T18.setTop (mkF m 20 #[.val (.ref oa),.val (.int ((((((pl.toUInt32>>>((6:Int32)&&&31).toUInt32).toInt32) + (1:Int32)).toUInt32>>>((6:Int32)&&&31).toUInt32).toInt32) + (1:Int32))),.val (.int ((((((ph.toUInt32>>>((6:Int32)&&&31).toUInt32).toInt32) - (1:Int32)).toUInt32>>>((6:Int32)&&&31).toUInt32).toInt32) - (1:Int32))),.val (.ref ol),.val (.int (3:Int32)),.val (.int (2:Int32)),.val (.ref o1),.val (.int (((((pl.toUInt32>>>((6:Int32)&&&31).toUInt32).toInt32) + (1:Int32)).toUInt32>>>((6:Int32)&&&31).toUInt32).toInt32)),.val (.int (((((ph.toUInt32>>>((6:Int32)&&&31).toUInt32).toInt32) - (1:Int32)).toUInt32>>>((6:Int32)&&&31).toUInt32).toInt32))] [(.ref ol)])) _
                  refine Goes.by (fun _ k => XS.iload X18.here hx rfl (hb hby d4_20) rfl k) ?_
                  show Goes p.tables e below (T18.setTop (mkF m 22 #[.val (.ref oa),.val (.int ((((((pl.toUInt32>>>((6:Int32)&&&31).toUInt32).toInt32) + (1:Int32)).toUInt32>>>((6:Int32)&&&31).toUInt32).toInt32) + (1:Int32))),.val (.int ((((((ph.toUInt32>>>((6:Int32)&&&31).toUInt32).toInt32) - (1:Int32)).toUInt32>>>((6:Int32)&&&31).toUInt32).toInt32) - (1:Int32))),.val (.ref ol),.val (.int (3:Int32)),.val (.int (2:Int32)),.val (.ref o1),.val (.int (((((pl.toUInt32>>>((6:Int32)&&&31).toUInt32).toInt32) + (1:Int32)).toUInt32>>>((6:Int32)&&&31).toUInt32).toInt32)),.val (.int (((((ph.toUInt32>>>((6:Int32)&&&31).toUInt32).toInt32) - (1:Int32)).toUInt32>>>((6:Int32)&&&31).toUInt32).toInt32))] [(.int (2:Int32)), (.ref ol)])) _
                  refine Goes.by (fun _ k => ldR (v := (.ref o2)) (fr := (mkF m 22 #[.val (.ref oa),.val (.int ((((((pl.toUInt32>>>((6:Int32)&&&31).toUInt32).toInt32) + (1:Int32)).toUInt32>>>((6:Int32)&&&31).toUInt32).toInt32) + (1:Int32))),.val (.int ((((((ph.toUInt32>>>((6:Int32)&&&31).toUInt32).toInt32) - (1:Int32)).toUInt32>>>((6:Int32)&&&31).toUInt32).toInt32) - (1:Int32))),.val (.ref ol),.val (.int (3:Int32)),.val (.int (2:Int32)),.val (.ref o1),.val (.int (((((pl.toUInt32>>>((6:Int32)&&&31).toUInt32).toInt32) + (1:Int32)).toUInt32>>>((6:Int32)&&&31).toUInt32).toInt32)),.val (.int (((((ph.toUInt32>>>((6:Int32)&&&31).toUInt32).toInt32) - (1:Int32)).toUInt32>>>((6:Int32)&&&31).toUInt32).toInt32))] [(.int (2:Int32)), (.ref ol)])) X18 hx hZ e18 A_ol rfl (i := 2) (by decide) (by decide) rfl rfl rfl (hb hby d4_22) k) ?_
                  show Goes p.tables e below (T18.setTop (mkF m 23 #[.val (.ref oa),.val (.int ((((((pl.toUInt32>>>((6:Int32)&&&31).toUInt32).toInt32) + (1:Int32)).toUInt32>>>((6:Int32)&&&31).toUInt32).toInt32) + (1:Int32))),.val (.int ((((((ph.toUInt32>>>((6:Int32)&&&31).toUInt32).toInt32) - (1:Int32)).toUInt32>>>((6:Int32)&&&31).toUInt32).toInt32) - (1:Int32))),.val (.ref ol),.val (.int (3:Int32)),.val (.int (2:Int32)),.val (.ref o1),.val (.int (((((pl.toUInt32>>>((6:Int32)&&&31).toUInt32).toInt32) + (1:Int32)).toUInt32>>>((6:Int32)&&&31).toUInt32).toInt32)),.val (.int (((((ph.toUInt32>>>((6:Int32)&&&31).toUInt32).toInt32) - (1:Int32)).toUInt32>>>((6:Int32)&&&31).toUInt32).toInt32))] [(.ref o2)])) _
                  refine Goes.by (fun _ k => XS.astore X18.here hx rfl (hb hby d4_23) rfl rfl (l' := #[.val (.ref oa),.val (.int ((((((pl.toUInt32>>>((6:Int32)&&&31).toUInt32).toInt32) + (1:Int32)).toUInt32>>>((6:Int32)&&&31).toUInt32).toInt32) + (1:Int32))),.val (.int ((((((ph.toUInt32>>>((6:Int32)&&&31).toUInt32).toInt32) - (1:Int32)).toUInt32>>>((6:Int32)&&&31).toUInt32).toInt32) - (1:Int32))),.val (.ref ol),.val (.int (3:Int32)),.val (.int (2:Int32)),.val (.ref o2),.val (.int (((((pl.toUInt32>>>((6:Int32)&&&31).toUInt32).toInt32) + (1:Int32)).toUInt32>>>((6:Int32)&&&31).toUInt32).toInt32)),.val (.int (((((ph.toUInt32>>>((6:Int32)&&&31).toUInt32).toInt32) - (1:Int32)).toUInt32>>>((6:Int32)&&&31).toUInt32).toInt32))]) rfl k) ?_
                  show Goes p.tables e below (T18.setTop (mkF m 25 #[.val (.ref oa),.val (.int ((((((pl.toUInt32>>>((6:Int32)&&&31).toUInt32).toInt32) + (1:Int32)).toUInt32>>>((6:Int32)&&&31).toUInt32).toInt32) + (1:Int32))),.val (.int ((((((ph.toUInt32>>>((6:Int32)&&&31).toUInt32).toInt32) - (1:Int32)).toUInt32>>>((6:Int32)&&&31).toUInt32).toInt32) - (1:Int32))),.val (.ref ol),.val (.int (3:Int32)),.val (.int (2:Int32)),.val (.ref o2),.val (.int (((((pl.toUInt32>>>((6:Int32)&&&31).toUInt32).toInt32) + (1:Int32)).toUInt32>>>((6:Int32)&&&31).toUInt32).toInt32)),.val (.int (((((ph.toUInt32>>>((6:Int32)&&&31).toUInt32).toInt32) - (1:Int32)).toUInt32>>>((6:Int32)&&&31).toUInt32).toInt32))] [])) _
                  refine Goes.by (fun _ k => XS.iloadN X18.here hx rfl (hb hby d4_25) rfl k) ?_
                  show Goes p.tables e below (T18.setTop (mkF m 26 #[.val (.ref oa),.val (.int ((((((pl.toUInt32>>>((6:Int32)&&&31).toUInt32).toInt32) + (1:Int32)).toUInt32>>>((6:Int32)&&&31).toUInt32).toInt32) + (1:Int32))),.val (.int ((((((ph.toUInt32>>>((6:Int32)&&&31).toUInt32).toInt32) - (1:Int32)).toUInt32>>>((6:Int32)&&&31).toUInt32).toInt32) - (1:Int32))),.val (.ref ol),.val (.int (3:Int32)),.val (.int (2:Int32)),.val (.ref o2),.val (.int (((((pl.toUInt32>>>((6:Int32)&&&31).toUInt32).toInt32) + (1:Int32)).toUInt32>>>((6:Int32)&&&31).toUInt32).toInt32)),.val (.int (((((ph.toUInt32>>>((6:Int32)&&&31).toUInt32).toInt32) - (1:Int32)).toUInt32>>>((6:Int32)&&&31).toUInt32).toInt32))] [(.int ((((((ph.toUInt32>>>((6:Int32)&&&31).toUInt32).toInt32) - (1:Int32)).toUInt32>>>((6:Int32)&&&31).toUInt32).toInt32) - (1:Int32)))])) _
                  refine Goes.by (fun _ k => XS.iloadN X18.here hx rfl (hb hby d4_26) rfl k) ?_
                  show Goes p.tables e below (T18.setTop (mkF m 27 #[.val (.ref oa),.val (.int ((((((pl.toUInt32>>>((6:Int32)&&&31).toUInt32).toInt32) + (1:Int32)).toUInt32>>>((6:Int32)&&&31).toUInt32).toInt32) + (1:Int32))),.val (.int ((((((ph.toUInt32>>>((6:Int32)&&&31).toUInt32).toInt32) - (1:Int32)).toUInt32>>>((6:Int32)&&&31).toUInt32).toInt32) - (1:Int32))),.val (.ref ol),.val (.int (3:Int32)),.val (.int (2:Int32)),.val (.ref o2),.val (.int (((((pl.toUInt32>>>((6:Int32)&&&31).toUInt32).toInt32) + (1:Int32)).toUInt32>>>((6:Int32)&&&31).toUInt32).toInt32)),.val (.int (((((ph.toUInt32>>>((6:Int32)&&&31).toUInt32).toInt32) - (1:Int32)).toUInt32>>>((6:Int32)&&&31).toUInt32).toInt32))] [(.int ((((((pl.toUInt32>>>((6:Int32)&&&31).toUInt32).toInt32) + (1:Int32)).toUInt32>>>((6:Int32)&&&31).toUInt32).toInt32) + (1:Int32))), (.int ((((((ph.toUInt32>>>((6:Int32)&&&31).toUInt32).toInt32) - (1:Int32)).toUInt32>>>((6:Int32)&&&31).toUInt32).toInt32) - (1:Int32)))])) _
                  by_cases hc20 : ((((((ph.toUInt32>>>((6:Int32)&&&31).toUInt32).toInt32) - (1:Int32)).toUInt32>>>((6:Int32)&&&31).toUInt32).toInt32) - (1:Int32)) < ((((((pl.toUInt32>>>((6:Int32)&&&31).toUInt32).toInt32) + (1:Int32)).toUInt32>>>((6:Int32)&&&31).toUInt32).toInt32) + (1:Int32))
                  · refine Goes.by (fun _ k => XS.icmpNo X18.here hx rfl (hb hby d4_27) rfl (tlt hc20).2.1 k) ?_
                    show Goes p.tables e below (T18.setTop (mkF m 30 #[.val (.ref oa),.val (.int ((((((pl.toUInt32>>>((6:Int32)&&&31).toUInt32).toInt32) + (1:Int32)).toUInt32>>>((6:Int32)&&&31).toUInt32).toInt32) + (1:Int32))),.val (.int ((((((ph.toUInt32>>>((6:Int32)&&&31).toUInt32).toInt32) - (1:Int32)).toUInt32>>>((6:Int32)&&&31).toUInt32).toInt32) - (1:Int32))),.val (.ref ol),.val (.int (3:Int32)),.val (.int (2:Int32)),.val (.ref o2),.val (.int (((((pl.toUInt32>>>((6:Int32)&&&31).toUInt32).toInt32) + (1:Int32)).toUInt32>>>((6:Int32)&&&31).toUInt32).toInt32)),.val (.int (((((ph.toUInt32>>>((6:Int32)&&&31).toUInt32).toInt32) - (1:Int32)).toUInt32>>>((6:Int32)&&&31).toUInt32).toInt32))] [])) _
                    refine Goes.by (fun _ k => XS.iconst X18.here hx rfl (hb hby d4_30) k) ?_
                    show Goes p.tables e below (T18.setTop (mkF m 31 #[.val (.ref oa),.val (.int ((((((pl.toUInt32>>>((6:Int32)&&&31).toUInt32).toInt32) + (1:Int32)).toUInt32>>>((6:Int32)&&&31).toUInt32).toInt32) + (1:Int32))),.val (.int ((((((ph.toUInt32>>>((6:Int32)&&&31).toUInt32).toInt32) - (1:Int32)).toUInt32>>>((6:Int32)&&&31).toUInt32).toInt32) - (1:Int32))),.val (.ref ol),.val (.int (3:Int32)),.val (.int (2:Int32)),.val (.ref o2),.val (.int (((((pl.toUInt32>>>((6:Int32)&&&31).toUInt32).toInt32) + (1:Int32)).toUInt32>>>((6:Int32)&&&31).toUInt32).toInt32)),.val (.int (((((ph.toUInt32>>>((6:Int32)&&&31).toUInt32).toInt32) - (1:Int32)).toUInt32>>>((6:Int32)&&&31).toUInt32).toInt32))] [(.int (0:Int32))])) _
                    obtain ⟨fs, hr, hrun, hended, hW, hsame⟩ := X18.leave (v := some (.int (0:Int32))) (fun h => by rw [Bd.returns] at h; cases h)
                    refine ⟨_, _, retN X18 hx (t := .boolean) Bd.returns (by simp) (hb hby d4_31) hr, hrun, hended, _, _, rfl, ?_, ⟨_, rfl⟩, hW, hsame.mono (by decide) (by decide)⟩
                    show Q4d3 Z oa pl ph ol o0 o1 o2 gx gy gz wx wy wz nl nh h0 n0 _ T18.heap _
                    rw [e18]
                    exact ⟨(by rw [fn4d3, if_neg hc2, if_neg hc3, if_pos hc8, if_pos hc10, if_neg hc11, if_neg hc12, if_pos hc17, if_pos hc19, if_pos hc20]), N18, rfl⟩
                  · refine Goes.by (fun _ k => XS.icmpYes X18.here hx rfl (pc0 := 27) (pc' := 32) rfl (hb hby d4_27) rfl (flt hc20).2.1 (by decide) (by decide) k) ?_
                    show Goes p.tables e below (T18.setTop (mkF m 32 #[.val (.ref oa),.val (.int ((((((pl.toUInt32>>>((6:Int32)&&&31).toUInt32).toInt32) + (1:Int32)).toUInt32>>>((6:Int32)&&&31).toUInt32).toInt32) + (1:Int32))),.val (.int ((((((ph.toUInt32>>>((6:Int32)&&&31).toUInt32).toInt32) - (1:Int32)).toUInt32>>>((6:Int32)&&&31).toUInt32).toInt32) - (1:Int32))),.val (.ref ol),.val (.int (3:Int32)),.val (.int (2:Int32)),.val (.ref o2),.val (.int (((((pl.toUInt32>>>((6:Int32)&&&31).toUInt32).toInt32) + (1:Int32)).toUInt32>>>((6:Int32)&&&31).toUInt32).toInt32)),.val (.int (((((ph.toUInt32>>>((6:Int32)&&&31).toUInt32).toInt32) - (1:Int32)).toUInt32>>>((6:Int32)&&&31).toUInt32).toInt32))] [])) _
                    refine Goes.by (fun _ k => XS.iloadN X18.here hx rfl (hb hby d4_32) rfl k) ?_
                    show Goes p.tables e below (T18.setTop (mkF m 33 #[.val (.ref oa),.val (.int ((((((pl.toUInt32>>>((6:Int32)&&&31).toUInt32).toInt32) + (1:Int32)).toUInt32>>>((6:Int32)&&&31).toUInt32).toInt32) + (1:Int32))),.val (.int ((((((ph.toUInt32>>>((6:Int32)&&&31).toUInt32).toInt32) - (1:Int32)).toUInt32>>>((6:Int32)&&&31).toUInt32).toInt32) - (1:Int32))),.val (.ref ol),.val (.int (3:Int32)),.val (.int (2:Int32)),.val (.ref o2),.val (.int (((((pl.toUInt32>>>((6:Int32)&&&31).toUInt32).toInt32) + (1:Int32)).toUInt32>>>((6:Int32)&&&31).toUInt32).toInt32)),.val (.int (((((ph.toUInt32>>>((6:Int32)&&&31).toUInt32).toInt32) - (1:Int32)).toUInt32>>>((6:Int32)&&&31).toUInt32).toInt32))] [(.int ((((((pl.toUInt32>>>((6:Int32)&&&31).toUInt32).toInt32) + (1:Int32)).toUInt32>>>((6:Int32)&&&31).toUInt32).toInt32) + (1:Int32)))])) _
                    refine Goes.by (fun _ k => XS.bipush X18.here hx rfl (hb hby d4_33) k) ?_
                    show Goes p.tables e below (T18.setTop (mkF m 35 #[.val (.ref oa),.val (.int ((((((pl.toUInt32>>>((6:Int32)&&&31).toUInt32).toInt32) + (1:Int32)).toUInt32>>>((6:Int32)&&&31).toUInt32).toInt32) + (1:Int32))),.val (.int ((((((ph.toUInt32>>>((6:Int32)&&&31).toUInt32).toInt32) - (1:Int32)).toUInt32>>>((6:Int32)&&&31).toUInt32).toInt32) - (1:Int32))),.val (.ref ol),.val (.int (3:Int32)),.val (.int (2:Int32)),.val (.ref o2),.val (.int (((((pl.toUInt32>>>((6:Int32)&&&31).toUInt32).toInt32) + (1:Int32)).toUInt32>>>((6:Int32)&&&31).toUInt32).toInt32)),.val (.int (((((ph.toUInt32>>>((6:Int32)&&&31).toUInt32).toInt32) - (1:Int32)).toUInt32>>>((6:Int32)&&&31).toUInt32).toInt32))] [(.int (6:Int32)), (.int ((((((pl.toUInt32>>>((6:Int32)&&&31).toUInt32).toInt32) + (1:Int32)).toUInt32>>>((6:Int32)&&&31).toUInt32).toInt32) + (1:Int32)))])) _
                    refine Goes.by (fun _ k => XS.iushr X18.here hx rfl (hb hby d4_35) rfl k) ?_
                    show Goes p.tables e below (T18.setTop (mkF m 36 #[.val (.ref oa),.val (.int ((((((pl.toUInt32>>>((6:Int32)&&&31).toUInt32).toInt32) + (1:Int32)).toUInt32>>>((6:Int32)&&&31).toUInt32).toInt32) + (1:Int32))),.val (.int ((((((ph.toUInt32>>>((6:Int32)&&&31).toUInt32).toInt32) - (1:Int32)).toUInt32>>>((6:Int32)&&&31).toUInt32).toInt32) - (1:Int32))),.val (.ref ol),.val (.int (3:Int32)),.val (.int (2:Int32)),.val (.ref o2),.val (.int (((((pl.toUInt32>>>((6:Int32)&&&31).toUInt32).toInt32) + (1:Int32)).toUInt32>>>((6:Int32)&&&31).toUInt32).toInt32)),.val (.int (((((ph.toUInt32>>>((6:Int32)&&&31).toUInt32).toInt32) - (1:Int32)).toUInt32>>>((6:Int32)&&&31).toUInt32).toInt32))] [(.int ((((((((pl.toUInt32>>>((6:Int32)&&&31).toUInt32).toInt32) + (1:Int32)).toUInt32>>>((6:Int32)&&&31).toUInt32).toInt32) + (1:Int32)).toUInt32>>>((6:Int32)&&&31).toUInt32).toInt32))])) _
                    refine Goes.by (fun _ k => XS.istore X18.here hx rfl (hb hby d4_36) rfl (l' := #[.val (.ref oa),.val (.int ((((((pl.toUInt32>>>((6:Int32)&&&31).toUInt32).toInt32) + (1:Int32)).toUInt32>>>((6:Int32)&&&31).toUInt32).toInt32) + (1:Int32))),.val (.int ((((((ph.toUInt32>>>((6:Int32)&&&31).toUInt32).toInt32) - (1:Int32)).toUInt32>>>((6:Int32)&&&31).toUInt32).toInt32) - (1:Int32))),.val (.ref ol),.val (.int (3:Int32)),.val (.int (2:Int32)),.val (.ref o2),.val (.int ((((((((pl.toUInt32>>>((6:Int32)&&&31).toUInt32).toInt32) + (1:Int32)).toUInt32>>>((6:Int32)&&&31).toUInt32).toInt32) + (1:Int32)).toUInt32>>>((6:Int32)&&&31).toUInt32).toInt32)),.val (.int (((((ph.toUInt32>>>((6:Int32)&&&31).toUInt32).toInt32) - (1:Int32)).toUInt32>>>((6:Int32)&&&31).toUInt32).toInt32))]) rfl k) ?_
                    show Goes p.tables e below (T18.setTop (mkF m 38 #[.val (.ref oa),.val (.int ((((((pl.toUInt32>>>((6:Int32)&&&31).toUInt32).toInt32) + (1:Int32)).toUInt32>>>((6:Int32)&&&31).toUInt32).toInt32) + (1:Int32))),.val (.int ((((((ph.toUInt32>>>((6:Int32)&&&31).toUInt32).toInt32) - (1:Int32)).toUInt32>>>((6:Int32)&&&31).toUInt32).toInt32) - (1:Int32))),.val (.ref ol),.val (.int (3:Int32)),.val (.int (2:Int32)),.val (.ref o2),.val (.int ((((((((pl.toUInt32>>>((6:Int32)&&&31).toUInt32).toInt32) + (1:Int32)).toUInt32>>>((6:Int32)&&&31).toUInt32).toInt32) + (1:Int32)).toUInt32>>>((6:Int32)&&&31).toUInt32).toInt32)),.val (.int (((((ph.toUInt32>>>((6:Int32)&&&31).toUInt32).toInt32) - (1:Int32)).toUInt32>>>((6:Int32)&&&31).toUInt32).toInt32))] [])) _
                    refine Goes.by (fun _ k => XS.iloadN X18.here hx rfl (hb hby d4_38) rfl k) ?_
                    show Goes p.tables e below (T18.setTop (mkF m 39 #[.val (.ref oa),.val (.int ((((((pl.toUInt32>>>((6:Int32)&&&31).toUInt32).toInt32) + (1:Int32)).toUInt32>>>((6:Int32)&&&31).toUInt32).toInt32) + (1:Int32))),.val (.int ((((((ph.toUInt32>>>((6:Int32)&&&31).toUInt32).toInt32) - (1:Int32)).toUInt32>>>((6:Int32)&&&31).toUInt32).toInt32) - (1:Int32))),.val (.ref ol),.val (.int (3:Int32)),.val (.int (2:Int32)),.val (.ref o2),.val (.int ((((((((pl.toUInt32>>>((6:Int32)&&&31).toUInt32).toInt32) + (1:Int32)).toUInt32>>>((6:Int32)&&&31).toUInt32).toInt32) + (1:Int32)).toUInt32>>>((6:Int32)&&&31).toUInt32).toInt32)),.val (.int (((((ph.toUInt32>>>((6:Int32)&&&31).toUInt32).toInt32) - (1:Int32)).toUInt32>>>((6:Int32)&&&31).toUInt32).toInt32))] [(.int ((((((ph.toUInt32>>>((6:Int32)&&&31).toUInt32).toInt32) - (1:Int32)).toUInt32>>>((6:Int32)&&&31).toUInt32).toInt32) - (1:Int32)))])) _
                    refine Goes.by (fun _ k => XS.bipush X18.here hx rfl (hb hby d4_39) k) ?_
                    show Goes p.tables e below (T18.setTop (mkF m 41 #[.val (.ref oa),.val (.int ((((((pl.toUInt32>>>((6:Int32)&&&31).toUInt32).toInt32) + (1:Int32)).toUInt32>>>((6:Int32)&&&31).toUInt32).toInt32) + (1:Int32))),.val (.int ((((((ph.toUInt32>>>((6:Int32)&&&31).toUInt32).toInt32) - (1:Int32)).toUInt32>>>((6:Int32)&&&31).toUInt32).toInt32) - (1:Int32))),.val (.ref ol),.val (.int (3:Int32)),.val (.int (2:Int32)),.val (.ref o2),.val (.int ((((((((pl.toUInt32>>>((6:Int32)&&&31).toUInt32).toInt32) + (1:Int32)).toUInt32>>>((6:Int32)&&&31).toUInt32).toInt32) + (1:Int32)).toUInt32>>>((6:Int32)&&&31).toUInt32).toInt32)),.val (.int (((((ph.toUInt32>>>((6:Int32)&&&31).toUInt32).toInt32) - (1:Int32)).toUInt32>>>((6:Int32)&&&31).toUInt32).toInt32))] [(.int (6:Int32)), (.int ((((((ph.toUInt32>>>((6:Int32)&&&31).toUInt32).toInt32) - (1:Int32)).toUInt32>>>((6:Int32)&&&31).toUInt32).toInt32) - (1:Int32)))])) _
                    refine Goes.by (fun _ k => XS.iushr X18.here hx rfl (hb hby d4_41) rfl k) ?_
                    show Goes p.tables e below (T18.setTop (mkF m 42 #[.val (.ref oa),.val (.int ((((((pl.toUInt32>>>((6:Int32)&&&31).toUInt32).toInt32) + (1:Int32)).toUInt32>>>((6:Int32)&&&31).toUInt32).toInt32) + (1:Int32))),.val (.int ((((((ph.toUInt32>>>((6:Int32)&&&31).toUInt32).toInt32) - (1:Int32)).toUInt32>>>((6:Int32)&&&31).toUInt32).toInt32) - (1:Int32))),.val (.ref ol),.val (.int (3:Int32)),.val (.int (2:Int32)),.val (.ref o2),.val (.int ((((((((pl.toUInt32>>>((6:Int32)&&&31).toUInt32).toInt32) + (1:Int32)).toUInt32>>>((6:Int32)&&&31).toUInt32).toInt32) + (1:Int32)).toUInt32>>>((6:Int32)&&&31).toUInt32).toInt32)),.val (.int (((((ph.toUInt32>>>((6:Int32)&&&31).toUInt32).toInt32) - (1:Int32)).toUInt32>>>((6:Int32)&&&31).toUInt32).toInt32))] [(.int ((((((((ph.toUInt32>>>((6:Int32)&&&31).toUInt32).toInt32) - (1:Int32)).toUInt32>>>((6:Int32)&&&31).toUInt32).toInt32) - (1:Int32)).toUInt32>>>((6:Int32)&&&31).toUInt32).toInt32))])) _
                    refine Goes.by (fun _ k => XS.istore X18.here hx rfl (hb hby d4_42) rfl (l' := #[.val (.ref oa),.val (.int ((((((pl.toUInt32>>>((6:Int32)&&&31).toUInt32).toInt32) + (1:Int32)).toUInt32>>>((6:Int32)&&&31).toUInt32).toInt32) + (1:Int32))),.val (.int ((((((ph.toUInt32>>>((6:Int32)&&&31).toUInt32).toInt32) - (1:Int32)).toUInt32>>>((6:Int32)&&&31).toUInt32).toInt32) - (1:Int32))),.val (.ref ol),.val (.int (3:Int32)),.val (.int (2:Int32)),.val (.ref o2),.val (.int ((((((((pl.toUInt32>>>((6:Int32)&&&31).toUInt32).toInt32) + (1:Int32)).toUInt32>>>((6:Int32)&&&31).toUInt32).toInt32) + (1:Int32)).toUInt32>>>((6:Int32)&&&31).toUInt32).toInt32)),.val (.int ((((((((ph.toUInt32>>>((6:Int32)&&&31).toUInt32).toInt32) - (1:Int32)).toUInt32>>>((6:Int32)&&&31).toUInt32).toInt32) - (1:Int32)).toUInt32>>>((6:Int32)&&&31).toUInt32).toInt32))]) rfl k) ?_
                    show Goes p.tables e below (T18.setTop (mkF m 44 #[.val (.ref oa),.val (.int ((((((pl.toUInt32>>>((6:Int32)&&&31).toUInt32).toInt32) + (1:Int32)).toUInt32>>>((6:Int32)&&&31).toUInt32).toInt32) + (1:Int32))),.val (.int ((((((ph.toUInt32>>>((6:Int32)&&&31).toUInt32).toInt32) - (1:Int32)).toUInt32>>>((6:Int32)&&&31).toUInt32).toInt32) - (1:Int32))),.val (.ref ol),.val (.int (3:Int32)),.val (.int (2:Int32)),.val (.ref o2),.val (.int ((((((((pl.toUInt32>>>((6:Int32)&&&31).toUInt32).toInt32) + (1:Int32)).toUInt32>>>((6:Int32)&&&31).toUInt32).toInt32) + (1:Int32)).toUInt32>>>((6:Int32)&&&31).toUInt32).toInt32)),.val (.int ((((((((ph.toUInt32>>>((6:Int32)&&&31).toUInt32).toInt32) - (1:Int32)).toUInt32>>>((6:Int32)&&&31).toUInt32).toInt32) - (1:Int32)).toUInt32>>>((6:Int32)&&&31).toUInt32).toInt32))] [])) _
                    refine Goes.by (fun _ k => XS.iload X18.here hx rfl (hb hby d4_44) rfl k) ?_
                    show Goes p.tables e below (T18.setTop (mkF m 46 #[.val (.ref oa),.val (.int ((((((pl.toUInt32>>>((6:Int32)&&&31).toUInt32).toInt32) + (1:Int32)).toUInt32>>>((6:Int32)&&&31).toUInt32).toInt32) + (1:Int32))),.val (.int ((((((ph.toUInt32>>>((6:Int32)&&&31).toUInt32).toInt32) - (1:Int32)).toUInt32>>>((6:Int32)&&&31).toUInt32).toInt32) - (1:Int32))),.val (.ref ol),.val (.int (3:Int32)),.val (.int (2:Int32)),.val (.ref o2),.val (.int ((((((((pl.toUInt32>>>((6:Int32)&&&31).toUInt32).toInt32) + (1:Int32)).toUInt32>>>((6:Int32)&&&31).toUInt32).toInt32) + (1:Int32)).toUInt32>>>((6:Int32)&&&31).toUInt32).toInt32)),.val (.int ((((((((ph.toUInt32>>>((6:Int32)&&&31).toUInt32).toInt32) - (1:Int32)).toUInt32>>>((6:Int32)&&&31).toUInt32).toInt32) - (1:Int32)).toUInt32>>>((6:Int32)&&&31).toUInt32).toInt32))] [(.int ((((((((pl.toUInt32>>>((6:Int32)&&&31).toUInt32).toInt32) + (1:Int32)).toUInt32>>>((6:Int32)&&&31).toUInt32).toInt32) + (1:Int32)).toUInt32>>>((6:Int32)&&&31).toUInt32).toInt32))])) _
                    refine Goes.by (fun _ k => XS.iload X18.here hx rfl (hb hby d4_46) rfl k) ?_
                    show Goes p.tables e below (T18.setTop (mkF m 48 #[.val (.ref oa),.val (.int ((((((pl.toUInt32>>>((6:Int32)&&&31).toUInt32).toInt32) + (1:Int32)).toUInt32>>>((6:Int32)&&&31).toUInt32).toInt32) + (1:Int32))),.val (.int ((((((ph.toUInt32>>>((6:Int32)&&&31).toUInt32).toInt32) - (1:Int32)).toUInt32>>>((6:Int32)&&&31).toUInt32).toInt32) - (1:Int32))),.val (.ref ol),.val (.int (3:Int32)),.val (.int (2:Int32)),.val (.ref o2),.val (.int ((((((((pl.toUInt32>>>((6:Int32)&&&31).toUInt32).toInt32) + (1:Int32)).toUInt32>>>((6:Int32)&&&31).toUInt32).toInt32) + (1:Int32)).toUInt32>>>((6:Int32)&&&31).toUInt32).toInt32)),.val (.int ((((((((ph.toUInt32>>>((6:Int32)&&&31).toUInt32).toInt32) - (1:Int32)).toUInt32>>>((6:Int32)&&&31).toUInt32).toInt32) - (1:Int32)).toUInt32>>>((6:Int32)&&&31).toUInt32).toInt32))] [(.int ((((((((ph.toUInt32>>>((6:Int32)&&&31).toUInt32).toInt32) - (1:Int32)).toUInt32>>>((6:Int32)&&&31).toUInt32).toInt32) - (1:Int32)).toUInt32>>>((6:Int32)&&&31).toUInt32).toInt32)), (.int ((((((((pl.toUInt32>>>((6:Int32)&&&31).toUInt32).toInt32) + (1:Int32)).toUInt32>>>((6:Int32)&&&31).toUInt32).toInt32) + (1:Int32)).toUInt32>>>((6:Int32)&&&31).toUInt32).toInt32))])) _
                    by_cases hc21 : ((((((((pl.toUInt32>>>((6:Int32)&&&31).toUInt32).toInt32) + (1:Int32)).toUInt32>>>((6:Int32)&&&31).toUInt32).toInt32) + (1:Int32)).toUInt32>>>((6:Int32)&&&31).toUInt32).toInt32) = ((((((((ph.toUInt32>>>((6:Int32)&&&31).toUInt32).toInt32) - (1:Int32)).toUInt32>>>((6:Int32)&&&31).toUInt32).toInt32) - (1:Int32)).toUInt32>>>((6:Int32)&&&31).toUInt32).toInt32)
                    · refine Goes.by (fun _ k => XS.icmpNo X18.here hx rfl (hb hby d4_48) rfl (teq hc21).2 k) ?_
                      show Goes p.tables e below (T18.setTop (mkF m 51 #[.val (.ref oa),.val (.int ((((((pl.toUInt32>>>((6:Int32)&&&31).toUInt32).toInt32) + (1:Int32)).toUInt32>>>((6:Int32)&&&31).toUInt32).toInt32) + (1:Int32))),.val (.int ((((((ph.toUInt32>>>((6:Int32)&&&31).toUInt32).toInt32) - (1:Int32)).toUInt32>>>((6:Int32)&&&31).toUInt32).toInt32) - (1:Int32))),.val (.ref ol),.val (.int (3:Int32)),.val (.int (2:Int32)),.val (.ref o2),.val (.int ((((((((pl.toUInt32>>>((6:Int32)&&&31).toUInt32).toInt32) + (1:Int32)).toUInt32>>>((6:Int32)&&&31).toUInt32).toInt32) + (1:Int32)).toUInt32>>>((6:Int32)&&&31).toUInt32).toInt32)),.val (.int ((((((((ph.toUInt32>>>((6:Int32)&&&31).toUInt32).toInt32) - (1:Int32)).toUInt32>>>((6:Int32)&&&31).toUInt32).toInt32) - (1:Int32)).toUInt32>>>((6:Int32)&&&31).toUInt32).toInt32))] [])) _
                      refine Goes.by (fun _ k => XS.aload X18.here hx rfl (hb hby d4_51) rfl rfl k) ?_
                      show Goes p.tables e below (T18.setTop (mkF m 53 #[.val (.ref oa),.val (.int ((((((pl.toUInt32>>>((6:Int32)&&&31).toUInt32).toInt32) + (1:Int32)).toUInt32>>>((6:Int32)&&&31).toUInt32).toInt32) + (1:Int32))),.val (.int ((((((ph.toUInt32>>>((6:Int32)&&&31).toUInt32).toInt32) - (1:Int32)).toUInt32>>>((6:Int32)&&&31).toUInt32).toInt32) - (1:Int32))),.val (.ref ol),.val (.int (3:Int32)),.val (.int (2:Int32)),.val (.ref o2),.val (.int ((((((((pl.toUInt32>>>((6:Int32)&&&31).toUInt32).toInt32) + (1:Int32)).toUInt32>>>((6:Int32)&&&31).toUInt32).toInt32) + (1:Int32)).toUInt32>>>((6:Int32)&&&31).toUInt32).toInt32)),.val (.int ((((((((ph.toUInt32>>>((6:Int32)&&&31).toUInt32).toInt32) - (1:Int32)).toUInt32>>>((6:Int32)&&&31).toUInt32).toInt32) - (1:Int32)).toUInt32>>>((6:Int32)&&&31).toUInt32).toInt32))] [(.ref o2)])) _
                      refine Goes.by (fun _ k => XS.iload X18.here hx rfl (hb hby d4_53) rfl k) ?_
                      show Goes p.tables e below (T18.setTop (mkF m 55 #[.val (.ref oa),.val (.int ((((((pl.toUInt32>>>((6:Int32)&&&31).toUInt32).toInt32) + (1:Int32)).toUInt32>>>((6:Int32)&&&31).toUInt32).toInt32) + (1:Int32))),.val (.int ((((((ph.toUInt32>>>((6:Int32)&&&31).toUInt32).toInt32) - (1:Int32)).toUInt32>>>((6:Int32)&&&31).toUInt32).toInt32) - (1:Int32))),.val (.ref ol),.val (.int (3:Int32)),.val (.int (2:Int32)),.val (.ref o2),.val (.int ((((((((pl.toUInt32>>>((6:Int32)&&&31).toUInt32).toInt32) + (1:Int32)).toUInt32>>>((6:Int32)&&&31).toUInt32).toInt32) + (1:Int32)).toUInt32>>>((6:Int32)&&&31).toUInt32).toInt32)),.val (.int ((((((((ph.toUInt32>>>((6:Int32)&&&31).toUInt32).toInt32) - (1:Int32)).toUInt32>>>((6:Int32)&&&31).toUInt32).toInt32) - (1:Int32)).toUInt32>>>((6:Int32)&&&31).toUInt32).toInt32))] [(.int ((((((((pl.toUInt32>>>((6:Int32)&&&31).toUInt32).toInt32) + (1:Int32)).toUInt32>>>((6:Int32)&&&31).toUInt32).toInt32) + (1:Int32)).toUInt32>>>((6:Int32)&&&31).toUInt32).toInt32)), (.ref o2)])) _
                      refine Goes.by (fun _ k => ldJ (v := (gz (((nl / 64 + 1) / 64 + 1) / 64))) (fr := (mkF m 55 #[.val (.ref oa),.val (.int ((((((pl.toUInt32>>>((6:Int32)&&&31).toUInt32).toInt32) + (1:Int32)).toUInt32>>>((6:Int32)&&&31).toUInt32).toInt32) + (1:Int32))),.val (.int ((((((ph.toUInt32>>>((6:Int32)&&&31).toUInt32).toInt32) - (1:Int32)).toUInt32>>>((6:Int32)&&&31).toUInt32).toInt32) - (1:Int32))),.val (.ref ol),.val (.int (3:Int32)),.val (.int (2:Int32)),.val (.ref o2),.val (.int ((((((((pl.toUInt32>>>((6:Int32)&&&31).toUInt32).toInt32) + (1:Int32)).toUInt32>>>((6:Int32)&&&31).toUInt32).toInt32) + (1:Int32)).toUInt32>>>((6:Int32)&&&31).toUInt32).toInt32)),.val (.int ((((((((ph.toUInt32>>>((6:Int32)&&&31).toUInt32).toInt32) - (1:Int32)).toUInt32>>>((6:Int32)&&&31).toUInt32).toInt32) - (1:Int32)).toUInt32>>>((6:Int32)&&&31).toUInt32).toInt32))] [(.int ((((((((pl.toUInt32>>>((6:Int32)&&&31).toUInt32).toInt32) + (1:Int32)).toUInt32>>>((6:Int32)&&&31).toUInt32).toInt32) + (1:Int32)).toUInt32>>>((6:Int32)&&&31).toUInt32).toInt32)), (.ref o2)])) X18 hx hZ e18 A_o2 (i := (((nl / 64 + 1) / 64 + 1) / 64)) (own_sh6 _ _ (own_lv (own_lv hlo hhi hwh hx1 hc3 hc11).1 (own_lv hlo hhi hwh hx1 hc3 hc11).2.1 (own_lv hlo hhi hwh hx1 hc3 hc11).2.2.2 hx2 hc12 hc20).1) (own_lv (own_lv hlo hhi hwh hx1 hc3 hc11).1 (own_lv hlo hhi hwh hx1 hc3 hc11).2.1 (own_lv hlo hhi hwh hx1 hc3 hc11).2.2.2 hx2 hc12 hc20).2.2.1 rfl rfl rfl (hb hby d4_55) k) ?_
                      show Goes p.tables e below (T18.setTop (mkF m 56 #[.val (.ref oa),.val (.int ((((((pl.toUInt32>>>((6:Int32)&&&31).toUInt32).toInt32) + (1:Int32)).toUInt32>>>((6:Int32)&&&31).toUInt32).toInt32) + (1:Int32))),.val (.int ((((((ph.toUInt32>>>((6:Int32)&&&31).toUInt32).toInt32) - (1:Int32)).toUInt32>>>((6:Int32)&&&31).toUInt32).toInt32) - (1:Int32))),.val (.ref ol),.val (.int (3:Int32)),.val (.int (2:Int32)),.val (.ref o2),.val (.int ((((((((pl.toUInt32>>>((6:Int32)&&&31).toUInt32).toInt32) + (1:Int32)).toUInt32>>>((6:Int32)&&&31).toUInt32).toInt32) + (1:Int32)).toUInt32>>>((6:Int32)&&&31).toUInt32).toInt32)),.val (.int ((((((((ph.toUInt32>>>((6:Int32)&&&31).toUInt32).toInt32) - (1:Int32)).toUInt32>>>((6:Int32)&&&31).toUInt32).toInt32) - (1:Int32)).toUInt32>>>((6:Int32)&&&31).toUInt32).toInt32))] [(.long (gz (((nl / 64 + 1) / 64 + 1) / 64)))])) _
                      refine Goes.by (fun _ k => XS.iloadN X18.here hx rfl (hb hby d4_56) rfl k) ?_
                      show Goes p.tables e below (T18.setTop (mkF m 57 #[.val (.ref oa),.val (.int ((((((pl.toUInt32>>>((6:Int32)&&&31).toUInt32).toInt32) + (1:Int32)).toUInt32>>>((6:Int32)&&&31).toUInt32).toInt32) + (1:Int32))),.val (.int ((((((ph.toUInt32>>>((6:Int32)&&&31).toUInt32).toInt32) - (1:Int32)).toUInt32>>>((6:Int32)&&&31).toUInt32).toInt32) - (1:Int32))),.val (.ref ol),.val (.int (3:Int32)),.val (.int (2:Int32)),.val (.ref o2),.val (.int ((((((((pl.toUInt32>>>((6:Int32)&&&31).toUInt32).toInt32) + (1:Int32)).toUInt32>>>((6:Int32)&&&31).toUInt32).toInt32) + (1:Int32)).toUInt32>>>((6:Int32)&&&31).toUInt32).toInt32)),.val (.int ((((((((ph.toUInt32>>>((6:Int32)&&&31).toUInt32).toInt32) - (1:Int32)).toUInt32>>>((6:Int32)&&&31).toUInt32).toInt32) - (1:Int32)).toUInt32>>>((6:Int32)&&&31).toUInt32).toInt32))] [(.int ((((((pl.toUInt32>>>((6:Int32)&&&31).toUInt32).toInt32) + (1:Int32)).toUInt32>>>((6:Int32)&&&31).toUInt32).toInt32) + (1:Int32))), (.long (gz (((nl / 64 + 1) / 64 + 1) / 64)))])) _
                      obtain ⟨_, _, ⟨T22, L22, k22, n22⟩, -, X22, ⟨Lc22, hQ22, l22, y22, z22⟩, st22⟩ := Jvm.LawKit.callS X18 hx (y := (⟨"com/example/xml_graph_join/xmlgraphjoin/topo/BitLevels", "fromBit", "(I)J"⟩ : MethodName)) hown (mvT hZ (hw _ (List.mem_of_getElem? (i := 26) rfl))) (mvT hZ (hw _ (List.mem_of_getElem? (i := 27) rfl))) (mvT hZ (hw _ (List.mem_of_getElem? (i := 3) rfl))) (mvT hZ (hw _ (List.mem_of_getElem? (i := 28) rfl))) (by decide) (backOf (W := 2) (rm5 l Z a0 hw [] ((((((pl.toUInt32>>>((6:Int32)&&&31).toUInt32).toInt32) + (1:Int32)).toUInt32>>>((6:Int32)&&&31).toUInt32).toInt32) + (1:Int32)) h0 n0 Z0) hZ (hw _ (List.mem_of_getElem? (i := 28) rfl)) (hw _ (List.mem_of_getElem? (i := 3) rfl)) (by decide) (by decide)) (g := (mkF m 57 #[.val (.ref oa),.val (.int ((((((pl.toUInt32>>>((6:Int32)&&&31).toUInt32).toInt32) + (1:Int32)).toUInt32>>>((6:Int32)&&&31).toUInt32).toInt32) + (1:Int32))),.val (.int ((((((ph.toUInt32>>>((6:Int32)&&&31).toUInt32).toInt32) - (1:Int32)).toUInt32>>>((6:Int32)&&&31).toUInt32).toInt32) - (1:Int32))),.val (.ref ol),.val (.int (3:Int32)),.val (.int (2:Int32)),.val (.ref o2),.val (.int ((((((((pl.toUInt32>>>((6:Int32)&&&31).toUInt32).toInt32) + (1:Int32)).toUInt32>>>((6:Int32)&&&31).toUInt32).toInt32) + (1:Int32)).toUInt32>>>((6:Int32)&&&31).toUInt32).toInt32)),.val (.int ((((((((ph.toUInt32>>>((6:Int32)&&&31).toUInt32).toInt32) - (1:Int32)).toUInt32>>>((6:Int32)&&&31).toUInt32).toInt32) - (1:Int32)).toUInt32>>>((6:Int32)&&&31).toUInt32).toInt32))] [(.int ((((((pl.toUInt32>>>((6:Int32)&&&31).toUInt32).toInt32) + (1:Int32)).toUInt32>>>((6:Int32)&&&31).toUInt32).toInt32) + (1:Int32))), (.long (gz (((nl / 64 + 1) / 64 + 1) / 64)))])) rfl (by rw [hml]; rfl) (argsL := [(.int ((((((pl.toUInt32>>>((6:Int32)&&&31).toUInt32).toInt32) + (1:Int32)).toUInt32>>>((6:Int32)&&&31).toUInt32).toInt32) + (1:Int32)))]) (rest := [(.long (gz (((nl / 64 + 1) / 64 + 1) / 64)))]) (lenOf pd_0 rfl) rfl (by show 2 * 0 + (2 + 0) ≤ _; decide) (hb hby d4_57) (fun _ _ => ⟨rfl, e18, (by decide : 0 + 0 ≤ _), (by decide : 0 + 0 ≤ _)⟩)
                      dsimp only [Pt.U, Pt.locs, Pt.cells, Pt.slots] at X22 l22 y22 z22 st22 hQ22
                      rw [l22, y22, z22] at X22
                      obtain ⟨rfl, N22q, e22⟩ := hQ22
                      have N22 := Fr.app N18 N22q
                      refine Goes.by st22 ?_
                      show Goes p.tables e below (T22.setTop (mkF m 60 #[.val (.ref oa),.val (.int ((((((pl.toUInt32>>>((6:Int32)&&&31).toUInt32).toInt32) + (1:Int32)).toUInt32>>>((6:Int32)&&&31).toUInt32).toInt32) + (1:Int32))),.val (.int ((((((ph.toUInt32>>>((6:Int32)&&&31).toUInt32).toInt32) - (1:Int32)).toUInt32>>>((6:Int32)&&&31).toUInt32).toInt32) - (1:Int32))),.val (.ref ol),.val (.int (3:Int32)),.val (.int (2:Int32)),.val (.ref o2),.val (.int ((((((((pl.toUInt32>>>((6:Int32)&&&31).toUInt32).toInt32) + (1:Int32)).toUInt32>>>((6:Int32)&&&31).toUInt32).toInt32) + (1:Int32)).toUInt32>>>((6:Int32)&&&31).toUInt32).toInt32)),.val (.int ((((((((ph.toUInt32>>>((6:Int32)&&&31).toUInt32).toInt32) - (1:Int32)).toUInt32>>>((6:Int32)&&&31).toUInt32).toInt32) - (1:Int32)).toUInt32>>>((6:Int32)&&&31).toUInt32).toInt32))] [(.long (fromB ((((((pl.toUInt32>>>((6:Int32)&&&31).toUInt32).toInt32) + (1:Int32)).toUInt32>>>((6:Int32)&&&31).toUInt32).toInt32) + (1:Int32)))), (.long (gz (((nl / 64 + 1) / 64 + 1) / 64)))])) _
                      refine Goes.by (fun _ k => XS.land X22.here hx rfl (hb hby d4_60) rfl k) ?_
                      show Goes p.tables e below (T22.setTop (mkF m 61 #[.val (.ref oa),.val (.int ((((((pl.toUInt32>>>((6:Int32)&&&31).toUInt32).toInt32) + (1:Int32)).toUInt32>>>((6:Int32)&&&31).toUInt32).toInt32) + (1:Int32))),.val (.int ((((((ph.toUInt32>>>((6:Int32)&&&31).toUInt32).toInt32) - (1:Int32)).toUInt32>>>((6:Int32)&&&31).toUInt32).toInt32) - (1:Int32))),.val (.ref ol),.val (.int (3:Int32)),.val (.int (2:Int32)),.val (.ref o2),.val (.int ((((((((pl.toUInt32>>>((6:Int32)&&&31).toUInt32).toInt32) + (1:Int32)).toUInt32>>>((6:Int32)&&&31).toUInt32).toInt32) + (1:Int32)).toUInt32>>>((6:Int32)&&&31).toUInt32).toInt32)),.val (.int ((((((((ph.toUInt32>>>((6:Int32)&&&31).toUInt32).toInt32) - (1:Int32)).toUInt32>>>((6:Int32)&&&31).toUInt32).toInt32) - (1:Int32)).toUInt32>>>((6:Int32)&&&31).toUInt32).toInt32))] [(.long ((gz (((nl / 64 + 1) / 64 + 1) / 64))&&&(fromB ((((((pl.toUInt32>>>((6:Int32)&&&31).toUInt32).toInt32) + (1:Int32)).toUInt32>>>((6:Int32)&&&31).toUInt32).toInt32) + (1:Int32)))))])) _
                      refine Goes.by (fun _ k => XS.iloadN X22.here hx rfl (hb hby d4_61) rfl k) ?_
                      show Goes p.tables e below (T22.setTop (mkF m 62 #[.val (.ref oa),.val (.int ((((((pl.toUInt32>>>((6:Int32)&&&31).toUInt32).toInt32) + (1:Int32)).toUInt32>>>((6:Int32)&&&31).toUInt32).toInt32) + (1:Int32))),.val (.int ((((((ph.toUInt32>>>((6:Int32)&&&31).toUInt32).toInt32) - (1:Int32)).toUInt32>>>((6:Int32)&&&31).toUInt32).toInt32) - (1:Int32))),.val (.ref ol),.val (.int (3:Int32)),.val (.int (2:Int32)),.val (.ref o2),.val (.int ((((((((pl.toUInt32>>>((6:Int32)&&&31).toUInt32).toInt32) + (1:Int32)).toUInt32>>>((6:Int32)&&&31).toUInt32).toInt32) + (1:Int32)).toUInt32>>>((6:Int32)&&&31).toUInt32).toInt32)),.val (.int ((((((((ph.toUInt32>>>((6:Int32)&&&31).toUInt32).toInt32) - (1:Int32)).toUInt32>>>((6:Int32)&&&31).toUInt32).toInt32) - (1:Int32)).toUInt32>>>((6:Int32)&&&31).toUInt32).toInt32))] [(.int ((((((ph.toUInt32>>>((6:Int32)&&&31).toUInt32).toInt32) - (1:Int32)).toUInt32>>>((6:Int32)&&&31).toUInt32).toInt32) - (1:Int32))), (.long ((gz (((nl / 64 + 1) / 64 + 1) / 64))&&&(fromB ((((((pl.toUInt32>>>((6:Int32)&&&31).toUInt32).toInt32) + (1:Int32)).toUInt32>>>((6:Int32)&&&31).toUInt32).toInt32) + (1:Int32)))))])) _
                      obtain ⟨_, _, ⟨T23, L23, k23, n23⟩, -, X23, ⟨Lc23, hQ23, l23, y23, z23⟩, st23⟩ := Jvm.LawKit.callS X22 hx (y := (⟨"com/example/xml_graph_join/xmlgraphjoin/topo/BitLevels", "upToBit", "(I)J"⟩ : MethodName)) hown (mvT hZ (hw _ (List.mem_of_getElem? (i := 30) rfl))) (mvT hZ (hw _ (List.mem_of_getElem? (i := 31) rfl))) (mvT hZ (hw _ (List.mem_of_getElem? (i := 3) rfl))) (mvT hZ (hw _ (List.mem_of_getElem? (i := 32) rfl))) (by decide) (backOf (W := 2) (rm6 l Z a0 hw [] ((((((ph.toUInt32>>>((6:Int32)&&&31).toUInt32).toInt32) - (1:Int32)).toUInt32>>>((6:Int32)&&&31).toUInt32).toInt32) - (1:Int32)) h0 n0 Z0) hZ (hw _ (List.mem_of_getElem? (i := 32) rfl)) (hw _ (List.mem_of_getElem? (i := 3) rfl)) (by decide) (by decide)) (g := (mkF m 62 #[.val (.ref oa),.val (.int ((((((pl.toUInt32>>>((6:Int32)&&&31).toUInt32).toInt32) + (1:Int32)).toUInt32>>>((6:Int32)&&&31).toUInt32).toInt32) + (1:Int32))),.val (.int ((((((ph.toUInt32>>>((6:Int32)&&&31).toUInt32).toInt32) - (1:Int32)).toUInt32>>>((6:Int32)&&&31).toUInt32).toInt32) - (1:Int32))),.val (.ref ol),.val (.int (3:Int32)),.val (.int (2:Int32)),.val (.ref o2),.val (.int ((((((((pl.toUInt32>>>((6:Int32)&&&31).toUInt32).toInt32) + (1:Int32)).toUInt32>>>((6:Int32)&&&31).toUInt32).toInt32) + (1:Int32)).toUInt32>>>((6:Int32)&&&31).toUInt32).toInt32)),.val (.int ((((((((ph.toUInt32>>>((6:Int32)&&&31).toUInt32).toInt32) - (1:Int32)).toUInt32>>>((6:Int32)&&&31).toUInt32).toInt32) - (1:Int32)).toUInt32>>>((6:Int32)&&&31).toUInt32).toInt32))] [(.int ((((((ph.toUInt32>>>((6:Int32)&&&31).toUInt32).toInt32) - (1:Int32)).toUInt32>>>((6:Int32)&&&31).toUInt32).toInt32) - (1:Int32))), (.long ((gz (((nl / 64 + 1) / 64 + 1) / 64))&&&(fromB ((((((pl.toUInt32>>>((6:Int32)&&&31).toUInt32).toInt32) + (1:Int32)).toUInt32>>>((6:Int32)&&&31).toUInt32).toInt32) + (1:Int32)))))])) rfl (by rw [hml]; rfl) (argsL := [(.int ((((((ph.toUInt32>>>((6:Int32)&&&31).toUInt32).toInt32) - (1:Int32)).toUInt32>>>((6:Int32)&&&31).toUInt32).toInt32) - (1:Int32)))]) (rest := [(.long ((gz (((nl / 64 + 1) / 64 + 1) / 64))&&&(fromB ((((((pl.toUInt32>>>((6:Int32)&&&31).toUInt32).toInt32) + (1:Int32)).toUInt32>>>((6:Int32)&&&31).toUInt32).toInt32) + (1:Int32)))))]) (lenOf pd_0 rfl) rfl (by show 2 * 0 + (2 + 0) ≤ _; decide) (hb hby d4_62) (fun _ _ => ⟨rfl, e22, (by decide : 0 + 0 ≤ _), (by decide : 0 + 0 ≤ _)⟩)
                      dsimp only [Pt.U, Pt.locs, Pt.cells, Pt.slots] at X23 l23 y23 z23 st23 hQ23
                      rw [l23, y23, z23] at X23
                      obtain ⟨rfl, N23q, e23⟩ := hQ23
                      have N23 := Fr.app N22 N23q
                      refine Goes.by st23 ?_
                      show Goes p.tables e below (T23.setTop (mkF m 65 #[.val (.ref oa),.val (.int ((((((pl.toUInt32>>>((6:Int32)&&&31).toUInt32).toInt32) + (1:Int32)).toUInt32>>>((6:Int32)&&&31).toUInt32).toInt32) + (1:Int32))),.val (.int ((((((ph.toUInt32>>>((6:Int32)&&&31).toUInt32).toInt32) - (1:Int32)).toUInt32>>>((6:Int32)&&&31).toUInt32).toInt32) - (1:Int32))),.val (.ref ol),.val (.int (3:Int32)),.val (.int (2:Int32)),.val (.ref o2),.val (.int ((((((((pl.toUInt32>>>((6:Int32)&&&31).toUInt32).toInt32) + (1:Int32)).toUInt32>>>((6:Int32)&&&31).toUInt32).toInt32) + (1:Int32)).toUInt32>>>((6:Int32)&&&31).toUInt32).toInt32)),.val (.int ((((((((ph.toUInt32>>>((6:Int32)&&&31).toUInt32).toInt32) - (1:Int32)).toUInt32>>>((6:Int32)&&&31).toUInt32).toInt32) - (1:Int32)).toUInt32>>>((6:Int32)&&&31).toUInt32).toInt32))] [(.long (upB ((((((ph.toUInt32>>>((6:Int32)&&&31).toUInt32).toInt32) - (1:Int32)).toUInt32>>>((6:Int32)&&&31).toUInt32).toInt32) - (1:Int32)))), (.long ((gz (((nl / 64 + 1) / 64 + 1) / 64))&&&(fromB ((((((pl.toUInt32>>>((6:Int32)&&&31).toUInt32).toInt32) + (1:Int32)).toUInt32>>>((6:Int32)&&&31).toUInt32).toInt32) + (1:Int32)))))])) _
                      refine Goes.by (fun _ k => XS.land X23.here hx rfl (hb hby d4_65) rfl k) ?_
                      show Goes p.tables e below (T23.setTop (mkF m 66 #[.val (.ref oa),.val (.int ((((((pl.toUInt32>>>((6:Int32)&&&31).toUInt32).toInt32) + (1:Int32)).toUInt32>>>((6:Int32)&&&31).toUInt32).toInt32) + (1:Int32))),.val (.int ((((((ph.toUInt32>>>((6:Int32)&&&31).toUInt32).toInt32) - (1:Int32)).toUInt32>>>((6:Int32)&&&31).toUInt32).toInt32) - (1:Int32))),.val (.ref ol),.val (.int (3:Int32)),.val (.int (2:Int32)),.val (.ref o2),.val (.int ((((((((pl.toUInt32>>>((6:Int32)&&&31).toUInt32).toInt32) + (1:Int32)).toUInt32>>>((6:Int32)&&&31).toUInt32).toInt32) + (1:Int32)).toUInt32>>>((6:Int32)&&&31).toUInt32).toInt32)),.val (.int ((((((((ph.toUInt32>>>((6:Int32)&&&31).toUInt32).toInt32) - (1:Int32)).toUInt32>>>((6:Int32)&&&31).toUInt32).toInt32) - (1:Int32)).toUInt32>>>((6:Int32)&&&31).toUInt32).toInt32))] [(.long (((gz (((nl / 64 + 1) / 64 + 1) / 64))&&&(fromB ((((((pl.toUInt32>>>((6:Int32)&&&31).toUInt32).toInt32) + (1:Int32)).toUInt32>>>((6:Int32)&&&31).toUInt32).toInt32) + (1:Int32))))&&&(upB ((((((ph.toUInt32>>>((6:Int32)&&&31).toUInt32).toInt32) - (1:Int32)).toUInt32>>>((6:Int32)&&&31).toUInt32).toInt32) - (1:Int32)))))])) _
                      refine Goes.by (fun _ k => XS.lconst X23.here hx rfl (hb hby d4_66) k) ?_
                      show Goes p.tables e below (T23.setTop (mkF m 67 #[.val (.ref oa),.val (.int ((((((pl.toUInt32>>>((6:Int32)&&&31).toUInt32).toInt32) + (1:Int32)).toUInt32>>>((6:Int32)&&&31).toUInt32).toInt32) + (1:Int32))),.val (.int ((((((ph.toUInt32>>>((6:Int32)&&&31).toUInt32).toInt32) - (1:Int32)).toUInt32>>>((6:Int32)&&&31).toUInt32).toInt32) - (1:Int32))),.val (.ref ol),.val (.int (3:Int32)),.val (.int (2:Int32)),.val (.ref o2),.val (.int ((((((((pl.toUInt32>>>((6:Int32)&&&31).toUInt32).toInt32) + (1:Int32)).toUInt32>>>((6:Int32)&&&31).toUInt32).toInt32) + (1:Int32)).toUInt32>>>((6:Int32)&&&31).toUInt32).toInt32)),.val (.int ((((((((ph.toUInt32>>>((6:Int32)&&&31).toUInt32).toInt32) - (1:Int32)).toUInt32>>>((6:Int32)&&&31).toUInt32).toInt32) - (1:Int32)).toUInt32>>>((6:Int32)&&&31).toUInt32).toInt32))] [(.long (0:Int64)), (.long (((gz (((nl / 64 + 1) / 64 + 1) / 64))&&&(fromB ((((((pl.toUInt32>>>((6:Int32)&&&31).toUInt32).toInt32) + (1:Int32)).toUInt32>>>((6:Int32)&&&31).toUInt32).toInt32) + (1:Int32))))&&&(upB ((((((ph.toUInt32>>>((6:Int32)&&&31).toUInt32).toInt32) - (1:Int32)).toUInt32>>>((6:Int32)&&&31).toUInt32).toInt32) - (1:Int32)))))])) _
                      refine Goes.by (fun _ k => XS.lcmp X23.here hx rfl (hb hby d4_67) rfl k) ?_
                      show Goes p.tables e below (T23.setTop (mkF m 68 #[.val (.ref oa),.val (.int ((((((pl.toUInt32>>>((6:Int32)&&&31).toUInt32).toInt32) + (1:Int32)).toUInt32>>>((6:Int32)&&&31).toUInt32).toInt32) + (1:Int32))),.val (.int ((((((ph.toUInt32>>>((6:Int32)&&&31).toUInt32).toInt32) - (1:Int32)).toUInt32>>>((6:Int32)&&&31).toUInt32).toInt32) - (1:Int32))),.val (.ref ol),.val (.int (3:Int32)),.val (.int (2:Int32)),.val (.ref o2),.val (.int ((((((((pl.toUInt32>>>((6:Int32)&&&31).toUInt32).toInt32) + (1:Int32)).toUInt32>>>((6:Int32)&&&31).toUInt32).toInt32) + (1:Int32)).toUInt32>>>((6:Int32)&&&31).toUInt32).toInt32)),.val (.int ((((((((ph.toUInt32>>>((6:Int32)&&&31).toUInt32).toInt32) - (1:Int32)).toUInt32>>>((6:Int32)&&&31).toUInt32).toInt32) - (1:Int32)).toUInt32>>>((6:Int32)&&&31).toUInt32).toInt32))] [(.int (lcmpW (((gz (((nl / 64 + 1) / 64 + 1) / 64))&&&(fromB ((((((pl.toUInt32>>>((6:Int32)&&&31).toUInt32).toInt32) + (1:Int32)).toUInt32>>>((6:Int32)&&&31).toUInt32).toInt32) + (1:Int32))))&&&(upB ((((((ph.toUInt32>>>((6:Int32)&&&31).toUInt32).toInt32) - (1:Int32)).toUInt32>>>((6:Int32)&&&31).toUInt32).toInt32) - (1:Int32)))) (0:Int64)))])) _
                      by_cases hc24 : (((gz (((nl / 64 + 1) / 64 + 1) / 64))&&&(fromB ((((((pl.toUInt32>>>((6:Int32)&&&31).toUInt32).toInt32) + (1:Int32)).toUInt32>>>((6:Int32)&&&31).toUInt32).toInt32) + (1:Int32))))&&&(upB ((((((ph.toUInt32>>>((6:Int32)&&&31).toUInt32).toInt32) - (1:Int32)).toUInt32>>>((6:Int32)&&&31).toUInt32).toInt32) - (1:Int32)))) = (0:Int64)
                      · refine Goes.by (fun _ k => XS.ifYes X23.here hx rfl (pc0 := 68) (pc' := 75) rfl (hb hby d4_68) rfl (je_t hc24).1 (by decide) (by decide) k) ?_
                        show Goes p.tables e below (T23.setTop (mkF m 75 #[.val (.ref oa),.val (.int ((((((pl.toUInt32>>>((6:Int32)&&&31).toUInt32).toInt32) + (1:Int32)).toUInt32>>>((6:Int32)&&&31).toUInt32).toInt32) + (1:Int32))),.val (.int ((((((ph.toUInt32>>>((6:Int32)&&&31).toUInt32).toInt32) - (1:Int32)).toUInt32>>>((6:Int32)&&&31).toUInt32).toInt32) - (1:Int32))),.val (.ref ol),.val (.int (3:Int32)),.val (.int (2:Int32)),.val (.ref o2),.val (.int ((((((((pl.toUInt32>>>((6:Int32)&&&31).toUInt32).toInt32) + (1:Int32)).toUInt32>>>((6:Int32)&&&31).toUInt32).toInt32) + (1:Int32)).toUInt32>>>((6:Int32)&&&31).toUInt32).toInt32)),.val (.int ((((((((ph.toUInt32>>>((6:Int32)&&&31).toUInt32).toInt32) - (1:Int32)).toUInt32>>>((6:Int32)&&&31).toUInt32).toInt32) - (1:Int32)).toUInt32>>>((6:Int32)&&&31).toUInt32).toInt32))] [])) _
                        refine Goes.by (fun _ k => XS.iconst X23.here hx rfl (hb hby d4_75) k) ?_
                        show Goes p.tables e below (T23.setTop (mkF m 76 #[.val (.ref oa),.val (.int ((((((pl.toUInt32>>>((6:Int32)&&&31).toUInt32).toInt32) + (1:Int32)).toUInt32>>>((6:Int32)&&&31).toUInt32).toInt32) + (1:Int32))),.val (.int ((((((ph.toUInt32>>>((6:Int32)&&&31).toUInt32).toInt32) - (1:Int32)).toUInt32>>>((6:Int32)&&&31).toUInt32).toInt32) - (1:Int32))),.val (.ref ol),.val (.int (3:Int32)),.val (.int (2:Int32)),.val (.ref o2),.val (.int ((((((((pl.toUInt32>>>((6:Int32)&&&31).toUInt32).toInt32) + (1:Int32)).toUInt32>>>((6:Int32)&&&31).toUInt32).toInt32) + (1:Int32)).toUInt32>>>((6:Int32)&&&31).toUInt32).toInt32)),.val (.int ((((((((ph.toUInt32>>>((6:Int32)&&&31).toUInt32).toInt32) - (1:Int32)).toUInt32>>>((6:Int32)&&&31).toUInt32).toInt32) - (1:Int32)).toUInt32>>>((6:Int32)&&&31).toUInt32).toInt32))] [(.int (0:Int32))])) _
                        obtain ⟨fs, hr, hrun, hended, hW, hsame⟩ := X23.leave (v := some (.int (0:Int32))) (fun h => by rw [Bd.returns] at h; cases h)
                        refine ⟨_, _, retN X23 hx (t := .boolean) Bd.returns (by simp) (hb hby d4_76) hr, hrun, hended, _, _, rfl, ?_, ⟨_, rfl⟩, hW, hsame.mono (by decide) (by decide)⟩
                        show Q4d3 Z oa pl ph ol o0 o1 o2 gx gy gz wx wy wz nl nh h0 n0 _ T23.heap _
                        rw [e23]
                        exact ⟨(by rw [fn4d3, if_neg hc2, if_neg hc3, if_pos hc8, if_pos hc10, if_neg hc11, if_neg hc12, if_pos hc17, if_pos hc19, if_neg hc20, if_pos hc21, if_pos hc24]), N23, rfl⟩
                      · refine Goes.by (fun _ k => XS.ifNo X23.here hx rfl (hb hby d4_68) rfl (je_f hc24).1 k) ?_
                        show Goes p.tables e below (T23.setTop (mkF m 71 #[.val (.ref oa),.val (.int ((((((pl.toUInt32>>>((6:Int32)&&&31).toUInt32).toInt32) + (1:Int32)).toUInt32>>>((6:Int32)&&&31).toUInt32).toInt32) + (1:Int32))),.val (.int ((((((ph.toUInt32>>>((6:Int32)&&&31).toUInt32).toInt32) - (1:Int32)).toUInt32>>>((6:Int32)&&&31).toUInt32).toInt32) - (1:Int32))),.val (.ref ol),.val (.int (3:Int32)),.val (.int (2:Int32)),.val (.ref o2),.val (.int ((((((((pl.toUInt32>>>((6:Int32)&&&31).toUInt32).toInt32) + (1:Int32)).toUInt32>>>((6:Int32)&&&31).toUInt32).toInt32) + (1:Int32)).toUInt32>>>((6:Int32)&&&31).toUInt32).toInt32)),.val (.int ((((((((ph.toUInt32>>>((6:Int32)&&&31).toUInt32).toInt32) - (1:Int32)).toUInt32>>>((6:Int32)&&&31).toUInt32).toInt32) - (1:Int32)).toUInt32>>>((6:Int32)&&&31).toUInt32).toInt32))] [])) _
                        refine Goes.by (fun _ k => XS.iconst X23.here hx rfl (hb hby d4_71) k) ?_
                        show Goes p.tables e below (T23.setTop (mkF m 72 #[.val (.ref oa),.val (.int ((((((pl.toUInt32>>>((6:Int32)&&&31).toUInt32).toInt32) + (1:Int32)).toUInt32>>>((6:Int32)&&&31).toUInt32).toInt32) + (1:Int32))),.val (.int ((((((ph.toUInt32>>>((6:Int32)&&&31).toUInt32).toInt32) - (1:Int32)).toUInt32>>>((6:Int32)&&&31).toUInt32).toInt32) - (1:Int32))),.val (.ref ol),.val (.int (3:Int32)),.val (.int (2:Int32)),.val (.ref o2),.val (.int ((((((((pl.toUInt32>>>((6:Int32)&&&31).toUInt32).toInt32) + (1:Int32)).toUInt32>>>((6:Int32)&&&31).toUInt32).toInt32) + (1:Int32)).toUInt32>>>((6:Int32)&&&31).toUInt32).toInt32)),.val (.int ((((((((ph.toUInt32>>>((6:Int32)&&&31).toUInt32).toInt32) - (1:Int32)).toUInt32>>>((6:Int32)&&&31).toUInt32).toInt32) - (1:Int32)).toUInt32>>>((6:Int32)&&&31).toUInt32).toInt32))] [(.int (1:Int32))])) _
                        refine Goes.by (fun _ k => XS.goto X23.here hx rfl (pc0 := 72) (pc' := 76) rfl (hb hby d4_72) (by decide) (by decide) k) ?_
                        show Goes p.tables e below (T23.setTop (mkF m 76 #[.val (.ref oa),.val (.int ((((((pl.toUInt32>>>((6:Int32)&&&31).toUInt32).toInt32) + (1:Int32)).toUInt32>>>((6:Int32)&&&31).toUInt32).toInt32) + (1:Int32))),.val (.int ((((((ph.toUInt32>>>((6:Int32)&&&31).toUInt32).toInt32) - (1:Int32)).toUInt32>>>((6:Int32)&&&31).toUInt32).toInt32) - (1:Int32))),.val (.ref ol),.val (.int (3:Int32)),.val (.int (2:Int32)),.val (.ref o2),.val (.int ((((((((pl.toUInt32>>>((6:Int32)&&&31).toUInt32).toInt32) + (1:Int32)).toUInt32>>>((6:Int32)&&&31).toUInt32).toInt32) + (1:Int32)).toUInt32>>>((6:Int32)&&&31).toUInt32).toInt32)),.val (.int ((((((((ph.toUInt32>>>((6:Int32)&&&31).toUInt32).toInt32) - (1:Int32)).toUInt32>>>((6:Int32)&&&31).toUInt32).toInt32) - (1:Int32)).toUInt32>>>((6:Int32)&&&31).toUInt32).toInt32))] [(.int (1:Int32))])) _
                        obtain ⟨fs, hr, hrun, hended, hW, hsame⟩ := X23.leave (v := some (.int (1:Int32))) (fun h => by rw [Bd.returns] at h; cases h)
                        refine ⟨_, _, retN X23 hx (t := .boolean) Bd.returns (by simp) (hb hby d4_76) hr, hrun, hended, _, _, rfl, ?_, ⟨_, rfl⟩, hW, hsame.mono (by decide) (by decide)⟩
                        show Q4d3 Z oa pl ph ol o0 o1 o2 gx gy gz wx wy wz nl nh h0 n0 _ T23.heap _
                        rw [e23]
                        exact ⟨(by rw [fn4d3, if_neg hc2, if_neg hc3, if_pos hc8, if_pos hc10, if_neg hc11, if_neg hc12, if_pos hc17, if_pos hc19, if_neg hc20, if_pos hc21, if_neg hc24]), N23, rfl⟩
                    · refine Goes.by (fun _ k => XS.icmpYes X18.here hx rfl (pc0 := 48) (pc' := 77) rfl (hb hby d4_48) rfl (feq hc21).2 (by decide) (by decide) k) ?_
                      show Goes p.tables e below (T18.setTop (mkF m 77 #[.val (.ref oa),.val (.int ((((((pl.toUInt32>>>((6:Int32)&&&31).toUInt32).toInt32) + (1:Int32)).toUInt32>>>((6:Int32)&&&31).toUInt32).toInt32) + (1:Int32))),.val (.int ((((((ph.toUInt32>>>((6:Int32)&&&31).toUInt32).toInt32) - (1:Int32)).toUInt32>>>((6:Int32)&&&31).toUInt32).toInt32) - (1:Int32))),.val (.ref ol),.val (.int (3:Int32)),.val (.int (2:Int32)),.val (.ref o2),.val (.int ((((((((pl.toUInt32>>>((6:Int32)&&&31).toUInt32).toInt32) + (1:Int32)).toUInt32>>>((6:Int32)&&&31).toUInt32).toInt32) + (1:Int32)).toUInt32>>>((6:Int32)&&&31).toUInt32).toInt32)),.val (.int ((((((((ph.toUInt32>>>((6:Int32)&&&31).toUInt32).toInt32) - (1:Int32)).toUInt32>>>((6:Int32)&&&31).toUInt32).toInt32) - (1:Int32)).toUInt32>>>((6:Int32)&&&31).toUInt32).toInt32))] [])) _
                      refine Goes.by (fun _ k => XS.aload X18.here hx rfl (hb hby d4_77) rfl rfl k) ?_
                      show Goes p.tables e below (T18.setTop (mkF m 79 #[.val (.ref oa),.val (.int ((((((pl.toUInt32>>>((6:Int32)&&&31).toUInt32).toInt32) + (1:Int32)).toUInt32>>>((6:Int32)&&&31).toUInt32).toInt32) + (1:Int32))),.val (.int ((((((ph.toUInt32>>>((6:Int32)&&&31).toUInt32).toInt32) - (1:Int32)).toUInt32>>>((6:Int32)&&&31).toUInt32).toInt32) - (1:Int32))),.val (.ref ol),.val (.int (3:Int32)),.val (.int (2:Int32)),.val (.ref o2),.val (.int ((((((((pl.toUInt32>>>((6:Int32)&&&31).toUInt32).toInt32) + (1:Int32)).toUInt32>>>((6:Int32)&&&31).toUInt32).toInt32) + (1:Int32)).toUInt32>>>((6:Int32)&&&31).toUInt32).toInt32)),.val (.int ((((((((ph.toUInt32>>>((6:Int32)&&&31).toUInt32).toInt32) - (1:Int32)).toUInt32>>>((6:Int32)&&&31).toUInt32).toInt32) - (1:Int32)).toUInt32>>>((6:Int32)&&&31).toUInt32).toInt32))] [(.ref o2)])) _
                      refine Goes.by (fun _ k => XS.iload X18.here hx rfl (hb hby d4_79) rfl k) ?_
                      show Goes p.tables e below (T18.setTop (mkF m 81 #[.val (.ref oa),.val (.int ((((((pl.toUInt32>>>((6:Int32)&&&31).toUInt32).toInt32) + (1:Int32)).toUInt32>>>((6:Int32)&&&31).toUInt32).toInt32) + (1:Int32))),.val (.int ((((((ph.toUInt32>>>((6:Int32)&&&31).toUInt32).toInt32) - (1:Int32)).toUInt32>>>((6:Int32)&&&31).toUInt32).toInt32) - (1:Int32))),.val (.ref ol),.val (.int (3:Int32)),.val (.int (2:Int32)),.val (.ref o2),.val (.int ((((((((pl.toUInt32>>>((6:Int32)&&&31).toUInt32).toInt32) + (1:Int32)).toUInt32>>>((6:Int32)&&&31).toUInt32).toInt32) + (1:Int32)).toUInt32>>>((6:Int32)&&&31).toUInt32).toInt32)),.val (.int ((((((((ph.toUInt32>>>((6:Int32)&&&31).toUInt32).toInt32) - (1:Int32)).toUInt32>>>((6:Int32)&&&31).toUInt32).toInt32) - (1:Int32)).toUInt32>>>((6:Int32)&&&31).toUInt32).toInt32))] [(.int ((((((((pl.toUInt32>>>((6:Int32)&&&31).toUInt32).toInt32) + (1:Int32)).toUInt32>>>((6:Int32)&&&31).toUInt32).toInt32) + (1:Int32)).toUInt32>>>((6:Int32)&&&31).toUInt32).toInt32)), (.ref o2)])) _
                      refine Goes.by (fun _ k => ldJ (v := (gz (((nl / 64 + 1) / 64 + 1) / 64))) (fr := (mkF m 81 #[.val (.ref oa),.val (.int ((((((pl.toUInt32>>>((6:Int32)&&&31).toUInt32).toInt32) + (1:Int32)).toUInt32>>>((6:Int32)&&&31).toUInt32).toInt32) + (1:Int32))),.val (.int ((((((ph.toUInt32>>>((6:Int32)&&&31).toUInt32).toInt32) - (1:Int32)).toUInt32>>>((6:Int32)&&&31).toUInt32).toInt32) - (1:Int32))),.val (.ref ol),.val (.int (3:Int32)),.val (.int (2:Int32)),.val (.ref o2),.val (.int ((((((((pl.toUInt32>>>((6:Int32)&&&31).toUInt32).toInt32) + (1:Int32)).toUInt32>>>((6:Int32)&&&31).toUInt32).toInt32) + (1:Int32)).toUInt32>>>((6:Int32)&&&31).toUInt32).toInt32)),.val (.int ((((((((ph.toUInt32>>>((6:Int32)&&&31).toUInt32).toInt32) - (1:Int32)).toUInt32>>>((6:Int32)&&&31).toUInt32).toInt32) - (1:Int32)).toUInt32>>>((6:Int32)&&&31).toUInt32).toInt32))] [(.int ((((((((pl.toUInt32>>>((6:Int32)&&&31).toUInt32).toInt32) + (1:Int32)).toUInt32>>>((6:Int32)&&&31).toUInt32).toInt32) + (1:Int32)).toUInt32>>>((6:Int32)&&&31).toUInt32).toInt32)), (.ref o2)])) X18 hx hZ e18 A_o2 (i := (((nl / 64 + 1) / 64 + 1) / 64)) (own_sh6 _ _ (own_lv (own_lv hlo hhi hwh hx1 hc3 hc11).1 (own_lv hlo hhi hwh hx1 hc3 hc11).2.1 (own_lv hlo hhi hwh hx1 hc3 hc11).2.2.2 hx2 hc12 hc20).1) (own_lv (own_lv hlo hhi hwh hx1 hc3 hc11).1 (own_lv hlo hhi hwh hx1 hc3 hc11).2.1 (own_lv hlo hhi hwh hx1 hc3 hc11).2.2.2 hx2 hc12 hc20).2.2.1 rfl rfl rfl (hb hby d4_81) k) ?_
                      show Goes p.tables e below (T18.setTop (mkF m 82 #[.val (.ref oa),.val (.int ((((((pl.toUInt32>>>((6:Int32)&&&31).toUInt32).toInt32) + (1:Int32)).toUInt32>>>((6:Int32)&&&31).toUInt32).toInt32) + (1:Int32))),.val (.int ((((((ph.toUInt32>>>((6:Int32)&&&31).toUInt32).toInt32) - (1:Int32)).toUInt32>>>((6:Int32)&&&31).toUInt32).toInt32) - (1:Int32))),.val (.ref ol),.val (.int (3:Int32)),.val (.int (2:Int32)),.val (.ref o2),.val (.int ((((((((pl.toUInt32>>>((6:Int32)&&&31).toUInt32).toInt32) + (1:Int32)).toUInt32>>>((6:Int32)&&&31).toUInt32).toInt32) + (1:Int32)).toUInt32>>>((6:Int32)&&&31).toUInt32).toInt32)),.val (.int ((((((((ph.toUInt32>>>((6:Int32)&&&31).toUInt32).toInt32) - (1:Int32)).toUInt32>>>((6:Int32)&&&31).toUInt32).toInt32) - (1:Int32)).toUInt32>>>((6:Int32)&&&31).toUInt32).toInt32))] [(.long (gz (((nl / 64 + 1) / 64 + 1) / 64)))])) _
                      refine Goes.by (fun _ k => XS.iloadN X18.here hx rfl (hb hby d4_82) rfl k) ?_
                      show Goes p.tables e below (T18.setTop (mkF m 83 #[.val (.ref oa),.val (.int ((((((pl.toUInt32>>>((6:Int32)&&&31).toUInt32).toInt32) + (1:Int32)).toUInt32>>>((6:Int32)&&&31).toUInt32).toInt32) + (1:Int32))),.val (.int ((((((ph.toUInt32>>>((6:Int32)&&&31).toUInt32).toInt32) - (1:Int32)).toUInt32>>>((6:Int32)&&&31).toUInt32).toInt32) - (1:Int32))),.val (.ref ol),.val (.int (3:Int32)),.val (.int (2:Int32)),.val (.ref o2),.val (.int ((((((((pl.toUInt32>>>((6:Int32)&&&31).toUInt32).toInt32) + (1:Int32)).toUInt32>>>((6:Int32)&&&31).toUInt32).toInt32) + (1:Int32)).toUInt32>>>((6:Int32)&&&31).toUInt32).toInt32)),.val (.int ((((((((ph.toUInt32>>>((6:Int32)&&&31).toUInt32).toInt32) - (1:Int32)).toUInt32>>>((6:Int32)&&&31).toUInt32).toInt32) - (1:Int32)).toUInt32>>>((6:Int32)&&&31).toUInt32).toInt32))] [(.int ((((((pl.toUInt32>>>((6:Int32)&&&31).toUInt32).toInt32) + (1:Int32)).toUInt32>>>((6:Int32)&&&31).toUInt32).toInt32) + (1:Int32))), (.long (gz (((nl / 64 + 1) / 64 + 1) / 64)))])) _
                      obtain ⟨_, _, ⟨T25, L25, k25, n25⟩, -, X25, ⟨Lc25, hQ25, l25, y25, z25⟩, st25⟩ := Jvm.LawKit.callS X18 hx (y := (⟨"com/example/xml_graph_join/xmlgraphjoin/topo/BitLevels", "fromBit", "(I)J"⟩ : MethodName)) hown (mvT hZ (hw _ (List.mem_of_getElem? (i := 26) rfl))) (mvT hZ (hw _ (List.mem_of_getElem? (i := 27) rfl))) (mvT hZ (hw _ (List.mem_of_getElem? (i := 3) rfl))) (mvT hZ (hw _ (List.mem_of_getElem? (i := 28) rfl))) (by decide) (backOf (W := 2) (rm5 l Z a0 hw [] ((((((pl.toUInt32>>>((6:Int32)&&&31).toUInt32).toInt32) + (1:Int32)).toUInt32>>>((6:Int32)&&&31).toUInt32).toInt32) + (1:Int32)) h0 n0 Z0) hZ (hw _ (List.mem_of_getElem? (i := 28) rfl)) (hw _ (List.mem_of_getElem? (i := 3) rfl)) (by decide) (by decide)) (g := (mkF m 83 #[.val (.ref oa),.val (.int ((((((pl.toUInt32>>>((6:Int32)&&&31).toUInt32).toInt32) + (1:Int32)).toUInt32>>>((6:Int32)&&&31).toUInt32).toInt32) + (1:Int32))),.val (.int ((((((ph.toUInt32>>>((6:Int32)&&&31).toUInt32).toInt32) - (1:Int32)).toUInt32>>>((6:Int32)&&&31).toUInt32).toInt32) - (1:Int32))),.val (.ref ol),.val (.int (3:Int32)),.val (.int (2:Int32)),.val (.ref o2),.val (.int ((((((((pl.toUInt32>>>((6:Int32)&&&31).toUInt32).toInt32) + (1:Int32)).toUInt32>>>((6:Int32)&&&31).toUInt32).toInt32) + (1:Int32)).toUInt32>>>((6:Int32)&&&31).toUInt32).toInt32)),.val (.int ((((((((ph.toUInt32>>>((6:Int32)&&&31).toUInt32).toInt32) - (1:Int32)).toUInt32>>>((6:Int32)&&&31).toUInt32).toInt32) - (1:Int32)).toUInt32>>>((6:Int32)&&&31).toUInt32).toInt32))] [(.int ((((((pl.toUInt32>>>((6:Int32)&&&31).toUInt32).toInt32) + (1:Int32)).toUInt32>>>((6:Int32)&&&31).toUInt32).toInt32) + (1:Int32))), (.long (gz (((nl / 64 + 1) / 64 + 1) / 64)))])) rfl (by rw [hml]; rfl) (argsL := [(.int ((((((pl.toUInt32>>>((6:Int32)&&&31).toUInt32).toInt32) + (1:Int32)).toUInt32>>>((6:Int32)&&&31).toUInt32).toInt32) + (1:Int32)))]) (rest := [(.long (gz (((nl / 64 + 1) / 64 + 1) / 64)))]) (lenOf pd_0 rfl) rfl (by show 2 * 0 + (2 + 0) ≤ _; decide) (hb hby d4_83) (fun _ _ => ⟨rfl, e18, (by decide : 0 + 0 ≤ _), (by decide : 0 + 0 ≤ _)⟩)
                      dsimp only [Pt.U, Pt.locs, Pt.cells, Pt.slots] at X25 l25 y25 z25 st25 hQ25
                      rw [l25, y25, z25] at X25
                      obtain ⟨rfl, N25q, e25⟩ := hQ25
                      have N25 := Fr.app N18 N25q
                      refine Goes.by st25 ?_
                      show Goes p.tables e below (T25.setTop (mkF m 86 #[.val (.ref oa),.val (.int ((((((pl.toUInt32>>>((6:Int32)&&&31).toUInt32).toInt32) + (1:Int32)).toUInt32>>>((6:Int32)&&&31).toUInt32).toInt32) + (1:Int32))),.val (.int ((((((ph.toUInt32>>>((6:Int32)&&&31).toUInt32).toInt32) - (1:Int32)).toUInt32>>>((6:Int32)&&&31).toUInt32).toInt32) - (1:Int32))),.val (.ref ol),.val (.int (3:Int32)),.val (.int (2:Int32)),.val (.ref o2),.val (.int ((((((((pl.toUInt32>>>((6:Int32)&&&31).toUInt32).toInt32) + (1:Int32)).toUInt32>>>((6:Int32)&&&31).toUInt32).toInt32) + (1:Int32)).toUInt32>>>((6:Int32)&&&31).toUInt32).toInt32)),.val (.int ((((((((ph.toUInt32>>>((6:Int32)&&&31).toUInt32).toInt32) - (1:Int32)).toUInt32>>>((6:Int32)&&&31).toUInt32).toInt32) - (1:Int32)).toUInt32>>>((6:Int32)&&&31).toUInt32).toInt32))] [(.long (fromB ((((((pl.toUInt32>>>((6:Int32)&&&31).toUInt32).toInt32) + (1:Int32)).toUInt32>>>((6:Int32)&&&31).toUInt32).toInt32) + (1:Int32)))), (.long (gz (((nl / 64 + 1) / 64 + 1) / 64)))])) _
                      refine Goes.by (fun _ k => XS.land X25.here hx rfl (hb hby d4_86) rfl k) ?_
                      show Goes p.tables e below (T25.setTop (mkF m 87 #[.val (.ref oa),.val (.int ((((((pl.toUInt32>>>((6:Int32)&&&31).toUInt32).toInt32) + (1:Int32)).toUInt32>>>((6:Int32)&&&31).toUInt32).toInt32) + (1:Int32))),.val (.int ((((((ph.toUInt32>>>((6:Int32)&&&31).toUInt32).toInt32) - (1:Int32)).toUInt32>>>((6:Int32)&&&31).toUInt32).toInt32) - (1:Int32))),.val (.ref ol),.val (.int (3:Int32)),.val (.int (2:Int32)),.val (.ref o2),.val (.int ((((((((pl.toUInt32>>>((6:Int32)&&&31).toUInt32).toInt32) + (1:Int32)).toUInt32>>>((6:Int32)&&&31).toUInt32).toInt32) + (1:Int32)).toUInt32>>>((6:Int32)&&&31).toUInt32).toInt32)),.val (.int ((((((((ph.toUInt32>>>((6:Int32)&&&31).toUInt32).toInt32) - (1:Int32)).toUInt32>>>((6:Int32)&&&31).toUInt32).toInt32) - (1:Int32)).toUInt32>>>((6:Int32)&&&31).toUInt32).toInt32))] [(.long ((gz (((nl / 64 + 1) / 64 + 1) / 64))&&&(fromB ((((((pl.toUInt32>>>((6:Int32)&&&31).toUInt32).toInt32) + (1:Int32)).toUInt32>>>((6:Int32)&&&31).toUInt32).toInt32) + (1:Int32)))))])) _
                      refine Goes.by (fun _ k => XS.lconst X25.here hx rfl (hb hby d4_87) k) ?_
                      show Goes p.tables e below (T25.setTop (mkF m 88 #[.val (.ref oa),.val (.int ((((((pl.toUInt32>>>((6:Int32)&&&31).toUInt32).toInt32) + (1:Int32)).toUInt32>>>((6:Int32)&&&31).toUInt32).toInt32) + (1:Int32))),.val (.int ((((((ph.toUInt32>>>((6:Int32)&&&31).toUInt32).toInt32) - (1:Int32)).toUInt32>>>((6:Int32)&&&31).toUInt32).toInt32) - (1:Int32))),.val (.ref ol),.val (.int (3:Int32)),.val (.int (2:Int32)),.val (.ref o2),.val (.int ((((((((pl.toUInt32>>>((6:Int32)&&&31).toUInt32).toInt32) + (1:Int32)).toUInt32>>>((6:Int32)&&&31).toUInt32).toInt32) + (1:Int32)).toUInt32>>>((6:Int32)&&&31).toUInt32).toInt32)),.val (.int ((((((((ph.toUInt32>>>((6:Int32)&&&31).toUInt32).toInt32) - (1:Int32)).toUInt32>>>((6:Int32)&&&31).toUInt32).toInt32) - (1:Int32)).toUInt32>>>((6:Int32)&&&31).toUInt32).toInt32))] [(.long (0:Int64)), (.long ((gz (((nl / 64 + 1) / 64 + 1) / 64))&&&(fromB ((((((pl.toUInt32>>>((6:Int32)&&&31).toUInt32).toInt32) + (1:Int32)).toUInt32>>>((6:Int32)&&&31).toUInt32).toInt32) + (1:Int32)))))])) _
                      refine Goes.by (fun _ k => XS.lcmp X25.here hx rfl (hb hby d4_88) rfl k) ?_
                      show Goes p.tables e below (T25.setTop (mkF m 89 #[.val (.ref oa),.val (.int ((((((pl.toUInt32>>>((6:Int32)&&&31).toUInt32).toInt32) + (1:Int32)).toUInt32>>>((6:Int32)&&&31).toUInt32).toInt32) + (1:Int32))),.val (.int ((((((ph.toUInt32>>>((6:Int32)&&&31).toUInt32).toInt32) - (1:Int32)).toUInt32>>>((6:Int32)&&&31).toUInt32).toInt32) - (1:Int32))),.val (.ref ol),.val (.int (3:Int32)),.val (.int (2:Int32)),.val (.ref o2),.val (.int ((((((((pl.toUInt32>>>((6:Int32)&&&31).toUInt32).toInt32) + (1:Int32)).toUInt32>>>((6:Int32)&&&31).toUInt32).toInt32) + (1:Int32)).toUInt32>>>((6:Int32)&&&31).toUInt32).toInt32)),.val (.int ((((((((ph.toUInt32>>>((6:Int32)&&&31).toUInt32).toInt32) - (1:Int32)).toUInt32>>>((6:Int32)&&&31).toUInt32).toInt32) - (1:Int32)).toUInt32>>>((6:Int32)&&&31).toUInt32).toInt32))] [(.int (lcmpW ((gz (((nl / 64 + 1) / 64 + 1) / 64))&&&(fromB ((((((pl.toUInt32>>>((6:Int32)&&&31).toUInt32).toInt32) + (1:Int32)).toUInt32>>>((6:Int32)&&&31).toUInt32).toInt32) + (1:Int32)))) (0:Int64)))])) _
                      by_cases hc26 : ((gz (((nl / 64 + 1) / 64 + 1) / 64))&&&(fromB ((((((pl.toUInt32>>>((6:Int32)&&&31).toUInt32).toInt32) + (1:Int32)).toUInt32>>>((6:Int32)&&&31).toUInt32).toInt32) + (1:Int32)))) = (0:Int64)
                      · refine Goes.by (fun _ k => XS.ifNo X25.here hx rfl (hb hby d4_89) rfl (je_t hc26).2 k) ?_
                        show Goes p.tables e below (T25.setTop (mkF m 92 #[.val (.ref oa),.val (.int ((((((pl.toUInt32>>>((6:Int32)&&&31).toUInt32).toInt32) + (1:Int32)).toUInt32>>>((6:Int32)&&&31).toUInt32).toInt32) + (1:Int32))),.val (.int ((((((ph.toUInt32>>>((6:Int32)&&&31).toUInt32).toInt32) - (1:Int32)).toUInt32>>>((6:Int32)&&&31).toUInt32).toInt32) - (1:Int32))),.val (.ref ol),.val (.int (3:Int32)),.val (.int (2:Int32)),.val (.ref o2),.val (.int ((((((((pl.toUInt32>>>((6:Int32)&&&31).toUInt32).toInt32) + (1:Int32)).toUInt32>>>((6:Int32)&&&31).toUInt32).toInt32) + (1:Int32)).toUInt32>>>((6:Int32)&&&31).toUInt32).toInt32)),.val (.int ((((((((ph.toUInt32>>>((6:Int32)&&&31).toUInt32).toInt32) - (1:Int32)).toUInt32>>>((6:Int32)&&&31).toUInt32).toInt32) - (1:Int32)).toUInt32>>>((6:Int32)&&&31).toUInt32).toInt32))] [])) _
                        refine Goes.by (fun _ k => XS.aload X25.here hx rfl (hb hby d4_92) rfl rfl k) ?_
                        show Goes p.tables e below (T25.setTop (mkF m 94 #[.val (.ref oa),.val (.int ((((((pl.toUInt32>>>((6:Int32)&&&31).toUInt32).toInt32) + (1:Int32)).toUInt32>>>((6:Int32)&&&31).toUInt32).toInt32) + (1:Int32))),.val (.int ((((((ph.toUInt32>>>((6:Int32)&&&31).toUInt32).toInt32) - (1:Int32)).toUInt32>>>((6:Int32)&&&31).toUInt32).toInt32) - (1:Int32))),.val (.ref ol),.val (.int (3:Int32)),.val (.int (2:Int32)),.val (.ref o2),.val (.int ((((((((pl.toUInt32>>>((6:Int32)&&&31).toUInt32).toInt32) + (1:Int32)).toUInt32>>>((6:Int32)&&&31).toUInt32).toInt32) + (1:Int32)).toUInt32>>>((6:Int32)&&&31).toUInt32).toInt32)),.val (.int ((((((((ph.toUInt32>>>((6:Int32)&&&31).toUInt32).toInt32) - (1:Int32)).toUInt32>>>((6:Int32)&&&31).toUInt32).toInt32) - (1:Int32)).toUInt32>>>((6:Int32)&&&31).toUInt32).toInt32))] [(.ref o2)])) _
                        refine Goes.by (fun _ k => XS.iload X25.here hx rfl (hb hby d4_94) rfl k) ?_
                        show Goes p.tables e below (T25.setTop (mkF m 96 #[.val (.ref oa),.val (.int ((((((pl.toUInt32>>>((6:Int32)&&&31).toUInt32).toInt32) + (1:Int32)).toUInt32>>>((6:Int32)&&&31).toUInt32).toInt32) + (1:Int32))),.val (.int ((((((ph.toUInt32>>>((6:Int32)&&&31).toUInt32).toInt32) - (1:Int32)).toUInt32>>>((6:Int32)&&&31).toUInt32).toInt32) - (1:Int32))),.val (.ref ol),.val (.int (3:Int32)),.val (.int (2:Int32)),.val (.ref o2),.val (.int ((((((((pl.toUInt32>>>((6:Int32)&&&31).toUInt32).toInt32) + (1:Int32)).toUInt32>>>((6:Int32)&&&31).toUInt32).toInt32) + (1:Int32)).toUInt32>>>((6:Int32)&&&31).toUInt32).toInt32)),.val (.int ((((((((ph.toUInt32>>>((6:Int32)&&&31).toUInt32).toInt32) - (1:Int32)).toUInt32>>>((6:Int32)&&&31).toUInt32).toInt32) - (1:Int32)).toUInt32>>>((6:Int32)&&&31).toUInt32).toInt32))] [(.int ((((((((ph.toUInt32>>>((6:Int32)&&&31).toUInt32).toInt32) - (1:Int32)).toUInt32>>>((6:Int32)&&&31).toUInt32).toInt32) - (1:Int32)).toUInt32>>>((6:Int32)&&&31).toUInt32).toInt32)), (.ref o2)])) _
                        refine Goes.by (fun _ k => ldJ (v := (gz (((nh / 64 - 1) / 64 - 1) / 64))) (fr := (mkF m 96 #[.val (.ref oa),.val (.int ((((((pl.toUInt32>>>((6:Int32)&&&31).toUInt32).toInt32) + (1:Int32)).toUInt32>>>((6:Int32)&&&31).toUInt32).toInt32) + (1:Int32))),.val (.int ((((((ph.toUInt32>>>((6:Int32)&&&31).toUInt32).toInt32) - (1:Int32)).toUInt32>>>((6:Int32)&&&31).toUInt32).toInt32) - (1:Int32))),.val (.ref ol),.val (.int (3:Int32)),.val (.int (2:Int32)),.val (.ref o2),.val (.int ((((((((pl.toUInt32>>>((6:Int32)&&&31).toUInt32).toInt32) + (1:Int32)).toUInt32>>>((6:Int32)&&&31).toUInt32).toInt32) + (1:Int32)).toUInt32>>>((6:Int32)&&&31).toUInt32).toInt32)),.val (.int ((((((((ph.toUInt32>>>((6:Int32)&&&31).toUInt32).toInt32) - (1:Int32)).toUInt32>>>((6:Int32)&&&31).toUInt32).toInt32) - (1:Int32)).toUInt32>>>((6:Int32)&&&31).toUInt32).toInt32))] [(.int ((((((((ph.toUInt32>>>((6:Int32)&&&31).toUInt32).toInt32) - (1:Int32)).toUInt32>>>((6:Int32)&&&31).toUInt32).toInt32) - (1:Int32)).toUInt32>>>((6:Int32)&&&31).toUInt32).toInt32)), (.ref o2)])) X25 hx hZ e25 A_o2 (i := (((nh / 64 - 1) / 64 - 1) / 64)) (own_sh6 _ _ (own_lv (own_lv hlo hhi hwh hx1 hc3 hc11).1 (own_lv hlo hhi hwh hx1 hc3 hc11).2.1 (own_lv hlo hhi hwh hx1 hc3 hc11).2.2.2 hx2 hc12 hc20).2.1) (own_lv (own_lv hlo hhi hwh hx1 hc3 hc11).1 (own_lv hlo hhi hwh hx1 hc3 hc11).2.1 (own_lv hlo hhi hwh hx1 hc3 hc11).2.2.2 hx2 hc12 hc20).2.2.2 rfl rfl rfl (hb hby d4_96) k) ?_
                        show Goes p.tables e below (T25.setTop (mkF m 97 #[.val (.ref oa),.val (.int ((((((pl.toUInt32>>>((6:Int32)&&&31).toUInt32).toInt32) + (1:Int32)).toUInt32>>>((6:Int32)&&&31).toUInt32).toInt32) + (1:Int32))),.val (.int ((((((ph.toUInt32>>>((6:Int32)&&&31).toUInt32).toInt32) - (1:Int32)).toUInt32>>>((6:Int32)&&&31).toUInt32).toInt32) - (1:Int32))),.val (.ref ol),.val (.int (3:Int32)),.val (.int (2:Int32)),.val (.ref o2),.val (.int ((((((((pl.toUInt32>>>((6:Int32)&&&31).toUInt32).toInt32) + (1:Int32)).toUInt32>>>((6:Int32)&&&31).toUInt32).toInt32) + (1:Int32)).toUInt32>>>((6:Int32)&&&31).toUInt32).toInt32)),.val (.int ((((((((ph.toUInt32>>>((6:Int32)&&&31).toUInt32).toInt32) - (1:Int32)).toUInt32>>>((6:Int32)&&&31).toUInt32).toInt32) - (1:Int32)).toUInt32>>>((6:Int32)&&&31).toUInt32).toInt32))] [(.long (gz (((nh / 64 - 1) / 64 - 1) / 64)))])) _
                        refine Goes.by (fun _ k => XS.iloadN X25.here hx rfl (hb hby d4_97) rfl k) ?_
                        show Goes p.tables e below (T25.setTop (mkF m 98 #[.val (.ref oa),.val (.int ((((((pl.toUInt32>>>((6:Int32)&&&31).toUInt32).toInt32) + (1:Int32)).toUInt32>>>((6:Int32)&&&31).toUInt32).toInt32) + (1:Int32))),.val (.int ((((((ph.toUInt32>>>((6:Int32)&&&31).toUInt32).toInt32) - (1:Int32)).toUInt32>>>((6:Int32)&&&31).toUInt32).toInt32) - (1:Int32))),.val (.ref ol),.val (.int (3:Int32)),.val (.int (2:Int32)),.val (.ref o2),.val (.int ((((((((pl.toUInt32>>>((6:Int32)&&&31).toUInt32).toInt32) + (1:Int32)).toUInt32>>>((6:Int32)&&&31).toUInt32).toInt32) + (1:Int32)).toUInt32>>>((6:Int32)&&&31).toUInt32).toInt32)),.val (.int ((((((((ph.toUInt32>>>((6:Int32)&&&31).toUInt32).toInt32) - (1:Int32)).toUInt32>>>((6:Int32)&&&31).toUInt32).toInt32) - (1:Int32)).toUInt32>>>((6:Int32)&&&31).toUInt32).toInt32))] [(.int ((((((ph.toUInt32>>>((6:Int32)&&&31).toUInt32).toInt32) - (1:Int32)).toUInt32>>>((6:Int32)&&&31).toUInt32).toInt32) - (1:Int32))), (.long (gz (((nh / 64 - 1) / 64 - 1) / 64)))])) _
                        obtain ⟨_, _, ⟨T27, L27, k27, n27⟩, -, X27, ⟨Lc27, hQ27, l27, y27, z27⟩, st27⟩ := Jvm.LawKit.callS X25 hx (y := (⟨"com/example/xml_graph_join/xmlgraphjoin/topo/BitLevels", "upToBit", "(I)J"⟩ : MethodName)) hown (mvT hZ (hw _ (List.mem_of_getElem? (i := 30) rfl))) (mvT hZ (hw _ (List.mem_of_getElem? (i := 31) rfl))) (mvT hZ (hw _ (List.mem_of_getElem? (i := 3) rfl))) (mvT hZ (hw _ (List.mem_of_getElem? (i := 32) rfl))) (by decide) (backOf (W := 2) (rm6 l Z a0 hw [] ((((((ph.toUInt32>>>((6:Int32)&&&31).toUInt32).toInt32) - (1:Int32)).toUInt32>>>((6:Int32)&&&31).toUInt32).toInt32) - (1:Int32)) h0 n0 Z0) hZ (hw _ (List.mem_of_getElem? (i := 32) rfl)) (hw _ (List.mem_of_getElem? (i := 3) rfl)) (by decide) (by decide)) (g := (mkF m 98 #[.val (.ref oa),.val (.int ((((((pl.toUInt32>>>((6:Int32)&&&31).toUInt32).toInt32) + (1:Int32)).toUInt32>>>((6:Int32)&&&31).toUInt32).toInt32) + (1:Int32))),.val (.int ((((((ph.toUInt32>>>((6:Int32)&&&31).toUInt32).toInt32) - (1:Int32)).toUInt32>>>((6:Int32)&&&31).toUInt32).toInt32) - (1:Int32))),.val (.ref ol),.val (.int (3:Int32)),.val (.int (2:Int32)),.val (.ref o2),.val (.int ((((((((pl.toUInt32>>>((6:Int32)&&&31).toUInt32).toInt32) + (1:Int32)).toUInt32>>>((6:Int32)&&&31).toUInt32).toInt32) + (1:Int32)).toUInt32>>>((6:Int32)&&&31).toUInt32).toInt32)),.val (.int ((((((((ph.toUInt32>>>((6:Int32)&&&31).toUInt32).toInt32) - (1:Int32)).toUInt32>>>((6:Int32)&&&31).toUInt32).toInt32) - (1:Int32)).toUInt32>>>((6:Int32)&&&31).toUInt32).toInt32))] [(.int ((((((ph.toUInt32>>>((6:Int32)&&&31).toUInt32).toInt32) - (1:Int32)).toUInt32>>>((6:Int32)&&&31).toUInt32).toInt32) - (1:Int32))), (.long (gz (((nh / 64 - 1) / 64 - 1) / 64)))])) rfl (by rw [hml]; rfl) (argsL := [(.int ((((((ph.toUInt32>>>((6:Int32)&&&31).toUInt32).toInt32) - (1:Int32)).toUInt32>>>((6:Int32)&&&31).toUInt32).toInt32) - (1:Int32)))]) (rest := [(.long (gz (((nh / 64 - 1) / 64 - 1) / 64)))]) (lenOf pd_0 rfl) rfl (by show 2 * 0 + (2 + 0) ≤ _; decide) (hb hby d4_98) (fun _ _ => ⟨rfl, e25, (by decide : 0 + 0 ≤ _), (by decide : 0 + 0 ≤ _)⟩)
                        dsimp only [Pt.U, Pt.locs, Pt.cells, Pt.slots] at X27 l27 y27 z27 st27 hQ27
                        rw [l27, y27, z27] at X27
                        obtain ⟨rfl, N27q, e27⟩ := hQ27
                        have N27 := Fr.app N25 N27q
                        refine Goes.by st27 ?_
                        show Goes p.tables e below (T27.setTop (mkF m 101 #[.val (.ref oa),.val (.int ((((((pl.toUInt32>>>((6:Int32)&&&31).toUInt32).toInt32) + (1:Int32)).toUInt32>>>((6:Int32)&&&31).toUInt32).toInt32) + (1:Int32))),.val (.int ((((((ph.toUInt32>>>((6:Int32)&&&31).toUInt32).toInt32) - (1:Int32)).toUInt32>>>((6:Int32)&&&31).toUInt32).toInt32) - (1:Int32))),.val (.ref ol),.val (.int (3:Int32)),.val (.int (2:Int32)),.val (.ref o2),.val (.int ((((((((pl.toUInt32>>>((6:Int32)&&&31).toUInt32).toInt32) + (1:Int32)).toUInt32>>>((6:Int32)&&&31).toUInt32).toInt32) + (1:Int32)).toUInt32>>>((6:Int32)&&&31).toUInt32).toInt32)),.val (.int ((((((((ph.toUInt32>>>((6:Int32)&&&31).toUInt32).toInt32) - (1:Int32)).toUInt32>>>((6:Int32)&&&31).toUInt32).toInt32) - (1:Int32)).toUInt32>>>((6:Int32)&&&31).toUInt32).toInt32))] [(.long (upB ((((((ph.toUInt32>>>((6:Int32)&&&31).toUInt32).toInt32) - (1:Int32)).toUInt32>>>((6:Int32)&&&31).toUInt32).toInt32) - (1:Int32)))), (.long (gz (((nh / 64 - 1) / 64 - 1) / 64)))])) _
                        refine Goes.by (fun _ k => XS.land X27.here hx rfl (hb hby d4_101) rfl k) ?_
                        show Goes p.tables e below (T27.setTop (mkF m 102 #[.val (.ref oa),.val (.int ((((((pl.toUInt32>>>((6:Int32)&&&31).toUInt32).toInt32) + (1:Int32)).toUInt32>>>((6:Int32)&&&31).toUInt32).toInt32) + (1:Int32))),.val (.int ((((((ph.toUInt32>>>((6:Int32)&&&31).toUInt32).toInt32) - (1:Int32)).toUInt32>>>((6:Int32)&&&31).toUInt32).toInt32) - (1:Int32))),.val (.ref ol),.val (.int (3:Int32)),.val (.int (2:Int32)),.val (.ref o2),.val (.int ((((((((pl.toUInt32>>>((6:Int32)&&&31).toUInt32).toInt32) + (1:Int32)).toUInt32>>>((6:Int32)&&&31).toUInt32).toInt32) + (1:Int32)).toUInt32>>>((6:Int32)&&&31).toUInt32).toInt32)),.val (.int ((((((((ph.toUInt32>>>((6:Int32)&&&31).toUInt32).toInt32) - (1:Int32)).toUInt32>>>((6:Int32)&&&31).toUInt32).toInt32) - (1:Int32)).toUInt32>>>((6:Int32)&&&31).toUInt32).toInt32))] [(.long ((gz (((nh / 64 - 1) / 64 - 1) / 64))&&&(upB ((((((ph.toUInt32>>>((6:Int32)&&&31).toUInt32).toInt32) - (1:Int32)).toUInt32>>>((6:Int32)&&&31).toUInt32).toInt32) - (1:Int32)))))])) _
                        refine Goes.by (fun _ k => XS.lconst X27.here hx rfl (hb hby d4_102) k) ?_
                        show Goes p.tables e below (T27.setTop (mkF m 103 #[.val (.ref oa),.val (.int ((((((pl.toUInt32>>>((6:Int32)&&&31).toUInt32).toInt32) + (1:Int32)).toUInt32>>>((6:Int32)&&&31).toUInt32).toInt32) + (1:Int32))),.val (.int ((((((ph.toUInt32>>>((6:Int32)&&&31).toUInt32).toInt32) - (1:Int32)).toUInt32>>>((6:Int32)&&&31).toUInt32).toInt32) - (1:Int32))),.val (.ref ol),.val (.int (3:Int32)),.val (.int (2:Int32)),.val (.ref o2),.val (.int ((((((((pl.toUInt32>>>((6:Int32)&&&31).toUInt32).toInt32) + (1:Int32)).toUInt32>>>((6:Int32)&&&31).toUInt32).toInt32) + (1:Int32)).toUInt32>>>((6:Int32)&&&31).toUInt32).toInt32)),.val (.int ((((((((ph.toUInt32>>>((6:Int32)&&&31).toUInt32).toInt32) - (1:Int32)).toUInt32>>>((6:Int32)&&&31).toUInt32).toInt32) - (1:Int32)).toUInt32>>>((6:Int32)&&&31).toUInt32).toInt32))] [(.long (0:Int64)), (.long ((gz (((nh / 64 - 1) / 64 - 1) / 64))&&&(upB ((((((ph.toUInt32>>>((6:Int32)&&&31).toUInt32).toInt32) - (1:Int32)).toUInt32>>>((6:Int32)&&&31).toUInt32).toInt32) - (1:Int32)))))])) _
                        refine Goes.by (fun _ k => XS.lcmp X27.here hx rfl (hb hby d4_103) rfl k) ?_
                        show Goes p.tables e below (T27.setTop (mkF m 104 #[.val (.ref oa),.val (.int ((((((pl.toUInt32>>>((6:Int32)&&&31).toUInt32).toInt32) + (1:Int32)).toUInt32>>>((6:Int32)&&&31).toUInt32).toInt32) + (1:Int32))),.val (.int ((((((ph.toUInt32>>>((6:Int32)&&&31).toUInt32).toInt32) - (1:Int32)).toUInt32>>>((6:Int32)&&&31).toUInt32).toInt32) - (1:Int32))),.val (.ref ol),.val (.int (3:Int32)),.val (.int (2:Int32)),.val (.ref o2),.val (.int ((((((((pl.toUInt32>>>((6:Int32)&&&31).toUInt32).toInt32) + (1:Int32)).toUInt32>>>((6:Int32)&&&31).toUInt32).toInt32) + (1:Int32)).toUInt32>>>((6:Int32)&&&31).toUInt32).toInt32)),.val (.int ((((((((ph.toUInt32>>>((6:Int32)&&&31).toUInt32).toInt32) - (1:Int32)).toUInt32>>>((6:Int32)&&&31).toUInt32).toInt32) - (1:Int32)).toUInt32>>>((6:Int32)&&&31).toUInt32).toInt32))] [(.int (lcmpW ((gz (((nh / 64 - 1) / 64 - 1) / 64))&&&(upB ((((((ph.toUInt32>>>((6:Int32)&&&31).toUInt32).toInt32) - (1:Int32)).toUInt32>>>((6:Int32)&&&31).toUInt32).toInt32) - (1:Int32)))) (0:Int64)))])) _
                        by_cases hc28 : ((gz (((nh / 64 - 1) / 64 - 1) / 64))&&&(upB ((((((ph.toUInt32>>>((6:Int32)&&&31).toUInt32).toInt32) - (1:Int32)).toUInt32>>>((6:Int32)&&&31).toUInt32).toInt32) - (1:Int32)))) = (0:Int64)
                        · refine Goes.by (fun _ k => XS.ifYes X27.here hx rfl (pc0 := 104) (pc' := 109) rfl (hb hby d4_104) rfl (je_t hc28).1 (by decide) (by decide) k) ?_
                          show Goes p.tables e below (T27.setTop (mkF m 109 #[.val (.ref oa),.val (.int ((((((pl.toUInt32>>>((6:Int32)&&&31).toUInt32).toInt32) + (1:Int32)).toUInt32>>>((6:Int32)&&&31).toUInt32).toInt32) + (1:Int32))),.val (.int ((((((ph.toUInt32>>>((6:Int32)&&&31).toUInt32).toInt32) - (1:Int32)).toUInt32>>>((6:Int32)&&&31).toUInt32).toInt32) - (1:Int32))),.val (.ref ol),.val (.int (3:Int32)),.val (.int (2:Int32)),.val (.ref o2),.val (.int ((((((((pl.toUInt32>>>((6:Int32)&&&31).toUInt32).toInt32) + (1:Int32)).toUInt32>>>((6:Int32)&&&31).toUInt32).toInt32) + (1:Int32)).toUInt32>>>((6:Int32)&&&31).toUInt32).toInt32)),.val (.int ((((((((ph.toUInt32>>>((6:Int32)&&&31).toUInt32).toInt32) - (1:Int32)).toUInt32>>>((6:Int32)&&&31).toUInt32).toInt32) - (1:Int32)).toUInt32>>>((6:Int32)&&&31).toUInt32).toInt32))] [])) _
                          refine Goes.by (fun _ k => XS.iload X27.here hx rfl (hb hby d4_109) rfl k) ?_
                          show Goes p.tables e below (T27.setTop (mkF m 111 #[.val (.ref oa),.val (.int ((((((pl.toUInt32>>>((6:Int32)&&&31).toUInt32).toInt32) + (1:Int32)).toUInt32>>>((6:Int32)&&&31).toUInt32).toInt32) + (1:Int32))),.val (.int ((((((ph.toUInt32>>>((6:Int32)&&&31).toUInt32).toInt32) - (1:Int32)).toUInt32>>>((6:Int32)&&&31).toUInt32).toInt32) - (1:Int32))),.val (.ref ol),.val (.int (3:Int32)),.val (.int (2:Int32)),.val (.ref o2),.val (.int ((((((((pl.toUInt32>>>((6:Int32)&&&31).toUInt32).toInt32) + (1:Int32)).toUInt32>>>((6:Int32)&&&31).toUInt32).toInt32) + (1:Int32)).toUInt32>>>((6:Int32)&&&31).toUInt32).toInt32)),.val (.int ((((((((ph.toUInt32>>>((6:Int32)&&&31).toUInt32).toInt32) - (1:Int32)).toUInt32>>>((6:Int32)&&&31).toUInt32).toInt32) - (1:Int32)).toUInt32>>>((6:Int32)&&&31).toUInt32).toInt32))] [(.int ((((((((pl.toUInt32>>>((6:Int32)&&&31).toUInt32).toInt32) + (1:Int32)).toUInt32>>>((6:Int32)&&&31).toUInt32).toInt32) + (1:Int32)).toUInt32>>>((6:Int32)&&&31).toUInt32).toInt32))])) _
                          refine Goes.by (fun _ k => XS.iconst X27.here hx rfl (hb hby d4_111) k) ?_
                          show Goes p.tables e below (T27.setTop (mkF m 112 #[.val (.ref oa),.val (.int ((((((pl.toUInt32>>>((6:Int32)&&&31).toUInt32).toInt32) + (1:Int32)).toUInt32>>>((6:Int32)&&&31).toUInt32).toInt32) + (1:Int32))),.val (.int ((((((ph.toUInt32>>>((6:Int32)&&&31).toUInt32).toInt32) - (1:Int32)).toUInt32>>>((6:Int32)&&&31).toUInt32).toInt32) - (1:Int32))),.val (.ref ol),.val (.int (3:Int32)),.val (.int (2:Int32)),.val (.ref o2),.val (.int ((((((((pl.toUInt32>>>((6:Int32)&&&31).toUInt32).toInt32) + (1:Int32)).toUInt32>>>((6:Int32)&&&31).toUInt32).toInt32) + (1:Int32)).toUInt32>>>((6:Int32)&&&31).toUInt32).toInt32)),.val (.int ((((((((ph.toUInt32>>>((6:Int32)&&&31).toUInt32).toInt32) - (1:Int32)).toUInt32>>>((6:Int32)&&&31).toUInt32).toInt32) - (1:Int32)).toUInt32>>>((6:Int32)&&&31).toUInt32).toInt32))] [(.int (1:Int32)), (.int ((((((((pl.toUInt32>>>((6:Int32)&&&31).toUInt32).toInt32) + (1:Int32)).toUInt32>>>((6:Int32)&&&31).toUInt32).toInt32) + (1:Int32)).toUInt32>>>((6:Int32)&&&31).toUInt32).toInt32))])) _
                          refine Goes.by (fun _ k => XS.iadd X27.here hx rfl (hb hby d4_112) rfl k) ?_
                          show Goes p.tables e below (T27.setTop (mkF m 113 #[.val (.ref oa),.val (.int ((((((pl.toUInt32>>>((6:Int32)&&&31).toUInt32).toInt32) + (1:Int32)).toUInt32>>>((6:Int32)&&&31).toUInt32).toInt32) + (1:Int32))),.val (.int ((((((ph.toUInt32>>>((6:Int32)&&&31).toUInt32).toInt32) - (1:Int32)).toUInt32>>>((6:Int32)&&&31).toUInt32).toInt32) - (1:Int32))),.val (.ref ol),.val (.int (3:Int32)),.val (.int (2:Int32)),.val (.ref o2),.val (.int ((((((((pl.toUInt32>>>((6:Int32)&&&31).toUInt32).toInt32) + (1:Int32)).toUInt32>>>((6:Int32)&&&31).toUInt32).toInt32) + (1:Int32)).toUInt32>>>((6:Int32)&&&31).toUInt32).toInt32)),.val (.int ((((((((ph.toUInt32>>>((6:Int32)&&&31).toUInt32).toInt32) - (1:Int32)).toUInt32>>>((6:Int32)&&&31).toUInt32).toInt32) - (1:Int32)).toUInt32>>>((6:Int32)&&&31).toUInt32).toInt32))] [(.int (((((((((pl.toUInt32>>>((6:Int32)&&&31).toUInt32).toInt32) + (1:Int32)).toUInt32>>>((6:Int32)&&&31).toUInt32).toInt32) + (1:Int32)).toUInt32>>>((6:Int32)&&&31).toUInt32).toInt32) + (1:Int32)))])) _
                          refine Goes.by (fun _ k => XS.istoreN X27.here hx rfl (hb hby d4_113) rfl (l' := #[.val (.ref oa),.val (.int (((((((((pl.toUInt32>>>((6:Int32)&&&31).toUInt32).toInt32) + (1:Int32)).toUInt32>>>((6:Int32)&&&31).toUInt32).toInt32) + (1:Int32)).toUInt32>>>((6:Int32)&&&31).toUInt32).toInt32) + (1:Int32))),.val (.int ((((((ph.toUInt32>>>((6:Int32)&&&31).toUInt32).toInt32) - (1:Int32)).toUInt32>>>((6:Int32)&&&31).toUInt32).toInt32) - (1:Int32))),.val (.ref ol),.val (.int (3:Int32)),.val (.int (2:Int32)),.val (.ref o2),.val (.int ((((((((pl.toUInt32>>>((6:Int32)&&&31).toUInt32).toInt32) + (1:Int32)).toUInt32>>>((6:Int32)&&&31).toUInt32).toInt32) + (1:Int32)).toUInt32>>>((6:Int32)&&&31).toUInt32).toInt32)),.val (.int ((((((((ph.toUInt32>>>((6:Int32)&&&31).toUInt32).toInt32) - (1:Int32)).toUInt32>>>((6:Int32)&&&31).toUInt32).toInt32) - (1:Int32)).toUInt32>>>((6:Int32)&&&31).toUInt32).toInt32))]) rfl k) ?_
                          show Goes p.tables e below (T27.setTop (mkF m 114 #[.val (.ref oa),.val (.int (((((((((pl.toUInt32>>>((6:Int32)&&&31).toUInt32).toInt32) + (1:Int32)).toUInt32>>>((6:Int32)&&&31).toUInt32).toInt32) + (1:Int32)).toUInt32>>>((6:Int32)&&&31).toUInt32).toInt32) + (1:Int32))),.val (.int ((((((ph.toUInt32>>>((6:Int32)&&&31).toUInt32).toInt32) - (1:Int32)).toUInt32>>>((6:Int32)&&&31).toUInt32).toInt32) - (1:Int32))),.val (.ref ol),.val (.int (3:Int32)),.val (.int (2:Int32)),.val (.ref o2),.val (.int ((((((((pl.toUInt32>>>((6:Int32)&&&31).toUInt32).toInt32) + (1:Int32)).toUInt32>>>((6:Int32)&&&31).toUInt32).toInt32) + (1:Int32)).toUInt32>>>((6:Int32)&&&31).toUInt32).toInt32)),.val (.int ((((((((ph.toUInt32>>>((6:Int32)&&&31).toUInt32).toInt32) - (1:Int32)).toUInt32>>>((6:Int32)&&&31).toUInt32).toInt32) - (1:Int32)).toUInt32>>>((6:Int32)&&&31).toUInt32).toInt32))] [])) _
                          refine Goes.by (fun _ k => XS.iload X27.here hx rfl (hb hby d4_114) rfl k) ?_
                          show Goes p.tables e below (T27.setTop (mkF m 116 #[.val (.ref oa),.val (.int (((((((((pl.toUInt32>>>((6:Int32)&&&31).toUInt32).toInt32) + (1:Int32)).toUInt32>>>((6:Int32)&&&31).toUInt32).toInt32) + (1:Int32)).toUInt32>>>((6:Int32)&&&31).toUInt32).toInt32) + (1:Int32))),.val (.int ((((((ph.toUInt32>>>((6:Int32)&&&31).toUInt32).toInt32) - (1:Int32)).toUInt32>>>((6:Int32)&&&31).toUInt32).toInt32) - (1:Int32))),.val (.ref ol),.val (.int (3:Int32)),.val (.int (2:Int32)),.val (.ref o2),.val (.int ((((((((pl.toUInt32>>>((6:Int32)&&&31).toUInt32).toInt32) + (1:Int32)).toUInt32>>>((6:Int32)&&&31).toUInt32).toInt32) + (1:Int32)).toUInt32>>>((6:Int32)&&&31).toUInt32).toInt32)),.val (.int ((((((((ph.toUInt32>>>((6:Int32)&&&31).toUInt32).toInt32) - (1:Int32)).toUInt32>>>((6:Int32)&&&31).toUInt32).toInt32) - (1:Int32)).toUInt32>>>((6:Int32)&&&31).toUInt32).toInt32))] [(.int ((((((((ph.toUInt32>>>((6:Int32)&&&31).toUInt32).toInt32) - (1:Int32)).toUInt32>>>((6:Int32)&&&31).toUInt32).toInt32) - (1:Int32)).toUInt32>>>((6:Int32)&&&31).toUInt32).toInt32))])) _
                          refine Goes.by (fun _ k => XS.iconst X27.here hx rfl (hb hby d4_116) k) ?_
                          show Goes p.tables e below (T27.setTop (mkF m 117 #[.val (.ref oa),.val (.int (((((((((pl.toUInt32>>>((6:Int32)&&&31).toUInt32).toInt32) + (1:Int32)).toUInt32>>>((6:Int32)&&&31).toUInt32).toInt32) + (1:Int32)).toUInt32>>>((6:Int32)&&&31).toUInt32).toInt32) + (1:Int32))),.val (.int ((((((ph.toUInt32>>>((6:Int32)&&&31).toUInt32).toInt32) - (1:Int32)).toUInt32>>>((6:Int32)&&&31).toUInt32).toInt32) - (1:Int32))),.val (.ref ol),.val (.int (3:Int32)),.val (.int (2:Int32)),.val (.ref o2),.val (.int ((((((((pl.toUInt32>>>((6:Int32)&&&31).toUInt32).toInt32) + (1:Int32)).toUInt32>>>((6:Int32)&&&31).toUInt32).toInt32) + (1:Int32)).toUInt32>>>((6:Int32)&&&31).toUInt32).toInt32)),.val (.int ((((((((ph.toUInt32>>>((6:Int32)&&&31).toUInt32).toInt32) - (1:Int32)).toUInt32>>>((6:Int32)&&&31).toUInt32).toInt32) - (1:Int32)).toUInt32>>>((6:Int32)&&&31).toUInt32).toInt32))] [(.int (1:Int32)), (.int ((((((((ph.toUInt32>>>((6:Int32)&&&31).toUInt32).toInt32) - (1:Int32)).toUInt32>>>((6:Int32)&&&31).toUInt32).toInt32) - (1:Int32)).toUInt32>>>((6:Int32)&&&31).toUInt32).toInt32))])) _
                          refine Goes.by (fun _ k => XS.isub X27.here hx rfl (hb hby d4_117) rfl k) ?_
                          show Goes p.tables e below (T27.setTop (mkF m 118 #[.val (.ref oa),.val (.int (((((((((pl.toUInt32>>>((6:Int32)&&&31).toUInt32).toInt32) + (1:Int32)).toUInt32>>>((6:Int32)&&&31).toUInt32).toInt32) + (1:Int32)).toUInt32>>>((6:Int32)&&&31).toUInt32).toInt32) + (1:Int32))),.val (.int ((((((ph.toUInt32>>>((6:Int32)&&&31).toUInt32).toInt32) - (1:Int32)).toUInt32>>>((6:Int32)&&&31).toUInt32).toInt32) - (1:Int32))),.val (.ref ol),.val (.int (3:Int32)),.val (.int (2:Int32)),.val (.ref o2),.val (.int ((((((((pl.toUInt32>>>((6:Int32)&&&31).toUInt32).toInt32) + (1:Int32)).toUInt32>>>((6:Int32)&&&31).toUInt32).toInt32) + (1:Int32)).toUInt32>>>((6:Int32)&&&31).toUInt32).toInt32)),.val (.int ((((((((ph.toUInt32>>>((6:Int32)&&&31).toUInt32).toInt32) - (1:Int32)).toUInt32>>>((6:Int32)&&&31).toUInt32).toInt32) - (1:Int32)).toUInt32>>>((6:Int32)&&&31).toUInt32).toInt32))] [(.int (((((((((ph.toUInt32>>>((6:Int32)&&&31).toUInt32).toInt32) - (1:Int32)).toUInt32>>>((6:Int32)&&&31).toUInt32).toInt32) - (1:Int32)).toUInt32>>>((6:Int32)&&&31).toUInt32).toInt32) - (1:Int32)))])) _
                          refine Goes.by (fun _ k => XS.istoreN X27.here hx rfl (hb hby d4_118) rfl (l' := #[.val (.ref oa),.val (.int (((((((((pl.toUInt32>>>((6:Int32)&&&31).toUInt32).toInt32) + (1:Int32)).toUInt32>>>((6:Int32)&&&31).toUInt32).toInt32) + (1:Int32)).toUInt32>>>((6:Int32)&&&31).toUInt32).toInt32) + (1:Int32))),.val (.int (((((((((ph.toUInt32>>>((6:Int32)&&&31).toUInt32).toInt32) - (1:Int32)).toUInt32>>>((6:Int32)&&&31).toUInt32).toInt32) - (1:Int32)).toUInt32>>>((6:Int32)&&&31).toUInt32).toInt32) - (1:Int32))),.val (.ref ol),.val (.int (3:Int32)),.val (.int (2:Int32)),.val (.ref o2),.val (.int ((((((((pl.toUInt32>>>((6:Int32)&&&31).toUInt32).toInt32) + (1:Int32)).toUInt32>>>((6:Int32)&&&31).toUInt32).toInt32) + (1:Int32)).toUInt32>>>((6:Int32)&&&31).toUInt32).toInt32)),.val (.int ((((((((ph.toUInt32>>>((6:Int32)&&&31).toUInt32).toInt32) - (1:Int32)).toUInt32>>>((6:Int32)&&&31).toUInt32).toInt32) - (1:Int32)).toUInt32>>>((6:Int32)&&&31).toUInt32).toInt32))]) rfl k) ?_
                          show Goes p.tables e below (T27.setTop (mkF m 119 #[.val (.ref oa),.val (.int (((((((((pl.toUInt32>>>((6:Int32)&&&31).toUInt32).toInt32) + (1:Int32)).toUInt32>>>((6:Int32)&&&31).toUInt32).toInt32) + (1:Int32)).toUInt32>>>((6:Int32)&&&31).toUInt32).toInt32) + (1:Int32))),.val (.int (((((((((ph.toUInt32>>>((6:Int32)&&&31).toUInt32).toInt32) - (1:Int32)).toUInt32>>>((6:Int32)&&&31).toUInt32).toInt32) - (1:Int32)).toUInt32>>>((6:Int32)&&&31).toUInt32).toInt32) - (1:Int32))),.val (.ref ol),.val (.int (3:Int32)),.val (.int (2:Int32)),.val (.ref o2),.val (.int ((((((((pl.toUInt32>>>((6:Int32)&&&31).toUInt32).toInt32) + (1:Int32)).toUInt32>>>((6:Int32)&&&31).toUInt32).toInt32) + (1:Int32)).toUInt32>>>((6:Int32)&&&31).toUInt32).toInt32)),.val (.int ((((((((ph.toUInt32>>>((6:Int32)&&&31).toUInt32).toInt32) - (1:Int32)).toUInt32>>>((6:Int32)&&&31).toUInt32).toInt32) - (1:Int32)).toUInt32>>>((6:Int32)&&&31).toUInt32).toInt32))] [])) _
                          refine Goes.by (fun _ k => XS.iinc X27.here hx rfl (hb hby d4_119) rfl (l' := #[.val (.ref oa),.val (.int (((((((((pl.toUInt32>>>((6:Int32)&&&31).toUInt32).toInt32) + (1:Int32)).toUInt32>>>((6:Int32)&&&31).toUInt32).toInt32) + (1:Int32)).toUInt32>>>((6:Int32)&&&31).toUInt32).toInt32) + (1:Int32))),.val (.int (((((((((ph.toUInt32>>>((6:Int32)&&&31).toUInt32).toInt32) - (1:Int32)).toUInt32>>>((6:Int32)&&&31).toUInt32).toInt32) - (1:Int32)).toUInt32>>>((6:Int32)&&&31).toUInt32).toInt32) - (1:Int32))),.val (.ref ol),.val (.int (3:Int32)),.val (.int (3:Int32)),.val (.ref o2),.val (.int ((((((((pl.toUInt32>>>((6:Int32)&&&31).toUInt32).toInt32) + (1:Int32)).toUInt32>>>((6:Int32)&&&31).toUInt32).toInt32) + (1:Int32)).toUInt32>>>((6:Int32)&&&31).toUInt32).toInt32)),.val (.int ((((((((ph.toUInt32>>>((6:Int32)&&&31).toUInt32).toInt32) - (1:Int32)).toUInt32>>>((6:Int32)&&&31).toUInt32).toInt32) - (1:Int32)).toUInt32>>>((6:Int32)&&&31).toUInt32).toInt32))]) rfl k) ?_
                          show Goes p.tables e below (T27.setTop (mkF m 122 #[.val (.ref oa),.val (.int (((((((((pl.toUInt32>>>((6:Int32)&&&31).toUInt32).toInt32) + (1:Int32)).toUInt32>>>((6:Int32)&&&31).toUInt32).toInt32) + (1:Int32)).toUInt32>>>((6:Int32)&&&31).toUInt32).toInt32) + (1:Int32))),.val (.int (((((((((ph.toUInt32>>>((6:Int32)&&&31).toUInt32).toInt32) - (1:Int32)).toUInt32>>>((6:Int32)&&&31).toUInt32).toInt32) - (1:Int32)).toUInt32>>>((6:Int32)&&&31).toUInt32).toInt32) - (1:Int32))),.val (.ref ol),.val (.int (3:Int32)),.val (.int (3:Int32)),.val (.ref o2),.val (.int ((((((((pl.toUInt32>>>((6:Int32)&&&31).toUInt32).toInt32) + (1:Int32)).toUInt32>>>((6:Int32)&&&31).toUInt32).toInt32) + (1:Int32)).toUInt32>>>((6:Int32)&&&31).toUInt32).toInt32)),.val (.int ((((((((ph.toUInt32>>>((6:Int32)&&&31).toUInt32).toInt32) - (1:Int32)).toUInt32>>>((6:Int32)&&&31).toUInt32).toInt32) - (1:Int32)).toUInt32>>>((6:Int32)&&&31).toUInt32).toInt32))] [])) _
                          refine Goes.by (fun _ k => XS.goto X27.here hx rfl (pc0 := 122) (pc' := 12) rfl (hb hby d4_122) (by decide) (by decide) k) ?_
                          show Goes p.tables e below (T27.setTop (mkF m 12 #[.val (.ref oa),.val (.int (((((((((pl.toUInt32>>>((6:Int32)&&&31).toUInt32).toInt32) + (1:Int32)).toUInt32>>>((6:Int32)&&&31).toUInt32).toInt32) + (1:Int32)).toUInt32>>>((6:Int32)&&&31).toUInt32).toInt32) + (1:Int32))),.val (.int (((((((((ph.toUInt32>>>((6:Int32)&&&31).toUInt32).toInt32) - (1:Int32)).toUInt32>>>((6:Int32)&&&31).toUInt32).toInt32) - (1:Int32)).toUInt32>>>((6:Int32)&&&31).toUInt32).toInt32) - (1:Int32))),.val (.ref ol),.val (.int (3:Int32)),.val (.int (3:Int32)),.val (.ref o2),.val (.int ((((((((pl.toUInt32>>>((6:Int32)&&&31).toUInt32).toInt32) + (1:Int32)).toUInt32>>>((6:Int32)&&&31).toUInt32).toInt32) + (1:Int32)).toUInt32>>>((6:Int32)&&&31).toUInt32).toInt32)),.val (.int ((((((((ph.toUInt32>>>((6:Int32)&&&31).toUInt32).toInt32) - (1:Int32)).toUInt32>>>((6:Int32)&&&31).toUInt32).toInt32) - (1:Int32)).toUInt32>>>((6:Int32)&&&31).toUInt32).toInt32))] [])) _
                          refine Goes.by (fun _ k => XS.iload X27.here hx rfl (hb hby d4_12) rfl k) ?_
                          show Goes p.tables e below (T27.setTop (mkF m 14 #[.val (.ref oa),.val (.int (((((((((pl.toUInt32>>>((6:Int32)&&&31).toUInt32).toInt32) + (1:Int32)).toUInt32>>>((6:Int32)&&&31).toUInt32).toInt32) + (1:Int32)).toUInt32>>>((6:Int32)&&&31).toUInt32).toInt32) + (1:Int32))),.val (.int (((((((((ph.toUInt32>>>((6:Int32)&&&31).toUInt32).toInt32) - (1:Int32)).toUInt32>>>((6:Int32)&&&31).toUInt32).toInt32) - (1:Int32)).toUInt32>>>((6:Int32)&&&31).toUInt32).toInt32) - (1:Int32))),.val (.ref ol),.val (.int (3:Int32)),.val (.int (3:Int32)),.val (.ref o2),.val (.int ((((((((pl.toUInt32>>>((6:Int32)&&&31).toUInt32).toInt32) + (1:Int32)).toUInt32>>>((6:Int32)&&&31).toUInt32).toInt32) + (1:Int32)).toUInt32>>>((6:Int32)&&&31).toUInt32).toInt32)),.val (.int ((((((((ph.toUInt32>>>((6:Int32)&&&31).toUInt32).toInt32) - (1:Int32)).toUInt32>>>((6:Int32)&&&31).toUInt32).toInt32) - (1:Int32)).toUInt32>>>((6:Int32)&&&31).toUInt32).toInt32))] [(.int (3:Int32))])) _
                          refine Goes.by (fun _ k => XS.iload X27.here hx rfl (hb hby d4_14) rfl k) ?_
                          show Goes p.tables e below (T27.setTop (mkF m 16 #[.val (.ref oa),.val (.int (((((((((pl.toUInt32>>>((6:Int32)&&&31).toUInt32).toInt32) + (1:Int32)).toUInt32>>>((6:Int32)&&&31).toUInt32).toInt32) + (1:Int32)).toUInt32>>>((6:Int32)&&&31).toUInt32).toInt32) + (1:Int32))),.val (.int (((((((((ph.toUInt32>>>((6:Int32)&&&31).toUInt32).toInt32) - (1:Int32)).toUInt32>>>((6:Int32)&&&31).toUInt32).toInt32) - (1:Int32)).toUInt32>>>((6:Int32)&&&31).toUInt32).toInt32) - (1:Int32))),.val (.ref ol),.val (.int (3:Int32)),.val (.int (3:Int32)),.val (.ref o2),.val (.int ((((((((pl.toUInt32>>>((6:Int32)&&&31).toUInt32).toInt32) + (1:Int32)).toUInt32>>>((6:Int32)&&&31).toUInt32).toInt32) + (1:Int32)).toUInt32>>>((6:Int32)&&&31).toUInt32).toInt32)),.val (.int ((((((((ph.toUInt32>>>((6:Int32)&&&31).toUInt32).toInt32) - (1:Int32)).toUInt32>>>((6:Int32)&&&31).toUInt32).toInt32) - (1:Int32)).toUInt32>>>((6:Int32)&&&31).toUInt32).toInt32))] [(.int (3:Int32)), (.int (3:Int32))])) _
                          refine Goes.by (fun _ k => XS.icmpYes X27.here hx rfl (pc0 := 16) (pc' := 125) rfl (hb hby d4_16) rfl (flt (by decide : ¬ ((3:Int32) < (3:Int32)))).2.1 (by decide) (by decide) k) ?_
                          show Goes p.tables e below (T27.setTop (mkF m 125 #[.val (.ref oa),.val (.int (((((((((pl.toUInt32>>>((6:Int32)&&&31).toUInt32).toInt32) + (1:Int32)).toUInt32>>>((6:Int32)&&&31).toUInt32).toInt32) + (1:Int32)).toUInt32>>>((6:Int32)&&&31).toUInt32).toInt32) + (1:Int32))),.val (.int (((((((((ph.toUInt32>>>((6:Int32)&&&31).toUInt32).toInt32) - (1:Int32)).toUInt32>>>((6:Int32)&&&31).toUInt32).toInt32) - (1:Int32)).toUInt32>>>((6:Int32)&&&31).toUInt32).toInt32) - (1:Int32))),.val (.ref ol),.val (.int (3:Int32)),.val (.int (3:Int32)),.val (.ref o2),.val (.int ((((((((pl.toUInt32>>>((6:Int32)&&&31).toUInt32).toInt32) + (1:Int32)).toUInt32>>>((6:Int32)&&&31).toUInt32).toInt32) + (1:Int32)).toUInt32>>>((6:Int32)&&&31).toUInt32).toInt32)),.val (.int ((((((((ph.toUInt32>>>((6:Int32)&&&31).toUInt32).toInt32) - (1:Int32)).toUInt32>>>((6:Int32)&&&31).toUInt32).toInt32) - (1:Int32)).toUInt32>>>((6:Int32)&&&31).toUInt32).toInt32))] [])) _
                          refine Goes.by (fun _ k => XS.iconst X27.here hx rfl (hb hby d4_125) k) ?_
                          show Goes p.tables e below (T27.setTop (mkF m 126 #[.val (.ref oa),.val (.int (((((((((pl.toUInt32>>>((6:Int32)&&&31).toUInt32).toInt32) + (1:Int32)).toUInt32>>>((6:Int32)&&&31).toUInt32).toInt32) + (1:Int32)).toUInt32>>>((6:Int32)&&&31).toUInt32).toInt32) + (1:Int32))),.val (.int (((((((((ph.toUInt32>>>((6:Int32)&&&31).toUInt32).toInt32) - (1:Int32)).toUInt32>>>((6:Int32)&&&31).toUInt32).toInt32) - (1:Int32)).toUInt32>>>((6:Int32)&&&31).toUInt32).toInt32) - (1:Int32))),.val (.ref ol),.val (.int (3:Int32)),.val (.int (3:Int32)),.val (.ref o2),.val (.int ((((((((pl.toUInt32>>>((6:Int32)&&&31).toUInt32).toInt32) + (1:Int32)).toUInt32>>>((6:Int32)&&&31).toUInt32).toInt32) + (1:Int32)).toUInt32>>>((6:Int32)&&&31).toUInt32).toInt32)),.val (.int ((((((((ph.toUInt32>>>((6:Int32)&&&31).toUInt32).toInt32) - (1:Int32)).toUInt32>>>((6:Int32)&&&31).toUInt32).toInt32) - (1:Int32)).toUInt32>>>((6:Int32)&&&31).toUInt32).toInt32))] [(.int (0:Int32))])) _
                          obtain ⟨fs, hr, hrun, hended, hW, hsame⟩ := X27.leave (v := some (.int (0:Int32))) (fun h => by rw [Bd.returns] at h; cases h)
                          refine ⟨_, _, retN X27 hx (t := .boolean) Bd.returns (by simp) (hb hby d4_126) hr, hrun, hended, _, _, rfl, ?_, ⟨_, rfl⟩, hW, hsame.mono (by decide) (by decide)⟩
                          show Q4d3 Z oa pl ph ol o0 o1 o2 gx gy gz wx wy wz nl nh h0 n0 _ T27.heap _
                          rw [e27]
                          exact ⟨(by rw [fn4d3, if_neg hc2, if_neg hc3, if_pos hc8, if_pos hc10, if_neg hc11, if_neg hc12, if_pos hc17, if_pos hc19, if_neg hc20, if_neg hc21, if_pos hc26, if_pos hc28]), N27, rfl⟩
                        · refine Goes.by (fun _ k => XS.ifNo X27.here hx rfl (hb hby d4_104) rfl (je_f hc28).1 k) ?_
                          show Goes p.tables e below (T27.setTop (mkF m 107 #[.val (.ref oa),.val (.int ((((((pl.toUInt32>>>((6:Int32)&&&31).toUInt32).toInt32) + (1:Int32)).toUInt32>>>((6:Int32)&&&31).toUInt32).toInt32) + (1:Int32))),.val (.int ((((((ph.toUInt32>>>((6:Int32)&&&31).toUInt32).toInt32) - (1:Int32)).toUInt32>>>((6:Int32)&&&31).toUInt32).toInt32) - (1:Int32))),.val (.ref ol),.val (.int (3:Int32)),.val (.int (2:Int32)),.val (.ref o2),.val (.int ((((((((pl.toUInt32>>>((6:Int32)&&&31).toUInt32).toInt32) + (1:Int32)).toUInt32>>>((6:Int32)&&&31).toUInt32).toInt32) + (1:Int32)).toUInt32>>>((6:Int32)&&&31).toUInt32).toInt32)),.val (.int ((((((((ph.toUInt32>>>((6:Int32)&&&31).toUInt32).toInt32) - (1:Int32)).toUInt32>>>((6:Int32)&&&31).toUInt32).toInt32) - (1:Int32)).toUInt32>>>((6:Int32)&&&31).toUInt32).toInt32))] [])) _
                          refine Goes.by (fun _ k => XS.iconst X27.here hx rfl (hb hby d4_107) k) ?_
                          show Goes p.tables e below (T27.setTop (mkF m 108 #[.val (.ref oa),.val (.int ((((((pl.toUInt32>>>((6:Int32)&&&31).toUInt32).toInt32) + (1:Int32)).toUInt32>>>((6:Int32)&&&31).toUInt32).toInt32) + (1:Int32))),.val (.int ((((((ph.toUInt32>>>((6:Int32)&&&31).toUInt32).toInt32) - (1:Int32)).toUInt32>>>((6:Int32)&&&31).toUInt32).toInt32) - (1:Int32))),.val (.ref ol),.val (.int (3:Int32)),.val (.int (2:Int32)),.val (.ref o2),.val (.int ((((((((pl.toUInt32>>>((6:Int32)&&&31).toUInt32).toInt32) + (1:Int32)).toUInt32>>>((6:Int32)&&&31).toUInt32).toInt32) + (1:Int32)).toUInt32>>>((6:Int32)&&&31).toUInt32).toInt32)),.val (.int ((((((((ph.toUInt32>>>((6:Int32)&&&31).toUInt32).toInt32) - (1:Int32)).toUInt32>>>((6:Int32)&&&31).toUInt32).toInt32) - (1:Int32)).toUInt32>>>((6:Int32)&&&31).toUInt32).toInt32))] [(.int (1:Int32))])) _
                          obtain ⟨fs, hr, hrun, hended, hW, hsame⟩ := X27.leave (v := some (.int (1:Int32))) (fun h => by rw [Bd.returns] at h; cases h)
                          refine ⟨_, _, retN X27 hx (t := .boolean) Bd.returns (by simp) (hb hby d4_108) hr, hrun, hended, _, _, rfl, ?_, ⟨_, rfl⟩, hW, hsame.mono (by decide) (by decide)⟩
                          show Q4d3 Z oa pl ph ol o0 o1 o2 gx gy gz wx wy wz nl nh h0 n0 _ T27.heap _
                          rw [e27]
                          exact ⟨(by rw [fn4d3, if_neg hc2, if_neg hc3, if_pos hc8, if_pos hc10, if_neg hc11, if_neg hc12, if_pos hc17, if_pos hc19, if_neg hc20, if_neg hc21, if_pos hc26, if_neg hc28]), N27, rfl⟩
                      · refine Goes.by (fun _ k => XS.ifYes X25.here hx rfl (pc0 := 89) (pc' := 107) rfl (hb hby d4_89) rfl (je_f hc26).2 (by decide) (by decide) k) ?_
                        show Goes p.tables e below (T25.setTop (mkF m 107 #[.val (.ref oa),.val (.int ((((((pl.toUInt32>>>((6:Int32)&&&31).toUInt32).toInt32) + (1:Int32)).toUInt32>>>((6:Int32)&&&31).toUInt32).toInt32) + (1:Int32))),.val (.int ((((((ph.toUInt32>>>((6:Int32)&&&31).toUInt32).toInt32) - (1:Int32)).toUInt32>>>((6:Int32)&&&31).toUInt32).toInt32) - (1:Int32))),.val (.ref ol),.val (.int (3:Int32)),.val (.int (2:Int32)),.val (.ref o2),.val (.int ((((((((pl.toUInt32>>>((6:Int32)&&&31).toUInt32).toInt32) + (1:Int32)).toUInt32>>>((6:Int32)&&&31).toUInt32).toInt32) + (1:Int32)).toUInt32>>>((6:Int32)&&&31).toUInt32).toInt32)),.val (.int ((((((((ph.toUInt32>>>((6:Int32)&&&31).toUInt32).toInt32) - (1:Int32)).toUInt32>>>((6:Int32)&&&31).toUInt32).toInt32) - (1:Int32)).toUInt32>>>((6:Int32)&&&31).toUInt32).toInt32))] [])) _
                        refine Goes.by (fun _ k => XS.iconst X25.here hx rfl (hb hby d4_107) k) ?_
                        show Goes p.tables e below (T25.setTop (mkF m 108 #[.val (.ref oa),.val (.int ((((((pl.toUInt32>>>((6:Int32)&&&31).toUInt32).toInt32) + (1:Int32)).toUInt32>>>((6:Int32)&&&31).toUInt32).toInt32) + (1:Int32))),.val (.int ((((((ph.toUInt32>>>((6:Int32)&&&31).toUInt32).toInt32) - (1:Int32)).toUInt32>>>((6:Int32)&&&31).toUInt32).toInt32) - (1:Int32))),.val (.ref ol),.val (.int (3:Int32)),.val (.int (2:Int32)),.val (.ref o2),.val (.int ((((((((pl.toUInt32>>>((6:Int32)&&&31).toUInt32).toInt32) + (1:Int32)).toUInt32>>>((6:Int32)&&&31).toUInt32).toInt32) + (1:Int32)).toUInt32>>>((6:Int32)&&&31).toUInt32).toInt32)),.val (.int ((((((((ph.toUInt32>>>((6:Int32)&&&31).toUInt32).toInt32) - (1:Int32)).toUInt32>>>((6:Int32)&&&31).toUInt32).toInt32) - (1:Int32)).toUInt32>>>((6:Int32)&&&31).toUInt32).toInt32))] [(.int (1:Int32))])) _
                        obtain ⟨fs, hr, hrun, hended, hW, hsame⟩ := X25.leave (v := some (.int (1:Int32))) (fun h => by rw [Bd.returns] at h; cases h)
                        refine ⟨_, _, retN X25 hx (t := .boolean) Bd.returns (by simp) (hb hby d4_108) hr, hrun, hended, _, _, rfl, ?_, ⟨_, rfl⟩, hW, hsame.mono (by decide) (by decide)⟩
                        show Q4d3 Z oa pl ph ol o0 o1 o2 gx gy gz wx wy wz nl nh h0 n0 _ T25.heap _
                        rw [e25]
                        exact ⟨(by rw [fn4d3, if_neg hc2, if_neg hc3, if_pos hc8, if_pos hc10, if_neg hc11, if_neg hc12, if_pos hc17, if_pos hc19, if_neg hc20, if_neg hc21, if_neg hc26]), N25, rfl⟩
                · refine Goes.by (fun _ k => XS.ifNo X18.here hx rfl (hb hby d4_104) rfl (je_f hc19).1 k) ?_
                  show Goes p.tables e below (T18.setTop (mkF m 107 #[.val (.ref oa),.val (.int (((pl.toUInt32>>>((6:Int32)&&&31).toUInt32).toInt32) + (1:Int32))),.val (.int (((ph.toUInt32>>>((6:Int32)&&&31).toUInt32).toInt32) - (1:Int32))),.val (.ref ol),.val (.int (3:Int32)),.val (.int (1:Int32)),.val (.ref o1),.val (.int (((((pl.toUInt32>>>((6:Int32)&&&31).toUInt32).toInt32) + (1:Int32)).toUInt32>>>((6:Int32)&&&31).toUInt32).toInt32)),.val (.int (((((ph.toUInt32>>>((6:Int32)&&&31).toUInt32).toInt32) - (1:Int32)).toUInt32>>>((6:Int32)&&&31).toUInt32).toInt32))] [])) _
                  refine Goes.by (fun _ k => XS.iconst X18.here hx rfl (hb hby d4_107) k) ?_
                  show Goes p.tables e below (T18.setTop (mkF m 108 #[.val (.ref oa),.val (.int (((pl.toUInt32>>>((6:Int32)&&&31).toUInt32).toInt32) + (1:Int32))),.val (.int (((ph.toUInt32>>>((6:Int32)&&&31).toUInt32).toInt32) - (1:Int32))),.val (.ref ol),.val (.int (3:Int32)),.val (.int (1:Int32)),.val (.ref o1),.val (.int (((((pl.toUInt32>>>((6:Int32)&&&31).toUInt32).toInt32) + (1:Int32)).toUInt32>>>((6:Int32)&&&31).toUInt32).toInt32)),.val (.int (((((ph.toUInt32>>>((6:Int32)&&&31).toUInt32).toInt32) - (1:Int32)).toUInt32>>>((6:Int32)&&&31).toUInt32).toInt32))] [(.int (1:Int32))])) _
                  obtain ⟨fs, hr, hrun, hended, hW, hsame⟩ := X18.leave (v := some (.int (1:Int32))) (fun h => by rw [Bd.returns] at h; cases h)
                  refine ⟨_, _, retN X18 hx (t := .boolean) Bd.returns (by simp) (hb hby d4_108) hr, hrun, hended, _, _, rfl, ?_, ⟨_, rfl⟩, hW, hsame.mono (by decide) (by decide)⟩
                  show Q4d3 Z oa pl ph ol o0 o1 o2 gx gy gz wx wy wz nl nh h0 n0 _ T18.heap _
                  rw [e18]
                  exact ⟨(by rw [fn4d3, if_neg hc2, if_neg hc3, if_pos hc8, if_pos hc10, if_neg hc11, if_neg hc12, if_pos hc17, if_neg hc19]), N18, rfl⟩
              · refine Goes.by (fun _ k => XS.ifYes X16.here hx rfl (pc0 := 89) (pc' := 107) rfl (hb hby d4_89) rfl (je_f hc17).2 (by decide) (by decide) k) ?_
                show Goes p.tables e below (T16.setTop (mkF m 107 #[.val (.ref oa),.val (.int (((pl.toUInt32>>>((6:Int32)&&&31).toUInt32).toInt32) + (1:Int32))),.val (.int (((ph.toUInt32>>>((6:Int32)&&&31).toUInt32).toInt32) - (1:Int32))),.val (.ref ol),.val (.int (3:Int32)),.val (.int (1:Int32)),.val (.ref o1),.val (.int (((((pl.toUInt32>>>((6:Int32)&&&31).toUInt32).toInt32) + (1:Int32)).toUInt32>>>((6:Int32)&&&31).toUInt32).toInt32)),.val (.int (((((ph.toUInt32>>>((6:Int32)&&&31).toUInt32).toInt32) - (1:Int32)).toUInt32>>>((6:Int32)&&&31).toUInt32).toInt32))] [])) _
                refine Goes.by (fun _ k => XS.iconst X16.here hx rfl (hb hby d4_107) k) ?_
                show Goes p.tables e below (T16.setTop (mkF m 108 #[.val (.ref oa),.val (.int (((pl.toUInt32>>>((6:Int32)&&&31).toUInt32).toInt32) + (1:Int32))),.val (.int (((ph.toUInt32>>>((6:Int32)&&&31).toUInt32).toInt32) - (1:Int32))),.val (.ref ol),.val (.int (3:Int32)),.val (.int (1:Int32)),.val (.ref o1),.val (.int (((((pl.toUInt32>>>((6:Int32)&&&31).toUInt32).toInt32) + (1:Int32)).toUInt32>>>((6:Int32)&&&31).toUInt32).toInt32)),.val (.int (((((ph.toUInt32>>>((6:Int32)&&&31).toUInt32).toInt32) - (1:Int32)).toUInt32>>>((6:Int32)&&&31).toUInt32).toInt32))] [(.int (1:Int32))])) _
                obtain ⟨fs, hr, hrun, hended, hW, hsame⟩ := X16.leave (v := some (.int (1:Int32))) (fun h => by rw [Bd.returns] at h; cases h)
                refine ⟨_, _, retN X16 hx (t := .boolean) Bd.returns (by simp) (hb hby d4_108) hr, hrun, hended, _, _, rfl, ?_, ⟨_, rfl⟩, hW, hsame.mono (by decide) (by decide)⟩
                show Q4d3 Z oa pl ph ol o0 o1 o2 gx gy gz wx wy wz nl nh h0 n0 _ T16.heap _
                rw [e16]
                exact ⟨(by rw [fn4d3, if_neg hc2, if_neg hc3, if_pos hc8, if_pos hc10, if_neg hc11, if_neg hc12, if_neg hc17]), N16, rfl⟩
        · refine Goes.by (fun _ k => XS.ifNo X9.here hx rfl (hb hby d4_104) rfl (je_f hc10).1 k) ?_
          show Goes p.tables e below (T9.setTop (mkF m 107 #[.val (.ref oa),.val (.int pl),.val (.int ph),.val (.ref ol),.val (.int (3:Int32)),.val (.int (0:Int32)),.val (.ref o0),.val (.int ((pl.toUInt32>>>((6:Int32)&&&31).toUInt32).toInt32)),.val (.int ((ph.toUInt32>>>((6:Int32)&&&31).toUInt32).toInt32))] [])) _
          refine Goes.by (fun _ k => XS.iconst X9.here hx rfl (hb hby d4_107) k) ?_
          show Goes p.tables e below (T9.setTop (mkF m 108 #[.val (.ref oa),.val (.int pl),.val (.int ph),.val (.ref ol),.val (.int (3:Int32)),.val (.int (0:Int32)),.val (.ref o0),.val (.int ((pl.toUInt32>>>((6:Int32)&&&31).toUInt32).toInt32)),.val (.int ((ph.toUInt32>>>((6:Int32)&&&31).toUInt32).toInt32))] [(.int (1:Int32))])) _
          obtain ⟨fs, hr, hrun, hended, hW, hsame⟩ := X9.leave (v := some (.int (1:Int32))) (fun h => by rw [Bd.returns] at h; cases h)
          refine ⟨_, _, retN X9 hx (t := .boolean) Bd.returns (by simp) (hb hby d4_108) hr, hrun, hended, _, _, rfl, ?_, ⟨_, rfl⟩, hW, hsame.mono (by decide) (by decide)⟩
          show Q4d3 Z oa pl ph ol o0 o1 o2 gx gy gz wx wy wz nl nh h0 n0 _ T9.heap _
          rw [e9]
          exact ⟨(by rw [fn4d3, if_neg hc2, if_neg hc3, if_pos hc8, if_neg hc10]), N9, rfl⟩
      · refine Goes.by (fun _ k => XS.ifYes X7.here hx rfl (pc0 := 89) (pc' := 107) rfl (hb hby d4_89) rfl (je_f hc8).2 (by decide) (by decide) k) ?_
        show Goes p.tables e below (T7.setTop (mkF m 107 #[.val (.ref oa),.val (.int pl),.val (.int ph),.val (.ref ol),.val (.int (3:Int32)),.val (.int (0:Int32)),.val (.ref o0),.val (.int ((pl.toUInt32>>>((6:Int32)&&&31).toUInt32).toInt32)),.val (.int ((ph.toUInt32>>>((6:Int32)&&&31).toUInt32).toInt32))] [])) _
        refine Goes.by (fun _ k => XS.iconst X7.here hx rfl (hb hby d4_107) k) ?_
        show Goes p.tables e below (T7.setTop (mkF m 108 #[.val (.ref oa),.val (.int pl),.val (.int ph),.val (.ref ol),.val (.int (3:Int32)),.val (.int (0:Int32)),.val (.ref o0),.val (.int ((pl.toUInt32>>>((6:Int32)&&&31).toUInt32).toInt32)),.val (.int ((ph.toUInt32>>>((6:Int32)&&&31).toUInt32).toInt32))] [(.int (1:Int32))])) _
        obtain ⟨fs, hr, hrun, hended, hW, hsame⟩ := X7.leave (v := some (.int (1:Int32))) (fun h => by rw [Bd.returns] at h; cases h)
        refine ⟨_, _, retN X7 hx (t := .boolean) Bd.returns (by simp) (hb hby d4_108) hr, hrun, hended, _, _, rfl, ?_, ⟨_, rfl⟩, hW, hsame.mono (by decide) (by decide)⟩
        show Q4d3 Z oa pl ph ol o0 o1 o2 gx gy gz wx wy wz nl nh h0 n0 _ T7.heap _
        rw [e7]
        exact ⟨(by rw [fn4d3, if_neg hc2, if_neg hc3, if_neg hc8]), N7, rfl⟩
def fn8d3 (pn : Int32) (gx : Nat → Int64) (gy : Nat → Int64) (gz : Nat → Int64) (wx : Nat) (wy : Nat) (wz : Nat) (nn : Nat) : Int32 := (if ((((gx (nn / 64)).toUInt64>>>(pn&&&0x3f).toInt64.toUInt64).toInt64)&&&(1:Int64)) = (0:Int64) then (0:Int32) else (1:Int32))
theorem ef8d3 (m : MethodId) (oa : Addr) (pn : Int32) : entryFrame m #[(.ref oa), (.int pn)] 2 = mkF m 0 #[.val (.ref oa),.val (.int pn)] [] := by first | (simp [entryFrame, mkF, argsToLocals, Value.category]; done) | rfl
def Q8d3 (Z : State) (oa : Addr) (pn : Int32) (ol : Addr) (o0 : Addr) (o1 : Addr) (o2 : Addr) (gx : Nat → Int64) (gy : Nat → Int64) (gz : Nat → Int64) (wx : Nat) (wy : Nat) (wz : Nat) (nn : Nat) (h0 : Heap) (n0 : Nat) (v : Option Value) (h : Heap) (L : List Loc) : Prop := v = some (.int (fn8d3 pn gx gy gz wx wy wz nn)) ∧ Fr n0 L ∧ h = h0
set_option maxRecDepth 65536 in
set_option maxHeartbeats 40000000 in
theorem rm8d3 (l : Launch) (Z : State) (a0 : Array Value) (hw : ∀ d ∈ tables_1, d.before a0 Z = true) (ws : List Jvm.Cond) (oa : Addr) (pn : Int32) (ol : Addr) (o0 : Addr) (o1 : Addr) (o2 : Addr) (gx : Nat → Int64) (gy : Nat → Int64) (gz : Nat → Int64) (wx : Nat) (wy : Nat) (wz : Nat) (nn : Nat) (h0 : Heap) (n0 : Nat) (Z0 : n0 ≤ h0.size) (F_oa_levels : Fld Z h0 oa "com/example/xml_graph_join/xmlgraphjoin/topo/BitLevels" "levels" "[[J" (.ref ol)) (A_ol : Ar Z h0 ol (.array .long) 3 (up (up (up (fun _ => .null) 0 (.ref o0)) 1 (.ref o1)) 2 (.ref o2))) (A_o0 : AJ Z h0 o0 wx gx) (A_o1 : AJ Z h0 o1 wy gy) (A_o2 : AJ Z h0 o2 wz gz) (hj : pn.toInt = (nn : Int)) (hw0 : nn / 64 < wx) :
    MetFree l (⟨"com/example/xml_graph_join/xmlgraphjoin/topo/BitLevels", "contains", "(I)Z"⟩ : MethodName) (head1 (Jvm.Cond.code (⟨"com/example/xml_graph_join/xmlgraphjoin/topo/BitLevels", "contains", "(I)Z"⟩ : MethodName) prog_96_method_3_code 2 (some .boolean) :: ws) ({ frames := 0, cells := 0, slots := 0, locals := 0 } : Room)) (fun a U => a = #[(.ref oa), (.int pn)] ∧ Z.Warmed39 U.vm ∧ U.heap = h0) (fun _ _ _ _ _ => True) (fun _ U o U' => ∃ v L, o = .returned v ∧ Q8d3 Z oa pn ol o0 o1 o2 gx gy gz wx wy wz nn h0 n0 v U'.heap L ∧ FrameEnd U o U' L ({ frames := 0, cells := 0, slots := 0, locals := 0 } : Room).cells ({ frames := 0, cells := 0, slots := 0, locals := 0 } : Room).slots) := by
  refine MetFree.of_bodySF (plainFor_of_name pn_0) hisR ?_
  intro p e s m args below meth c s₁ Bd hml0 hP hK
  obtain ⟨rfl, hZ, hh⟩ := hP
  have hx := Bd.exec
  have hby := Bd.bytes
  have hml : c.maxLocals = 2 := hml0
  have hown : s.vm.findClass "com/example/xml_graph_join/xmlgraphjoin/topo/BitLevels" = some m.cls := findClass_of_methodNamed Bd.named
  have hnm := (name_of_methodNamed Bd.named Bd.method).1
  have X0 : Stand p l e ({ frames := 0, cells := 0, slots := 0, locals := 0 } : Room) s m #[(.ref oa), (.int pn)] below meth c s₁ [] 0 0 := Stand.of_body Bd
  have e0 : s₁.heap = h0 := by rw [← hh, Bd.state]; rfl
  have N0 := Fr.nil n0
  refine Goes.by (fun _ k => castTop (ef8d3 m oa pn) k) ?_
  show Goes p.tables e below (s₁.setTop (mkF m 0 #[.val (.ref oa),.val (.int pn)] [])) _
  refine Goes.by (fun _ k => XS.aloadN X0.here hx rfl (hb hby d8_0) rfl rfl k) ?_
  show Goes p.tables e below (s₁.setTop (mkF m 1 #[.val (.ref oa),.val (.int pn)] [(.ref oa)])) _
  obtain ⟨T1, X1, e1, st1⟩ := getF X0 hx hZ hown (host := "") (Or.inl (hw _ (List.mem_of_getElem? (i := 12) rfl))) Via.refl e0 F_oa_levels (g := (mkF m 1 #[.val (.ref oa),.val (.int pn)] [(.ref oa)])) rfl rfl (hb hby d8_1)
  refine Goes.by st1 ?_
  show Goes p.tables e below (T1.setTop (mkF m 4 #[.val (.ref oa),.val (.int pn)] [(.ref ol)])) _
  refine Goes.by (fun _ k => XS.iconst X1.here hx rfl (hb hby d8_4) k) ?_
  show Goes p.tables e below (T1.setTop (mkF m 5 #[.val (.ref oa),.val (.int pn)] [(.int (0:Int32)), (.ref ol)])) _
  refine Goes.by (fun _ k => ldR (v := (.ref o0)) (fr := (mkF m 5 #[.val (.ref oa),.val (.int pn)] [(.int (0:Int32)), (.ref ol)])) X1 hx hZ e1 A_ol rfl (i := 0) (by decide) (by decide) rfl rfl rfl (hb hby d8_5) k) ?_
  show Goes p.tables e below (T1.setTop (mkF m 6 #[.val (.ref oa),.val (.int pn)] [(.ref o0)])) _
  refine Goes.by (fun _ k => XS.iloadN X1.here hx rfl (hb hby d8_6) rfl k) ?_
  show Goes p.tables e below (T1.setTop (mkF m 7 #[.val (.ref oa),.val (.int pn)] [(.int pn), (.ref o0)])) _
  refine Goes.by (fun _ k => XS.bipush X1.here hx rfl (hb hby d8_7) k) ?_
  show Goes p.tables e below (T1.setTop (mkF m 9 #[.val (.ref oa),.val (.int pn)] [(.int (6:Int32)), (.int pn), (.ref o0)])) _
  refine Goes.by (fun _ k => XS.iushr X1.here hx rfl (hb hby d8_9) rfl k) ?_
  show Goes p.tables e below (T1.setTop (mkF m 10 #[.val (.ref oa),.val (.int pn)] [(.int ((pn.toUInt32>>>((6:Int32)&&&31).toUInt32).toInt32)), (.ref o0)])) _
  refine Goes.by (fun _ k => ldJ (v := (gx (nn / 64))) (fr := (mkF m 10 #[.val (.ref oa),.val (.int pn)] [(.int ((pn.toUInt32>>>((6:Int32)&&&31).toUInt32).toInt32)), (.ref o0)])) X1 hx hZ e1 A_o0 (i := (nn / 64)) (own_sh6 _ _ hj) hw0 rfl rfl rfl (hb hby d8_10) k) ?_
  show Goes p.tables e below (T1.setTop (mkF m 11 #[.val (.ref oa),.val (.int pn)] [(.long (gx (nn / 64)))])) _
  refine Goes.by (fun _ k => XS.iloadN X1.here hx rfl (hb hby d8_11) rfl k) ?_
  show Goes p.tables e below (T1.setTop (mkF m 12 #[.val (.ref oa),.val (.int pn)] [(.int pn), (.long (gx (nn / 64)))])) _
  refine Goes.by (fun _ k => XS.lushr X1.here hx rfl (hb hby d8_12) rfl k) ?_
  show Goes p.tables e below (T1.setTop (mkF m 13 #[.val (.ref oa),.val (.int pn)] [(.long (((gx (nn / 64)).toUInt64>>>(pn&&&0x3f).toInt64.toUInt64).toInt64))])) _
  refine Goes.by (fun _ k => XS.lconst X1.here hx rfl (hb hby d8_13) k) ?_
  show Goes p.tables e below (T1.setTop (mkF m 14 #[.val (.ref oa),.val (.int pn)] [(.long (1:Int64)), (.long (((gx (nn / 64)).toUInt64>>>(pn&&&0x3f).toInt64.toUInt64).toInt64))])) _
  refine Goes.by (fun _ k => XS.land X1.here hx rfl (hb hby d8_14) rfl k) ?_
  show Goes p.tables e below (T1.setTop (mkF m 15 #[.val (.ref oa),.val (.int pn)] [(.long ((((gx (nn / 64)).toUInt64>>>(pn&&&0x3f).toInt64.toUInt64).toInt64)&&&(1:Int64)))])) _
  refine Goes.by (fun _ k => XS.lconst X1.here hx rfl (hb hby d8_15) k) ?_
  show Goes p.tables e below (T1.setTop (mkF m 16 #[.val (.ref oa),.val (.int pn)] [(.long (0:Int64)), (.long ((((gx (nn / 64)).toUInt64>>>(pn&&&0x3f).toInt64.toUInt64).toInt64)&&&(1:Int64)))])) _
  refine Goes.by (fun _ k => XS.lcmp X1.here hx rfl (hb hby d8_16) rfl k) ?_
  show Goes p.tables e below (T1.setTop (mkF m 17 #[.val (.ref oa),.val (.int pn)] [(.int (lcmpW ((((gx (nn / 64)).toUInt64>>>(pn&&&0x3f).toInt64.toUInt64).toInt64)&&&(1:Int64)) (0:Int64)))])) _
  by_cases hc2 : ((((gx (nn / 64)).toUInt64>>>(pn&&&0x3f).toInt64.toUInt64).toInt64)&&&(1:Int64)) = (0:Int64)
  · refine Goes.by (fun _ k => XS.ifYes X1.here hx rfl (pc0 := 17) (pc' := 24) rfl (hb hby d8_17) rfl (je_t hc2).1 (by decide) (by decide) k) ?_
    show Goes p.tables e below (T1.setTop (mkF m 24 #[.val (.ref oa),.val (.int pn)] [])) _
    refine Goes.by (fun _ k => XS.iconst X1.here hx rfl (hb hby d8_24) k) ?_
    show Goes p.tables e below (T1.setTop (mkF m 25 #[.val (.ref oa),.val (.int pn)] [(.int (0:Int32))])) _
    obtain ⟨fs, hr, hrun, hended, hW, hsame⟩ := X1.leave (v := some (.int (0:Int32))) (fun h => by rw [Bd.returns] at h; cases h)
    refine ⟨_, _, retN X1 hx (t := .boolean) Bd.returns (by simp) (hb hby d8_25) hr, hrun, hended, _, _, rfl, ?_, ⟨_, rfl⟩, hW, hsame.mono (by decide) (by decide)⟩
    show Q8d3 Z oa pn ol o0 o1 o2 gx gy gz wx wy wz nn h0 n0 _ T1.heap _
    rw [e1]
    exact ⟨(by rw [fn8d3, if_pos hc2]), N0, rfl⟩
  · refine Goes.by (fun _ k => XS.ifNo X1.here hx rfl (hb hby d8_17) rfl (je_f hc2).1 k) ?_
    show Goes p.tables e below (T1.setTop (mkF m 20 #[.val (.ref oa),.val (.int pn)] [])) _
    refine Goes.by (fun _ k => XS.iconst X1.here hx rfl (hb hby d8_20) k) ?_
    show Goes p.tables e below (T1.setTop (mkF m 21 #[.val (.ref oa),.val (.int pn)] [(.int (1:Int32))])) _
    refine Goes.by (fun _ k => XS.goto X1.here hx rfl (pc0 := 21) (pc' := 25) rfl (hb hby d8_21) (by decide) (by decide) k) ?_
    show Goes p.tables e below (T1.setTop (mkF m 25 #[.val (.ref oa),.val (.int pn)] [(.int (1:Int32))])) _
    obtain ⟨fs, hr, hrun, hended, hW, hsame⟩ := X1.leave (v := some (.int (1:Int32))) (fun h => by rw [Bd.returns] at h; cases h)
    refine ⟨_, _, retN X1 hx (t := .boolean) Bd.returns (by simp) (hb hby d8_25) hr, hrun, hended, _, _, rfl, ?_, ⟨_, rfl⟩, hW, hsame.mono (by decide) (by decide)⟩
    show Q8d3 Z oa pn ol o0 o1 o2 gx gy gz wx wy wz nn h0 n0 _ T1.heap _
    rw [e1]
    exact ⟨(by rw [fn8d3, if_neg hc2]), N0, rfl⟩
def own_lev (g : Nat → Int64) (pl ph : Int32) (nl nh : Nat) (rest : Int32) : Int32 := if ph < pl then (0:Int32) else (if ((pl.toUInt32>>>((6:Int32)&&&31).toUInt32).toInt32) = ((ph.toUInt32>>>((6:Int32)&&&31).toUInt32).toInt32) then (if (((g (nl / 64))&&&(fromB pl))&&&(upB ph)) = (0:Int64) then (0:Int32) else (1:Int32)) else (if ((g (nl / 64))&&&(fromB pl)) = (0:Int64) then (if ((g (nh / 64))&&&(upB ph)) = (0:Int64) then rest else (1:Int32)) else (1:Int32)))
theorem own_lev01 (g : Nat → Int64) (pl ph : Int32) (nl nh : Nat) (rest : Int32) (hr : rest = 0 ∨ rest = 1) : own_lev g pl ph nl nh rest = 0 ∨ own_lev g pl ph nl nh rest = 1 := by
  unfold own_lev
  repeat' split
  all_goals first | exact hr | exact Or.inl rfl | exact Or.inr rfl
theorem own_lev_iff {w : Nat} {g : Nat → Int64} {S : Nat → Prop} (h : Rep w g S) (pl ph : Int32) (nl nh : Nat) (rest : Int32) (hl : pl.toInt = (nl : Int)) (hh : ph.toInt = (nh : Int)) (hwl : nl / 64 < w) (hwh : nh / 64 < w) (hr : nl / 64 < nh / 64 → (rest = 1 ↔ Has2 (Up S) (nl / 64 + 1) (nh / 64 - 1))) : own_lev g pl ph nl nh rest = 1 ↔ Has2 S nl nh := by
  have z : ¬ (0:Int32) = 1 := by decide
  have q1 := own_sh6 pl nl hl
  have q2 := own_sh6 ph nh hh
  unfold own_lev
  by_cases c1 : ph < pl
  · rw [if_pos c1]
    rw [Int32.lt_iff_toInt_lt, hl, hh] at c1
    exact ⟨fun q => absurd q z, fun ⟨x, h1, h2, _⟩ => absurd (Nat.le_trans h1 h2) (by omega)⟩
  rw [if_neg c1]
  rw [Int32.lt_iff_toInt_lt, hl, hh] at c1
  by_cases c2 : ((pl.toUInt32>>>((6:Int32)&&&31).toUInt32).toInt32) = ((ph.toUInt32>>>((6:Int32)&&&31).toUInt32).toInt32)
  · rw [if_pos c2]
    rw [c2, q2] at q1
    have e : nl / 64 = nh / 64 := by omega
    have r := h.same pl ph nl nh hl hh hwl e
    by_cases c3 : (((g (nl / 64))&&&(fromB pl))&&&(upB ph)) = (0:Int64)
    · rw [if_pos c3]; exact ⟨fun q => absurd q z, fun q => absurd c3 (r.mpr q)⟩
    · rw [if_neg c3]; exact ⟨fun _ => r.mp c3, fun _ => rfl⟩
  rw [if_neg c2]
  have lt : nl / 64 < nh / 64 := by
    have : ¬ nl / 64 = nh / 64 := fun e => c2 (Int32.toInt_inj.mp (by rw [q1, q2, e]))
    omega
  rw [Has2.split nl nh lt]
  have r1 := h.lowW pl nl hl hwl
  have r2 := h.highW ph nh hh hwh
  by_cases c3 : ((g (nl / 64))&&&(fromB pl)) = (0:Int64)
  · rw [if_pos c3]
    have n1 : ¬ Has2 S nl (64 * (nl / 64) + 63) := fun q => absurd c3 (r1.mpr q)
    by_cases c4 : ((g (nh / 64))&&&(upB ph)) = (0:Int64)
    · rw [if_pos c4]
      have n2 : ¬ Has2 S (64 * (nh / 64)) nh := fun q => absurd c4 (r2.mpr q)
      rw [hr lt]
      exact ⟨fun q => Or.inr (Or.inr q), fun q => q.elim (fun q => absurd q n1) fun q => q.elim (fun q => absurd q n2) id⟩
    · rw [if_neg c4]; exact ⟨fun _ => Or.inr (Or.inl (r2.mp c4)), fun _ => rfl⟩
  · rw [if_neg c3]; exact ⟨fun _ => Or.inl (r1.mp c3), fun _ => rfl⟩
theorem own_next {lo hi : Int32} {a b w w' : Nat} (hl : lo.toInt = (a : Int)) (hh : hi.toInt = (b : Int)) (lt : a / 64 < b / 64) (hw : b / 64 < w) (hx : w ≤ 64 * w') : (((lo.toUInt32>>>((6:Int32)&&&31).toUInt32).toInt32) + (1:Int32)).toInt = ((a / 64 + 1 : Nat) : Int) ∧ (((hi.toUInt32>>>((6:Int32)&&&31).toUInt32).toInt32) - (1:Int32)).toInt = ((b / 64 - 1 : Nat) : Int) ∧ (a / 64 + 1) / 64 < w' ∧ (b / 64 - 1) / 64 < w' := by
  have q2 := own_sh6 hi b hh
  have b1 := own_w1 lo a hl
  have b2 := c_isub ((hi.toUInt32>>>((6:Int32)&&&31).toUInt32).toInt32) 1
  have e1 : (1:Int32).toInt = 1 := rfl
  have r := rng32 (((hi.toUInt32>>>((6:Int32)&&&31).toUInt32).toInt32) - 1)
  have r' := rng32 hi
  rw [e1] at b2
  refine ⟨b1, ?_, ?_, ?_⟩ <;> omega
/-- what stands in the words: one, two or three levels -/
def R1 (S : Nat → Prop) (wx : Nat) (gx : Nat → Int64) : Prop := Rep wx gx S
def R2 (S : Nat → Prop) (wx wy : Nat) (gx gy : Nat → Int64) : Prop := Rep wx gx S ∧ Rep wy gy (Up S)
def R3 (S : Nat → Prop) (wx wy wz : Nat) (gx gy gz : Nat → Int64) : Prop := Rep wx gx S ∧ Rep wy gy (Up S) ∧ Rep wz gz (Up (Up S))
theorem own_any1 {S : Nat → Prop} {wx : Nat} {gx : Nat → Int64} (h : R1 S wx gx) (k1 : wx ≤ 1) {pl ph : Int32} {nl nh : Nat} (hl : pl.toInt = (nl : Int)) (hh : ph.toInt = (nh : Int)) (hwl : nl / 64 < wx) (hwh : nh / 64 < wx) : fn4d1 pl ph gx wx nl nh = 1 ↔ Has2 S nl nh := by
  show own_lev gx pl ph nl nh 0 = 1 ↔ _
  exact own_lev_iff h pl ph nl nh 0 hl hh hwl hwh (fun q => absurd q (by omega))
theorem own_any1b (pl ph : Int32) (gx : Nat → Int64) (wx nl nh : Nat) : fn4d1 pl ph gx wx nl nh = 0 ∨ fn4d1 pl ph gx wx nl nh = 1 := own_lev01 gx pl ph nl nh 0 (Or.inl rfl)
theorem own_any2 {S : Nat → Prop} {wx wy : Nat} {gx gy : Nat → Int64} (h : R2 S wx wy gx gy) (k1 : wy ≤ 1) (kx : wx ≤ 64 * wy) {pl ph : Int32} {nl nh : Nat} (hl : pl.toInt = (nl : Int)) (hh : ph.toInt = (nh : Int)) (hwl : nl / 64 < wx) (hwh : nh / 64 < wx) : fn4d2 pl ph gx gy wx wy nl nh = 1 ↔ Has2 S nl nh := by
  show own_lev gx pl ph nl nh (own_lev gy _ _ (nl / 64 + 1) (nh / 64 - 1) 0) = 1 ↔ _
  refine own_lev_iff h.1 pl ph nl nh _ hl hh hwl hwh (fun lt => ?_)
  obtain ⟨a1, a2, a3, a4⟩ := own_next hl hh lt hwh kx
  exact own_lev_iff h.2 _ _ _ _ 0 a1 a2 a3 a4 (fun q => absurd q (by omega))
theorem own_any2b (pl ph : Int32) (gx gy : Nat → Int64) (wx wy nl nh : Nat) : fn4d2 pl ph gx gy wx wy nl nh = 0 ∨ fn4d2 pl ph gx gy wx wy nl nh = 1 := own_lev01 gx pl ph nl nh _ (own_lev01 gy _ _ _ _ 0 (Or.inl rfl))
theorem own_any3 {S : Nat → Prop} {wx wy wz : Nat} {gx gy gz : Nat → Int64} (h : R3 S wx wy wz gx gy gz) (k1 : wz ≤ 1) (kx : wx ≤ 64 * wy) (ky : wy ≤ 64 * wz) {pl ph : Int32} {nl nh : Nat} (hl : pl.toInt = (nl : Int)) (hh : ph.toInt = (nh : Int)) (hwl : nl / 64 < wx) (hwh : nh / 64 < wx) : fn4d3 pl ph gx gy gz wx wy wz nl nh = 1 ↔ Has2 S nl nh := by
  show own_lev gx pl ph nl nh (own_lev gy _ _ (nl / 64 + 1) (nh / 64 - 1) (own_lev gz _ _ ((nl / 64 + 1) / 64 + 1) ((nh / 64 - 1) / 64 - 1) 0)) = 1 ↔ _
  refine own_lev_iff h.1 pl ph nl nh _ hl hh hwl hwh (fun lt => ?_)
  obtain ⟨a1, a2, a3, a4⟩ := own_next hl hh lt hwh kx
  refine own_lev_iff h.2.1 _ _ _ _ _ a1 a2 a3 a4 (fun lt => ?_)
  obtain ⟨b1, b2, b3, b4⟩ := own_next a1 a2 lt a4 ky
  exact own_lev_iff h.2.2 _ _ _ _ 0 b1 b2 b3 b4 (fun q => absurd q (by omega))
theorem own_any3b (pl ph : Int32) (gx gy gz : Nat → Int64) (wx wy wz nl nh : Nat) : fn4d3 pl ph gx gy gz wx wy wz nl nh = 0 ∨ fn4d3 pl ph gx gy gz wx wy wz nl nh = 1 := own_lev01 gx pl ph nl nh _ (own_lev01 gy _ _ _ _ _ (own_lev01 gz _ _ _ _ 0 (Or.inl rfl)))
theorem own_stepY {w1 : Nat} {g1 : Nat → Int64} {S : Nat → Prop} (h1 : Rep w1 g1 (Up S)) (n : Int32) (a : Nat) (ha : n.toInt = ((a / 64 : Nat) : Int)) (hw1 : a / 64 / 64 < w1) : Rep w1 (up g1 (a / 64 / 64) ((g1 (a / 64 / 64)) ||| oneB n)) (Up (Add S a)) :=
  (h1.add n (a / 64) ha hw1).congr fun y => (Up.add S a y).symm
theorem own_stepN {w : Nat} {g : Nat → Int64} {S : Nat → Prop} (h : Rep w g S) (a : Nat) (hw : a / 64 < w) (z : ¬ g (a / 64) = (0:Int64)) (y : Nat) : Up S y ↔ Up (Add S a) y :=
  (Add.old ((h.word hw).mp z) y).trans (Up.add S a y).symm
def own_n0 (_ : Nat) : Prop := False
theorem own_rep0 (w : Nat) {S : Nat → Prop} (h : ∀ x, ¬ S x) : Rep w (fun _ => (0:Int64)) S := fun x _ => ⟨fun q => absurd q (by rw [show bit (0:Int64) (x % 64) = false from BitVec.getLsbD_zero]; decide), fun q => absurd q (h x)⟩
theorem own_up0 {S : Nat → Prop} (h : ∀ x, ¬ S x) (x : Nat) : ¬ Up S x := fun ⟨_, _, q⟩ => h _ q
theorem own_em1 (wx : Nat) : R1 own_n0 wx (fun _ => (0:Int64)) := own_rep0 wx fun _ q => q
theorem own_em2 (wx wy : Nat) : R2 own_n0 wx wy (fun _ => (0:Int64)) (fun _ => (0:Int64)) := ⟨own_rep0 wx fun _ q => q, own_rep0 wy (own_up0 fun _ q => q)⟩
theorem own_em3 (wx wy wz : Nat) : R3 own_n0 wx wy wz (fun _ => (0:Int64)) (fun _ => (0:Int64)) (fun _ => (0:Int64)) := ⟨own_rep0 wx fun _ q => q, own_rep0 wy (own_up0 fun _ q => q), own_rep0 wz (own_up0 (own_up0 fun _ q => q))⟩
theorem own_has1 (a lo hi : Nat) : Has2 (Add own_n0 a) lo hi ↔ lo ≤ a ∧ a ≤ hi := ⟨fun ⟨x, h1, h2, q⟩ => q.elim (fun f => f.elim) fun e => by subst e; exact ⟨h1, h2⟩, fun ⟨h1, h2⟩ => ⟨a, h1, h2, Or.inr rfl⟩⟩
theorem own_has2 (a b lo hi : Nat) : Has2 (Add (Add own_n0 a) b) lo hi ↔ (lo ≤ a ∧ a ≤ hi) ∨ (lo ≤ b ∧ b ≤ hi) := by
  constructor
  · rintro ⟨x, h1, h2, q | q⟩
    · exact Or.inl ((own_has1 a lo hi).mp ⟨x, h1, h2, q⟩)
    · subst q; exact Or.inr ⟨h1, h2⟩
  · rintro (⟨h1, h2⟩ | ⟨h1, h2⟩)
    · exact ⟨a, h1, h2, Or.inl (Or.inr rfl)⟩
    · exact ⟨b, h1, h2, Or.inr rfl⟩
theorem own_mem2 (a b y : Nat) : Add (Add own_n0 a) b y ↔ y = a ∨ y = b := ⟨fun q => q.elim (fun q => q.elim (fun f => f.elim) Or.inl) Or.inr, fun q => q.elim (fun e => Or.inl (Or.inr e)) Or.inr⟩
theorem own_in01 (pl ph pv : Int32) : fn7 pl ph pv = 0 ∨ fn7 pl ph pv = 1 := by
  unfold fn7
  repeat' split
  all_goals first | exact Or.inl rfl | exact Or.inr rfl
theorem own_in {pl ph pv : Int32} {a b v : Nat} (h1 : pl.toInt = (a : Int)) (h2 : ph.toInt = (b : Int)) (h3 : pv.toInt = (v : Int)) : fn7 pl ph pv = 1 ↔ a ≤ v ∧ v ≤ b := by
  have z : ¬ (0:Int32) = 1 := by decide
  unfold fn7
  by_cases c1 : pv < pl
  · rw [if_pos c1]; rw [Int32.lt_iff_toInt_lt, h1, h3] at c1; exact ⟨fun q => absurd q z, fun q => absurd q (by omega)⟩
  rw [if_neg c1]; rw [Int32.lt_iff_toInt_lt, h1, h3] at c1
  by_cases c2 : ph < pv
  · rw [if_pos c2]; rw [Int32.lt_iff_toInt_lt, h2, h3] at c2; exact ⟨fun q => absurd q z, fun q => absurd q (by omega)⟩
  rw [if_neg c2]; rw [Int32.lt_iff_toInt_lt, h2, h3] at c2
  exact ⟨fun _ => by omega, fun _ => rfl⟩
theorem own_eq01 {u v : Int32} (hu : u = 0 ∨ u = 1) (hv : v = 0 ∨ v = 1) (h : u = 1 ↔ v = 1) : u = v := by
  rcases hu with rfl | rfl
  · rcases hv with rfl | rfl
    · rfl
    · exact h.mpr rfl
  · exact (h.mp rfl).symm
theorem own_has {g : Nat → Int64} {w : Nat} {S : Nat → Prop} (h : Rep w g S) {n : Int32} {a : Nat} (ha : n.toInt = (a : Int)) (hw : a / 64 < w) : ((((g (a / 64)).toUInt64>>>(n&&&0x3f).toInt64.toUInt64).toInt64)&&&(1:Int64)) = (0:Int64) ↔ ¬ S a := by
  rw [← h a hw]
  have e : bit ((((g (a / 64)).toUInt64>>>(n&&&0x3f).toInt64.toUInt64).toInt64)) 0 = bit (g (a / 64)) (a % 64) := by
    rw [sh_at n a ha]
    unfold bit
    show ((g (a / 64)).toUInt64>>>(Int64.ofNat (a % 64)).toUInt64).toBitVec.getLsbD 0 = _
    rw [UInt64.toBitVec_shiftRight]
    have : ((Int64.ofNat (a % 64)).toUInt64.toBitVec % 64 : BitVec 64).toNat = a % 64 := by
      rw [BitVec.toNat_umod]
      show (BitVec.ofNat 64 (a % 64)).toNat % 64 = _
      rw [BitVec.toNat_ofNat]; omega
    rw [BitVec.ushiftRight_eq', BitVec.getLsbD_ushiftRight, this]; rfl
  have o : ∀ k, k < 64 → bit (1:Int64) k = decide (k = 0) := by decide
  constructor
  · intro q r
    have : ¬ ((((g (a / 64)).toUInt64>>>(n&&&0x3f).toInt64.toUInt64).toInt64)&&&(1:Int64)) = (0:Int64) := (bit_ne _).mpr ⟨0, by omega, by rw [bit_and, e, r]; rfl⟩
    exact this q
  · intro q
    apply Classical.byContradiction
    intro r
    obtain ⟨k, hk, hb⟩ := (bit_ne _).mp r
    rw [bit_and, o k hk, Bool.and_eq_true, decide_eq_true_eq] at hb
    obtain ⟨hb, rfl⟩ := hb
    rw [e] at hb
    exact q hb

theorem own_add1 {S : Nat → Prop} {wx : Nat} {gx : Nat → Int64} (h : R1 S wx gx) {pn : Int32} {nn : Nat} (hj : pn.toInt = (nn : Int)) (hw0 : nn / 64 < wx) : R1 (Add S nn) wx (up gx (nn / 64) (((gx (nn / 64))) ||| (oneB pn))) := by
  exact Rep.add h pn nn hj hw0
theorem own_add2 {S : Nat → Prop} {wx wy : Nat} {gx gy : Nat → Int64} (h : R2 S wx wy gx gy) {pn : Int32} {nn : Nat} (hj : pn.toInt = (nn : Int)) (hw0 : nn / 64 < wx) (hw1 : nn / 64 / 64 < wy) : R2 (Add S nn) wx wy (up gx (nn / 64) (((gx (nn / 64))) ||| (oneB pn))) (if (gx (nn / 64)) = (0:Int64) then (up gy (nn / 64 / 64) (((gy (nn / 64 / 64))) ||| (oneB ((pn.toUInt32>>>((6:Int32)&&&31).toUInt32).toInt32)))) else gy) := by
  refine ⟨h.1.add pn nn hj hw0, ?_⟩
  by_cases c : gx (nn / 64) = (0:Int64)
  · rw [if_pos c]; exact own_stepY h.2 _ nn (own_sh6 _ _ hj) hw1
  · rw [if_neg c]; exact h.2.congr (own_stepN h.1 nn hw0 c)
theorem own_add3 {S : Nat → Prop} {wx wy wz : Nat} {gx gy gz : Nat → Int64} (h : R3 S wx wy wz gx gy gz) {pn : Int32} {nn : Nat} (hj : pn.toInt = (nn : Int)) (hw0 : nn / 64 < wx) (hw1 : nn / 64 / 64 < wy) (hw2 : nn / 64 / 64 / 64 < wz) : R3 (Add S nn) wx wy wz (up gx (nn / 64) (((gx (nn / 64))) ||| (oneB pn))) (if (gx (nn / 64)) = (0:Int64) then (up gy (nn / 64 / 64) (((gy (nn / 64 / 64))) ||| (oneB ((pn.toUInt32>>>((6:Int32)&&&31).toUInt32).toInt32)))) else gy) (if (gx (nn / 64)) = (0:Int64) then (if (gy (nn / 64 / 64)) = (0:Int64) then (up gz (nn / 64 / 64 / 64) (((gz (nn / 64 / 64 / 64))) ||| (oneB ((((pn.toUInt32>>>((6:Int32)&&&31).toUInt32).toInt32).toUInt32>>>((6:Int32)&&&31).toUInt32).toInt32)))) else gz) else gz) := by
  refine ⟨h.1.add pn nn hj hw0, ?_, ?_⟩
  · by_cases c : gx (nn / 64) = (0:Int64)
    · rw [if_pos c]; exact own_stepY h.2.1 _ nn (own_sh6 _ _ hj) hw1
    · rw [if_neg c]; exact h.2.1.congr (own_stepN h.1 nn hw0 c)
  · by_cases c : gx (nn / 64) = (0:Int64)
    · rw [if_pos c]
      by_cases c2 : gy (nn / 64 / 64) = (0:Int64)
      · rw [if_pos c2]; exact (own_stepY h.2.2 _ (nn / 64) (own_sh6 _ _ (own_sh6 _ _ hj)) hw2).congr (Up.congr fun y => (Up.add S nn y).symm)
      · rw [if_neg c2]; exact (h.2.2.congr (own_stepN h.2.1 (nn / 64) hw1 c2)).congr (Up.congr fun y => (Up.add S nn y).symm)
    · rw [if_neg c]; exact h.2.2.congr (Up.congr (own_stepN h.1 nn hw0 c))
theorem own_bound (n x : Int32) (hx : x = ((n&&&(16383:Int32)) + (1:Int32))) : ∃ nb : Nat, x.toInt = (nb : Int) ∧ 1 ≤ nb ∧ nb ≤ 16384 := by
  subst hx
  have a := c_mask n 16383 14 (by decide) (by decide)
  have b := c_iadd (n&&&16383) 1
  have e1 : (1:Int32).toInt = 1 := rfl
  have r := rng32 ((n&&&16383) + 1)
  rw [e1] at b
  refine ⟨((n&&&16383) + 1).toInt.toNat, ?_, ?_, ?_⟩ <;> omega
theorem own_nzb (n x : Int32) (hx : x = ((n&&&(16383:Int32)) + (1:Int32))) : x ≠ 0 := by
  obtain ⟨nb, h1, h2, _⟩ := own_bound n x hx
  intro e
  rw [e] at h1
  have : (0:Int32).toInt = 0 := rfl
  omega
theorem own_rem (nb : Nat) (h1 : 1 ≤ nb) (z x r : Int32) (hx : x.toInt = (nb : Int)) (hr : r = ((z&&&(2147483647:Int32)) % x)) : ∃ k : Nat, r.toInt = (k : Int) ∧ k < nb := by
  subst hr
  have a := c_and z 2147483647 (by decide)
  have b := (c_irem (z&&&2147483647) x nb hx).1 a.1
  have p : (0 : Int) < nb := by omega
  have q := Int.emod_nonneg (z&&&2147483647).toInt (Int.ne_of_gt p)
  have q2 := Int.emod_lt_of_pos (z&&&2147483647).toInt p
  refine ⟨((z&&&2147483647) % x).toInt.toNat, ?_, ?_⟩ <;> omega
theorem own_D (nb : Nat) (h : nb ≤ 16384) : (nb / 64 + 1 ≤ 1) ∨ (1 < nb / 64 + 1 ∧ (nb / 64 + 1) / 64 + 1 ≤ 1) ∨ (1 < nb / 64 + 1 ∧ 1 < (nb / 64 + 1) / 64 + 1 ∧ nb ≤ 16384) := by omega
theorem own_b0 {k nb : Nat} (h : k < nb) : k / 64 < (nb / 64 + 1) := by omega
theorem own_b1 {k nb : Nat} (h : k < nb) : k / 64 / 64 < ((nb / 64 + 1) / 64 + 1) := by omega
theorem own_b2 {k nb : Nat} (h : k < nb) : k / 64 / 64 / 64 < (((nb / 64 + 1) / 64 + 1) / 64 + 1) := by omega
theorem own_x (w : Nat) : w ≤ 64 * (w / 64 + 1) := by omega
theorem own_con {g : Nat → Int64} {w na nb' ny : Nat} (h : Rep w g (Add (Add own_n0 na) nb')) {pa pb py : Int32} (ha : pa.toInt = (na : Int)) (hb' : pb.toInt = (nb' : Int)) (hy : py.toInt = (ny : Int)) (hw : ny / 64 < w) : (if ((((g (ny / 64)).toUInt64>>>(py&&&0x3f).toInt64.toUInt64).toInt64)&&&(1:Int64)) = (0:Int64) then (0:Int32) else (1:Int32)) = (if py = pa then (1:Int32) else (if py = pb then (1:Int32) else (0:Int32))) := by
  have q := own_has h hy hw
  rw [own_mem2] at q
  have e1 : py = pa ↔ ny = na := by rw [← Int32.toInt_inj, ha, hy]; omega
  have e2 : py = pb ↔ ny = nb' := by rw [← Int32.toInt_inj, hb', hy]; omega
  by_cases c1 : py = pa
  · rw [if_pos c1, if_neg (fun z => q.mp z (Or.inl (e1.mp c1)))]
  · rw [if_neg c1]
    by_cases c2 : py = pb
    · rw [if_pos c2, if_neg (fun z => q.mp z (Or.inr (e2.mp c2)))]
    · rw [if_neg c2, if_pos (q.mpr fun z => z.elim (fun z => c1 (e1.mpr z)) fun z => c2 (e2.mpr z))]
theorem own_fin {u p q : Int32} (hu : u = 0 ∨ u = 1) (hp : p = 0 ∨ p = 1) (hq : q = 0 ∨ q = 1) (h : u = 1 ↔ p = 1 ∨ q = 1) : (¬ p = 0 → u = 1) ∧ (p = 0 → ¬ q = 0 → u = 1) ∧ (p = 0 → q = 0 → u = 0) := by
  have z : ¬ (0:Int32) = 1 := by decide
  refine ⟨fun a => h.mpr (Or.inl (hp.resolve_left a)), fun _ b => h.mpr (Or.inr (hq.resolve_left b)), fun a b => hu.resolve_right fun c => ?_⟩
  rcases h.mp c with e | e
  · rw [a] at e; exact z e
  · rw [b] at e; exact z e
theorem pd_1 : parseMethodDescriptor "(I)V" = some ⟨[.int], none⟩ := by decide +kernel
theorem pd_2 : parseMethodDescriptor "(II)Z" = some ⟨[.int, .int], some .boolean⟩ := by decide +kernel
theorem pd_3 : parseMethodDescriptor "(III)Z" = some ⟨[.int, .int, .int], some .boolean⟩ := by decide +kernel
theorem pd_4 : parseMethodDescriptor "(I)Z" = some ⟨[.int], some .boolean⟩ := by decide +kernel
theorem ef0 (m : MethodId) (pn : Int32) (pp : Int32) (pq : Int32) (px : Int32) (pl : Int32) (ph : Int32) : entryFrame m #[(.int pn), (.int pp), (.int pq), (.int px), (.int pl), (.int ph)] maxLocals = mkF m 0 #[.val (.int pn),.val (.int pp),.val (.int pq),.val (.int px),.val (.int pl),.val (.int ph),.unset,.unset,.unset,.unset,.unset,.unset,.unset,.unset,.unset,.unset] [] := by first | (simp [entryFrame, mkF, argsToLocals, Value.category, maxLocals]; done) | rfl
def Q0 (Z : State) (pn : Int32) (pp : Int32) (pq : Int32) (px : Int32) (pl : Int32) (ph : Int32) (h0 : Heap) (n0 : Nat) (v : Option Value) (h : Heap) (L : List Loc) : Prop := v = some (.int (1:Int32)) ∧ Fr n0 L
set_option maxRecDepth 65536 in
set_option maxHeartbeats 40000000 in
theorem rm0 (l : Launch) (Z : State) (a0 : Array Value) (hw : ∀ d ∈ tables_1, d.before a0 Z = true) (ws : List Jvm.Cond) (pn : Int32) (pp : Int32) (pq : Int32) (px : Int32) (pl : Int32) (ph : Int32) (h0 : Heap) (n0 : Nat) (Z0 : n0 ≤ h0.size) :
    MetFree l x (head1 (Jvm.Cond.code x code maxLocals ret :: ws) room_1) (fun a U => a = #[(.int pn), (.int pp), (.int pq), (.int px), (.int pl), (.int ph)] ∧ Z.Warmed39 U.vm ∧ U.heap = h0) (fun _ _ _ _ _ => True) (fun _ U o U' => ∃ v L, o = .returned v ∧ Q0 Z pn pp pq px pl ph h0 n0 v U'.heap L ∧ FrameEnd U o U' L room_1.cells room_1.slots) := by
  refine MetFree.of_bodySF (plainFor_of_name pn_1) hisR ?_
  intro p e s m args below meth c s₁ Bd hml0 hP hK
  obtain ⟨rfl, hZ, hh⟩ := hP
  have hx := Bd.exec
  have hby := Bd.bytes
  have hml : c.maxLocals = 16 := hml0
  have hown : s.vm.findClass "com/example/xml_graph_join/xmlgraphjoin/topo/BitLevelsAddPinLaw" = some m.cls := findClass_of_methodNamed Bd.named
  have hnm := (name_of_methodNamed Bd.named Bd.method).1
  have X0 : Stand p l e room_1 s m #[(.int pn), (.int pp), (.int pq), (.int px), (.int pl), (.int ph)] below meth c s₁ [] 0 0 := Stand.of_body Bd
  have e0 : s₁.heap = h0 := by rw [← hh, Bd.state]; rfl
  have N0 := Fr.nil n0
  refine Goes.by (fun _ k => castTop (ef0 m pn pp pq px pl ph) k) ?_
  show Goes p.tables e below (s₁.setTop (mkF m 0 #[.val (.int pn),.val (.int pp),.val (.int pq),.val (.int px),.val (.int pl),.val (.int ph),.unset,.unset,.unset,.unset,.unset,.unset,.unset,.unset,.unset,.unset] [])) _
  refine Goes.by (fun _ k => XS.iloadN X0.here hx rfl (hb hby at_0) rfl k) ?_
  show Goes p.tables e below (s₁.setTop (mkF m 1 #[.val (.int pn),.val (.int pp),.val (.int pq),.val (.int px),.val (.int pl),.val (.int ph),.unset,.unset,.unset,.unset,.unset,.unset,.unset,.unset,.unset,.unset] [(.int pn)])) _
  refine Goes.by (fun _ k => XS.sipush X0.here hx rfl (hb hby at_1) k) ?_
  show Goes p.tables e below (s₁.setTop (mkF m 4 #[.val (.int pn),.val (.int pp),.val (.int pq),.val (.int px),.val (.int pl),.val (.int ph),.unset,.unset,.unset,.unset,.unset,.unset,.unset,.unset,.unset,.unset] [(.int (16383:Int32)), (.int pn)])) _
  refine Goes.by (fun _ k => XS.iand X0.here hx rfl (hb hby at_4) rfl k) ?_
  show Goes p.tables e below (s₁.setTop (mkF m 5 #[.val (.int pn),.val (.int pp),.val (.int pq),.val (.int px),.val (.int pl),.val (.int ph),.unset,.unset,.unset,.unset,.unset,.unset,.unset,.unset,.unset,.unset] [(.int (pn&&&(16383:Int32)))])) _
  refine Goes.by (fun _ k => XS.iconst X0.here hx rfl (hb hby at_5) k) ?_
  show Goes p.tables e below (s₁.setTop (mkF m 6 #[.val (.int pn),.val (.int pp),.val (.int pq),.val (.int px),.val (.int pl),.val (.int ph),.unset,.unset,.unset,.unset,.unset,.unset,.unset,.unset,.unset,.unset] [(.int (1:Int32)), (.int (pn&&&(16383:Int32)))])) _
  refine Goes.by (fun _ k => XS.iadd X0.here hx rfl (hb hby at_6) rfl k) ?_
  show Goes p.tables e below (s₁.setTop (mkF m 7 #[.val (.int pn),.val (.int pp),.val (.int pq),.val (.int px),.val (.int pl),.val (.int ph),.unset,.unset,.unset,.unset,.unset,.unset,.unset,.unset,.unset,.unset] [(.int ((pn&&&(16383:Int32)) + (1:Int32)))])) _
  obtain ⟨x1, hx1⟩ : ∃ z : Int32, z = ((pn&&&(16383:Int32)) + (1:Int32)) := ⟨_, rfl⟩
  refine Goes.by (fun _ k => XS.istore X0.here hx rfl (hb hby at_7) rfl (l' := #[.val (.int pn),.val (.int pp),.val (.int pq),.val (.int px),.val (.int pl),.val (.int ph),.val (.int x1),.unset,.unset,.unset,.unset,.unset,.unset,.unset,.unset,.unset]) (by rw [hx1]; rfl) k) ?_
  show Goes p.tables e below (s₁.setTop (mkF m 9 #[.val (.int pn),.val (.int pp),.val (.int pq),.val (.int px),.val (.int pl),.val (.int ph),.val (.int x1),.unset,.unset,.unset,.unset,.unset,.unset,.unset,.unset,.unset] [])) _
  refine Goes.by (fun _ k => XS.iloadN X0.here hx rfl (hb hby at_9) rfl k) ?_
  show Goes p.tables e below (s₁.setTop (mkF m 10 #[.val (.int pn),.val (.int pp),.val (.int pq),.val (.int px),.val (.int pl),.val (.int ph),.val (.int x1),.unset,.unset,.unset,.unset,.unset,.unset,.unset,.unset,.unset] [(.int pp)])) _
  refine Goes.by (fun _ k => X0.ldcI hx hown (mvT hZ (hw _ (List.mem_of_getElem? (i := 0) rfl))) (g := (mkF m 10 #[.val (.int pn),.val (.int pp),.val (.int pq),.val (.int px),.val (.int pl),.val (.int ph),.val (.int x1),.unset,.unset,.unset,.unset,.unset,.unset,.unset,.unset,.unset] [(.int pp)])) rfl (hb hby at_10) k) ?_
  show Goes p.tables e below (s₁.setTop (mkF m 12 #[.val (.int pn),.val (.int pp),.val (.int pq),.val (.int px),.val (.int pl),.val (.int ph),.val (.int x1),.unset,.unset,.unset,.unset,.unset,.unset,.unset,.unset,.unset] [(.int (2147483647:Int32)), (.int pp)])) _
  refine Goes.by (fun _ k => XS.iand X0.here hx rfl (hb hby at_12) rfl k) ?_
  show Goes p.tables e below (s₁.setTop (mkF m 13 #[.val (.int pn),.val (.int pp),.val (.int pq),.val (.int px),.val (.int pl),.val (.int ph),.val (.int x1),.unset,.unset,.unset,.unset,.unset,.unset,.unset,.unset,.unset] [(.int (pp&&&(2147483647:Int32)))])) _
  refine Goes.by (fun _ k => XS.iload X0.here hx rfl (hb hby at_13) rfl k) ?_
  show Goes p.tables e below (s₁.setTop (mkF m 15 #[.val (.int pn),.val (.int pp),.val (.int pq),.val (.int px),.val (.int pl),.val (.int ph),.val (.int x1),.unset,.unset,.unset,.unset,.unset,.unset,.unset,.unset,.unset] [(.int x1), (.int (pp&&&(2147483647:Int32)))])) _
  refine Goes.by (fun _ k => iremM X0 hx rfl (hb hby at_15) rfl (own_nzb pn _ hx1) k) ?_
  show Goes p.tables e below (s₁.setTop (mkF m 16 #[.val (.int pn),.val (.int pp),.val (.int pq),.val (.int px),.val (.int pl),.val (.int ph),.val (.int x1),.unset,.unset,.unset,.unset,.unset,.unset,.unset,.unset,.unset] [(.int ((pp&&&(2147483647:Int32)) % x1))])) _
  obtain ⟨x2, hx2⟩ : ∃ z : Int32, z = ((pp&&&(2147483647:Int32)) % x1) := ⟨_, rfl⟩
  refine Goes.by (fun _ k => XS.istore X0.here hx rfl (hb hby at_16) rfl (l' := #[.val (.int pn),.val (.int pp),.val (.int pq),.val (.int px),.val (.int pl),.val (.int ph),.val (.int x1),.val (.int x2),.unset,.unset,.unset,.unset,.unset,.unset,.unset,.unset]) (by rw [hx2]; rfl) k) ?_
  show Goes p.tables e below (s₁.setTop (mkF m 18 #[.val (.int pn),.val (.int pp),.val (.int pq),.val (.int px),.val (.int pl),.val (.int ph),.val (.int x1),.val (.int x2),.unset,.unset,.unset,.unset,.unset,.unset,.unset,.unset] [])) _
  refine Goes.by (fun _ k => XS.iloadN X0.here hx rfl (hb hby at_18) rfl k) ?_
  show Goes p.tables e below (s₁.setTop (mkF m 19 #[.val (.int pn),.val (.int pp),.val (.int pq),.val (.int px),.val (.int pl),.val (.int ph),.val (.int x1),.val (.int x2),.unset,.unset,.unset,.unset,.unset,.unset,.unset,.unset] [(.int pq)])) _
  refine Goes.by (fun _ k => X0.ldcI hx hown (mvT hZ (hw _ (List.mem_of_getElem? (i := 0) rfl))) (g := (mkF m 19 #[.val (.int pn),.val (.int pp),.val (.int pq),.val (.int px),.val (.int pl),.val (.int ph),.val (.int x1),.val (.int x2),.unset,.unset,.unset,.unset,.unset,.unset,.unset,.unset] [(.int pq)])) rfl (hb hby at_19) k) ?_
  show Goes p.tables e below (s₁.setTop (mkF m 21 #[.val (.int pn),.val (.int pp),.val (.int pq),.val (.int px),.val (.int pl),.val (.int ph),.val (.int x1),.val (.int x2),.unset,.unset,.unset,.unset,.unset,.unset,.unset,.unset] [(.int (2147483647:Int32)), (.int pq)])) _
  refine Goes.by (fun _ k => XS.iand X0.here hx rfl (hb hby at_21) rfl k) ?_
  show Goes p.tables e below (s₁.setTop (mkF m 22 #[.val (.int pn),.val (.int pp),.val (.int pq),.val (.int px),.val (.int pl),.val (.int ph),.val (.int x1),.val (.int x2),.unset,.unset,.unset,.unset,.unset,.unset,.unset,.unset] [(.int (pq&&&(2147483647:Int32)))])) _
  refine Goes.by (fun _ k => XS.iload X0.here hx rfl (hb hby at_22) rfl k) ?_
  show Goes p.tables e below (s₁.setTop (mkF m 24 #[.val (.int pn),.val (.int pp),.val (.int pq),.val (.int px),.val (.int pl),.val (.int ph),.val (.int x1),.val (.int x2),.unset,.unset,.unset,.unset,.unset,.unset,.unset,.unset] [(.int x1), (.int (pq&&&(2147483647:Int32)))])) _
  refine Goes.by (fun _ k => iremM X0 hx rfl (hb hby at_24) rfl (own_nzb pn _ hx1) k) ?_
  show Goes p.tables e below (s₁.setTop (mkF m 25 #[.val (.int pn),.val (.int pp),.val (.int pq),.val (.int px),.val (.int pl),.val (.int ph),.val (.int x1),.val (.int x2),.unset,.unset,.unset,.unset,.unset,.unset,.unset,.unset] [(.int ((pq&&&(2147483647:Int32)) % x1))])) _
  obtain ⟨x3, hx3⟩ : ∃ z : Int32, z = ((pq&&&(2147483647:Int32)) % x1) := ⟨_, rfl⟩
  refine Goes.by (fun _ k => XS.istore X0.here hx rfl (hb hby at_25) rfl (l' := #[.val (.int pn),.val (.int pp),.val (.int pq),.val (.int px),.val (.int pl),.val (.int ph),.val (.int x1),.val (.int x2),.val (.int x3),.unset,.unset,.unset,.unset,.unset,.unset,.unset]) (by rw [hx3]; rfl) k) ?_
  show Goes p.tables e below (s₁.setTop (mkF m 27 #[.val (.int pn),.val (.int pp),.val (.int pq),.val (.int px),.val (.int pl),.val (.int ph),.val (.int x1),.val (.int x2),.val (.int x3),.unset,.unset,.unset,.unset,.unset,.unset,.unset] [])) _
  refine Goes.by (fun _ k => XS.iloadN X0.here hx rfl (hb hby at_27) rfl k) ?_
  show Goes p.tables e below (s₁.setTop (mkF m 28 #[.val (.int pn),.val (.int pp),.val (.int pq),.val (.int px),.val (.int pl),.val (.int ph),.val (.int x1),.val (.int x2),.val (.int x3),.unset,.unset,.unset,.unset,.unset,.unset,.unset] [(.int px)])) _
  refine Goes.by (fun _ k => X0.ldcI hx hown (mvT hZ (hw _ (List.mem_of_getElem? (i := 0) rfl))) (g := (mkF m 28 #[.val (.int pn),.val (.int pp),.val (.int pq),.val (.int px),.val (.int pl),.val (.int ph),.val (.int x1),.val (.int x2),.val (.int x3),.unset,.unset,.unset,.unset,.unset,.unset,.unset] [(.int px)])) rfl (hb hby at_28) k) ?_
  show Goes p.tables e below (s₁.setTop (mkF m 30 #[.val (.int pn),.val (.int pp),.val (.int pq),.val (.int px),.val (.int pl),.val (.int ph),.val (.int x1),.val (.int x2),.val (.int x3),.unset,.unset,.unset,.unset,.unset,.unset,.unset] [(.int (2147483647:Int32)), (.int px)])) _
  refine Goes.by (fun _ k => XS.iand X0.here hx rfl (hb hby at_30) rfl k) ?_
  show Goes p.tables e below (s₁.setTop (mkF m 31 #[.val (.int pn),.val (.int pp),.val (.int pq),.val (.int px),.val (.int pl),.val (.int ph),.val (.int x1),.val (.int x2),.val (.int x3),.unset,.unset,.unset,.unset,.unset,.unset,.unset] [(.int (px&&&(2147483647:Int32)))])) _
  refine Goes.by (fun _ k => XS.iload X0.here hx rfl (hb hby at_31) rfl k) ?_
  show Goes p.tables e below (s₁.setTop (mkF m 33 #[.val (.int pn),.val (.int pp),.val (.int pq),.val (.int px),.val (.int pl),.val (.int ph),.val (.int x1),.val (.int x2),.val (.int x3),.unset,.unset,.unset,.unset,.unset,.unset,.unset] [(.int x1), (.int (px&&&(2147483647:Int32)))])) _
  refine Goes.by (fun _ k => iremM X0 hx rfl (hb hby at_33) rfl (own_nzb pn _ hx1) k) ?_
  show Goes p.tables e below (s₁.setTop (mkF m 34 #[.val (.int pn),.val (.int pp),.val (.int pq),.val (.int px),.val (.int pl),.val (.int ph),.val (.int x1),.val (.int x2),.val (.int x3),.unset,.unset,.unset,.unset,.unset,.unset,.unset] [(.int ((px&&&(2147483647:Int32)) % x1))])) _
  obtain ⟨x4, hx4⟩ : ∃ z : Int32, z = ((px&&&(2147483647:Int32)) % x1) := ⟨_, rfl⟩
  refine Goes.by (fun _ k => XS.istore X0.here hx rfl (hb hby at_34) rfl (l' := #[.val (.int pn),.val (.int pp),.val (.int pq),.val (.int px),.val (.int pl),.val (.int ph),.val (.int x1),.val (.int x2),.val (.int x3),.val (.int x4),.unset,.unset,.unset,.unset,.unset,.unset]) (by rw [hx4]; rfl) k) ?_
  show Goes p.tables e below (s₁.setTop (mkF m 36 #[.val (.int pn),.val (.int pp),.val (.int pq),.val (.int px),.val (.int pl),.val (.int ph),.val (.int x1),.val (.int x2),.val (.int x3),.val (.int x4),.unset,.unset,.unset,.unset,.unset,.unset] [])) _
  refine Goes.by (fun _ k => XS.iload X0.here hx rfl (hb hby at_36) rfl k) ?_
  show Goes p.tables e below (s₁.setTop (mkF m 38 #[.val (.int pn),.val (.int pp),.val (.int pq),.val (.int px),.val (.int pl),.val (.int ph),.val (.int x1),.val (.int x2),.val (.int x3),.val (.int x4),.unset,.unset,.unset,.unset,.unset,.unset] [(.int pl)])) _
  refine Goes.by (fun _ k => X0.ldcI hx hown (mvT hZ (hw _ (List.mem_of_getElem? (i := 0) rfl))) (g := (mkF m 38 #[.val (.int pn),.val (.int pp),.val (.int pq),.val (.int px),.val (.int pl),.val (.int ph),.val (.int x1),.val (.int x2),.val (.int x3),.val (.int x4),.unset,.unset,.unset,.unset,.unset,.unset] [(.int pl)])) rfl (hb hby at_38) k) ?_
  show Goes p.tables e below (s₁.setTop (mkF m 40 #[.val (.int pn),.val (.int pp),.val (.int pq),.val (.int px),.val (.int pl),.val (.int ph),.val (.int x1),.val (.int x2),.val (.int x3),.val (.int x4),.unset,.unset,.unset,.unset,.unset,.unset] [(.int (2147483647:Int32)), (.int pl)])) _
  refine Goes.by (fun _ k => XS.iand X0.here hx rfl (hb hby at_40) rfl k) ?_
  show Goes p.tables e below (s₁.setTop (mkF m 41 #[.val (.int pn),.val (.int pp),.val (.int pq),.val (.int px),.val (.int pl),.val (.int ph),.val (.int x1),.val (.int x2),.val (.int x3),.val (.int x4),.unset,.unset,.unset,.unset,.unset,.unset] [(.int (pl&&&(2147483647:Int32)))])) _
  refine Goes.by (fun _ k => XS.iload X0.here hx rfl (hb hby at_41) rfl k) ?_
  show Goes p.tables e below (s₁.setTop (mkF m 43 #[.val (.int pn),.val (.int pp),.val (.int pq),.val (.int px),.val (.int pl),.val (.int ph),.val (.int x1),.val (.int x2),.val (.int x3),.val (.int x4),.unset,.unset,.unset,.unset,.unset,.unset] [(.int x1), (.int (pl&&&(2147483647:Int32)))])) _
  refine Goes.by (fun _ k => iremM X0 hx rfl (hb hby at_43) rfl (own_nzb pn _ hx1) k) ?_
  show Goes p.tables e below (s₁.setTop (mkF m 44 #[.val (.int pn),.val (.int pp),.val (.int pq),.val (.int px),.val (.int pl),.val (.int ph),.val (.int x1),.val (.int x2),.val (.int x3),.val (.int x4),.unset,.unset,.unset,.unset,.unset,.unset] [(.int ((pl&&&(2147483647:Int32)) % x1))])) _
  obtain ⟨x5, hx5⟩ : ∃ z : Int32, z = ((pl&&&(2147483647:Int32)) % x1) := ⟨_, rfl⟩
  refine Goes.by (fun _ k => XS.istore X0.here hx rfl (hb hby at_44) rfl (l' := #[.val (.int pn),.val (.int pp),.val (.int pq),.val (.int px),.val (.int pl),.val (.int ph),.val (.int x1),.val (.int x2),.val (.int x3),.val (.int x4),.val (.int x5),.unset,.unset,.unset,.unset,.unset]) (by rw [hx5]; rfl) k) ?_
  show Goes p.tables e below (s₁.setTop (mkF m 46 #[.val (.int pn),.val (.int pp),.val (.int pq),.val (.int px),.val (.int pl),.val (.int ph),.val (.int x1),.val (.int x2),.val (.int x3),.val (.int x4),.val (.int x5),.unset,.unset,.unset,.unset,.unset] [])) _
  refine Goes.by (fun _ k => XS.iload X0.here hx rfl (hb hby at_46) rfl k) ?_
  show Goes p.tables e below (s₁.setTop (mkF m 48 #[.val (.int pn),.val (.int pp),.val (.int pq),.val (.int px),.val (.int pl),.val (.int ph),.val (.int x1),.val (.int x2),.val (.int x3),.val (.int x4),.val (.int x5),.unset,.unset,.unset,.unset,.unset] [(.int ph)])) _
  refine Goes.by (fun _ k => X0.ldcI hx hown (mvT hZ (hw _ (List.mem_of_getElem? (i := 0) rfl))) (g := (mkF m 48 #[.val (.int pn),.val (.int pp),.val (.int pq),.val (.int px),.val (.int pl),.val (.int ph),.val (.int x1),.val (.int x2),.val (.int x3),.val (.int x4),.val (.int x5),.unset,.unset,.unset,.unset,.unset] [(.int ph)])) rfl (hb hby at_48) k) ?_
  show Goes p.tables e below (s₁.setTop (mkF m 50 #[.val (.int pn),.val (.int pp),.val (.int pq),.val (.int px),.val (.int pl),.val (.int ph),.val (.int x1),.val (.int x2),.val (.int x3),.val (.int x4),.val (.int x5),.unset,.unset,.unset,.unset,.unset] [(.int (2147483647:Int32)), (.int ph)])) _
  refine Goes.by (fun _ k => XS.iand X0.here hx rfl (hb hby at_50) rfl k) ?_
  show Goes p.tables e below (s₁.setTop (mkF m 51 #[.val (.int pn),.val (.int pp),.val (.int pq),.val (.int px),.val (.int pl),.val (.int ph),.val (.int x1),.val (.int x2),.val (.int x3),.val (.int x4),.val (.int x5),.unset,.unset,.unset,.unset,.unset] [(.int (ph&&&(2147483647:Int32)))])) _
  refine Goes.by (fun _ k => XS.iload X0.here hx rfl (hb hby at_51) rfl k) ?_
  show Goes p.tables e below (s₁.setTop (mkF m 53 #[.val (.int pn),.val (.int pp),.val (.int pq),.val (.int px),.val (.int pl),.val (.int ph),.val (.int x1),.val (.int x2),.val (.int x3),.val (.int x4),.val (.int x5),.unset,.unset,.unset,.unset,.unset] [(.int x1), (.int (ph&&&(2147483647:Int32)))])) _
  refine Goes.by (fun _ k => iremM X0 hx rfl (hb hby at_53) rfl (own_nzb pn _ hx1) k) ?_
  show Goes p.tables e below (s₁.setTop (mkF m 54 #[.val (.int pn),.val (.int pp),.val (.int pq),.val (.int px),.val (.int pl),.val (.int ph),.val (.int x1),.val (.int x2),.val (.int x3),.val (.int x4),.val (.int x5),.unset,.unset,.unset,.unset,.unset] [(.int ((ph&&&(2147483647:Int32)) % x1))])) _
  obtain ⟨x6, hx6⟩ : ∃ z : Int32, z = ((ph&&&(2147483647:Int32)) % x1) := ⟨_, rfl⟩
  refine Goes.by (fun _ k => XS.istore X0.here hx rfl (hb hby at_54) rfl (l' := #[.val (.int pn),.val (.int pp),.val (.int pq),.val (.int px),.val (.int pl),.val (.int ph),.val (.int x1),.val (.int x2),.val (.int x3),.val (.int x4),.val (.int x5),.val (.int x6),.unset,.unset,.unset,.unset]) (by rw [hx6]; rfl) k) ?_
  show Goes p.tables e below (s₁.setTop (mkF m 56 #[.val (.int pn),.val (.int pp),.val (.int pq),.val (.int px),.val (.int pl),.val (.int ph),.val (.int x1),.val (.int x2),.val (.int x3),.val (.int x4),.val (.int x5),.val (.int x6),.unset,.unset,.unset,.unset] [])) _
  obtain ⟨nb, hnb, nb1, nb2⟩ := own_bound pn x1 hx1
  obtain ⟨na, h_na, l_na⟩ := own_rem nb nb1 _ _ _ hnb hx2
  obtain ⟨nq, h_nq, l_nq⟩ := own_rem nb nb1 _ _ _ hnb hx3
  obtain ⟨ny, h_ny, l_ny⟩ := own_rem nb nb1 _ _ _ hnb hx4
  obtain ⟨nl, h_nl, l_nl⟩ := own_rem nb nb1 _ _ _ hnb hx5
  obtain ⟨nh, h_nh, l_nh⟩ := own_rem nb nb1 _ _ _ hnb hx6
  rcases own_D nb nb2 with hD | hD | hD
  · show Goes p.tables e below (s₁.setTop (mkF m 56 #[.val (.int pn),.val (.int pp),.val (.int pq),.val (.int px),.val (.int pl),.val (.int ph),.val (.int x1),.val (.int x2),.val (.int x3),.val (.int x4),.val (.int x5),.val (.int x6),.unset,.unset,.unset,.unset] [])) _
    obtain ⟨T7, h7, X7, e7, E7, A7, D7, -, st7⟩ := newO X0 hx hZ hown (hw _ (List.mem_of_getElem? (i := 1) rfl)) (hw _ (List.mem_of_getElem? (i := 2) rfl)) (hw _ (List.mem_of_getElem? (i := 3) rfl)) e0 (g := (mkF m 56 #[.val (.int pn),.val (.int pp),.val (.int pq),.val (.int px),.val (.int pl),.val (.int ph),.val (.int x1),.val (.int x2),.val (.int x3),.val (.int x4),.val (.int x5),.val (.int x6),.unset,.unset,.unset,.unset] [])) rfl (hb hby at_56) (by decide) (by decide)
    obtain ⟨b7, g7⟩ : ∃ z, z = h0.size := ⟨_, rfl⟩
    rw [← g7] at A7 D7 st7
    have g_b7 : n0 ≤ b7 := Nat.le_trans Z0 (Nat.le_of_eq g7.symm)
    have sz_b7 : h0.size ≤ b7 := Nat.le_trans (Keep.refl h0 []).1 (Nat.le_of_eq g7.symm)
    have Zs7 : n0 ≤ h7.size := Nat.le_trans Z0 E7.1
    have K7 : Keep h0 h7 [] := (Keep.refl h0 []).ext E7
    refine Goes.by st7 ?_
    have E_b7 : Exa Z h7 b7 "com/example/xml_graph_join/xmlgraphjoin/topo/BitLevels" := A7
    have F_b7_levels : Fld Z h7 b7 "com/example/xml_graph_join/xmlgraphjoin/topo/BitLevels" "levels" "[[J" .null := D7 (Or.inr (hw _ (List.mem_of_getElem? (i := 13) rfl))) (ty := (.array (.array .long))) (by decide)
    show Goes p.tables e below (T7.setTop (mkF m 59 #[.val (.int pn),.val (.int pp),.val (.int pq),.val (.int px),.val (.int pl),.val (.int ph),.val (.int x1),.val (.int x2),.val (.int x3),.val (.int x4),.val (.int x5),.val (.int x6),.unset,.unset,.unset,.unset] [(.ref b7)])) _
    refine Goes.by (fun _ k => XS.dup X7.here hx rfl (hb hby at_59) rfl rfl k) ?_
    show Goes p.tables e below (T7.setTop (mkF m 60 #[.val (.int pn),.val (.int pp),.val (.int pq),.val (.int px),.val (.int pl),.val (.int ph),.val (.int x1),.val (.int x2),.val (.int x3),.val (.int x4),.val (.int x5),.val (.int x6),.unset,.unset,.unset,.unset] [(.ref b7), (.ref b7)])) _
    refine Goes.by (fun _ k => XS.iload X7.here hx rfl (hb hby at_60) rfl k) ?_
    show Goes p.tables e below (T7.setTop (mkF m 62 #[.val (.int pn),.val (.int pp),.val (.int pq),.val (.int px),.val (.int pl),.val (.int ph),.val (.int x1),.val (.int x2),.val (.int x3),.val (.int x4),.val (.int x5),.val (.int x6),.unset,.unset,.unset,.unset] [(.int x1), (.ref b7), (.ref b7)])) _
    obtain ⟨_, _, ⟨T8, L8, k8, n8⟩, -, X8, ⟨Lc8, hQ8, l8, y8, z8⟩, st8⟩ := X7.specialBack hx (y := (⟨"com/example/xml_graph_join/xmlgraphjoin/topo/BitLevels", "<init>", "(I)V"⟩ : MethodName)) rfl hown (mvT hZ (hw _ (List.mem_of_getElem? (i := 4) rfl))) (mvT hZ (hw _ (List.mem_of_getElem? (i := 5) rfl))) (mvT hZ (hw _ (List.mem_of_getElem? (i := 6) rfl))) (by decide) (backOf (W := 1) (rm1d1 l Z a0 hw [] b7 x1 nb h7 n0 Zs7 E_b7 F_b7_levels g_b7 (hnb) (hD)) hZ (hw _ (List.mem_of_getElem? (i := 6) rfl)) (hw _ (List.mem_of_getElem? (i := 3) rfl)) (by decide) (by decide)) (g := (mkF m 62 #[.val (.int pn),.val (.int pp),.val (.int pq),.val (.int px),.val (.int pl),.val (.int ph),.val (.int x1),.val (.int x2),.val (.int x3),.val (.int x4),.val (.int x5),.val (.int x6),.unset,.unset,.unset,.unset] [(.int x1), (.ref b7), (.ref b7)])) rfl (by rw [hml]; rfl) (Steps.refl _) (a := b7) (argsL := [(.int x1)]) (rest := [(.ref b7)]) (lenOf pd_1 rfl) rfl (by show 2 * 0 + (1 + 0) ≤ _; decide) (hb hby at_62) (fun _ _ => ⟨rfl, e7, (by decide : 1 + 2 ≤ _), (by decide : 1 + 2 ≤ _)⟩)
    dsimp only [Pt.U, Pt.locs, Pt.cells, Pt.slots] at X8 l8 y8 z8 st8 hQ8
    rw [l8, y8, z8] at X8
    obtain ⟨ol_8, o0_8, rfl, N8q, Kq8, po8_0, po8_1, po8_2, po8_3, po8_4, po8_5, po8_6⟩ := hQ8
    have N8 := Fr.app N0 N8q
    refine Goes.via st8 ?_
    have Zs8 : n0 ≤ T8.heap.size := Nat.le_trans Zs7 Kq8.1
    have K8 : Keep h0 T8.heap [] := K7.trans Kq8 (allS (Or.inr sz_b7) all0)
    have lt8_b7 := E_b7.lt
    have sz_ol_8 : h0.size ≤ ol_8 := Nat.le_trans K7.1 po8_4
    have g_ol_8 : n0 ≤ ol_8 := Nat.le_trans Zs7 po8_4
    have ne_b7_ol_8 : b7 ≠ ol_8 := Nat.ne_of_lt (Nat.lt_of_lt_of_le lt8_b7 po8_4)
    have sz_o0_8 : h0.size ≤ o0_8 := Nat.le_trans K7.1 po8_5
    have g_o0_8 : n0 ≤ o0_8 := Nat.le_trans Zs7 po8_5
    have ne_b7_o0_8 : b7 ≠ o0_8 := Nat.ne_of_lt (Nat.lt_of_lt_of_le lt8_b7 po8_5)
    have E_b7 : Exa Z T8.heap b7 "com/example/xml_graph_join/xmlgraphjoin/topo/BitLevels" := E_b7.keep Kq8
    have E_b7 : Exa Z T8.heap b7 "com/example/xml_graph_join/xmlgraphjoin/topo/BitLevels" := po8_0
    have F_b7_levels : Fld Z T8.heap b7 "com/example/xml_graph_join/xmlgraphjoin/topo/BitLevels" "levels" "[[J" (.ref ol_8) := po8_1
    have A_ol_8 : Ar Z T8.heap ol_8 (.array .long) 1 (up (fun _ => .null) 0 (.ref o0_8)) := po8_2
    have A_o0_8 : AJ Z T8.heap o0_8 (nb / 64 + 1) (fun _ => (0:Int64)) := po8_3
    have ne_ol_8_o0_8 := po8_6
    have R_0 : R1 own_n0 (nb / 64 + 1) (fun _ => (0:Int64)) := own_em1 (nb / 64 + 1)
    show Goes p.tables e below (T8.setTop (mkF m 65 #[.val (.int pn),.val (.int pp),.val (.int pq),.val (.int px),.val (.int pl),.val (.int ph),.val (.int x1),.val (.int x2),.val (.int x3),.val (.int x4),.val (.int x5),.val (.int x6),.unset,.unset,.unset,.unset] [(.ref b7)])) _
    refine Goes.by (fun _ k => XS.astore X8.here hx rfl (hb hby at_65) rfl rfl (l' := #[.val (.int pn),.val (.int pp),.val (.int pq),.val (.int px),.val (.int pl),.val (.int ph),.val (.int x1),.val (.int x2),.val (.int x3),.val (.int x4),.val (.int x5),.val (.int x6),.val (.ref b7),.unset,.unset,.unset]) rfl k) ?_
    show Goes p.tables e below (T8.setTop (mkF m 67 #[.val (.int pn),.val (.int pp),.val (.int pq),.val (.int px),.val (.int pl),.val (.int ph),.val (.int x1),.val (.int x2),.val (.int x3),.val (.int x4),.val (.int x5),.val (.int x6),.val (.ref b7),.unset,.unset,.unset] [])) _
    refine Goes.by (fun _ k => XS.aload X8.here hx rfl (hb hby at_67) rfl rfl k) ?_
    show Goes p.tables e below (T8.setTop (mkF m 69 #[.val (.int pn),.val (.int pp),.val (.int pq),.val (.int px),.val (.int pl),.val (.int ph),.val (.int x1),.val (.int x2),.val (.int x3),.val (.int x4),.val (.int x5),.val (.int x6),.val (.ref b7),.unset,.unset,.unset] [(.ref b7)])) _
    refine Goes.by (fun _ k => XS.iload X8.here hx rfl (hb hby at_69) rfl k) ?_
    show Goes p.tables e below (T8.setTop (mkF m 71 #[.val (.int pn),.val (.int pp),.val (.int pq),.val (.int px),.val (.int pl),.val (.int ph),.val (.int x1),.val (.int x2),.val (.int x3),.val (.int x4),.val (.int x5),.val (.int x6),.val (.ref b7),.unset,.unset,.unset] [(.int x2), (.ref b7)])) _
    obtain ⟨cq9, kq9, q9a, q9b, q9c⟩ := isOf hZ rfl E_b7
    obtain ⟨_, _, ⟨T9, L9, k9, n9⟩, -, X9, ⟨Lc9, hQ9, l9, y9, z9⟩, st9⟩ := X8.virtualBack hx (y := (⟨"com/example/xml_graph_join/xmlgraphjoin/topo/BitLevels", "add", "(I)V"⟩ : MethodName)) (z := (⟨"com/example/xml_graph_join/xmlgraphjoin/topo/BitLevels", "add", "(I)V"⟩ : MethodName)) hown (mvT hZ (hw _ (List.mem_of_getElem? (i := 16) rfl))) (mvT hZ (hw _ (List.mem_of_getElem? (i := 17) rfl))) (notFace_of_selects (args := #[]) (mvT hZ (hw _ (List.mem_of_getElem? (i := 19) rfl)))) (mvT hZ (hw _ (List.mem_of_getElem? (i := 19) rfl))) (mvT hZ (hw _ (List.mem_of_getElem? (i := 18) rfl))) (by decide) (backOf (W := 0) (rm3d1 l Z a0 hw [] b7 x2 ol_8 o0_8 (fun _ => (0:Int64)) (nb / 64 + 1) na T8.heap n0 Zs8 F_b7_levels A_ol_8 A_o0_8 (h_na) (own_b0 l_na) ne_b7_o0_8 ne_ol_8_o0_8 g_o0_8) hZ (hw _ (List.mem_of_getElem? (i := 20) rfl)) (hw _ (List.mem_of_getElem? (i := 3) rfl)) (by decide) (by decide)) q9a q9c (g := (mkF m 71 #[.val (.int pn),.val (.int pp),.val (.int pq),.val (.int px),.val (.int pl),.val (.int ph),.val (.int x1),.val (.int x2),.val (.int x3),.val (.int x4),.val (.int x5),.val (.int x6),.val (.ref b7),.unset,.unset,.unset] [(.int x2), (.ref b7)])) rfl (by rw [hml]; rfl) (Steps.refl _) (argsL := [(.int x2)]) (rest := []) (lenOf pd_1 rfl) rfl (by show 2 * 0 + _ ≤ _; exact Nat.le_of_eq rfl) (hb hby at_71) (fun _ _ => ⟨rfl, rfl, (by decide : 3 + 0 ≤ _), (by decide : 3 + 0 ≤ _)⟩)
    dsimp only [Pt.U, Pt.locs, Pt.cells, Pt.slots] at X9 l9 y9 z9 st9 hQ9
    rw [l9, y9, z9] at X9
    obtain ⟨rfl, N9q, Kq9, po9_0, po9_1, po9_2⟩ := hQ9
    have N9 := Fr.app N8 N9q
    refine Goes.via st9 ?_
    have Zs9 : n0 ≤ T9.heap.size := Nat.le_trans Zs8 Kq9.1
    have K9 : Keep h0 T9.heap [] := K8.trans Kq9 (allS (Or.inr sz_o0_8) all0)
    have E_b7 : Exa Z T9.heap b7 "com/example/xml_graph_join/xmlgraphjoin/topo/BitLevels" := E_b7.keep Kq9
    have F_b7_levels : Fld Z T9.heap b7 "com/example/xml_graph_join/xmlgraphjoin/topo/BitLevels" "levels" "[[J" (.ref ol_8) := F_b7_levels.keep Kq9 (ninS ne_b7_o0_8 nin0)
    have A_ol_8 : Ar Z T9.heap ol_8 (.array .long) 1 (up (fun _ => .null) 0 (.ref o0_8)) := A_ol_8.keep Kq9 (ninS ne_ol_8_o0_8 nin0)
    have F_b7_levels : Fld Z T9.heap b7 "com/example/xml_graph_join/xmlgraphjoin/topo/BitLevels" "levels" "[[J" (.ref ol_8) := po9_0
    have A_ol_8 : Ar Z T9.heap ol_8 (.array .long) 1 (up (fun _ => .null) 0 (.ref o0_8)) := po9_1
    have A_o0_8 : AJ Z T9.heap o0_8 (nb / 64 + 1) (up (fun _ => (0:Int64)) (na / 64) ((((fun _ => (0:Int64)) (na / 64))) ||| (oneB x2))) := po9_2
    obtain ⟨gx_9, R_9, A_o0_8⟩ : ∃ gx_9 : Nat → Int64, R1 (Add own_n0 na) (nb / 64 + 1) gx_9 ∧ (AJ Z T9.heap o0_8 (nb / 64 + 1) gx_9) := ⟨_, own_add1 R_0 h_na (own_b0 l_na), A_o0_8⟩
    show Goes p.tables e below (T9.setTop (mkF m 74 #[.val (.int pn),.val (.int pp),.val (.int pq),.val (.int px),.val (.int pl),.val (.int ph),.val (.int x1),.val (.int x2),.val (.int x3),.val (.int x4),.val (.int x5),.val (.int x6),.val (.ref b7),.unset,.unset,.unset] [])) _
    refine Goes.by (fun _ k => XS.aload X9.here hx rfl (hb hby at_74) rfl rfl k) ?_
    show Goes p.tables e below (T9.setTop (mkF m 76 #[.val (.int pn),.val (.int pp),.val (.int pq),.val (.int px),.val (.int pl),.val (.int ph),.val (.int x1),.val (.int x2),.val (.int x3),.val (.int x4),.val (.int x5),.val (.int x6),.val (.ref b7),.unset,.unset,.unset] [(.ref b7)])) _
    refine Goes.by (fun _ k => XS.iload X9.here hx rfl (hb hby at_76) rfl k) ?_
    show Goes p.tables e below (T9.setTop (mkF m 78 #[.val (.int pn),.val (.int pp),.val (.int pq),.val (.int px),.val (.int pl),.val (.int ph),.val (.int x1),.val (.int x2),.val (.int x3),.val (.int x4),.val (.int x5),.val (.int x6),.val (.ref b7),.unset,.unset,.unset] [(.int x5), (.ref b7)])) _
    refine Goes.by (fun _ k => XS.iload X9.here hx rfl (hb hby at_78) rfl k) ?_
    show Goes p.tables e below (T9.setTop (mkF m 80 #[.val (.int pn),.val (.int pp),.val (.int pq),.val (.int px),.val (.int pl),.val (.int ph),.val (.int x1),.val (.int x2),.val (.int x3),.val (.int x4),.val (.int x5),.val (.int x6),.val (.ref b7),.unset,.unset,.unset] [(.int x6), (.int x5), (.ref b7)])) _
    obtain ⟨cq10, kq10, q10a, q10b, q10c⟩ := isOf hZ rfl E_b7
    obtain ⟨_, _, ⟨T10, L10, k10, n10⟩, -, X10, ⟨Lc10, hQ10, l10, y10, z10⟩, st10⟩ := X9.virtualBack hx (y := (⟨"com/example/xml_graph_join/xmlgraphjoin/topo/BitLevels", "anyIn", "(II)Z"⟩ : MethodName)) (z := (⟨"com/example/xml_graph_join/xmlgraphjoin/topo/BitLevels", "anyIn", "(II)Z"⟩ : MethodName)) hown (mvT hZ (hw _ (List.mem_of_getElem? (i := 21) rfl))) (mvT hZ (hw _ (List.mem_of_getElem? (i := 22) rfl))) (notFace_of_selects (args := #[]) (mvT hZ (hw _ (List.mem_of_getElem? (i := 24) rfl)))) (mvT hZ (hw _ (List.mem_of_getElem? (i := 24) rfl))) (mvT hZ (hw _ (List.mem_of_getElem? (i := 23) rfl))) (by decide) (backOf (W := 0) (rm4d1 l Z a0 hw [] b7 x5 x6 ol_8 o0_8 gx_9 (nb / 64 + 1) nl nh T9.heap n0 Zs9 F_b7_levels A_ol_8 A_o0_8 (h_nl) (h_nh) (own_b0 l_nl) (own_b0 l_nh)) hZ (hw _ (List.mem_of_getElem? (i := 25) rfl)) (hw _ (List.mem_of_getElem? (i := 3) rfl)) (by decide) (by decide)) q10a q10c (g := (mkF m 80 #[.val (.int pn),.val (.int pp),.val (.int pq),.val (.int px),.val (.int pl),.val (.int ph),.val (.int x1),.val (.int x2),.val (.int x3),.val (.int x4),.val (.int x5),.val (.int x6),.val (.ref b7),.unset,.unset,.unset] [(.int x6), (.int x5), (.ref b7)])) rfl (by rw [hml]; rfl) (Steps.refl _) (argsL := [(.int x5), (.int x6)]) (rest := []) (lenOf pd_2 rfl) rfl (by show 2 * 0 + _ ≤ _; exact Nat.le_of_eq rfl) (hb hby at_80) (fun _ _ => ⟨rfl, rfl, (by decide : 3 + 0 ≤ _), (by decide : 3 + 0 ≤ _)⟩)
    dsimp only [Pt.U, Pt.locs, Pt.cells, Pt.slots] at X10 l10 y10 z10 st10 hQ10
    rw [l10, y10, z10] at X10
    obtain ⟨rfl, N10q, e10⟩ := hQ10
    have N10 := Fr.app N9 N10q
    refine Goes.via st10 ?_
    show Goes p.tables e below (T10.setTop (mkF m 83 #[.val (.int pn),.val (.int pp),.val (.int pq),.val (.int px),.val (.int pl),.val (.int ph),.val (.int x1),.val (.int x2),.val (.int x3),.val (.int x4),.val (.int x5),.val (.int x6),.val (.ref b7),.unset,.unset,.unset] [(.int (fn4d1 x5 x6 gx_9 (nb / 64 + 1) nl nh))])) _
    refine Goes.by (fun _ k => XS.iload X10.here hx rfl (hb hby at_83) rfl k) ?_
    show Goes p.tables e below (T10.setTop (mkF m 85 #[.val (.int pn),.val (.int pp),.val (.int pq),.val (.int px),.val (.int pl),.val (.int ph),.val (.int x1),.val (.int x2),.val (.int x3),.val (.int x4),.val (.int x5),.val (.int x6),.val (.ref b7),.unset,.unset,.unset] [(.int x5), (.int (fn4d1 x5 x6 gx_9 (nb / 64 + 1) nl nh))])) _
    refine Goes.by (fun _ k => XS.iload X10.here hx rfl (hb hby at_85) rfl k) ?_
    show Goes p.tables e below (T10.setTop (mkF m 87 #[.val (.int pn),.val (.int pp),.val (.int pq),.val (.int px),.val (.int pl),.val (.int ph),.val (.int x1),.val (.int x2),.val (.int x3),.val (.int x4),.val (.int x5),.val (.int x6),.val (.ref b7),.unset,.unset,.unset] [(.int x6), (.int x5), (.int (fn4d1 x5 x6 gx_9 (nb / 64 + 1) nl nh))])) _
    refine Goes.by (fun _ k => XS.iload X10.here hx rfl (hb hby at_87) rfl k) ?_
    show Goes p.tables e below (T10.setTop (mkF m 89 #[.val (.int pn),.val (.int pp),.val (.int pq),.val (.int px),.val (.int pl),.val (.int ph),.val (.int x1),.val (.int x2),.val (.int x3),.val (.int x4),.val (.int x5),.val (.int x6),.val (.ref b7),.unset,.unset,.unset] [(.int x2), (.int x6), (.int x5), (.int (fn4d1 x5 x6 gx_9 (nb / 64 + 1) nl nh))])) _
    obtain ⟨_, _, ⟨T11, L11, k11, n11⟩, -, X11, ⟨Lc11, hQ11, l11, y11, z11⟩, st11⟩ := Jvm.LawKit.callS X10 hx (y := (⟨"com/example/xml_graph_join/xmlgraphjoin/topo/BitLevelsAddPinLaw", "in", "(III)Z"⟩ : MethodName)) hown (mvT hZ (hw _ (List.mem_of_getElem? (i := 33) rfl))) (mvT hZ (hw _ (List.mem_of_getElem? (i := 34) rfl))) (mvT hZ (hw _ (List.mem_of_getElem? (i := 35) rfl))) (mvT hZ (hw _ (List.mem_of_getElem? (i := 36) rfl))) (by decide) (backOf (W := 1) (rm7 l Z a0 hw [] x5 x6 x2 T9.heap n0 Zs9) hZ (hw _ (List.mem_of_getElem? (i := 36) rfl)) (hw _ (List.mem_of_getElem? (i := 35) rfl)) (by decide) (by decide)) (g := (mkF m 89 #[.val (.int pn),.val (.int pp),.val (.int pq),.val (.int px),.val (.int pl),.val (.int ph),.val (.int x1),.val (.int x2),.val (.int x3),.val (.int x4),.val (.int x5),.val (.int x6),.val (.ref b7),.unset,.unset,.unset] [(.int x2), (.int x6), (.int x5), (.int (fn4d1 x5 x6 gx_9 (nb / 64 + 1) nl nh))])) rfl (by rw [hml]; rfl) (argsL := [(.int x5), (.int x6), (.int x2)]) (rest := [(.int (fn4d1 x5 x6 gx_9 (nb / 64 + 1) nl nh))]) (lenOf pd_3 rfl) rfl (by show 2 * 0 + (1 + 0) ≤ _; decide) (hb hby at_89) (fun _ _ => ⟨rfl, e10, (by decide : 3 + 0 ≤ _), (by decide : 3 + 0 ≤ _)⟩)
    dsimp only [Pt.U, Pt.locs, Pt.cells, Pt.slots] at X11 l11 y11 z11 st11 hQ11
    rw [l11, y11, z11] at X11
    obtain ⟨rfl, N11q, e11⟩ := hQ11
    have N11 := Fr.app N10 N11q
    refine Goes.by st11 ?_
    show Goes p.tables e below (T11.setTop (mkF m 92 #[.val (.int pn),.val (.int pp),.val (.int pq),.val (.int px),.val (.int pl),.val (.int ph),.val (.int x1),.val (.int x2),.val (.int x3),.val (.int x4),.val (.int x5),.val (.int x6),.val (.ref b7),.unset,.unset,.unset] [(.int (fn7 x5 x6 x2)), (.int (fn4d1 x5 x6 gx_9 (nb / 64 + 1) nl nh))])) _
    refine Goes.by (fun _ k => XS.icmpNo X11.here hx rfl (hb hby at_92) rfl (teq (own_eq01 (own_any1b _ _ _ _ _ _) (own_in01 _ _ _) ((own_any1 R_9 hD  h_nl h_nh (own_b0 l_nl) (own_b0 l_nh)).trans ((own_has1 _ _ _).trans (own_in h_nl h_nh h_na).symm)) : (fn4d1 x5 x6 gx_9 (nb / 64 + 1) nl nh) = (fn7 x5 x6 x2))).2 k) ?_
    show Goes p.tables e below (T11.setTop (mkF m 95 #[.val (.int pn),.val (.int pp),.val (.int pq),.val (.int px),.val (.int pl),.val (.int ph),.val (.int x1),.val (.int x2),.val (.int x3),.val (.int x4),.val (.int x5),.val (.int x6),.val (.ref b7),.unset,.unset,.unset] [])) _
    refine Goes.by (fun _ k => XS.iconst X11.here hx rfl (hb hby at_95) k) ?_
    show Goes p.tables e below (T11.setTop (mkF m 96 #[.val (.int pn),.val (.int pp),.val (.int pq),.val (.int px),.val (.int pl),.val (.int ph),.val (.int x1),.val (.int x2),.val (.int x3),.val (.int x4),.val (.int x5),.val (.int x6),.val (.ref b7),.unset,.unset,.unset] [(.int (1:Int32))])) _
    refine Goes.by (fun _ k => XS.goto X11.here hx rfl (pc0 := 96) (pc' := 100) rfl (hb hby at_96) (by decide) (by decide) k) ?_
    show Goes p.tables e below (T11.setTop (mkF m 100 #[.val (.int pn),.val (.int pp),.val (.int pq),.val (.int px),.val (.int pl),.val (.int ph),.val (.int x1),.val (.int x2),.val (.int x3),.val (.int x4),.val (.int x5),.val (.int x6),.val (.ref b7),.unset,.unset,.unset] [(.int (1:Int32))])) _
    refine Goes.by (fun _ k => XS.istore X11.here hx rfl (hb hby at_100) rfl (l' := #[.val (.int pn),.val (.int pp),.val (.int pq),.val (.int px),.val (.int pl),.val (.int ph),.val (.int x1),.val (.int x2),.val (.int x3),.val (.int x4),.val (.int x5),.val (.int x6),.val (.ref b7),.val (.int (1:Int32)),.unset,.unset]) rfl k) ?_
    show Goes p.tables e below (T11.setTop (mkF m 102 #[.val (.int pn),.val (.int pp),.val (.int pq),.val (.int px),.val (.int pl),.val (.int ph),.val (.int x1),.val (.int x2),.val (.int x3),.val (.int x4),.val (.int x5),.val (.int x6),.val (.ref b7),.val (.int (1:Int32)),.unset,.unset] [])) _
    refine Goes.by (fun _ k => XS.aload X11.here hx rfl (hb hby at_102) rfl rfl k) ?_
    show Goes p.tables e below (T11.setTop (mkF m 104 #[.val (.int pn),.val (.int pp),.val (.int pq),.val (.int px),.val (.int pl),.val (.int ph),.val (.int x1),.val (.int x2),.val (.int x3),.val (.int x4),.val (.int x5),.val (.int x6),.val (.ref b7),.val (.int (1:Int32)),.unset,.unset] [(.ref b7)])) _
    refine Goes.by (fun _ k => XS.iload X11.here hx rfl (hb hby at_104) rfl k) ?_
    show Goes p.tables e below (T11.setTop (mkF m 106 #[.val (.int pn),.val (.int pp),.val (.int pq),.val (.int px),.val (.int pl),.val (.int ph),.val (.int x1),.val (.int x2),.val (.int x3),.val (.int x4),.val (.int x5),.val (.int x6),.val (.ref b7),.val (.int (1:Int32)),.unset,.unset] [(.int x3), (.ref b7)])) _
    obtain ⟨cq12, kq12, q12a, q12b, q12c⟩ := isOf hZ e11 E_b7
    obtain ⟨_, _, ⟨T12, L12, k12, n12⟩, -, X12, ⟨Lc12, hQ12, l12, y12, z12⟩, st12⟩ := X11.virtualBack hx (y := (⟨"com/example/xml_graph_join/xmlgraphjoin/topo/BitLevels", "add", "(I)V"⟩ : MethodName)) (z := (⟨"com/example/xml_graph_join/xmlgraphjoin/topo/BitLevels", "add", "(I)V"⟩ : MethodName)) hown (mvT hZ (hw _ (List.mem_of_getElem? (i := 16) rfl))) (mvT hZ (hw _ (List.mem_of_getElem? (i := 17) rfl))) (notFace_of_selects (args := #[]) (mvT hZ (hw _ (List.mem_of_getElem? (i := 19) rfl)))) (mvT hZ (hw _ (List.mem_of_getElem? (i := 19) rfl))) (mvT hZ (hw _ (List.mem_of_getElem? (i := 18) rfl))) (by decide) (backOf (W := 0) (rm3d1 l Z a0 hw [] b7 x3 ol_8 o0_8 gx_9 (nb / 64 + 1) nq T9.heap n0 Zs9 F_b7_levels A_ol_8 A_o0_8 (h_nq) (own_b0 l_nq) ne_b7_o0_8 ne_ol_8_o0_8 g_o0_8) hZ (hw _ (List.mem_of_getElem? (i := 20) rfl)) (hw _ (List.mem_of_getElem? (i := 3) rfl)) (by decide) (by decide)) q12a q12c (g := (mkF m 106 #[.val (.int pn),.val (.int pp),.val (.int pq),.val (.int px),.val (.int pl),.val (.int ph),.val (.int x1),.val (.int x2),.val (.int x3),.val (.int x4),.val (.int x5),.val (.int x6),.val (.ref b7),.val (.int (1:Int32)),.unset,.unset] [(.int x3), (.ref b7)])) rfl (by rw [hml]; rfl) (Steps.refl _) (argsL := [(.int x3)]) (rest := []) (lenOf pd_1 rfl) rfl (by show 2 * 0 + _ ≤ _; exact Nat.le_of_eq rfl) (hb hby at_106) (fun _ _ => ⟨rfl, e11, (by decide : 3 + 0 ≤ _), (by decide : 3 + 0 ≤ _)⟩)
    dsimp only [Pt.U, Pt.locs, Pt.cells, Pt.slots] at X12 l12 y12 z12 st12 hQ12
    rw [l12, y12, z12] at X12
    obtain ⟨rfl, N12q, Kq12, po12_0, po12_1, po12_2⟩ := hQ12
    have N12 := Fr.app N11 N12q
    refine Goes.via st12 ?_
    have Zs12 : n0 ≤ T12.heap.size := Nat.le_trans Zs9 Kq12.1
    have K12 : Keep h0 T12.heap [] := K9.trans Kq12 (allS (Or.inr sz_o0_8) all0)
    have E_b7 : Exa Z T12.heap b7 "com/example/xml_graph_join/xmlgraphjoin/topo/BitLevels" := E_b7.keep Kq12
    have F_b7_levels : Fld Z T12.heap b7 "com/example/xml_graph_join/xmlgraphjoin/topo/BitLevels" "levels" "[[J" (.ref ol_8) := F_b7_levels.keep Kq12 (ninS ne_b7_o0_8 nin0)
    have A_ol_8 : Ar Z T12.heap ol_8 (.array .long) 1 (up (fun _ => .null) 0 (.ref o0_8)) := A_ol_8.keep Kq12 (ninS ne_ol_8_o0_8 nin0)
    have F_b7_levels : Fld Z T12.heap b7 "com/example/xml_graph_join/xmlgraphjoin/topo/BitLevels" "levels" "[[J" (.ref ol_8) := po12_0
    have A_ol_8 : Ar Z T12.heap ol_8 (.array .long) 1 (up (fun _ => .null) 0 (.ref o0_8)) := po12_1
    have A_o0_8 : AJ Z T12.heap o0_8 (nb / 64 + 1) (up gx_9 (nq / 64) (((gx_9 (nq / 64))) ||| (oneB x3))) := po12_2
    obtain ⟨gx_12, R_12, A_o0_8⟩ : ∃ gx_12 : Nat → Int64, R1 (Add (Add own_n0 na) nq) (nb / 64 + 1) gx_12 ∧ (AJ Z T12.heap o0_8 (nb / 64 + 1) gx_12) := ⟨_, own_add1 R_9 h_nq (own_b0 l_nq), A_o0_8⟩
    show Goes p.tables e below (T12.setTop (mkF m 109 #[.val (.int pn),.val (.int pp),.val (.int pq),.val (.int px),.val (.int pl),.val (.int ph),.val (.int x1),.val (.int x2),.val (.int x3),.val (.int x4),.val (.int x5),.val (.int x6),.val (.ref b7),.val (.int (1:Int32)),.unset,.unset] [])) _
    refine Goes.by (fun _ k => XS.aload X12.here hx rfl (hb hby at_109) rfl rfl k) ?_
    show Goes p.tables e below (T12.setTop (mkF m 111 #[.val (.int pn),.val (.int pp),.val (.int pq),.val (.int px),.val (.int pl),.val (.int ph),.val (.int x1),.val (.int x2),.val (.int x3),.val (.int x4),.val (.int x5),.val (.int x6),.val (.ref b7),.val (.int (1:Int32)),.unset,.unset] [(.ref b7)])) _
    refine Goes.by (fun _ k => XS.iload X12.here hx rfl (hb hby at_111) rfl k) ?_
    show Goes p.tables e below (T12.setTop (mkF m 113 #[.val (.int pn),.val (.int pp),.val (.int pq),.val (.int px),.val (.int pl),.val (.int ph),.val (.int x1),.val (.int x2),.val (.int x3),.val (.int x4),.val (.int x5),.val (.int x6),.val (.ref b7),.val (.int (1:Int32)),.unset,.unset] [(.int x4), (.ref b7)])) _
    obtain ⟨cq13, kq13, q13a, q13b, q13c⟩ := isOf hZ rfl E_b7
    obtain ⟨_, _, ⟨T13, L13, k13, n13⟩, -, X13, ⟨Lc13, hQ13, l13, y13, z13⟩, st13⟩ := X12.virtualBack hx (y := (⟨"com/example/xml_graph_join/xmlgraphjoin/topo/BitLevels", "contains", "(I)Z"⟩ : MethodName)) (z := (⟨"com/example/xml_graph_join/xmlgraphjoin/topo/BitLevels", "contains", "(I)Z"⟩ : MethodName)) hown (mvT hZ (hw _ (List.mem_of_getElem? (i := 37) rfl))) (mvT hZ (hw _ (List.mem_of_getElem? (i := 38) rfl))) (notFace_of_selects (args := #[]) (mvT hZ (hw _ (List.mem_of_getElem? (i := 40) rfl)))) (mvT hZ (hw _ (List.mem_of_getElem? (i := 40) rfl))) (mvT hZ (hw _ (List.mem_of_getElem? (i := 39) rfl))) (by decide) (backOf (W := 0) (rm8d1 l Z a0 hw [] b7 x4 ol_8 o0_8 gx_12 (nb / 64 + 1) ny T12.heap n0 Zs12 F_b7_levels A_ol_8 A_o0_8 (h_ny) (own_b0 l_ny)) hZ (hw _ (List.mem_of_getElem? (i := 41) rfl)) (hw _ (List.mem_of_getElem? (i := 3) rfl)) (by decide) (by decide)) q13a q13c (g := (mkF m 113 #[.val (.int pn),.val (.int pp),.val (.int pq),.val (.int px),.val (.int pl),.val (.int ph),.val (.int x1),.val (.int x2),.val (.int x3),.val (.int x4),.val (.int x5),.val (.int x6),.val (.ref b7),.val (.int (1:Int32)),.unset,.unset] [(.int x4), (.ref b7)])) rfl (by rw [hml]; rfl) (Steps.refl _) (argsL := [(.int x4)]) (rest := []) (lenOf pd_4 rfl) rfl (by show 2 * 0 + _ ≤ _; exact Nat.le_of_eq rfl) (hb hby at_113) (fun _ _ => ⟨rfl, rfl, (by decide : 3 + 0 ≤ _), (by decide : 3 + 0 ≤ _)⟩)
    dsimp only [Pt.U, Pt.locs, Pt.cells, Pt.slots] at X13 l13 y13 z13 st13 hQ13
    rw [l13, y13, z13] at X13
    obtain ⟨rfl, N13q, e13⟩ := hQ13
    have N13 := Fr.app N12 N13q
    refine Goes.via st13 ?_
    show Goes p.tables e below (T13.setTop (mkF m 116 #[.val (.int pn),.val (.int pp),.val (.int pq),.val (.int px),.val (.int pl),.val (.int ph),.val (.int x1),.val (.int x2),.val (.int x3),.val (.int x4),.val (.int x5),.val (.int x6),.val (.ref b7),.val (.int (1:Int32)),.unset,.unset] [(.int (fn8d1 x4 gx_12 (nb / 64 + 1) ny))])) _
    refine Goes.by (fun _ k => XS.iload X13.here hx rfl (hb hby at_116) rfl k) ?_
    show Goes p.tables e below (T13.setTop (mkF m 118 #[.val (.int pn),.val (.int pp),.val (.int pq),.val (.int px),.val (.int pl),.val (.int ph),.val (.int x1),.val (.int x2),.val (.int x3),.val (.int x4),.val (.int x5),.val (.int x6),.val (.ref b7),.val (.int (1:Int32)),.unset,.unset] [(.int x4), (.int (fn8d1 x4 gx_12 (nb / 64 + 1) ny))])) _
    refine Goes.by (fun _ k => XS.iload X13.here hx rfl (hb hby at_118) rfl k) ?_
    show Goes p.tables e below (T13.setTop (mkF m 120 #[.val (.int pn),.val (.int pp),.val (.int pq),.val (.int px),.val (.int pl),.val (.int ph),.val (.int x1),.val (.int x2),.val (.int x3),.val (.int x4),.val (.int x5),.val (.int x6),.val (.ref b7),.val (.int (1:Int32)),.unset,.unset] [(.int x2), (.int x4), (.int (fn8d1 x4 gx_12 (nb / 64 + 1) ny))])) _
    obtain ⟨v14, hv14⟩ : ∃ z : Int32, z = (if x4 = x2 then (1:Int32) else (if x4 = x3 then (1:Int32) else (0:Int32))) := ⟨_, rfl⟩
    refine Goes.by (t' := T13.setTop (mkF m 135 #[.val (.int pn),.val (.int pp),.val (.int pq),.val (.int px),.val (.int pl),.val (.int ph),.val (.int x1),.val (.int x2),.val (.int x3),.val (.int x4),.val (.int x5),.val (.int x6),.val (.ref b7),.val (.int (1:Int32)),.unset,.unset] [(.int v14), (.int (fn8d1 x4 gx_12 (nb / 64 + 1) ny))])) (fun u k => ?_) ?_
    · show Steps p.tables e below (T13.setTop (mkF m 120 #[.val (.int pn),.val (.int pp),.val (.int pq),.val (.int px),.val (.int pl),.val (.int ph),.val (.int x1),.val (.int x2),.val (.int x3),.val (.int x4),.val (.int x5),.val (.int x6),.val (.ref b7),.val (.int (1:Int32)),.unset,.unset] [(.int x2), (.int x4), (.int (fn8d1 x4 gx_12 (nb / 64 + 1) ny))])) _
      by_cases hc15 : x4 = x2
      · refine XS.icmpYes X13.here hx rfl (pc0 := 120) (pc' := 130) rfl (hb hby at_120) rfl (teq hc15).1 (by decide) (by decide) ?_
        show Steps p.tables e below (T13.setTop (mkF m 130 #[.val (.int pn),.val (.int pp),.val (.int pq),.val (.int px),.val (.int pl),.val (.int ph),.val (.int x1),.val (.int x2),.val (.int x3),.val (.int x4),.val (.int x5),.val (.int x6),.val (.ref b7),.val (.int (1:Int32)),.unset,.unset] [(.int (fn8d1 x4 gx_12 (nb / 64 + 1) ny))])) _
        refine XS.iconst X13.here hx rfl (hb hby at_130) ?_
        show Steps p.tables e below (T13.setTop (mkF m 131 #[.val (.int pn),.val (.int pp),.val (.int pq),.val (.int px),.val (.int pl),.val (.int ph),.val (.int x1),.val (.int x2),.val (.int x3),.val (.int x4),.val (.int x5),.val (.int x6),.val (.ref b7),.val (.int (1:Int32)),.unset,.unset] [(.int (1:Int32)), (.int (fn8d1 x4 gx_12 (nb / 64 + 1) ny))])) _
        refine XS.goto X13.here hx rfl (pc0 := 131) (pc' := 135) rfl (hb hby at_131) (by decide) (by decide) ?_
        show Steps p.tables e below (T13.setTop (mkF m 135 #[.val (.int pn),.val (.int pp),.val (.int pq),.val (.int px),.val (.int pl),.val (.int ph),.val (.int x1),.val (.int x2),.val (.int x3),.val (.int x4),.val (.int x5),.val (.int x6),.val (.ref b7),.val (.int (1:Int32)),.unset,.unset] [(.int (1:Int32)), (.int (fn8d1 x4 gx_12 (nb / 64 + 1) ny))])) _
        have qv14 : v14 = (1:Int32) := by rw [hv14, if_pos hc15]
        subst qv14
        exact k
      · refine XS.icmpNo X13.here hx rfl (hb hby at_120) rfl (feq hc15).1 ?_
        show Steps p.tables e below (T13.setTop (mkF m 123 #[.val (.int pn),.val (.int pp),.val (.int pq),.val (.int px),.val (.int pl),.val (.int ph),.val (.int x1),.val (.int x2),.val (.int x3),.val (.int x4),.val (.int x5),.val (.int x6),.val (.ref b7),.val (.int (1:Int32)),.unset,.unset] [(.int (fn8d1 x4 gx_12 (nb / 64 + 1) ny))])) _
        refine XS.iload X13.here hx rfl (hb hby at_123) rfl ?_
        show Steps p.tables e below (T13.setTop (mkF m 125 #[.val (.int pn),.val (.int pp),.val (.int pq),.val (.int px),.val (.int pl),.val (.int ph),.val (.int x1),.val (.int x2),.val (.int x3),.val (.int x4),.val (.int x5),.val (.int x6),.val (.ref b7),.val (.int (1:Int32)),.unset,.unset] [(.int x4), (.int (fn8d1 x4 gx_12 (nb / 64 + 1) ny))])) _
        refine XS.iload X13.here hx rfl (hb hby at_125) rfl ?_
        show Steps p.tables e below (T13.setTop (mkF m 127 #[.val (.int pn),.val (.int pp),.val (.int pq),.val (.int px),.val (.int pl),.val (.int ph),.val (.int x1),.val (.int x2),.val (.int x3),.val (.int x4),.val (.int x5),.val (.int x6),.val (.ref b7),.val (.int (1:Int32)),.unset,.unset] [(.int x3), (.int x4), (.int (fn8d1 x4 gx_12 (nb / 64 + 1) ny))])) _
        by_cases hc16 : x4 = x3
        · refine XS.icmpNo X13.here hx rfl (hb hby at_127) rfl (teq hc16).2 ?_
          show Steps p.tables e below (T13.setTop (mkF m 130 #[.val (.int pn),.val (.int pp),.val (.int pq),.val (.int px),.val (.int pl),.val (.int ph),.val (.int x1),.val (.int x2),.val (.int x3),.val (.int x4),.val (.int x5),.val (.int x6),.val (.ref b7),.val (.int (1:Int32)),.unset,.unset] [(.int (fn8d1 x4 gx_12 (nb / 64 + 1) ny))])) _
          refine XS.iconst X13.here hx rfl (hb hby at_130) ?_
          show Steps p.tables e below (T13.setTop (mkF m 131 #[.val (.int pn),.val (.int pp),.val (.int pq),.val (.int px),.val (.int pl),.val (.int ph),.val (.int x1),.val (.int x2),.val (.int x3),.val (.int x4),.val (.int x5),.val (.int x6),.val (.ref b7),.val (.int (1:Int32)),.unset,.unset] [(.int (1:Int32)), (.int (fn8d1 x4 gx_12 (nb / 64 + 1) ny))])) _
          refine XS.goto X13.here hx rfl (pc0 := 131) (pc' := 135) rfl (hb hby at_131) (by decide) (by decide) ?_
          show Steps p.tables e below (T13.setTop (mkF m 135 #[.val (.int pn),.val (.int pp),.val (.int pq),.val (.int px),.val (.int pl),.val (.int ph),.val (.int x1),.val (.int x2),.val (.int x3),.val (.int x4),.val (.int x5),.val (.int x6),.val (.ref b7),.val (.int (1:Int32)),.unset,.unset] [(.int (1:Int32)), (.int (fn8d1 x4 gx_12 (nb / 64 + 1) ny))])) _
          have qv14 : v14 = (1:Int32) := by rw [hv14, if_neg hc15, if_pos hc16]
          subst qv14
          exact k
        · refine XS.icmpYes X13.here hx rfl (pc0 := 127) (pc' := 134) rfl (hb hby at_127) rfl (feq hc16).2 (by decide) (by decide) ?_
          show Steps p.tables e below (T13.setTop (mkF m 134 #[.val (.int pn),.val (.int pp),.val (.int pq),.val (.int px),.val (.int pl),.val (.int ph),.val (.int x1),.val (.int x2),.val (.int x3),.val (.int x4),.val (.int x5),.val (.int x6),.val (.ref b7),.val (.int (1:Int32)),.unset,.unset] [(.int (fn8d1 x4 gx_12 (nb / 64 + 1) ny))])) _
          refine XS.iconst X13.here hx rfl (hb hby at_134) ?_
          show Steps p.tables e below (T13.setTop (mkF m 135 #[.val (.int pn),.val (.int pp),.val (.int pq),.val (.int px),.val (.int pl),.val (.int ph),.val (.int x1),.val (.int x2),.val (.int x3),.val (.int x4),.val (.int x5),.val (.int x6),.val (.ref b7),.val (.int (1:Int32)),.unset,.unset] [(.int (0:Int32)), (.int (fn8d1 x4 gx_12 (nb / 64 + 1) ny))])) _
          have qv14 : v14 = (0:Int32) := by rw [hv14, if_neg hc15, if_neg hc16]
          subst qv14
          exact k
    show Goes p.tables e below (T13.setTop (mkF m 135 #[.val (.int pn),.val (.int pp),.val (.int pq),.val (.int px),.val (.int pl),.val (.int ph),.val (.int x1),.val (.int x2),.val (.int x3),.val (.int x4),.val (.int x5),.val (.int x6),.val (.ref b7),.val (.int (1:Int32)),.unset,.unset] [(.int v14), (.int (fn8d1 x4 gx_12 (nb / 64 + 1) ny))])) _
    refine Goes.by (fun _ k => XS.icmpNo X13.here hx rfl (hb hby at_135) rfl (teq (by rw [hv14]; exact own_con R_12 h_na h_nq h_ny (own_b0 l_ny) : (fn8d1 x4 gx_12 (nb / 64 + 1) ny) = v14)).2 k) ?_
    show Goes p.tables e below (T13.setTop (mkF m 138 #[.val (.int pn),.val (.int pp),.val (.int pq),.val (.int px),.val (.int pl),.val (.int ph),.val (.int x1),.val (.int x2),.val (.int x3),.val (.int x4),.val (.int x5),.val (.int x6),.val (.ref b7),.val (.int (1:Int32)),.unset,.unset] [])) _
    refine Goes.by (fun _ k => XS.iconst X13.here hx rfl (hb hby at_138) k) ?_
    show Goes p.tables e below (T13.setTop (mkF m 139 #[.val (.int pn),.val (.int pp),.val (.int pq),.val (.int px),.val (.int pl),.val (.int ph),.val (.int x1),.val (.int x2),.val (.int x3),.val (.int x4),.val (.int x5),.val (.int x6),.val (.ref b7),.val (.int (1:Int32)),.unset,.unset] [(.int (1:Int32))])) _
    refine Goes.by (fun _ k => XS.goto X13.here hx rfl (pc0 := 139) (pc' := 143) rfl (hb hby at_139) (by decide) (by decide) k) ?_
    show Goes p.tables e below (T13.setTop (mkF m 143 #[.val (.int pn),.val (.int pp),.val (.int pq),.val (.int px),.val (.int pl),.val (.int ph),.val (.int x1),.val (.int x2),.val (.int x3),.val (.int x4),.val (.int x5),.val (.int x6),.val (.ref b7),.val (.int (1:Int32)),.unset,.unset] [(.int (1:Int32))])) _
    refine Goes.by (fun _ k => XS.istore X13.here hx rfl (hb hby at_143) rfl (l' := #[.val (.int pn),.val (.int pp),.val (.int pq),.val (.int px),.val (.int pl),.val (.int ph),.val (.int x1),.val (.int x2),.val (.int x3),.val (.int x4),.val (.int x5),.val (.int x6),.val (.ref b7),.val (.int (1:Int32)),.val (.int (1:Int32)),.unset]) rfl k) ?_
    show Goes p.tables e below (T13.setTop (mkF m 145 #[.val (.int pn),.val (.int pp),.val (.int pq),.val (.int px),.val (.int pl),.val (.int ph),.val (.int x1),.val (.int x2),.val (.int x3),.val (.int x4),.val (.int x5),.val (.int x6),.val (.ref b7),.val (.int (1:Int32)),.val (.int (1:Int32)),.unset] [])) _
    refine Goes.by (fun _ k => XS.aload X13.here hx rfl (hb hby at_145) rfl rfl k) ?_
    show Goes p.tables e below (T13.setTop (mkF m 147 #[.val (.int pn),.val (.int pp),.val (.int pq),.val (.int px),.val (.int pl),.val (.int ph),.val (.int x1),.val (.int x2),.val (.int x3),.val (.int x4),.val (.int x5),.val (.int x6),.val (.ref b7),.val (.int (1:Int32)),.val (.int (1:Int32)),.unset] [(.ref b7)])) _
    refine Goes.by (fun _ k => XS.iload X13.here hx rfl (hb hby at_147) rfl k) ?_
    show Goes p.tables e below (T13.setTop (mkF m 149 #[.val (.int pn),.val (.int pp),.val (.int pq),.val (.int px),.val (.int pl),.val (.int ph),.val (.int x1),.val (.int x2),.val (.int x3),.val (.int x4),.val (.int x5),.val (.int x6),.val (.ref b7),.val (.int (1:Int32)),.val (.int (1:Int32)),.unset] [(.int x5), (.ref b7)])) _
    refine Goes.by (fun _ k => XS.iload X13.here hx rfl (hb hby at_149) rfl k) ?_
    show Goes p.tables e below (T13.setTop (mkF m 151 #[.val (.int pn),.val (.int pp),.val (.int pq),.val (.int px),.val (.int pl),.val (.int ph),.val (.int x1),.val (.int x2),.val (.int x3),.val (.int x4),.val (.int x5),.val (.int x6),.val (.ref b7),.val (.int (1:Int32)),.val (.int (1:Int32)),.unset] [(.int x6), (.int x5), (.ref b7)])) _
    obtain ⟨cq17, kq17, q17a, q17b, q17c⟩ := isOf hZ e13 E_b7
    obtain ⟨_, _, ⟨T17, L17, k17, n17⟩, -, X17, ⟨Lc17, hQ17, l17, y17, z17⟩, st17⟩ := X13.virtualBack hx (y := (⟨"com/example/xml_graph_join/xmlgraphjoin/topo/BitLevels", "anyIn", "(II)Z"⟩ : MethodName)) (z := (⟨"com/example/xml_graph_join/xmlgraphjoin/topo/BitLevels", "anyIn", "(II)Z"⟩ : MethodName)) hown (mvT hZ (hw _ (List.mem_of_getElem? (i := 21) rfl))) (mvT hZ (hw _ (List.mem_of_getElem? (i := 22) rfl))) (notFace_of_selects (args := #[]) (mvT hZ (hw _ (List.mem_of_getElem? (i := 24) rfl)))) (mvT hZ (hw _ (List.mem_of_getElem? (i := 24) rfl))) (mvT hZ (hw _ (List.mem_of_getElem? (i := 23) rfl))) (by decide) (backOf (W := 0) (rm4d1 l Z a0 hw [] b7 x5 x6 ol_8 o0_8 gx_12 (nb / 64 + 1) nl nh T12.heap n0 Zs12 F_b7_levels A_ol_8 A_o0_8 (h_nl) (h_nh) (own_b0 l_nl) (own_b0 l_nh)) hZ (hw _ (List.mem_of_getElem? (i := 25) rfl)) (hw _ (List.mem_of_getElem? (i := 3) rfl)) (by decide) (by decide)) q17a q17c (g := (mkF m 151 #[.val (.int pn),.val (.int pp),.val (.int pq),.val (.int px),.val (.int pl),.val (.int ph),.val (.int x1),.val (.int x2),.val (.int x3),.val (.int x4),.val (.int x5),.val (.int x6),.val (.ref b7),.val (.int (1:Int32)),.val (.int (1:Int32)),.unset] [(.int x6), (.int x5), (.ref b7)])) rfl (by rw [hml]; rfl) (Steps.refl _) (argsL := [(.int x5), (.int x6)]) (rest := []) (lenOf pd_2 rfl) rfl (by show 2 * 0 + _ ≤ _; exact Nat.le_of_eq rfl) (hb hby at_151) (fun _ _ => ⟨rfl, e13, (by decide : 3 + 0 ≤ _), (by decide : 3 + 0 ≤ _)⟩)
    dsimp only [Pt.U, Pt.locs, Pt.cells, Pt.slots] at X17 l17 y17 z17 st17 hQ17
    rw [l17, y17, z17] at X17
    obtain ⟨rfl, N17q, e17⟩ := hQ17
    have N17 := Fr.app N13 N17q
    refine Goes.via st17 ?_
    show Goes p.tables e below (T17.setTop (mkF m 154 #[.val (.int pn),.val (.int pp),.val (.int pq),.val (.int px),.val (.int pl),.val (.int ph),.val (.int x1),.val (.int x2),.val (.int x3),.val (.int x4),.val (.int x5),.val (.int x6),.val (.ref b7),.val (.int (1:Int32)),.val (.int (1:Int32)),.unset] [(.int (fn4d1 x5 x6 gx_12 (nb / 64 + 1) nl nh))])) _
    refine Goes.by (fun _ k => XS.iload X17.here hx rfl (hb hby at_154) rfl k) ?_
    show Goes p.tables e below (T17.setTop (mkF m 156 #[.val (.int pn),.val (.int pp),.val (.int pq),.val (.int px),.val (.int pl),.val (.int ph),.val (.int x1),.val (.int x2),.val (.int x3),.val (.int x4),.val (.int x5),.val (.int x6),.val (.ref b7),.val (.int (1:Int32)),.val (.int (1:Int32)),.unset] [(.int x5), (.int (fn4d1 x5 x6 gx_12 (nb / 64 + 1) nl nh))])) _
    refine Goes.by (fun _ k => XS.iload X17.here hx rfl (hb hby at_156) rfl k) ?_
    show Goes p.tables e below (T17.setTop (mkF m 158 #[.val (.int pn),.val (.int pp),.val (.int pq),.val (.int px),.val (.int pl),.val (.int ph),.val (.int x1),.val (.int x2),.val (.int x3),.val (.int x4),.val (.int x5),.val (.int x6),.val (.ref b7),.val (.int (1:Int32)),.val (.int (1:Int32)),.unset] [(.int x6), (.int x5), (.int (fn4d1 x5 x6 gx_12 (nb / 64 + 1) nl nh))])) _
    refine Goes.by (fun _ k => XS.iload X17.here hx rfl (hb hby at_158) rfl k) ?_
    show Goes p.tables e below (T17.setTop (mkF m 160 #[.val (.int pn),.val (.int pp),.val (.int pq),.val (.int px),.val (.int pl),.val (.int ph),.val (.int x1),.val (.int x2),.val (.int x3),.val (.int x4),.val (.int x5),.val (.int x6),.val (.ref b7),.val (.int (1:Int32)),.val (.int (1:Int32)),.unset] [(.int x2), (.int x6), (.int x5), (.int (fn4d1 x5 x6 gx_12 (nb / 64 + 1) nl nh))])) _
    obtain ⟨_, _, ⟨T18, L18, k18, n18⟩, -, X18, ⟨Lc18, hQ18, l18, y18, z18⟩, st18⟩ := Jvm.LawKit.callS X17 hx (y := (⟨"com/example/xml_graph_join/xmlgraphjoin/topo/BitLevelsAddPinLaw", "in", "(III)Z"⟩ : MethodName)) hown (mvT hZ (hw _ (List.mem_of_getElem? (i := 33) rfl))) (mvT hZ (hw _ (List.mem_of_getElem? (i := 34) rfl))) (mvT hZ (hw _ (List.mem_of_getElem? (i := 35) rfl))) (mvT hZ (hw _ (List.mem_of_getElem? (i := 36) rfl))) (by decide) (backOf (W := 1) (rm7 l Z a0 hw [] x5 x6 x2 T12.heap n0 Zs12) hZ (hw _ (List.mem_of_getElem? (i := 36) rfl)) (hw _ (List.mem_of_getElem? (i := 35) rfl)) (by decide) (by decide)) (g := (mkF m 160 #[.val (.int pn),.val (.int pp),.val (.int pq),.val (.int px),.val (.int pl),.val (.int ph),.val (.int x1),.val (.int x2),.val (.int x3),.val (.int x4),.val (.int x5),.val (.int x6),.val (.ref b7),.val (.int (1:Int32)),.val (.int (1:Int32)),.unset] [(.int x2), (.int x6), (.int x5), (.int (fn4d1 x5 x6 gx_12 (nb / 64 + 1) nl nh))])) rfl (by rw [hml]; rfl) (argsL := [(.int x5), (.int x6), (.int x2)]) (rest := [(.int (fn4d1 x5 x6 gx_12 (nb / 64 + 1) nl nh))]) (lenOf pd_3 rfl) rfl (by show 2 * 0 + (1 + 0) ≤ _; decide) (hb hby at_160) (fun _ _ => ⟨rfl, e17, (by decide : 3 + 0 ≤ _), (by decide : 3 + 0 ≤ _)⟩)
    dsimp only [Pt.U, Pt.locs, Pt.cells, Pt.slots] at X18 l18 y18 z18 st18 hQ18
    rw [l18, y18, z18] at X18
    obtain ⟨rfl, N18q, e18⟩ := hQ18
    have N18 := Fr.app N17 N18q
    refine Goes.by st18 ?_
    show Goes p.tables e below (T18.setTop (mkF m 163 #[.val (.int pn),.val (.int pp),.val (.int pq),.val (.int px),.val (.int pl),.val (.int ph),.val (.int x1),.val (.int x2),.val (.int x3),.val (.int x4),.val (.int x5),.val (.int x6),.val (.ref b7),.val (.int (1:Int32)),.val (.int (1:Int32)),.unset] [(.int (fn7 x5 x6 x2)), (.int (fn4d1 x5 x6 gx_12 (nb / 64 + 1) nl nh))])) _
    by_cases hc19 : (fn7 x5 x6 x2) = (0:Int32)
    · refine Goes.by (fun _ k => XS.ifNo X18.here hx rfl (hb hby at_163) rfl ((if0 _ _).trans (teq hc19).2) k) ?_
      show Goes p.tables e below (T18.setTop (mkF m 166 #[.val (.int pn),.val (.int pp),.val (.int pq),.val (.int px),.val (.int pl),.val (.int ph),.val (.int x1),.val (.int x2),.val (.int x3),.val (.int x4),.val (.int x5),.val (.int x6),.val (.ref b7),.val (.int (1:Int32)),.val (.int (1:Int32)),.unset] [(.int (fn4d1 x5 x6 gx_12 (nb / 64 + 1) nl nh))])) _
      refine Goes.by (fun _ k => XS.iload X18.here hx rfl (hb hby at_166) rfl k) ?_
      show Goes p.tables e below (T18.setTop (mkF m 168 #[.val (.int pn),.val (.int pp),.val (.int pq),.val (.int px),.val (.int pl),.val (.int ph),.val (.int x1),.val (.int x2),.val (.int x3),.val (.int x4),.val (.int x5),.val (.int x6),.val (.ref b7),.val (.int (1:Int32)),.val (.int (1:Int32)),.unset] [(.int x5), (.int (fn4d1 x5 x6 gx_12 (nb / 64 + 1) nl nh))])) _
      refine Goes.by (fun _ k => XS.iload X18.here hx rfl (hb hby at_168) rfl k) ?_
      show Goes p.tables e below (T18.setTop (mkF m 170 #[.val (.int pn),.val (.int pp),.val (.int pq),.val (.int px),.val (.int pl),.val (.int ph),.val (.int x1),.val (.int x2),.val (.int x3),.val (.int x4),.val (.int x5),.val (.int x6),.val (.ref b7),.val (.int (1:Int32)),.val (.int (1:Int32)),.unset] [(.int x6), (.int x5), (.int (fn4d1 x5 x6 gx_12 (nb / 64 + 1) nl nh))])) _
      refine Goes.by (fun _ k => XS.iload X18.here hx rfl (hb hby at_170) rfl k) ?_
      show Goes p.tables e below (T18.setTop (mkF m 172 #[.val (.int pn),.val (.int pp),.val (.int pq),.val (.int px),.val (.int pl),.val (.int ph),.val (.int x1),.val (.int x2),.val (.int x3),.val (.int x4),.val (.int x5),.val (.int x6),.val (.ref b7),.val (.int (1:Int32)),.val (.int (1:Int32)),.unset] [(.int x3), (.int x6), (.int x5), (.int (fn4d1 x5 x6 gx_12 (nb / 64 + 1) nl nh))])) _
      obtain ⟨_, _, ⟨T20, L20, k20, n20⟩, -, X20, ⟨Lc20, hQ20, l20, y20, z20⟩, st20⟩ := Jvm.LawKit.callS X18 hx (y := (⟨"com/example/xml_graph_join/xmlgraphjoin/topo/BitLevelsAddPinLaw", "in", "(III)Z"⟩ : MethodName)) hown (mvT hZ (hw _ (List.mem_of_getElem? (i := 33) rfl))) (mvT hZ (hw _ (List.mem_of_getElem? (i := 34) rfl))) (mvT hZ (hw _ (List.mem_of_getElem? (i := 35) rfl))) (mvT hZ (hw _ (List.mem_of_getElem? (i := 36) rfl))) (by decide) (backOf (W := 1) (rm7 l Z a0 hw [] x5 x6 x3 T12.heap n0 Zs12) hZ (hw _ (List.mem_of_getElem? (i := 36) rfl)) (hw _ (List.mem_of_getElem? (i := 35) rfl)) (by decide) (by decide)) (g := (mkF m 172 #[.val (.int pn),.val (.int pp),.val (.int pq),.val (.int px),.val (.int pl),.val (.int ph),.val (.int x1),.val (.int x2),.val (.int x3),.val (.int x4),.val (.int x5),.val (.int x6),.val (.ref b7),.val (.int (1:Int32)),.val (.int (1:Int32)),.unset] [(.int x3), (.int x6), (.int x5), (.int (fn4d1 x5 x6 gx_12 (nb / 64 + 1) nl nh))])) rfl (by rw [hml]; rfl) (argsL := [(.int x5), (.int x6), (.int x3)]) (rest := [(.int (fn4d1 x5 x6 gx_12 (nb / 64 + 1) nl nh))]) (lenOf pd_3 rfl) rfl (by show 2 * 0 + (1 + 0) ≤ _; decide) (hb hby at_172) (fun _ _ => ⟨rfl, e18, (by decide : 3 + 0 ≤ _), (by decide : 3 + 0 ≤ _)⟩)
      dsimp only [Pt.U, Pt.locs, Pt.cells, Pt.slots] at X20 l20 y20 z20 st20 hQ20
      rw [l20, y20, z20] at X20
      obtain ⟨rfl, N20q, e20⟩ := hQ20
      have N20 := Fr.app N18 N20q
      refine Goes.by st20 ?_
      show Goes p.tables e below (T20.setTop (mkF m 175 #[.val (.int pn),.val (.int pp),.val (.int pq),.val (.int px),.val (.int pl),.val (.int ph),.val (.int x1),.val (.int x2),.val (.int x3),.val (.int x4),.val (.int x5),.val (.int x6),.val (.ref b7),.val (.int (1:Int32)),.val (.int (1:Int32)),.unset] [(.int (fn7 x5 x6 x3)), (.int (fn4d1 x5 x6 gx_12 (nb / 64 + 1) nl nh))])) _
      by_cases hc21 : (fn7 x5 x6 x3) = (0:Int32)
      · refine Goes.by (fun _ k => XS.ifYes X20.here hx rfl (pc0 := 175) (pc' := 182) rfl (hb hby at_175) rfl ((if0 _ _).trans (teq hc21).1) (by decide) (by decide) k) ?_
        show Goes p.tables e below (T20.setTop (mkF m 182 #[.val (.int pn),.val (.int pp),.val (.int pq),.val (.int px),.val (.int pl),.val (.int ph),.val (.int x1),.val (.int x2),.val (.int x3),.val (.int x4),.val (.int x5),.val (.int x6),.val (.ref b7),.val (.int (1:Int32)),.val (.int (1:Int32)),.unset] [(.int (fn4d1 x5 x6 gx_12 (nb / 64 + 1) nl nh))])) _
        refine Goes.by (fun _ k => XS.iconst X20.here hx rfl (hb hby at_182) k) ?_
        show Goes p.tables e below (T20.setTop (mkF m 183 #[.val (.int pn),.val (.int pp),.val (.int pq),.val (.int px),.val (.int pl),.val (.int ph),.val (.int x1),.val (.int x2),.val (.int x3),.val (.int x4),.val (.int x5),.val (.int x6),.val (.ref b7),.val (.int (1:Int32)),.val (.int (1:Int32)),.unset] [(.int (0:Int32)), (.int (fn4d1 x5 x6 gx_12 (nb / 64 + 1) nl nh))])) _
        refine Goes.by (fun _ k => XS.icmpNo X20.here hx rfl (hb hby at_183) rfl (teq ((own_fin (own_any1b _ _ _ _ _ _) (own_in01 _ _ _) (own_in01 _ _ _) ((own_any1 R_12 hD  h_nl h_nh (own_b0 l_nl) (own_b0 l_nh)).trans ((own_has2 _ _ _ _).trans (or_congr (own_in h_nl h_nh h_na).symm (own_in h_nl h_nh h_nq).symm)))).2.2 hc19 hc21 : (fn4d1 x5 x6 gx_12 (nb / 64 + 1) nl nh) = (0:Int32))).2 k) ?_
        show Goes p.tables e below (T20.setTop (mkF m 186 #[.val (.int pn),.val (.int pp),.val (.int pq),.val (.int px),.val (.int pl),.val (.int ph),.val (.int x1),.val (.int x2),.val (.int x3),.val (.int x4),.val (.int x5),.val (.int x6),.val (.ref b7),.val (.int (1:Int32)),.val (.int (1:Int32)),.unset] [])) _
        refine Goes.by (fun _ k => XS.iconst X20.here hx rfl (hb hby at_186) k) ?_
        show Goes p.tables e below (T20.setTop (mkF m 187 #[.val (.int pn),.val (.int pp),.val (.int pq),.val (.int px),.val (.int pl),.val (.int ph),.val (.int x1),.val (.int x2),.val (.int x3),.val (.int x4),.val (.int x5),.val (.int x6),.val (.ref b7),.val (.int (1:Int32)),.val (.int (1:Int32)),.unset] [(.int (1:Int32))])) _
        refine Goes.by (fun _ k => XS.goto X20.here hx rfl (pc0 := 187) (pc' := 191) rfl (hb hby at_187) (by decide) (by decide) k) ?_
        show Goes p.tables e below (T20.setTop (mkF m 191 #[.val (.int pn),.val (.int pp),.val (.int pq),.val (.int px),.val (.int pl),.val (.int ph),.val (.int x1),.val (.int x2),.val (.int x3),.val (.int x4),.val (.int x5),.val (.int x6),.val (.ref b7),.val (.int (1:Int32)),.val (.int (1:Int32)),.unset] [(.int (1:Int32))])) _
        refine Goes.by (fun _ k => XS.istore X20.here hx rfl (hb hby at_191) rfl (l' := #[.val (.int pn),.val (.int pp),.val (.int pq),.val (.int px),.val (.int pl),.val (.int ph),.val (.int x1),.val (.int x2),.val (.int x3),.val (.int x4),.val (.int x5),.val (.int x6),.val (.ref b7),.val (.int (1:Int32)),.val (.int (1:Int32)),.val (.int (1:Int32))]) rfl k) ?_
        show Goes p.tables e below (T20.setTop (mkF m 193 #[.val (.int pn),.val (.int pp),.val (.int pq),.val (.int px),.val (.int pl),.val (.int ph),.val (.int x1),.val (.int x2),.val (.int x3),.val (.int x4),.val (.int x5),.val (.int x6),.val (.ref b7),.val (.int (1:Int32)),.val (.int (1:Int32)),.val (.int (1:Int32))] [])) _
        refine Goes.by (fun _ k => XS.iload X20.here hx rfl (hb hby at_193) rfl k) ?_
        show Goes p.tables e below (T20.setTop (mkF m 195 #[.val (.int pn),.val (.int pp),.val (.int pq),.val (.int px),.val (.int pl),.val (.int ph),.val (.int x1),.val (.int x2),.val (.int x3),.val (.int x4),.val (.int x5),.val (.int x6),.val (.ref b7),.val (.int (1:Int32)),.val (.int (1:Int32)),.val (.int (1:Int32))] [(.int (1:Int32))])) _
        refine Goes.by (fun _ k => XS.ifNo X20.here hx rfl (hb hby at_195) rfl ((if0 _ _).trans (feq (by decide : ¬ ((1:Int32) = (0:Int32)))).1) k) ?_
        show Goes p.tables e below (T20.setTop (mkF m 198 #[.val (.int pn),.val (.int pp),.val (.int pq),.val (.int px),.val (.int pl),.val (.int ph),.val (.int x1),.val (.int x2),.val (.int x3),.val (.int x4),.val (.int x5),.val (.int x6),.val (.ref b7),.val (.int (1:Int32)),.val (.int (1:Int32)),.val (.int (1:Int32))] [])) _
        refine Goes.by (fun _ k => XS.iload X20.here hx rfl (hb hby at_198) rfl k) ?_
        show Goes p.tables e below (T20.setTop (mkF m 200 #[.val (.int pn),.val (.int pp),.val (.int pq),.val (.int px),.val (.int pl),.val (.int ph),.val (.int x1),.val (.int x2),.val (.int x3),.val (.int x4),.val (.int x5),.val (.int x6),.val (.ref b7),.val (.int (1:Int32)),.val (.int (1:Int32)),.val (.int (1:Int32))] [(.int (1:Int32))])) _
        refine Goes.by (fun _ k => XS.ifNo X20.here hx rfl (hb hby at_200) rfl ((if0 _ _).trans (feq (by decide : ¬ ((1:Int32) = (0:Int32)))).1) k) ?_
        show Goes p.tables e below (T20.setTop (mkF m 203 #[.val (.int pn),.val (.int pp),.val (.int pq),.val (.int px),.val (.int pl),.val (.int ph),.val (.int x1),.val (.int x2),.val (.int x3),.val (.int x4),.val (.int x5),.val (.int x6),.val (.ref b7),.val (.int (1:Int32)),.val (.int (1:Int32)),.val (.int (1:Int32))] [])) _
        refine Goes.by (fun _ k => XS.iload X20.here hx rfl (hb hby at_203) rfl k) ?_
        show Goes p.tables e below (T20.setTop (mkF m 205 #[.val (.int pn),.val (.int pp),.val (.int pq),.val (.int px),.val (.int pl),.val (.int ph),.val (.int x1),.val (.int x2),.val (.int x3),.val (.int x4),.val (.int x5),.val (.int x6),.val (.ref b7),.val (.int (1:Int32)),.val (.int (1:Int32)),.val (.int (1:Int32))] [(.int (1:Int32))])) _
        refine Goes.by (fun _ k => XS.ifNo X20.here hx rfl (hb hby at_205) rfl ((if0 _ _).trans (feq (by decide : ¬ ((1:Int32) = (0:Int32)))).1) k) ?_
        show Goes p.tables e below (T20.setTop (mkF m 208 #[.val (.int pn),.val (.int pp),.val (.int pq),.val (.int px),.val (.int pl),.val (.int ph),.val (.int x1),.val (.int x2),.val (.int x3),.val (.int x4),.val (.int x5),.val (.int x6),.val (.ref b7),.val (.int (1:Int32)),.val (.int (1:Int32)),.val (.int (1:Int32))] [])) _
        refine Goes.by (fun _ k => XS.iconst X20.here hx rfl (hb hby at_208) k) ?_
        show Goes p.tables e below (T20.setTop (mkF m 209 #[.val (.int pn),.val (.int pp),.val (.int pq),.val (.int px),.val (.int pl),.val (.int ph),.val (.int x1),.val (.int x2),.val (.int x3),.val (.int x4),.val (.int x5),.val (.int x6),.val (.ref b7),.val (.int (1:Int32)),.val (.int (1:Int32)),.val (.int (1:Int32))] [(.int (1:Int32))])) _
        refine Goes.by (fun _ k => XS.goto X20.here hx rfl (pc0 := 209) (pc' := 213) rfl (hb hby at_209) (by decide) (by decide) k) ?_
        show Goes p.tables e below (T20.setTop (mkF m 213 #[.val (.int pn),.val (.int pp),.val (.int pq),.val (.int px),.val (.int pl),.val (.int ph),.val (.int x1),.val (.int x2),.val (.int x3),.val (.int x4),.val (.int x5),.val (.int x6),.val (.ref b7),.val (.int (1:Int32)),.val (.int (1:Int32)),.val (.int (1:Int32))] [(.int (1:Int32))])) _
        obtain ⟨fs, hr, hrun, hended, hW, hsame⟩ := X20.leave (v := some (.int (1:Int32))) (fun h => by rw [Bd.returns] at h; cases h)
        refine ⟨_, _, retN X20 hx (t := .boolean) Bd.returns (by simp) (hb hby at_213) hr, hrun, hended, _, _, rfl, ?_, ⟨_, rfl⟩, hW, hsame.mono (by decide) (by decide)⟩
        show Q0 Z pn pp pq px pl ph h0 n0 _ T20.heap _
        rw [e20]
        exact ⟨rfl, N20⟩
      · refine Goes.by (fun _ k => XS.ifNo X20.here hx rfl (hb hby at_175) rfl ((if0 _ _).trans (feq hc21).1) k) ?_
        show Goes p.tables e below (T20.setTop (mkF m 178 #[.val (.int pn),.val (.int pp),.val (.int pq),.val (.int px),.val (.int pl),.val (.int ph),.val (.int x1),.val (.int x2),.val (.int x3),.val (.int x4),.val (.int x5),.val (.int x6),.val (.ref b7),.val (.int (1:Int32)),.val (.int (1:Int32)),.unset] [(.int (fn4d1 x5 x6 gx_12 (nb / 64 + 1) nl nh))])) _
        refine Goes.by (fun _ k => XS.iconst X20.here hx rfl (hb hby at_178) k) ?_
        show Goes p.tables e below (T20.setTop (mkF m 179 #[.val (.int pn),.val (.int pp),.val (.int pq),.val (.int px),.val (.int pl),.val (.int ph),.val (.int x1),.val (.int x2),.val (.int x3),.val (.int x4),.val (.int x5),.val (.int x6),.val (.ref b7),.val (.int (1:Int32)),.val (.int (1:Int32)),.unset] [(.int (1:Int32)), (.int (fn4d1 x5 x6 gx_12 (nb / 64 + 1) nl nh))])) _
        refine Goes.by (fun _ k => XS.goto X20.here hx rfl (pc0 := 179) (pc' := 183) rfl (hb hby at_179) (by decide) (by decide) k) ?_
        show Goes p.tables e below (T20.setTop (mkF m 183 #[.val (.int pn),.val (.int pp),.val (.int pq),.val (.int px),.val (.int pl),.val (.int ph),.val (.int x1),.val (.int x2),.val (.int x3),.val (.int x4),.val (.int x5),.val (.int x6),.val (.ref b7),.val (.int (1:Int32)),.val (.int (1:Int32)),.unset] [(.int (1:Int32)), (.int (fn4d1 x5 x6 gx_12 (nb / 64 + 1) nl nh))])) _
        refine Goes.by (fun _ k => XS.icmpNo X20.here hx rfl (hb hby at_183) rfl (teq ((own_fin (own_any1b _ _ _ _ _ _) (own_in01 _ _ _) (own_in01 _ _ _) ((own_any1 R_12 hD  h_nl h_nh (own_b0 l_nl) (own_b0 l_nh)).trans ((own_has2 _ _ _ _).trans (or_congr (own_in h_nl h_nh h_na).symm (own_in h_nl h_nh h_nq).symm)))).2.1 hc19 hc21 : (fn4d1 x5 x6 gx_12 (nb / 64 + 1) nl nh) = (1:Int32))).2 k) ?_
        show Goes p.tables e below (T20.setTop (mkF m 186 #[.val (.int pn),.val (.int pp),.val (.int pq),.val (.int px),.val (.int pl),.val (.int ph),.val (.int x1),.val (.int x2),.val (.int x3),.val (.int x4),.val (.int x5),.val (.int x6),.val (.ref b7),.val (.int (1:Int32)),.val (.int (1:Int32)),.unset] [])) _
        refine Goes.by (fun _ k => XS.iconst X20.here hx rfl (hb hby at_186) k) ?_
        show Goes p.tables e below (T20.setTop (mkF m 187 #[.val (.int pn),.val (.int pp),.val (.int pq),.val (.int px),.val (.int pl),.val (.int ph),.val (.int x1),.val (.int x2),.val (.int x3),.val (.int x4),.val (.int x5),.val (.int x6),.val (.ref b7),.val (.int (1:Int32)),.val (.int (1:Int32)),.unset] [(.int (1:Int32))])) _
        refine Goes.by (fun _ k => XS.goto X20.here hx rfl (pc0 := 187) (pc' := 191) rfl (hb hby at_187) (by decide) (by decide) k) ?_
        show Goes p.tables e below (T20.setTop (mkF m 191 #[.val (.int pn),.val (.int pp),.val (.int pq),.val (.int px),.val (.int pl),.val (.int ph),.val (.int x1),.val (.int x2),.val (.int x3),.val (.int x4),.val (.int x5),.val (.int x6),.val (.ref b7),.val (.int (1:Int32)),.val (.int (1:Int32)),.unset] [(.int (1:Int32))])) _
        refine Goes.by (fun _ k => XS.istore X20.here hx rfl (hb hby at_191) rfl (l' := #[.val (.int pn),.val (.int pp),.val (.int pq),.val (.int px),.val (.int pl),.val (.int ph),.val (.int x1),.val (.int x2),.val (.int x3),.val (.int x4),.val (.int x5),.val (.int x6),.val (.ref b7),.val (.int (1:Int32)),.val (.int (1:Int32)),.val (.int (1:Int32))]) rfl k) ?_
        show Goes p.tables e below (T20.setTop (mkF m 193 #[.val (.int pn),.val (.int pp),.val (.int pq),.val (.int px),.val (.int pl),.val (.int ph),.val (.int x1),.val (.int x2),.val (.int x3),.val (.int x4),.val (.int x5),.val (.int x6),.val (.ref b7),.val (.int (1:Int32)),.val (.int (1:Int32)),.val (.int (1:Int32))] [])) _
        refine Goes.by (fun _ k => XS.iload X20.here hx rfl (hb hby at_193) rfl k) ?_
        show Goes p.tables e below (T20.setTop (mkF m 195 #[.val (.int pn),.val (.int pp),.val (.int pq),.val (.int px),.val (.int pl),.val (.int ph),.val (.int x1),.val (.int x2),.val (.int x3),.val (.int x4),.val (.int x5),.val (.int x6),.val (.ref b7),.val (.int (1:Int32)),.val (.int (1:Int32)),.val (.int (1:Int32))] [(.int (1:Int32))])) _
        refine Goes.by (fun _ k => XS.ifNo X20.here hx rfl (hb hby at_195) rfl ((if0 _ _).trans (feq (by decide : ¬ ((1:Int32) = (0:Int32)))).1) k) ?_
        show Goes p.tables e below (T20.setTop (mkF m 198 #[.val (.int pn),.val (.int pp),.val (.int pq),.val (.int px),.val (.int pl),.val (.int ph),.val (.int x1),.val (.int x2),.val (.int x3),.val (.int x4),.val (.int x5),.val (.int x6),.val (.ref b7),.val (.int (1:Int32)),.val (.int (1:Int32)),.val (.int (1:Int32))] [])) _
        refine Goes.by (fun _ k => XS.iload X20.here hx rfl (hb hby at_198) rfl k) ?_
        show Goes p.tables e below (T20.setTop (mkF m 200 #[.val (.int pn),.val (.int pp),.val (.int pq),.val (.int px),.val (.int pl),.val (.int ph),.val (.int x1),.val (.int x2),.val (.int x3),.val (.int x4),.val (.int x5),.val (.int x6),.val (.ref b7),.val (.int (1:Int32)),.val (.int (1:Int32)),.val (.int (1:Int32))] [(.int (1:Int32))])) _
        refine Goes.by (fun _ k => XS.ifNo X20.here hx rfl (hb hby at_200) rfl ((if0 _ _).trans (feq (by decide : ¬ ((1:Int32) = (0:Int32)))).1) k) ?_
        show Goes p.tables e below (T20.setTop (mkF m 203 #[.val (.int pn),.val (.int pp),.val (.int pq),.val (.int px),.val (.int pl),.val (.int ph),.val (.int x1),.val (.int x2),.val (.int x3),.val (.int x4),.val (.int x5),.val (.int x6),.val (.ref b7),.val (.int (1:Int32)),.val (.int (1:Int32)),.val (.int (1:Int32))] [])) _
        refine Goes.by (fun _ k => XS.iload X20.here hx rfl (hb hby at_203) rfl k) ?_
        show Goes p.tables e below (T20.setTop (mkF m 205 #[.val (.int pn),.val (.int pp),.val (.int pq),.val (.int px),.val (.int pl),.val (.int ph),.val (.int x1),.val (.int x2),.val (.int x3),.val (.int x4),.val (.int x5),.val (.int x6),.val (.ref b7),.val (.int (1:Int32)),.val (.int (1:Int32)),.val (.int (1:Int32))] [(.int (1:Int32))])) _
        refine Goes.by (fun _ k => XS.ifNo X20.here hx rfl (hb hby at_205) rfl ((if0 _ _).trans (feq (by decide : ¬ ((1:Int32) = (0:Int32)))).1) k) ?_
        show Goes p.tables e below (T20.setTop (mkF m 208 #[.val (.int pn),.val (.int pp),.val (.int pq),.val (.int px),.val (.int pl),.val (.int ph),.val (.int x1),.val (.int x2),.val (.int x3),.val (.int x4),.val (.int x5),.val (.int x6),.val (.ref b7),.val (.int (1:Int32)),.val (.int (1:Int32)),.val (.int (1:Int32))] [])) _
        refine Goes.by (fun _ k => XS.iconst X20.here hx rfl (hb hby at_208) k) ?_
        show Goes p.tables e below (T20.setTop (mkF m 209 #[.val (.int pn),.val (.int pp),.val (.int pq),.val (.int px),.val (.int pl),.val (.int ph),.val (.int x1),.val (.int x2),.val (.int x3),.val (.int x4),.val (.int x5),.val (.int x6),.val (.ref b7),.val (.int (1:Int32)),.val (.int (1:Int32)),.val (.int (1:Int32))] [(.int (1:Int32))])) _
        refine Goes.by (fun _ k => XS.goto X20.here hx rfl (pc0 := 209) (pc' := 213) rfl (hb hby at_209) (by decide) (by decide) k) ?_
        show Goes p.tables e below (T20.setTop (mkF m 213 #[.val (.int pn),.val (.int pp),.val (.int pq),.val (.int px),.val (.int pl),.val (.int ph),.val (.int x1),.val (.int x2),.val (.int x3),.val (.int x4),.val (.int x5),.val (.int x6),.val (.ref b7),.val (.int (1:Int32)),.val (.int (1:Int32)),.val (.int (1:Int32))] [(.int (1:Int32))])) _
        obtain ⟨fs, hr, hrun, hended, hW, hsame⟩ := X20.leave (v := some (.int (1:Int32))) (fun h => by rw [Bd.returns] at h; cases h)
        refine ⟨_, _, retN X20 hx (t := .boolean) Bd.returns (by simp) (hb hby at_213) hr, hrun, hended, _, _, rfl, ?_, ⟨_, rfl⟩, hW, hsame.mono (by decide) (by decide)⟩
        show Q0 Z pn pp pq px pl ph h0 n0 _ T20.heap _
        rw [e20]
        exact ⟨rfl, N20⟩
    · refine Goes.by (fun _ k => XS.ifYes X18.here hx rfl (pc0 := 163) (pc' := 178) rfl (hb hby at_163) rfl ((if0 _ _).trans (feq hc19).2) (by decide) (by decide) k) ?_
      show Goes p.tables e below (T18.setTop (mkF m 178 #[.val (.int pn),.val (.int pp),.val (.int pq),.val (.int px),.val (.int pl),.val (.int ph),.val (.int x1),.val (.int x2),.val (.int x3),.val (.int x4),.val (.int x5),.val (.int x6),.val (.ref b7),.val (.int (1:Int32)),.val (.int (1:Int32)),.unset] [(.int (fn4d1 x5 x6 gx_12 (nb / 64 + 1) nl nh))])) _
      refine Goes.by (fun _ k => XS.iconst X18.here hx rfl (hb hby at_178) k) ?_
      show Goes p.tables e below (T18.setTop (mkF m 179 #[.val (.int pn),.val (.int pp),.val (.int pq),.val (.int px),.val (.int pl),.val (.int ph),.val (.int x1),.val (.int x2),.val (.int x3),.val (.int x4),.val (.int x5),.val (.int x6),.val (.ref b7),.val (.int (1:Int32)),.val (.int (1:Int32)),.unset] [(.int (1:Int32)), (.int (fn4d1 x5 x6 gx_12 (nb / 64 + 1) nl nh))])) _
      refine Goes.by (fun _ k => XS.goto X18.here hx rfl (pc0 := 179) (pc' := 183) rfl (hb hby at_179) (by decide) (by decide) k) ?_
      show Goes p.tables e below (T18.setTop (mkF m 183 #[.val (.int pn),.val (.int pp),.val (.int pq),.val (.int px),.val (.int pl),.val (.int ph),.val (.int x1),.val (.int x2),.val (.int x3),.val (.int x4),.val (.int x5),.val (.int x6),.val (.ref b7),.val (.int (1:Int32)),.val (.int (1:Int32)),.unset] [(.int (1:Int32)), (.int (fn4d1 x5 x6 gx_12 (nb / 64 + 1) nl nh))])) _
      refine Goes.by (fun _ k => XS.icmpNo X18.here hx rfl (hb hby at_183) rfl (teq ((own_fin (own_any1b _ _ _ _ _ _) (own_in01 _ _ _) (own_in01 _ _ _) ((own_any1 R_12 hD  h_nl h_nh (own_b0 l_nl) (own_b0 l_nh)).trans ((own_has2 _ _ _ _).trans (or_congr (own_in h_nl h_nh h_na).symm (own_in h_nl h_nh h_nq).symm)))).1 hc19 : (fn4d1 x5 x6 gx_12 (nb / 64 + 1) nl nh) = (1:Int32))).2 k) ?_
      show Goes p.tables e below (T18.setTop (mkF m 186 #[.val (.int pn),.val (.int pp),.val (.int pq),.val (.int px),.val (.int pl),.val (.int ph),.val (.int x1),.val (.int x2),.val (.int x3),.val (.int x4),.val (.int x5),.val (.int x6),.val (.ref b7),.val (.int (1:Int32)),.val (.int (1:Int32)),.unset] [])) _
      refine Goes.by (fun _ k => XS.iconst X18.here hx rfl (hb hby at_186) k) ?_
      show Goes p.tables e below (T18.setTop (mkF m 187 #[.val (.int pn),.val (.int pp),.val (.int pq),.val (.int px),.val (.int pl),.val (.int ph),.val (.int x1),.val (.int x2),.val (.int x3),.val (.int x4),.val (.int x5),.val (.int x6),.val (.ref b7),.val (.int (1:Int32)),.val (.int (1:Int32)),.unset] [(.int (1:Int32))])) _
      refine Goes.by (fun _ k => XS.goto X18.here hx rfl (pc0 := 187) (pc' := 191) rfl (hb hby at_187) (by decide) (by decide) k) ?_
      show Goes p.tables e below (T18.setTop (mkF m 191 #[.val (.int pn),.val (.int pp),.val (.int pq),.val (.int px),.val (.int pl),.val (.int ph),.val (.int x1),.val (.int x2),.val (.int x3),.val (.int x4),.val (.int x5),.val (.int x6),.val (.ref b7),.val (.int (1:Int32)),.val (.int (1:Int32)),.unset] [(.int (1:Int32))])) _
      refine Goes.by (fun _ k => XS.istore X18.here hx rfl (hb hby at_191) rfl (l' := #[.val (.int pn),.val (.int pp),.val (.int pq),.val (.int px),.val (.int pl),.val (.int ph),.val (.int x1),.val (.int x2),.val (.int x3),.val (.int x4),.val (.int x5),.val (.int x6),.val (.ref b7),.val (.int (1:Int32)),.val (.int (1:Int32)),.val (.int (1:Int32))]) rfl k) ?_
      show Goes p.tables e below (T18.setTop (mkF m 193 #[.val (.int pn),.val (.int pp),.val (.int pq),.val (.int px),.val (.int pl),.val (.int ph),.val (.int x1),.val (.int x2),.val (.int x3),.val (.int x4),.val (.int x5),.val (.int x6),.val (.ref b7),.val (.int (1:Int32)),.val (.int (1:Int32)),.val (.int (1:Int32))] [])) _
      refine Goes.by (fun _ k => XS.iload X18.here hx rfl (hb hby at_193) rfl k) ?_
      show Goes p.tables e below (T18.setTop (mkF m 195 #[.val (.int pn),.val (.int pp),.val (.int pq),.val (.int px),.val (.int pl),.val (.int ph),.val (.int x1),.val (.int x2),.val (.int x3),.val (.int x4),.val (.int x5),.val (.int x6),.val (.ref b7),.val (.int (1:Int32)),.val (.int (1:Int32)),.val (.int (1:Int32))] [(.int (1:Int32))])) _
      refine Goes.by (fun _ k => XS.ifNo X18.here hx rfl (hb hby at_195) rfl ((if0 _ _).trans (feq (by decide : ¬ ((1:Int32) = (0:Int32)))).1) k) ?_
      show Goes p.tables e below (T18.setTop (mkF m 198 #[.val (.int pn),.val (.int pp),.val (.int pq),.val (.int px),.val (.int pl),.val (.int ph),.val (.int x1),.val (.int x2),.val (.int x3),.val (.int x4),.val (.int x5),.val (.int x6),.val (.ref b7),.val (.int (1:Int32)),.val (.int (1:Int32)),.val (.int (1:Int32))] [])) _
      refine Goes.by (fun _ k => XS.iload X18.here hx rfl (hb hby at_198) rfl k) ?_
      show Goes p.tables e below (T18.setTop (mkF m 200 #[.val (.int pn),.val (.int pp),.val (.int pq),.val (.int px),.val (.int pl),.val (.int ph),.val (.int x1),.val (.int x2),.val (.int x3),.val (.int x4),.val (.int x5),.val (.int x6),.val (.ref b7),.val (.int (1:Int32)),.val (.int (1:Int32)),.val (.int (1:Int32))] [(.int (1:Int32))])) _
      refine Goes.by (fun _ k => XS.ifNo X18.here hx rfl (hb hby at_200) rfl ((if0 _ _).trans (feq (by decide : ¬ ((1:Int32) = (0:Int32)))).1) k) ?_
      show Goes p.tables e below (T18.setTop (mkF m 203 #[.val (.int pn),.val (.int pp),.val (.int pq),.val (.int px),.val (.int pl),.val (.int ph),.val (.int x1),.val (.int x2),.val (.int x3),.val (.int x4),.val (.int x5),.val (.int x6),.val (.ref b7),.val (.int (1:Int32)),.val (.int (1:Int32)),.val (.int (1:Int32))] [])) _
      refine Goes.by (fun _ k => XS.iload X18.here hx rfl (hb hby at_203) rfl k) ?_
      show Goes p.tables e below (T18.setTop (mkF m 205 #[.val (.int pn),.val (.int pp),.val (.int pq),.val (.int px),.val (.int pl),.val (.int ph),.val (.int x1),.val (.int x2),.val (.int x3),.val (.int x4),.val (.int x5),.val (.int x6),.val (.ref b7),.val (.int (1:Int32)),.val (.int (1:Int32)),.val (.int (1:Int32))] [(.int (1:Int32))])) _
      refine Goes.by (fun _ k => XS.ifNo X18.here hx rfl (hb hby at_205) rfl ((if0 _ _).trans (feq (by decide : ¬ ((1:Int32) = (0:Int32)))).1) k) ?_
      show Goes p.tables e below (T18.setTop (mkF m 208 #[.val (.int pn),.val (.int pp),.val (.int pq),.val (.int px),.val (.int pl),.val (.int ph),.val (.int x1),.val (.int x2),.val (.int x3),.val (.int x4),.val (.int x5),.val (.int x6),.val (.ref b7),.val (.int (1:Int32)),.val (.int (1:Int32)),.val (.int (1:Int32))] [])) _
      refine Goes.by (fun _ k => XS.iconst X18.here hx rfl (hb hby at_208) k) ?_
      show Goes p.tables e below (T18.setTop (mkF m 209 #[.val (.int pn),.val (.int pp),.val (.int pq),.val (.int px),.val (.int pl),.val (.int ph),.val (.int x1),.val (.int x2),.val (.int x3),.val (.int x4),.val (.int x5),.val (.int x6),.val (.ref b7),.val (.int (1:Int32)),.val (.int (1:Int32)),.val (.int (1:Int32))] [(.int (1:Int32))])) _
      refine Goes.by (fun _ k => XS.goto X18.here hx rfl (pc0 := 209) (pc' := 213) rfl (hb hby at_209) (by decide) (by decide) k) ?_
      show Goes p.tables e below (T18.setTop (mkF m 213 #[.val (.int pn),.val (.int pp),.val (.int pq),.val (.int px),.val (.int pl),.val (.int ph),.val (.int x1),.val (.int x2),.val (.int x3),.val (.int x4),.val (.int x5),.val (.int x6),.val (.ref b7),.val (.int (1:Int32)),.val (.int (1:Int32)),.val (.int (1:Int32))] [(.int (1:Int32))])) _
      obtain ⟨fs, hr, hrun, hended, hW, hsame⟩ := X18.leave (v := some (.int (1:Int32))) (fun h => by rw [Bd.returns] at h; cases h)
      refine ⟨_, _, retN X18 hx (t := .boolean) Bd.returns (by simp) (hb hby at_213) hr, hrun, hended, _, _, rfl, ?_, ⟨_, rfl⟩, hW, hsame.mono (by decide) (by decide)⟩
      show Q0 Z pn pp pq px pl ph h0 n0 _ T18.heap _
      rw [e18]
      exact ⟨rfl, N18⟩
  · show Goes p.tables e below (s₁.setTop (mkF m 56 #[.val (.int pn),.val (.int pp),.val (.int pq),.val (.int px),.val (.int pl),.val (.int ph),.val (.int x1),.val (.int x2),.val (.int x3),.val (.int x4),.val (.int x5),.val (.int x6),.unset,.unset,.unset,.unset] [])) _
    obtain ⟨T22, h22, X22, e22, E22, A22, D22, -, st22⟩ := newO X0 hx hZ hown (hw _ (List.mem_of_getElem? (i := 1) rfl)) (hw _ (List.mem_of_getElem? (i := 2) rfl)) (hw _ (List.mem_of_getElem? (i := 3) rfl)) e0 (g := (mkF m 56 #[.val (.int pn),.val (.int pp),.val (.int pq),.val (.int px),.val (.int pl),.val (.int ph),.val (.int x1),.val (.int x2),.val (.int x3),.val (.int x4),.val (.int x5),.val (.int x6),.unset,.unset,.unset,.unset] [])) rfl (hb hby at_56) (by decide) (by decide)
    obtain ⟨b22, g22⟩ : ∃ z, z = h0.size := ⟨_, rfl⟩
    rw [← g22] at A22 D22 st22
    have g_b22 : n0 ≤ b22 := Nat.le_trans Z0 (Nat.le_of_eq g22.symm)
    have sz_b22 : h0.size ≤ b22 := Nat.le_trans (Keep.refl h0 []).1 (Nat.le_of_eq g22.symm)
    have Zs22 : n0 ≤ h22.size := Nat.le_trans Z0 E22.1
    have K22 : Keep h0 h22 [] := (Keep.refl h0 []).ext E22
    refine Goes.by st22 ?_
    have E_b22 : Exa Z h22 b22 "com/example/xml_graph_join/xmlgraphjoin/topo/BitLevels" := A22
    have F_b22_levels : Fld Z h22 b22 "com/example/xml_graph_join/xmlgraphjoin/topo/BitLevels" "levels" "[[J" .null := D22 (Or.inr (hw _ (List.mem_of_getElem? (i := 13) rfl))) (ty := (.array (.array .long))) (by decide)
    show Goes p.tables e below (T22.setTop (mkF m 59 #[.val (.int pn),.val (.int pp),.val (.int pq),.val (.int px),.val (.int pl),.val (.int ph),.val (.int x1),.val (.int x2),.val (.int x3),.val (.int x4),.val (.int x5),.val (.int x6),.unset,.unset,.unset,.unset] [(.ref b22)])) _
    refine Goes.by (fun _ k => XS.dup X22.here hx rfl (hb hby at_59) rfl rfl k) ?_
    show Goes p.tables e below (T22.setTop (mkF m 60 #[.val (.int pn),.val (.int pp),.val (.int pq),.val (.int px),.val (.int pl),.val (.int ph),.val (.int x1),.val (.int x2),.val (.int x3),.val (.int x4),.val (.int x5),.val (.int x6),.unset,.unset,.unset,.unset] [(.ref b22), (.ref b22)])) _
    refine Goes.by (fun _ k => XS.iload X22.here hx rfl (hb hby at_60) rfl k) ?_
    show Goes p.tables e below (T22.setTop (mkF m 62 #[.val (.int pn),.val (.int pp),.val (.int pq),.val (.int px),.val (.int pl),.val (.int ph),.val (.int x1),.val (.int x2),.val (.int x3),.val (.int x4),.val (.int x5),.val (.int x6),.unset,.unset,.unset,.unset] [(.int x1), (.ref b22), (.ref b22)])) _
    obtain ⟨_, _, ⟨T23, L23, k23, n23⟩, -, X23, ⟨Lc23, hQ23, l23, y23, z23⟩, st23⟩ := X22.specialBack hx (y := (⟨"com/example/xml_graph_join/xmlgraphjoin/topo/BitLevels", "<init>", "(I)V"⟩ : MethodName)) rfl hown (mvT hZ (hw _ (List.mem_of_getElem? (i := 4) rfl))) (mvT hZ (hw _ (List.mem_of_getElem? (i := 5) rfl))) (mvT hZ (hw _ (List.mem_of_getElem? (i := 6) rfl))) (by decide) (backOf (W := 1) (rm1d2 l Z a0 hw [] b22 x1 nb h22 n0 Zs22 E_b22 F_b22_levels g_b22 (hnb) (hD)) hZ (hw _ (List.mem_of_getElem? (i := 6) rfl)) (hw _ (List.mem_of_getElem? (i := 3) rfl)) (by decide) (by decide)) (g := (mkF m 62 #[.val (.int pn),.val (.int pp),.val (.int pq),.val (.int px),.val (.int pl),.val (.int ph),.val (.int x1),.val (.int x2),.val (.int x3),.val (.int x4),.val (.int x5),.val (.int x6),.unset,.unset,.unset,.unset] [(.int x1), (.ref b22), (.ref b22)])) rfl (by rw [hml]; rfl) (Steps.refl _) (a := b22) (argsL := [(.int x1)]) (rest := [(.ref b22)]) (lenOf pd_1 rfl) rfl (by show 2 * 0 + (1 + 0) ≤ _; decide) (hb hby at_62) (fun _ _ => ⟨rfl, e22, (by decide : 1 + 3 ≤ _), (by decide : 1 + 67 ≤ _)⟩)
    dsimp only [Pt.U, Pt.locs, Pt.cells, Pt.slots] at X23 l23 y23 z23 st23 hQ23
    rw [l23, y23, z23] at X23
    obtain ⟨ol_23, o0_23, o1_23, rfl, N23q, Kq23, po23_0, po23_1, po23_2, po23_3, po23_4, po23_5, po23_6, po23_7, po23_8, po23_9, po23_10⟩ := hQ23
    have N23 := Fr.app N0 N23q
    refine Goes.via st23 ?_
    have Zs23 : n0 ≤ T23.heap.size := Nat.le_trans Zs22 Kq23.1
    have K23 : Keep h0 T23.heap [] := K22.trans Kq23 (allS (Or.inr sz_b22) all0)
    have lt23_b22 := E_b22.lt
    have sz_ol_23 : h0.size ≤ ol_23 := Nat.le_trans K22.1 po23_5
    have g_ol_23 : n0 ≤ ol_23 := Nat.le_trans Zs22 po23_5
    have ne_b22_ol_23 : b22 ≠ ol_23 := Nat.ne_of_lt (Nat.lt_of_lt_of_le lt23_b22 po23_5)
    have sz_o0_23 : h0.size ≤ o0_23 := Nat.le_trans K22.1 po23_6
    have g_o0_23 : n0 ≤ o0_23 := Nat.le_trans Zs22 po23_6
    have ne_b22_o0_23 : b22 ≠ o0_23 := Nat.ne_of_lt (Nat.lt_of_lt_of_le lt23_b22 po23_6)
    have sz_o1_23 : h0.size ≤ o1_23 := Nat.le_trans K22.1 po23_7
    have g_o1_23 : n0 ≤ o1_23 := Nat.le_trans Zs22 po23_7
    have ne_b22_o1_23 : b22 ≠ o1_23 := Nat.ne_of_lt (Nat.lt_of_lt_of_le lt23_b22 po23_7)
    have E_b22 : Exa Z T23.heap b22 "com/example/xml_graph_join/xmlgraphjoin/topo/BitLevels" := E_b22.keep Kq23
    have E_b22 : Exa Z T23.heap b22 "com/example/xml_graph_join/xmlgraphjoin/topo/BitLevels" := po23_0
    have F_b22_levels : Fld Z T23.heap b22 "com/example/xml_graph_join/xmlgraphjoin/topo/BitLevels" "levels" "[[J" (.ref ol_23) := po23_1
    have A_ol_23 : Ar Z T23.heap ol_23 (.array .long) 2 (up (up (fun _ => .null) 0 (.ref o0_23)) 1 (.ref o1_23)) := po23_2
    have A_o0_23 : AJ Z T23.heap o0_23 (nb / 64 + 1) (fun _ => (0:Int64)) := po23_3
    have A_o1_23 : AJ Z T23.heap o1_23 ((nb / 64 + 1) / 64 + 1) (fun _ => (0:Int64)) := po23_4
    have ne_ol_23_o0_23 := po23_8
    have ne_ol_23_o1_23 := po23_9
    have ne_o0_23_o1_23 := po23_10
    have R_0 : R2 own_n0 (nb / 64 + 1) ((nb / 64 + 1) / 64 + 1) (fun _ => (0:Int64)) (fun _ => (0:Int64)) := own_em2 (nb / 64 + 1) ((nb / 64 + 1) / 64 + 1)
    show Goes p.tables e below (T23.setTop (mkF m 65 #[.val (.int pn),.val (.int pp),.val (.int pq),.val (.int px),.val (.int pl),.val (.int ph),.val (.int x1),.val (.int x2),.val (.int x3),.val (.int x4),.val (.int x5),.val (.int x6),.unset,.unset,.unset,.unset] [(.ref b22)])) _
    refine Goes.by (fun _ k => XS.astore X23.here hx rfl (hb hby at_65) rfl rfl (l' := #[.val (.int pn),.val (.int pp),.val (.int pq),.val (.int px),.val (.int pl),.val (.int ph),.val (.int x1),.val (.int x2),.val (.int x3),.val (.int x4),.val (.int x5),.val (.int x6),.val (.ref b22),.unset,.unset,.unset]) rfl k) ?_
    show Goes p.tables e below (T23.setTop (mkF m 67 #[.val (.int pn),.val (.int pp),.val (.int pq),.val (.int px),.val (.int pl),.val (.int ph),.val (.int x1),.val (.int x2),.val (.int x3),.val (.int x4),.val (.int x5),.val (.int x6),.val (.ref b22),.unset,.unset,.unset] [])) _
    refine Goes.by (fun _ k => XS.aload X23.here hx rfl (hb hby at_67) rfl rfl k) ?_
    show Goes p.tables e below (T23.setTop (mkF m 69 #[.val (.int pn),.val (.int pp),.val (.int pq),.val (.int px),.val (.int pl),.val (.int ph),.val (.int x1),.val (.int x2),.val (.int x3),.val (.int x4),.val (.int x5),.val (.int x6),.val (.ref b22),.unset,.unset,.unset] [(.ref b22)])) _
    refine Goes.by (fun _ k => XS.iload X23.here hx rfl (hb hby at_69) rfl k) ?_
    show Goes p.tables e below (T23.setTop (mkF m 71 #[.val (.int pn),.val (.int pp),.val (.int pq),.val (.int px),.val (.int pl),.val (.int ph),.val (.int x1),.val (.int x2),.val (.int x3),.val (.int x4),.val (.int x5),.val (.int x6),.val (.ref b22),.unset,.unset,.unset] [(.int x2), (.ref b22)])) _
    obtain ⟨cq24, kq24, q24a, q24b, q24c⟩ := isOf hZ rfl E_b22
    obtain ⟨_, _, ⟨T24, L24, k24, n24⟩, -, X24, ⟨Lc24, hQ24, l24, y24, z24⟩, st24⟩ := X23.virtualBack hx (y := (⟨"com/example/xml_graph_join/xmlgraphjoin/topo/BitLevels", "add", "(I)V"⟩ : MethodName)) (z := (⟨"com/example/xml_graph_join/xmlgraphjoin/topo/BitLevels", "add", "(I)V"⟩ : MethodName)) hown (mvT hZ (hw _ (List.mem_of_getElem? (i := 16) rfl))) (mvT hZ (hw _ (List.mem_of_getElem? (i := 17) rfl))) (notFace_of_selects (args := #[]) (mvT hZ (hw _ (List.mem_of_getElem? (i := 19) rfl)))) (mvT hZ (hw _ (List.mem_of_getElem? (i := 19) rfl))) (mvT hZ (hw _ (List.mem_of_getElem? (i := 18) rfl))) (by decide) (backOf (W := 0) (rm3d2 l Z a0 hw [] b22 x2 ol_23 o0_23 o1_23 (fun _ => (0:Int64)) (fun _ => (0:Int64)) (nb / 64 + 1) ((nb / 64 + 1) / 64 + 1) na T23.heap n0 Zs23 F_b22_levels A_ol_23 A_o0_23 A_o1_23 (h_na) (own_b0 l_na) (own_b1 l_na) ne_b22_o0_23 ne_b22_o1_23 ne_ol_23_o0_23 ne_ol_23_o1_23 ne_o0_23_o1_23 g_o0_23 g_o1_23) hZ (hw _ (List.mem_of_getElem? (i := 20) rfl)) (hw _ (List.mem_of_getElem? (i := 3) rfl)) (by decide) (by decide)) q24a q24c (g := (mkF m 71 #[.val (.int pn),.val (.int pp),.val (.int pq),.val (.int px),.val (.int pl),.val (.int ph),.val (.int x1),.val (.int x2),.val (.int x3),.val (.int x4),.val (.int x5),.val (.int x6),.val (.ref b22),.unset,.unset,.unset] [(.int x2), (.ref b22)])) rfl (by rw [hml]; rfl) (Steps.refl _) (argsL := [(.int x2)]) (rest := []) (lenOf pd_1 rfl) rfl (by show 2 * 0 + _ ≤ _; exact Nat.le_of_eq rfl) (hb hby at_71) (fun _ _ => ⟨rfl, rfl, (by decide : 4 + 0 ≤ _), (by decide : 68 + 0 ≤ _)⟩)
    dsimp only [Pt.U, Pt.locs, Pt.cells, Pt.slots] at X24 l24 y24 z24 st24 hQ24
    rw [l24, y24, z24] at X24
    obtain ⟨rfl, N24q, Kq24, po24_0, po24_1, po24_2, po24_3⟩ := hQ24
    have N24 := Fr.app N23 N24q
    refine Goes.via st24 ?_
    have Zs24 : n0 ≤ T24.heap.size := Nat.le_trans Zs23 Kq24.1
    have K24 : Keep h0 T24.heap [] := K23.trans Kq24 (allS (Or.inr sz_o0_23) (allS (Or.inr sz_o1_23) all0))
    have E_b22 : Exa Z T24.heap b22 "com/example/xml_graph_join/xmlgraphjoin/topo/BitLevels" := E_b22.keep Kq24
    have F_b22_levels : Fld Z T24.heap b22 "com/example/xml_graph_join/xmlgraphjoin/topo/BitLevels" "levels" "[[J" (.ref ol_23) := F_b22_levels.keep Kq24 (ninS ne_b22_o0_23 (ninS ne_b22_o1_23 nin0))
    have A_ol_23 : Ar Z T24.heap ol_23 (.array .long) 2 (up (up (fun _ => .null) 0 (.ref o0_23)) 1 (.ref o1_23)) := A_ol_23.keep Kq24 (ninS ne_ol_23_o0_23 (ninS ne_ol_23_o1_23 nin0))
    have F_b22_levels : Fld Z T24.heap b22 "com/example/xml_graph_join/xmlgraphjoin/topo/BitLevels" "levels" "[[J" (.ref ol_23) := po24_0
    have A_ol_23 : Ar Z T24.heap ol_23 (.array .long) 2 (up (up (fun _ => .null) 0 (.ref o0_23)) 1 (.ref o1_23)) := po24_1
    have A_o0_23 : AJ Z T24.heap o0_23 (nb / 64 + 1) (up (fun _ => (0:Int64)) (na / 64) ((((fun _ => (0:Int64)) (na / 64))) ||| (oneB x2))) := po24_2
    have A_o1_23 : AJ Z T24.heap o1_23 ((nb / 64 + 1) / 64 + 1) (if ((fun _ => (0:Int64)) (na / 64)) = (0:Int64) then (up (fun _ => (0:Int64)) (na / 64 / 64) ((((fun _ => (0:Int64)) (na / 64 / 64))) ||| (oneB ((x2.toUInt32>>>((6:Int32)&&&31).toUInt32).toInt32)))) else (fun _ => (0:Int64))) := po24_3
    obtain ⟨gx_24, gy_24, R_24, A_o0_23, A_o1_23⟩ : ∃ gx_24 gy_24 : Nat → Int64, R2 (Add own_n0 na) (nb / 64 + 1) ((nb / 64 + 1) / 64 + 1) gx_24 gy_24 ∧ (AJ Z T24.heap o0_23 (nb / 64 + 1) gx_24) ∧ (AJ Z T24.heap o1_23 ((nb / 64 + 1) / 64 + 1) gy_24) := ⟨_, _, own_add2 R_0 h_na (own_b0 l_na) (own_b1 l_na), A_o0_23, A_o1_23⟩
    show Goes p.tables e below (T24.setTop (mkF m 74 #[.val (.int pn),.val (.int pp),.val (.int pq),.val (.int px),.val (.int pl),.val (.int ph),.val (.int x1),.val (.int x2),.val (.int x3),.val (.int x4),.val (.int x5),.val (.int x6),.val (.ref b22),.unset,.unset,.unset] [])) _
    refine Goes.by (fun _ k => XS.aload X24.here hx rfl (hb hby at_74) rfl rfl k) ?_
    show Goes p.tables e below (T24.setTop (mkF m 76 #[.val (.int pn),.val (.int pp),.val (.int pq),.val (.int px),.val (.int pl),.val (.int ph),.val (.int x1),.val (.int x2),.val (.int x3),.val (.int x4),.val (.int x5),.val (.int x6),.val (.ref b22),.unset,.unset,.unset] [(.ref b22)])) _
    refine Goes.by (fun _ k => XS.iload X24.here hx rfl (hb hby at_76) rfl k) ?_
    show Goes p.tables e below (T24.setTop (mkF m 78 #[.val (.int pn),.val (.int pp),.val (.int pq),.val (.int px),.val (.int pl),.val (.int ph),.val (.int x1),.val (.int x2),.val (.int x3),.val (.int x4),.val (.int x5),.val (.int x6),.val (.ref b22),.unset,.unset,.unset] [(.int x5), (.ref b22)])) _
    refine Goes.by (fun _ k => XS.iload X24.here hx rfl (hb hby at_78) rfl k) ?_
    show Goes p.tables e below (T24.setTop (mkF m 80 #[.val (.int pn),.val (.int pp),.val (.int pq),.val (.int px),.val (.int pl),.val (.int ph),.val (.int x1),.val (.int x2),.val (.int x3),.val (.int x4),.val (.int x5),.val (.int x6),.val (.ref b22),.unset,.unset,.unset] [(.int x6), (.int x5), (.ref b22)])) _
    obtain ⟨cq25, kq25, q25a, q25b, q25c⟩ := isOf hZ rfl E_b22
    obtain ⟨_, _, ⟨T25, L25, k25, n25⟩, -, X25, ⟨Lc25, hQ25, l25, y25, z25⟩, st25⟩ := X24.virtualBack hx (y := (⟨"com/example/xml_graph_join/xmlgraphjoin/topo/BitLevels", "anyIn", "(II)Z"⟩ : MethodName)) (z := (⟨"com/example/xml_graph_join/xmlgraphjoin/topo/BitLevels", "anyIn", "(II)Z"⟩ : MethodName)) hown (mvT hZ (hw _ (List.mem_of_getElem? (i := 21) rfl))) (mvT hZ (hw _ (List.mem_of_getElem? (i := 22) rfl))) (notFace_of_selects (args := #[]) (mvT hZ (hw _ (List.mem_of_getElem? (i := 24) rfl)))) (mvT hZ (hw _ (List.mem_of_getElem? (i := 24) rfl))) (mvT hZ (hw _ (List.mem_of_getElem? (i := 23) rfl))) (by decide) (backOf (W := 0) (rm4d2 l Z a0 hw [] b22 x5 x6 ol_23 o0_23 o1_23 gx_24 gy_24 (nb / 64 + 1) ((nb / 64 + 1) / 64 + 1) nl nh T24.heap n0 Zs24 F_b22_levels A_ol_23 A_o0_23 A_o1_23 (h_nl) (h_nh) (own_b0 l_nl) (own_b0 l_nh) (own_x _)) hZ (hw _ (List.mem_of_getElem? (i := 25) rfl)) (hw _ (List.mem_of_getElem? (i := 3) rfl)) (by decide) (by decide)) q25a q25c (g := (mkF m 80 #[.val (.int pn),.val (.int pp),.val (.int pq),.val (.int px),.val (.int pl),.val (.int ph),.val (.int x1),.val (.int x2),.val (.int x3),.val (.int x4),.val (.int x5),.val (.int x6),.val (.ref b22),.unset,.unset,.unset] [(.int x6), (.int x5), (.ref b22)])) rfl (by rw [hml]; rfl) (Steps.refl _) (argsL := [(.int x5), (.int x6)]) (rest := []) (lenOf pd_2 rfl) rfl (by show 2 * 0 + _ ≤ _; exact Nat.le_of_eq rfl) (hb hby at_80) (fun _ _ => ⟨rfl, rfl, (by decide : 4 + 0 ≤ _), (by decide : 68 + 0 ≤ _)⟩)
    dsimp only [Pt.U, Pt.locs, Pt.cells, Pt.slots] at X25 l25 y25 z25 st25 hQ25
    rw [l25, y25, z25] at X25
    obtain ⟨rfl, N25q, e25⟩ := hQ25
    have N25 := Fr.app N24 N25q
    refine Goes.via st25 ?_
    show Goes p.tables e below (T25.setTop (mkF m 83 #[.val (.int pn),.val (.int pp),.val (.int pq),.val (.int px),.val (.int pl),.val (.int ph),.val (.int x1),.val (.int x2),.val (.int x3),.val (.int x4),.val (.int x5),.val (.int x6),.val (.ref b22),.unset,.unset,.unset] [(.int (fn4d2 x5 x6 gx_24 gy_24 (nb / 64 + 1) ((nb / 64 + 1) / 64 + 1) nl nh))])) _
    refine Goes.by (fun _ k => XS.iload X25.here hx rfl (hb hby at_83) rfl k) ?_
    show Goes p.tables e below (T25.setTop (mkF m 85 #[.val (.int pn),.val (.int pp),.val (.int pq),.val (.int px),.val (.int pl),.val (.int ph),.val (.int x1),.val (.int x2),.val (.int x3),.val (.int x4),.val (.int x5),.val (.int x6),.val (.ref b22),.unset,.unset,.unset] [(.int x5), (.int (fn4d2 x5 x6 gx_24 gy_24 (nb / 64 + 1) ((nb / 64 + 1) / 64 + 1) nl nh))])) _
    refine Goes.by (fun _ k => XS.iload X25.here hx rfl (hb hby at_85) rfl k) ?_
    show Goes p.tables e below (T25.setTop (mkF m 87 #[.val (.int pn),.val (.int pp),.val (.int pq),.val (.int px),.val (.int pl),.val (.int ph),.val (.int x1),.val (.int x2),.val (.int x3),.val (.int x4),.val (.int x5),.val (.int x6),.val (.ref b22),.unset,.unset,.unset] [(.int x6), (.int x5), (.int (fn4d2 x5 x6 gx_24 gy_24 (nb / 64 + 1) ((nb / 64 + 1) / 64 + 1) nl nh))])) _
    refine Goes.by (fun _ k => XS.iload X25.here hx rfl (hb hby at_87) rfl k) ?_
    show Goes p.tables e below (T25.setTop (mkF m 89 #[.val (.int pn),.val (.int pp),.val (.int pq),.val (.int px),.val (.int pl),.val (.int ph),.val (.int x1),.val (.int x2),.val (.int x3),.val (.int x4),.val (.int x5),.val (.int x6),.val (.ref b22),.unset,.unset,.unset] [(.int x2), (.int x6), (.int x5), (.int (fn4d2 x5 x6 gx_24 gy_24 (nb / 64 + 1) ((nb / 64 + 1) / 64 + 1) nl nh))])) _
    obtain ⟨_, _, ⟨T26, L26, k26, n26⟩, -, X26, ⟨Lc26, hQ26, l26, y26, z26⟩, st26⟩ := Jvm.LawKit.callS X25 hx (y := (⟨"com/example/xml_graph_join/xmlgraphjoin/topo/BitLevelsAddPinLaw", "in", "(III)Z"⟩ : MethodName)) hown (mvT hZ (hw _ (List.mem_of_getElem? (i := 33) rfl))) (mvT hZ (hw _ (List.mem_of_getElem? (i := 34) rfl))) (mvT hZ (hw _ (List.mem_of_getElem? (i := 35) rfl))) (mvT hZ (hw _ (List.mem_of_getElem? (i := 36) rfl))) (by decide) (backOf (W := 1) (rm7 l Z a0 hw [] x5 x6 x2 T24.heap n0 Zs24) hZ (hw _ (List.mem_of_getElem? (i := 36) rfl)) (hw _ (List.mem_of_getElem? (i := 35) rfl)) (by decide) (by decide)) (g := (mkF m 89 #[.val (.int pn),.val (.int pp),.val (.int pq),.val (.int px),.val (.int pl),.val (.int ph),.val (.int x1),.val (.int x2),.val (.int x3),.val (.int x4),.val (.int x5),.val (.int x6),.val (.ref b22),.unset,.unset,.unset] [(.int x2), (.int x6), (.int x5), (.int (fn4d2 x5 x6 gx_24 gy_24 (nb / 64 + 1) ((nb / 64 + 1) / 64 + 1) nl nh))])) rfl (by rw [hml]; rfl) (argsL := [(.int x5), (.int x6), (.int x2)]) (rest := [(.int (fn4d2 x5 x6 gx_24 gy_24 (nb / 64 + 1) ((nb / 64 + 1) / 64 + 1) nl nh))]) (lenOf pd_3 rfl) rfl (by show 2 * 0 + (1 + 0) ≤ _; decide) (hb hby at_89) (fun _ _ => ⟨rfl, e25, (by decide : 4 + 0 ≤ _), (by decide : 68 + 0 ≤ _)⟩)
    dsimp only [Pt.U, Pt.locs, Pt.cells, Pt.slots] at X26 l26 y26 z26 st26 hQ26
    rw [l26, y26, z26] at X26
    obtain ⟨rfl, N26q, e26⟩ := hQ26
    have N26 := Fr.app N25 N26q
    refine Goes.by st26 ?_
    show Goes p.tables e below (T26.setTop (mkF m 92 #[.val (.int pn),.val (.int pp),.val (.int pq),.val (.int px),.val (.int pl),.val (.int ph),.val (.int x1),.val (.int x2),.val (.int x3),.val (.int x4),.val (.int x5),.val (.int x6),.val (.ref b22),.unset,.unset,.unset] [(.int (fn7 x5 x6 x2)), (.int (fn4d2 x5 x6 gx_24 gy_24 (nb / 64 + 1) ((nb / 64 + 1) / 64 + 1) nl nh))])) _
    refine Goes.by (fun _ k => XS.icmpNo X26.here hx rfl (hb hby at_92) rfl (teq (own_eq01 (own_any2b _ _ _ _ _ _ _ _) (own_in01 _ _ _) ((own_any2 R_24 hD.2 (own_x _) h_nl h_nh (own_b0 l_nl) (own_b0 l_nh)).trans ((own_has1 _ _ _).trans (own_in h_nl h_nh h_na).symm)) : (fn4d2 x5 x6 gx_24 gy_24 (nb / 64 + 1) ((nb / 64 + 1) / 64 + 1) nl nh) = (fn7 x5 x6 x2))).2 k) ?_
    show Goes p.tables e below (T26.setTop (mkF m 95 #[.val (.int pn),.val (.int pp),.val (.int pq),.val (.int px),.val (.int pl),.val (.int ph),.val (.int x1),.val (.int x2),.val (.int x3),.val (.int x4),.val (.int x5),.val (.int x6),.val (.ref b22),.unset,.unset,.unset] [])) _
    refine Goes.by (fun _ k => XS.iconst X26.here hx rfl (hb hby at_95) k) ?_
    show Goes p.tables e below (T26.setTop (mkF m 96 #[.val (.int pn),.val (.int pp),.val (.int pq),.val (.int px),.val (.int pl),.val (.int ph),.val (.int x1),.val (.int x2),.val (.int x3),.val (.int x4),.val (.int x5),.val (.int x6),.val (.ref b22),.unset,.unset,.unset] [(.int (1:Int32))])) _
    refine Goes.by (fun _ k => XS.goto X26.here hx rfl (pc0 := 96) (pc' := 100) rfl (hb hby at_96) (by decide) (by decide) k) ?_
    show Goes p.tables e below (T26.setTop (mkF m 100 #[.val (.int pn),.val (.int pp),.val (.int pq),.val (.int px),.val (.int pl),.val (.int ph),.val (.int x1),.val (.int x2),.val (.int x3),.val (.int x4),.val (.int x5),.val (.int x6),.val (.ref b22),.unset,.unset,.unset] [(.int (1:Int32))])) _
    refine Goes.by (fun _ k => XS.istore X26.here hx rfl (hb hby at_100) rfl (l' := #[.val (.int pn),.val (.int pp),.val (.int pq),.val (.int px),.val (.int pl),.val (.int ph),.val (.int x1),.val (.int x2),.val (.int x3),.val (.int x4),.val (.int x5),.val (.int x6),.val (.ref b22),.val (.int (1:Int32)),.unset,.unset]) rfl k) ?_
    show Goes p.tables e below (T26.setTop (mkF m 102 #[.val (.int pn),.val (.int pp),.val (.int pq),.val (.int px),.val (.int pl),.val (.int ph),.val (.int x1),.val (.int x2),.val (.int x3),.val (.int x4),.val (.int x5),.val (.int x6),.val (.ref b22),.val (.int (1:Int32)),.unset,.unset] [])) _
    refine Goes.by (fun _ k => XS.aload X26.here hx rfl (hb hby at_102) rfl rfl k) ?_
    show Goes p.tables e below (T26.setTop (mkF m 104 #[.val (.int pn),.val (.int pp),.val (.int pq),.val (.int px),.val (.int pl),.val (.int ph),.val (.int x1),.val (.int x2),.val (.int x3),.val (.int x4),.val (.int x5),.val (.int x6),.val (.ref b22),.val (.int (1:Int32)),.unset,.unset] [(.ref b22)])) _
    refine Goes.by (fun _ k => XS.iload X26.here hx rfl (hb hby at_104) rfl k) ?_
    show Goes p.tables e below (T26.setTop (mkF m 106 #[.val (.int pn),.val (.int pp),.val (.int pq),.val (.int px),.val (.int pl),.val (.int ph),.val (.int x1),.val (.int x2),.val (.int x3),.val (.int x4),.val (.int x5),.val (.int x6),.val (.ref b22),.val (.int (1:Int32)),.unset,.unset] [(.int x3), (.ref b22)])) _
    obtain ⟨cq27, kq27, q27a, q27b, q27c⟩ := isOf hZ e26 E_b22
    obtain ⟨_, _, ⟨T27, L27, k27, n27⟩, -, X27, ⟨Lc27, hQ27, l27, y27, z27⟩, st27⟩ := X26.virtualBack hx (y := (⟨"com/example/xml_graph_join/xmlgraphjoin/topo/BitLevels", "add", "(I)V"⟩ : MethodName)) (z := (⟨"com/example/xml_graph_join/xmlgraphjoin/topo/BitLevels", "add", "(I)V"⟩ : MethodName)) hown (mvT hZ (hw _ (List.mem_of_getElem? (i := 16) rfl))) (mvT hZ (hw _ (List.mem_of_getElem? (i := 17) rfl))) (notFace_of_selects (args := #[]) (mvT hZ (hw _ (List.mem_of_getElem? (i := 19) rfl)))) (mvT hZ (hw _ (List.mem_of_getElem? (i := 19) rfl))) (mvT hZ (hw _ (List.mem_of_getElem? (i := 18) rfl))) (by decide) (backOf (W := 0) (rm3d2 l Z a0 hw [] b22 x3 ol_23 o0_23 o1_23 gx_24 gy_24 (nb / 64 + 1) ((nb / 64 + 1) / 64 + 1) nq T24.heap n0 Zs24 F_b22_levels A_ol_23 A_o0_23 A_o1_23 (h_nq) (own_b0 l_nq) (own_b1 l_nq) ne_b22_o0_23 ne_b22_o1_23 ne_ol_23_o0_23 ne_ol_23_o1_23 ne_o0_23_o1_23 g_o0_23 g_o1_23) hZ (hw _ (List.mem_of_getElem? (i := 20) rfl)) (hw _ (List.mem_of_getElem? (i := 3) rfl)) (by decide) (by decide)) q27a q27c (g := (mkF m 106 #[.val (.int pn),.val (.int pp),.val (.int pq),.val (.int px),.val (.int pl),.val (.int ph),.val (.int x1),.val (.int x2),.val (.int x3),.val (.int x4),.val (.int x5),.val (.int x6),.val (.ref b22),.val (.int (1:Int32)),.unset,.unset] [(.int x3), (.ref b22)])) rfl (by rw [hml]; rfl) (Steps.refl _) (argsL := [(.int x3)]) (rest := []) (lenOf pd_1 rfl) rfl (by show 2 * 0 + _ ≤ _; exact Nat.le_of_eq rfl) (hb hby at_106) (fun _ _ => ⟨rfl, e26, (by decide : 4 + 0 ≤ _), (by decide : 68 + 0 ≤ _)⟩)
    dsimp only [Pt.U, Pt.locs, Pt.cells, Pt.slots] at X27 l27 y27 z27 st27 hQ27
    rw [l27, y27, z27] at X27
    obtain ⟨rfl, N27q, Kq27, po27_0, po27_1, po27_2, po27_3⟩ := hQ27
    have N27 := Fr.app N26 N27q
    refine Goes.via st27 ?_
    have Zs27 : n0 ≤ T27.heap.size := Nat.le_trans Zs24 Kq27.1
    have K27 : Keep h0 T27.heap [] := K24.trans Kq27 (allS (Or.inr sz_o0_23) (allS (Or.inr sz_o1_23) all0))
    have E_b22 : Exa Z T27.heap b22 "com/example/xml_graph_join/xmlgraphjoin/topo/BitLevels" := E_b22.keep Kq27
    have F_b22_levels : Fld Z T27.heap b22 "com/example/xml_graph_join/xmlgraphjoin/topo/BitLevels" "levels" "[[J" (.ref ol_23) := F_b22_levels.keep Kq27 (ninS ne_b22_o0_23 (ninS ne_b22_o1_23 nin0))
    have A_ol_23 : Ar Z T27.heap ol_23 (.array .long) 2 (up (up (fun _ => .null) 0 (.ref o0_23)) 1 (.ref o1_23)) := A_ol_23.keep Kq27 (ninS ne_ol_23_o0_23 (ninS ne_ol_23_o1_23 nin0))
    have F_b22_levels : Fld Z T27.heap b22 "com/example/xml_graph_join/xmlgraphjoin/topo/BitLevels" "levels" "[[J" (.ref ol_23) := po27_0
    have A_ol_23 : Ar Z T27.heap ol_23 (.array .long) 2 (up (up (fun _ => .null) 0 (.ref o0_23)) 1 (.ref o1_23)) := po27_1
    have A_o0_23 : AJ Z T27.heap o0_23 (nb / 64 + 1) (up gx_24 (nq / 64) (((gx_24 (nq / 64))) ||| (oneB x3))) := po27_2
    have A_o1_23 : AJ Z T27.heap o1_23 ((nb / 64 + 1) / 64 + 1) (if (gx_24 (nq / 64)) = (0:Int64) then (up gy_24 (nq / 64 / 64) (((gy_24 (nq / 64 / 64))) ||| (oneB ((x3.toUInt32>>>((6:Int32)&&&31).toUInt32).toInt32)))) else gy_24) := po27_3
    obtain ⟨gx_27, gy_27, R_27, A_o0_23, A_o1_23⟩ : ∃ gx_27 gy_27 : Nat → Int64, R2 (Add (Add own_n0 na) nq) (nb / 64 + 1) ((nb / 64 + 1) / 64 + 1) gx_27 gy_27 ∧ (AJ Z T27.heap o0_23 (nb / 64 + 1) gx_27) ∧ (AJ Z T27.heap o1_23 ((nb / 64 + 1) / 64 + 1) gy_27) := ⟨_, _, own_add2 R_24 h_nq (own_b0 l_nq) (own_b1 l_nq), A_o0_23, A_o1_23⟩
    show Goes p.tables e below (T27.setTop (mkF m 109 #[.val (.int pn),.val (.int pp),.val (.int pq),.val (.int px),.val (.int pl),.val (.int ph),.val (.int x1),.val (.int x2),.val (.int x3),.val (.int x4),.val (.int x5),.val (.int x6),.val (.ref b22),.val (.int (1:Int32)),.unset,.unset] [])) _
    refine Goes.by (fun _ k => XS.aload X27.here hx rfl (hb hby at_109) rfl rfl k) ?_
    show Goes p.tables e below (T27.setTop (mkF m 111 #[.val (.int pn),.val (.int pp),.val (.int pq),.val (.int px),.val (.int pl),.val (.int ph),.val (.int x1),.val (.int x2),.val (.int x3),.val (.int x4),.val (.int x5),.val (.int x6),.val (.ref b22),.val (.int (1:Int32)),.unset,.unset] [(.ref b22)])) _
    refine Goes.by (fun _ k => XS.iload X27.here hx rfl (hb hby at_111) rfl k) ?_
    show Goes p.tables e below (T27.setTop (mkF m 113 #[.val (.int pn),.val (.int pp),.val (.int pq),.val (.int px),.val (.int pl),.val (.int ph),.val (.int x1),.val (.int x2),.val (.int x3),.val (.int x4),.val (.int x5),.val (.int x6),.val (.ref b22),.val (.int (1:Int32)),.unset,.unset] [(.int x4), (.ref b22)])) _
    obtain ⟨cq28, kq28, q28a, q28b, q28c⟩ := isOf hZ rfl E_b22
    obtain ⟨_, _, ⟨T28, L28, k28, n28⟩, -, X28, ⟨Lc28, hQ28, l28, y28, z28⟩, st28⟩ := X27.virtualBack hx (y := (⟨"com/example/xml_graph_join/xmlgraphjoin/topo/BitLevels", "contains", "(I)Z"⟩ : MethodName)) (z := (⟨"com/example/xml_graph_join/xmlgraphjoin/topo/BitLevels", "contains", "(I)Z"⟩ : MethodName)) hown (mvT hZ (hw _ (List.mem_of_getElem? (i := 37) rfl))) (mvT hZ (hw _ (List.mem_of_getElem? (i := 38) rfl))) (notFace_of_selects (args := #[]) (mvT hZ (hw _ (List.mem_of_getElem? (i := 40) rfl)))) (mvT hZ (hw _ (List.mem_of_getElem? (i := 40) rfl))) (mvT hZ (hw _ (List.mem_of_getElem? (i := 39) rfl))) (by decide) (backOf (W := 0) (rm8d2 l Z a0 hw [] b22 x4 ol_23 o0_23 o1_23 gx_27 gy_27 (nb / 64 + 1) ((nb / 64 + 1) / 64 + 1) ny T27.heap n0 Zs27 F_b22_levels A_ol_23 A_o0_23 A_o1_23 (h_ny) (own_b0 l_ny)) hZ (hw _ (List.mem_of_getElem? (i := 41) rfl)) (hw _ (List.mem_of_getElem? (i := 3) rfl)) (by decide) (by decide)) q28a q28c (g := (mkF m 113 #[.val (.int pn),.val (.int pp),.val (.int pq),.val (.int px),.val (.int pl),.val (.int ph),.val (.int x1),.val (.int x2),.val (.int x3),.val (.int x4),.val (.int x5),.val (.int x6),.val (.ref b22),.val (.int (1:Int32)),.unset,.unset] [(.int x4), (.ref b22)])) rfl (by rw [hml]; rfl) (Steps.refl _) (argsL := [(.int x4)]) (rest := []) (lenOf pd_4 rfl) rfl (by show 2 * 0 + _ ≤ _; exact Nat.le_of_eq rfl) (hb hby at_113) (fun _ _ => ⟨rfl, rfl, (by decide : 4 + 0 ≤ _), (by decide : 68 + 0 ≤ _)⟩)
    dsimp only [Pt.U, Pt.locs, Pt.cells, Pt.slots] at X28 l28 y28 z28 st28 hQ28
    rw [l28, y28, z28] at X28
    obtain ⟨rfl, N28q, e28⟩ := hQ28
    have N28 := Fr.app N27 N28q
    refine Goes.via st28 ?_
    show Goes p.tables e below (T28.setTop (mkF m 116 #[.val (.int pn),.val (.int pp),.val (.int pq),.val (.int px),.val (.int pl),.val (.int ph),.val (.int x1),.val (.int x2),.val (.int x3),.val (.int x4),.val (.int x5),.val (.int x6),.val (.ref b22),.val (.int (1:Int32)),.unset,.unset] [(.int (fn8d2 x4 gx_27 gy_27 (nb / 64 + 1) ((nb / 64 + 1) / 64 + 1) ny))])) _
    refine Goes.by (fun _ k => XS.iload X28.here hx rfl (hb hby at_116) rfl k) ?_
    show Goes p.tables e below (T28.setTop (mkF m 118 #[.val (.int pn),.val (.int pp),.val (.int pq),.val (.int px),.val (.int pl),.val (.int ph),.val (.int x1),.val (.int x2),.val (.int x3),.val (.int x4),.val (.int x5),.val (.int x6),.val (.ref b22),.val (.int (1:Int32)),.unset,.unset] [(.int x4), (.int (fn8d2 x4 gx_27 gy_27 (nb / 64 + 1) ((nb / 64 + 1) / 64 + 1) ny))])) _
    refine Goes.by (fun _ k => XS.iload X28.here hx rfl (hb hby at_118) rfl k) ?_
    show Goes p.tables e below (T28.setTop (mkF m 120 #[.val (.int pn),.val (.int pp),.val (.int pq),.val (.int px),.val (.int pl),.val (.int ph),.val (.int x1),.val (.int x2),.val (.int x3),.val (.int x4),.val (.int x5),.val (.int x6),.val (.ref b22),.val (.int (1:Int32)),.unset,.unset] [(.int x2), (.int x4), (.int (fn8d2 x4 gx_27 gy_27 (nb / 64 + 1) ((nb / 64 + 1) / 64 + 1) ny))])) _
    obtain ⟨v29, hv29⟩ : ∃ z : Int32, z = (if x4 = x2 then (1:Int32) else (if x4 = x3 then (1:Int32) else (0:Int32))) := ⟨_, rfl⟩
    refine Goes.by (t' := T28.setTop (mkF m 135 #[.val (.int pn),.val (.int pp),.val (.int pq),.val (.int px),.val (.int pl),.val (.int ph),.val (.int x1),.val (.int x2),.val (.int x3),.val (.int x4),.val (.int x5),.val (.int x6),.val (.ref b22),.val (.int (1:Int32)),.unset,.unset] [(.int v29), (.int (fn8d2 x4 gx_27 gy_27 (nb / 64 + 1) ((nb / 64 + 1) / 64 + 1) ny))])) (fun u k => ?_) ?_
    · show Steps p.tables e below (T28.setTop (mkF m 120 #[.val (.int pn),.val (.int pp),.val (.int pq),.val (.int px),.val (.int pl),.val (.int ph),.val (.int x1),.val (.int x2),.val (.int x3),.val (.int x4),.val (.int x5),.val (.int x6),.val (.ref b22),.val (.int (1:Int32)),.unset,.unset] [(.int x2), (.int x4), (.int (fn8d2 x4 gx_27 gy_27 (nb / 64 + 1) ((nb / 64 + 1) / 64 + 1) ny))])) _
      by_cases hc30 : x4 = x2
      · refine XS.icmpYes X28.here hx rfl (pc0 := 120) (pc' := 130) rfl (hb hby at_120) rfl (teq hc30).1 (by decide) (by decide) ?_
        show Steps p.tables e below (T28.setTop (mkF m 130 #[.val (.int pn),.val (.int pp),.val (.int pq),.val (.int px),.val (.int pl),.val (.int ph),.val (.int x1),.val (.int x2),.val (.int x3),.val (.int x4),.val (.int x5),.val (.int x6),.val (.ref b22),.val (.int (1:Int32)),.unset,.unset] [(.int (fn8d2 x4 gx_27 gy_27 (nb / 64 + 1) ((nb / 64 + 1) / 64 + 1) ny))])) _
        refine XS.iconst X28.here hx rfl (hb hby at_130) ?_
        show Steps p.tables e below (T28.setTop (mkF m 131 #[.val (.int pn),.val (.int pp),.val (.int pq),.val (.int px),.val (.int pl),.val (.int ph),.val (.int x1),.val (.int x2),.val (.int x3),.val (.int x4),.val (.int x5),.val (.int x6),.val (.ref b22),.val (.int (1:Int32)),.unset,.unset] [(.int (1:Int32)), (.int (fn8d2 x4 gx_27 gy_27 (nb / 64 + 1) ((nb / 64 + 1) / 64 + 1) ny))])) _
        refine XS.goto X28.here hx rfl (pc0 := 131) (pc' := 135) rfl (hb hby at_131) (by decide) (by decide) ?_
        show Steps p.tables e below (T28.setTop (mkF m 135 #[.val (.int pn),.val (.int pp),.val (.int pq),.val (.int px),.val (.int pl),.val (.int ph),.val (.int x1),.val (.int x2),.val (.int x3),.val (.int x4),.val (.int x5),.val (.int x6),.val (.ref b22),.val (.int (1:Int32)),.unset,.unset] [(.int (1:Int32)), (.int (fn8d2 x4 gx_27 gy_27 (nb / 64 + 1) ((nb / 64 + 1) / 64 + 1) ny))])) _
        have qv29 : v29 = (1:Int32) := by rw [hv29, if_pos hc30]
        subst qv29
        exact k
      · refine XS.icmpNo X28.here hx rfl (hb hby at_120) rfl (feq hc30).1 ?_
        show Steps p.tables e below (T28.setTop (mkF m 123 #[.val (.int pn),.val (.int pp),.val (.int pq),.val (.int px),.val (.int pl),.val (.int ph),.val (.int x1),.val (.int x2),.val (.int x3),.val (.int x4),.val (.int x5),.val (.int x6),.val (.ref b22),.val (.int (1:Int32)),.unset,.unset] [(.int (fn8d2 x4 gx_27 gy_27 (nb / 64 + 1) ((nb / 64 + 1) / 64 + 1) ny))])) _
        refine XS.iload X28.here hx rfl (hb hby at_123) rfl ?_
        show Steps p.tables e below (T28.setTop (mkF m 125 #[.val (.int pn),.val (.int pp),.val (.int pq),.val (.int px),.val (.int pl),.val (.int ph),.val (.int x1),.val (.int x2),.val (.int x3),.val (.int x4),.val (.int x5),.val (.int x6),.val (.ref b22),.val (.int (1:Int32)),.unset,.unset] [(.int x4), (.int (fn8d2 x4 gx_27 gy_27 (nb / 64 + 1) ((nb / 64 + 1) / 64 + 1) ny))])) _
        refine XS.iload X28.here hx rfl (hb hby at_125) rfl ?_
        show Steps p.tables e below (T28.setTop (mkF m 127 #[.val (.int pn),.val (.int pp),.val (.int pq),.val (.int px),.val (.int pl),.val (.int ph),.val (.int x1),.val (.int x2),.val (.int x3),.val (.int x4),.val (.int x5),.val (.int x6),.val (.ref b22),.val (.int (1:Int32)),.unset,.unset] [(.int x3), (.int x4), (.int (fn8d2 x4 gx_27 gy_27 (nb / 64 + 1) ((nb / 64 + 1) / 64 + 1) ny))])) _
        by_cases hc31 : x4 = x3
        · refine XS.icmpNo X28.here hx rfl (hb hby at_127) rfl (teq hc31).2 ?_
          show Steps p.tables e below (T28.setTop (mkF m 130 #[.val (.int pn),.val (.int pp),.val (.int pq),.val (.int px),.val (.int pl),.val (.int ph),.val (.int x1),.val (.int x2),.val (.int x3),.val (.int x4),.val (.int x5),.val (.int x6),.val (.ref b22),.val (.int (1:Int32)),.unset,.unset] [(.int (fn8d2 x4 gx_27 gy_27 (nb / 64 + 1) ((nb / 64 + 1) / 64 + 1) ny))])) _
          refine XS.iconst X28.here hx rfl (hb hby at_130) ?_
          show Steps p.tables e below (T28.setTop (mkF m 131 #[.val (.int pn),.val (.int pp),.val (.int pq),.val (.int px),.val (.int pl),.val (.int ph),.val (.int x1),.val (.int x2),.val (.int x3),.val (.int x4),.val (.int x5),.val (.int x6),.val (.ref b22),.val (.int (1:Int32)),.unset,.unset] [(.int (1:Int32)), (.int (fn8d2 x4 gx_27 gy_27 (nb / 64 + 1) ((nb / 64 + 1) / 64 + 1) ny))])) _
          refine XS.goto X28.here hx rfl (pc0 := 131) (pc' := 135) rfl (hb hby at_131) (by decide) (by decide) ?_
          show Steps p.tables e below (T28.setTop (mkF m 135 #[.val (.int pn),.val (.int pp),.val (.int pq),.val (.int px),.val (.int pl),.val (.int ph),.val (.int x1),.val (.int x2),.val (.int x3),.val (.int x4),.val (.int x5),.val (.int x6),.val (.ref b22),.val (.int (1:Int32)),.unset,.unset] [(.int (1:Int32)), (.int (fn8d2 x4 gx_27 gy_27 (nb / 64 + 1) ((nb / 64 + 1) / 64 + 1) ny))])) _
          have qv29 : v29 = (1:Int32) := by rw [hv29, if_neg hc30, if_pos hc31]
          subst qv29
          exact k
        · refine XS.icmpYes X28.here hx rfl (pc0 := 127) (pc' := 134) rfl (hb hby at_127) rfl (feq hc31).2 (by decide) (by decide) ?_
          show Steps p.tables e below (T28.setTop (mkF m 134 #[.val (.int pn),.val (.int pp),.val (.int pq),.val (.int px),.val (.int pl),.val (.int ph),.val (.int x1),.val (.int x2),.val (.int x3),.val (.int x4),.val (.int x5),.val (.int x6),.val (.ref b22),.val (.int (1:Int32)),.unset,.unset] [(.int (fn8d2 x4 gx_27 gy_27 (nb / 64 + 1) ((nb / 64 + 1) / 64 + 1) ny))])) _
          refine XS.iconst X28.here hx rfl (hb hby at_134) ?_
          show Steps p.tables e below (T28.setTop (mkF m 135 #[.val (.int pn),.val (.int pp),.val (.int pq),.val (.int px),.val (.int pl),.val (.int ph),.val (.int x1),.val (.int x2),.val (.int x3),.val (.int x4),.val (.int x5),.val (.int x6),.val (.ref b22),.val (.int (1:Int32)),.unset,.unset] [(.int (0:Int32)), (.int (fn8d2 x4 gx_27 gy_27 (nb / 64 + 1) ((nb / 64 + 1) / 64 + 1) ny))])) _
          have qv29 : v29 = (0:Int32) := by rw [hv29, if_neg hc30, if_neg hc31]
          subst qv29
          exact k
    show Goes p.tables e below (T28.setTop (mkF m 135 #[.val (.int pn),.val (.int pp),.val (.int pq),.val (.int px),.val (.int pl),.val (.int ph),.val (.int x1),.val (.int x2),.val (.int x3),.val (.int x4),.val (.int x5),.val (.int x6),.val (.ref b22),.val (.int (1:Int32)),.unset,.unset] [(.int v29), (.int (fn8d2 x4 gx_27 gy_27 (nb / 64 + 1) ((nb / 64 + 1) / 64 + 1) ny))])) _
    refine Goes.by (fun _ k => XS.icmpNo X28.here hx rfl (hb hby at_135) rfl (teq (by rw [hv29]; exact own_con R_27.1 h_na h_nq h_ny (own_b0 l_ny) : (fn8d2 x4 gx_27 gy_27 (nb / 64 + 1) ((nb / 64 + 1) / 64 + 1) ny) = v29)).2 k) ?_
    show Goes p.tables e below (T28.setTop (mkF m 138 #[.val (.int pn),.val (.int pp),.val (.int pq),.val (.int px),.val (.int pl),.val (.int ph),.val (.int x1),.val (.int x2),.val (.int x3),.val (.int x4),.val (.int x5),.val (.int x6),.val (.ref b22),.val (.int (1:Int32)),.unset,.unset] [])) _
    refine Goes.by (fun _ k => XS.iconst X28.here hx rfl (hb hby at_138) k) ?_
    show Goes p.tables e below (T28.setTop (mkF m 139 #[.val (.int pn),.val (.int pp),.val (.int pq),.val (.int px),.val (.int pl),.val (.int ph),.val (.int x1),.val (.int x2),.val (.int x3),.val (.int x4),.val (.int x5),.val (.int x6),.val (.ref b22),.val (.int (1:Int32)),.unset,.unset] [(.int (1:Int32))])) _
    refine Goes.by (fun _ k => XS.goto X28.here hx rfl (pc0 := 139) (pc' := 143) rfl (hb hby at_139) (by decide) (by decide) k) ?_
    show Goes p.tables e below (T28.setTop (mkF m 143 #[.val (.int pn),.val (.int pp),.val (.int pq),.val (.int px),.val (.int pl),.val (.int ph),.val (.int x1),.val (.int x2),.val (.int x3),.val (.int x4),.val (.int x5),.val (.int x6),.val (.ref b22),.val (.int (1:Int32)),.unset,.unset] [(.int (1:Int32))])) _
    refine Goes.by (fun _ k => XS.istore X28.here hx rfl (hb hby at_143) rfl (l' := #[.val (.int pn),.val (.int pp),.val (.int pq),.val (.int px),.val (.int pl),.val (.int ph),.val (.int x1),.val (.int x2),.val (.int x3),.val (.int x4),.val (.int x5),.val (.int x6),.val (.ref b22),.val (.int (1:Int32)),.val (.int (1:Int32)),.unset]) rfl k) ?_
    show Goes p.tables e below (T28.setTop (mkF m 145 #[.val (.int pn),.val (.int pp),.val (.int pq),.val (.int px),.val (.int pl),.val (.int ph),.val (.int x1),.val (.int x2),.val (.int x3),.val (.int x4),.val (.int x5),.val (.int x6),.val (.ref b22),.val (.int (1:Int32)),.val (.int (1:Int32)),.unset] [])) _
    refine Goes.by (fun _ k => XS.aload X28.here hx rfl (hb hby at_145) rfl rfl k) ?_
    show Goes p.tables e below (T28.setTop (mkF m 147 #[.val (.int pn),.val (.int pp),.val (.int pq),.val (.int px),.val (.int pl),.val (.int ph),.val (.int x1),.val (.int x2),.val (.int x3),.val (.int x4),.val (.int x5),.val (.int x6),.val (.ref b22),.val (.int (1:Int32)),.val (.int (1:Int32)),.unset] [(.ref b22)])) _
    refine Goes.by (fun _ k => XS.iload X28.here hx rfl (hb hby at_147) rfl k) ?_
    show Goes p.tables e below (T28.setTop (mkF m 149 #[.val (.int pn),.val (.int pp),.val (.int pq),.val (.int px),.val (.int pl),.val (.int ph),.val (.int x1),.val (.int x2),.val (.int x3),.val (.int x4),.val (.int x5),.val (.int x6),.val (.ref b22),.val (.int (1:Int32)),.val (.int (1:Int32)),.unset] [(.int x5), (.ref b22)])) _
    refine Goes.by (fun _ k => XS.iload X28.here hx rfl (hb hby at_149) rfl k) ?_
    show Goes p.tables e below (T28.setTop (mkF m 151 #[.val (.int pn),.val (.int pp),.val (.int pq),.val (.int px),.val (.int pl),.val (.int ph),.val (.int x1),.val (.int x2),.val (.int x3),.val (.int x4),.val (.int x5),.val (.int x6),.val (.ref b22),.val (.int (1:Int32)),.val (.int (1:Int32)),.unset] [(.int x6), (.int x5), (.ref b22)])) _
    obtain ⟨cq32, kq32, q32a, q32b, q32c⟩ := isOf hZ e28 E_b22
    obtain ⟨_, _, ⟨T32, L32, k32, n32⟩, -, X32, ⟨Lc32, hQ32, l32, y32, z32⟩, st32⟩ := X28.virtualBack hx (y := (⟨"com/example/xml_graph_join/xmlgraphjoin/topo/BitLevels", "anyIn", "(II)Z"⟩ : MethodName)) (z := (⟨"com/example/xml_graph_join/xmlgraphjoin/topo/BitLevels", "anyIn", "(II)Z"⟩ : MethodName)) hown (mvT hZ (hw _ (List.mem_of_getElem? (i := 21) rfl))) (mvT hZ (hw _ (List.mem_of_getElem? (i := 22) rfl))) (notFace_of_selects (args := #[]) (mvT hZ (hw _ (List.mem_of_getElem? (i := 24) rfl)))) (mvT hZ (hw _ (List.mem_of_getElem? (i := 24) rfl))) (mvT hZ (hw _ (List.mem_of_getElem? (i := 23) rfl))) (by decide) (backOf (W := 0) (rm4d2 l Z a0 hw [] b22 x5 x6 ol_23 o0_23 o1_23 gx_27 gy_27 (nb / 64 + 1) ((nb / 64 + 1) / 64 + 1) nl nh T27.heap n0 Zs27 F_b22_levels A_ol_23 A_o0_23 A_o1_23 (h_nl) (h_nh) (own_b0 l_nl) (own_b0 l_nh) (own_x _)) hZ (hw _ (List.mem_of_getElem? (i := 25) rfl)) (hw _ (List.mem_of_getElem? (i := 3) rfl)) (by decide) (by decide)) q32a q32c (g := (mkF m 151 #[.val (.int pn),.val (.int pp),.val (.int pq),.val (.int px),.val (.int pl),.val (.int ph),.val (.int x1),.val (.int x2),.val (.int x3),.val (.int x4),.val (.int x5),.val (.int x6),.val (.ref b22),.val (.int (1:Int32)),.val (.int (1:Int32)),.unset] [(.int x6), (.int x5), (.ref b22)])) rfl (by rw [hml]; rfl) (Steps.refl _) (argsL := [(.int x5), (.int x6)]) (rest := []) (lenOf pd_2 rfl) rfl (by show 2 * 0 + _ ≤ _; exact Nat.le_of_eq rfl) (hb hby at_151) (fun _ _ => ⟨rfl, e28, (by decide : 4 + 0 ≤ _), (by decide : 68 + 0 ≤ _)⟩)
    dsimp only [Pt.U, Pt.locs, Pt.cells, Pt.slots] at X32 l32 y32 z32 st32 hQ32
    rw [l32, y32, z32] at X32
    obtain ⟨rfl, N32q, e32⟩ := hQ32
    have N32 := Fr.app N28 N32q
    refine Goes.via st32 ?_
    show Goes p.tables e below (T32.setTop (mkF m 154 #[.val (.int pn),.val (.int pp),.val (.int pq),.val (.int px),.val (.int pl),.val (.int ph),.val (.int x1),.val (.int x2),.val (.int x3),.val (.int x4),.val (.int x5),.val (.int x6),.val (.ref b22),.val (.int (1:Int32)),.val (.int (1:Int32)),.unset] [(.int (fn4d2 x5 x6 gx_27 gy_27 (nb / 64 + 1) ((nb / 64 + 1) / 64 + 1) nl nh))])) _
    refine Goes.by (fun _ k => XS.iload X32.here hx rfl (hb hby at_154) rfl k) ?_
    show Goes p.tables e below (T32.setTop (mkF m 156 #[.val (.int pn),.val (.int pp),.val (.int pq),.val (.int px),.val (.int pl),.val (.int ph),.val (.int x1),.val (.int x2),.val (.int x3),.val (.int x4),.val (.int x5),.val (.int x6),.val (.ref b22),.val (.int (1:Int32)),.val (.int (1:Int32)),.unset] [(.int x5), (.int (fn4d2 x5 x6 gx_27 gy_27 (nb / 64 + 1) ((nb / 64 + 1) / 64 + 1) nl nh))])) _
    refine Goes.by (fun _ k => XS.iload X32.here hx rfl (hb hby at_156) rfl k) ?_
    show Goes p.tables e below (T32.setTop (mkF m 158 #[.val (.int pn),.val (.int pp),.val (.int pq),.val (.int px),.val (.int pl),.val (.int ph),.val (.int x1),.val (.int x2),.val (.int x3),.val (.int x4),.val (.int x5),.val (.int x6),.val (.ref b22),.val (.int (1:Int32)),.val (.int (1:Int32)),.unset] [(.int x6), (.int x5), (.int (fn4d2 x5 x6 gx_27 gy_27 (nb / 64 + 1) ((nb / 64 + 1) / 64 + 1) nl nh))])) _
    refine Goes.by (fun _ k => XS.iload X32.here hx rfl (hb hby at_158) rfl k) ?_
    show Goes p.tables e below (T32.setTop (mkF m 160 #[.val (.int pn),.val (.int pp),.val (.int pq),.val (.int px),.val (.int pl),.val (.int ph),.val (.int x1),.val (.int x2),.val (.int x3),.val (.int x4),.val (.int x5),.val (.int x6),.val (.ref b22),.val (.int (1:Int32)),.val (.int (1:Int32)),.unset] [(.int x2), (.int x6), (.int x5), (.int (fn4d2 x5 x6 gx_27 gy_27 (nb / 64 + 1) ((nb / 64 + 1) / 64 + 1) nl nh))])) _
    obtain ⟨_, _, ⟨T33, L33, k33, n33⟩, -, X33, ⟨Lc33, hQ33, l33, y33, z33⟩, st33⟩ := Jvm.LawKit.callS X32 hx (y := (⟨"com/example/xml_graph_join/xmlgraphjoin/topo/BitLevelsAddPinLaw", "in", "(III)Z"⟩ : MethodName)) hown (mvT hZ (hw _ (List.mem_of_getElem? (i := 33) rfl))) (mvT hZ (hw _ (List.mem_of_getElem? (i := 34) rfl))) (mvT hZ (hw _ (List.mem_of_getElem? (i := 35) rfl))) (mvT hZ (hw _ (List.mem_of_getElem? (i := 36) rfl))) (by decide) (backOf (W := 1) (rm7 l Z a0 hw [] x5 x6 x2 T27.heap n0 Zs27) hZ (hw _ (List.mem_of_getElem? (i := 36) rfl)) (hw _ (List.mem_of_getElem? (i := 35) rfl)) (by decide) (by decide)) (g := (mkF m 160 #[.val (.int pn),.val (.int pp),.val (.int pq),.val (.int px),.val (.int pl),.val (.int ph),.val (.int x1),.val (.int x2),.val (.int x3),.val (.int x4),.val (.int x5),.val (.int x6),.val (.ref b22),.val (.int (1:Int32)),.val (.int (1:Int32)),.unset] [(.int x2), (.int x6), (.int x5), (.int (fn4d2 x5 x6 gx_27 gy_27 (nb / 64 + 1) ((nb / 64 + 1) / 64 + 1) nl nh))])) rfl (by rw [hml]; rfl) (argsL := [(.int x5), (.int x6), (.int x2)]) (rest := [(.int (fn4d2 x5 x6 gx_27 gy_27 (nb / 64 + 1) ((nb / 64 + 1) / 64 + 1) nl nh))]) (lenOf pd_3 rfl) rfl (by show 2 * 0 + (1 + 0) ≤ _; decide) (hb hby at_160) (fun _ _ => ⟨rfl, e32, (by decide : 4 + 0 ≤ _), (by decide : 68 + 0 ≤ _)⟩)
    dsimp only [Pt.U, Pt.locs, Pt.cells, Pt.slots] at X33 l33 y33 z33 st33 hQ33
    rw [l33, y33, z33] at X33
    obtain ⟨rfl, N33q, e33⟩ := hQ33
    have N33 := Fr.app N32 N33q
    refine Goes.by st33 ?_
    show Goes p.tables e below (T33.setTop (mkF m 163 #[.val (.int pn),.val (.int pp),.val (.int pq),.val (.int px),.val (.int pl),.val (.int ph),.val (.int x1),.val (.int x2),.val (.int x3),.val (.int x4),.val (.int x5),.val (.int x6),.val (.ref b22),.val (.int (1:Int32)),.val (.int (1:Int32)),.unset] [(.int (fn7 x5 x6 x2)), (.int (fn4d2 x5 x6 gx_27 gy_27 (nb / 64 + 1) ((nb / 64 + 1) / 64 + 1) nl nh))])) _
    by_cases hc34 : (fn7 x5 x6 x2) = (0:Int32)
    · refine Goes.by (fun _ k => XS.ifNo X33.here hx rfl (hb hby at_163) rfl ((if0 _ _).trans (teq hc34).2) k) ?_
      show Goes p.tables e below (T33.setTop (mkF m 166 #[.val (.int pn),.val (.int pp),.val (.int pq),.val (.int px),.val (.int pl),.val (.int ph),.val (.int x1),.val (.int x2),.val (.int x3),.val (.int x4),.val (.int x5),.val (.int x6),.val (.ref b22),.val (.int (1:Int32)),.val (.int (1:Int32)),.unset] [(.int (fn4d2 x5 x6 gx_27 gy_27 (nb / 64 + 1) ((nb / 64 + 1) / 64 + 1) nl nh))])) _
      refine Goes.by (fun _ k => XS.iload X33.here hx rfl (hb hby at_166) rfl k) ?_
      show Goes p.tables e below (T33.setTop (mkF m 168 #[.val (.int pn),.val (.int pp),.val (.int pq),.val (.int px),.val (.int pl),.val (.int ph),.val (.int x1),.val (.int x2),.val (.int x3),.val (.int x4),.val (.int x5),.val (.int x6),.val (.ref b22),.val (.int (1:Int32)),.val (.int (1:Int32)),.unset] [(.int x5), (.int (fn4d2 x5 x6 gx_27 gy_27 (nb / 64 + 1) ((nb / 64 + 1) / 64 + 1) nl nh))])) _
      refine Goes.by (fun _ k => XS.iload X33.here hx rfl (hb hby at_168) rfl k) ?_
      show Goes p.tables e below (T33.setTop (mkF m 170 #[.val (.int pn),.val (.int pp),.val (.int pq),.val (.int px),.val (.int pl),.val (.int ph),.val (.int x1),.val (.int x2),.val (.int x3),.val (.int x4),.val (.int x5),.val (.int x6),.val (.ref b22),.val (.int (1:Int32)),.val (.int (1:Int32)),.unset] [(.int x6), (.int x5), (.int (fn4d2 x5 x6 gx_27 gy_27 (nb / 64 + 1) ((nb / 64 + 1) / 64 + 1) nl nh))])) _
      refine Goes.by (fun _ k => XS.iload X33.here hx rfl (hb hby at_170) rfl k) ?_
      show Goes p.tables e below (T33.setTop (mkF m 172 #[.val (.int pn),.val (.int pp),.val (.int pq),.val (.int px),.val (.int pl),.val (.int ph),.val (.int x1),.val (.int x2),.val (.int x3),.val (.int x4),.val (.int x5),.val (.int x6),.val (.ref b22),.val (.int (1:Int32)),.val (.int (1:Int32)),.unset] [(.int x3), (.int x6), (.int x5), (.int (fn4d2 x5 x6 gx_27 gy_27 (nb / 64 + 1) ((nb / 64 + 1) / 64 + 1) nl nh))])) _
      obtain ⟨_, _, ⟨T35, L35, k35, n35⟩, -, X35, ⟨Lc35, hQ35, l35, y35, z35⟩, st35⟩ := Jvm.LawKit.callS X33 hx (y := (⟨"com/example/xml_graph_join/xmlgraphjoin/topo/BitLevelsAddPinLaw", "in", "(III)Z"⟩ : MethodName)) hown (mvT hZ (hw _ (List.mem_of_getElem? (i := 33) rfl))) (mvT hZ (hw _ (List.mem_of_getElem? (i := 34) rfl))) (mvT hZ (hw _ (List.mem_of_getElem? (i := 35) rfl))) (mvT hZ (hw _ (List.mem_of_getElem? (i := 36) rfl))) (by decide) (backOf (W := 1) (rm7 l Z a0 hw [] x5 x6 x3 T27.heap n0 Zs27) hZ (hw _ (List.mem_of_getElem? (i := 36) rfl)) (hw _ (List.mem_of_getElem? (i := 35) rfl)) (by decide) (by decide)) (g := (mkF m 172 #[.val (.int pn),.val (.int pp),.val (.int pq),.val (.int px),.val (.int pl),.val (.int ph),.val (.int x1),.val (.int x2),.val (.int x3),.val (.int x4),.val (.int x5),.val (.int x6),.val (.ref b22),.val (.int (1:Int32)),.val (.int (1:Int32)),.unset] [(.int x3), (.int x6), (.int x5), (.int (fn4d2 x5 x6 gx_27 gy_27 (nb / 64 + 1) ((nb / 64 + 1) / 64 + 1) nl nh))])) rfl (by rw [hml]; rfl) (argsL := [(.int x5), (.int x6), (.int x3)]) (rest := [(.int (fn4d2 x5 x6 gx_27 gy_27 (nb / 64 + 1) ((nb / 64 + 1) / 64 + 1) nl nh))]) (lenOf pd_3 rfl) rfl (by show 2 * 0 + (1 + 0) ≤ _; decide) (hb hby at_172) (fun _ _ => ⟨rfl, e33, (by decide : 4 + 0 ≤ _), (by decide : 68 + 0 ≤ _)⟩)
      dsimp only [Pt.U, Pt.locs, Pt.cells, Pt.slots] at X35 l35 y35 z35 st35 hQ35
      rw [l35, y35, z35] at X35
      obtain ⟨rfl, N35q, e35⟩ := hQ35
      have N35 := Fr.app N33 N35q
      refine Goes.by st35 ?_
      show Goes p.tables e below (T35.setTop (mkF m 175 #[.val (.int pn),.val (.int pp),.val (.int pq),.val (.int px),.val (.int pl),.val (.int ph),.val (.int x1),.val (.int x2),.val (.int x3),.val (.int x4),.val (.int x5),.val (.int x6),.val (.ref b22),.val (.int (1:Int32)),.val (.int (1:Int32)),.unset] [(.int (fn7 x5 x6 x3)), (.int (fn4d2 x5 x6 gx_27 gy_27 (nb / 64 + 1) ((nb / 64 + 1) / 64 + 1) nl nh))])) _
      by_cases hc36 : (fn7 x5 x6 x3) = (0:Int32)
      · refine Goes.by (fun _ k => XS.ifYes X35.here hx rfl (pc0 := 175) (pc' := 182) rfl (hb hby at_175) rfl ((if0 _ _).trans (teq hc36).1) (by decide) (by decide) k) ?_
        show Goes p.tables e below (T35.setTop (mkF m 182 #[.val (.int pn),.val (.int pp),.val (.int pq),.val (.int px),.val (.int pl),.val (.int ph),.val (.int x1),.val (.int x2),.val (.int x3),.val (.int x4),.val (.int x5),.val (.int x6),.val (.ref b22),.val (.int (1:Int32)),.val (.int (1:Int32)),.unset] [(.int (fn4d2 x5 x6 gx_27 gy_27 (nb / 64 + 1) ((nb / 64 + 1) / 64 + 1) nl nh))])) _
        refine Goes.by (fun _ k => XS.iconst X35.here hx rfl (hb hby at_182) k) ?_
        show Goes p.tables e below (T35.setTop (mkF m 183 #[.val (.int pn),.val (.int pp),.val (.int pq),.val (.int px),.val (.int pl),.val (.int ph),.val (.int x1),.val (.int x2),.val (.int x3),.val (.int x4),.val (.int x5),.val (.int x6),.val (.ref b22),.val (.int (1:Int32)),.val (.int (1:Int32)),.unset] [(.int (0:Int32)), (.int (fn4d2 x5 x6 gx_27 gy_27 (nb / 64 + 1) ((nb / 64 + 1) / 64 + 1) nl nh))])) _
        refine Goes.by (fun _ k => XS.icmpNo X35.here hx rfl (hb hby at_183) rfl (teq ((own_fin (own_any2b _ _ _ _ _ _ _ _) (own_in01 _ _ _) (own_in01 _ _ _) ((own_any2 R_27 hD.2 (own_x _) h_nl h_nh (own_b0 l_nl) (own_b0 l_nh)).trans ((own_has2 _ _ _ _).trans (or_congr (own_in h_nl h_nh h_na).symm (own_in h_nl h_nh h_nq).symm)))).2.2 hc34 hc36 : (fn4d2 x5 x6 gx_27 gy_27 (nb / 64 + 1) ((nb / 64 + 1) / 64 + 1) nl nh) = (0:Int32))).2 k) ?_
        show Goes p.tables e below (T35.setTop (mkF m 186 #[.val (.int pn),.val (.int pp),.val (.int pq),.val (.int px),.val (.int pl),.val (.int ph),.val (.int x1),.val (.int x2),.val (.int x3),.val (.int x4),.val (.int x5),.val (.int x6),.val (.ref b22),.val (.int (1:Int32)),.val (.int (1:Int32)),.unset] [])) _
        refine Goes.by (fun _ k => XS.iconst X35.here hx rfl (hb hby at_186) k) ?_
        show Goes p.tables e below (T35.setTop (mkF m 187 #[.val (.int pn),.val (.int pp),.val (.int pq),.val (.int px),.val (.int pl),.val (.int ph),.val (.int x1),.val (.int x2),.val (.int x3),.val (.int x4),.val (.int x5),.val (.int x6),.val (.ref b22),.val (.int (1:Int32)),.val (.int (1:Int32)),.unset] [(.int (1:Int32))])) _
        refine Goes.by (fun _ k => XS.goto X35.here hx rfl (pc0 := 187) (pc' := 191) rfl (hb hby at_187) (by decide) (by decide) k) ?_
        show Goes p.tables e below (T35.setTop (mkF m 191 #[.val (.int pn),.val (.int pp),.val (.int pq),.val (.int px),.val (.int pl),.val (.int ph),.val (.int x1),.val (.int x2),.val (.int x3),.val (.int x4),.val (.int x5),.val (.int x6),.val (.ref b22),.val (.int (1:Int32)),.val (.int (1:Int32)),.unset] [(.int (1:Int32))])) _
        refine Goes.by (fun _ k => XS.istore X35.here hx rfl (hb hby at_191) rfl (l' := #[.val (.int pn),.val (.int pp),.val (.int pq),.val (.int px),.val (.int pl),.val (.int ph),.val (.int x1),.val (.int x2),.val (.int x3),.val (.int x4),.val (.int x5),.val (.int x6),.val (.ref b22),.val (.int (1:Int32)),.val (.int (1:Int32)),.val (.int (1:Int32))]) rfl k) ?_
        show Goes p.tables e below (T35.setTop (mkF m 193 #[.val (.int pn),.val (.int pp),.val (.int pq),.val (.int px),.val (.int pl),.val (.int ph),.val (.int x1),.val (.int x2),.val (.int x3),.val (.int x4),.val (.int x5),.val (.int x6),.val (.ref b22),.val (.int (1:Int32)),.val (.int (1:Int32)),.val (.int (1:Int32))] [])) _
        refine Goes.by (fun _ k => XS.iload X35.here hx rfl (hb hby at_193) rfl k) ?_
        show Goes p.tables e below (T35.setTop (mkF m 195 #[.val (.int pn),.val (.int pp),.val (.int pq),.val (.int px),.val (.int pl),.val (.int ph),.val (.int x1),.val (.int x2),.val (.int x3),.val (.int x4),.val (.int x5),.val (.int x6),.val (.ref b22),.val (.int (1:Int32)),.val (.int (1:Int32)),.val (.int (1:Int32))] [(.int (1:Int32))])) _
        refine Goes.by (fun _ k => XS.ifNo X35.here hx rfl (hb hby at_195) rfl ((if0 _ _).trans (feq (by decide : ¬ ((1:Int32) = (0:Int32)))).1) k) ?_
        show Goes p.tables e below (T35.setTop (mkF m 198 #[.val (.int pn),.val (.int pp),.val (.int pq),.val (.int px),.val (.int pl),.val (.int ph),.val (.int x1),.val (.int x2),.val (.int x3),.val (.int x4),.val (.int x5),.val (.int x6),.val (.ref b22),.val (.int (1:Int32)),.val (.int (1:Int32)),.val (.int (1:Int32))] [])) _
        refine Goes.by (fun _ k => XS.iload X35.here hx rfl (hb hby at_198) rfl k) ?_
        show Goes p.tables e below (T35.setTop (mkF m 200 #[.val (.int pn),.val (.int pp),.val (.int pq),.val (.int px),.val (.int pl),.val (.int ph),.val (.int x1),.val (.int x2),.val (.int x3),.val (.int x4),.val (.int x5),.val (.int x6),.val (.ref b22),.val (.int (1:Int32)),.val (.int (1:Int32)),.val (.int (1:Int32))] [(.int (1:Int32))])) _
        refine Goes.by (fun _ k => XS.ifNo X35.here hx rfl (hb hby at_200) rfl ((if0 _ _).trans (feq (by decide : ¬ ((1:Int32) = (0:Int32)))).1) k) ?_
        show Goes p.tables e below (T35.setTop (mkF m 203 #[.val (.int pn),.val (.int pp),.val (.int pq),.val (.int px),.val (.int pl),.val (.int ph),.val (.int x1),.val (.int x2),.val (.int x3),.val (.int x4),.val (.int x5),.val (.int x6),.val (.ref b22),.val (.int (1:Int32)),.val (.int (1:Int32)),.val (.int (1:Int32))] [])) _
        refine Goes.by (fun _ k => XS.iload X35.here hx rfl (hb hby at_203) rfl k) ?_
        show Goes p.tables e below (T35.setTop (mkF m 205 #[.val (.int pn),.val (.int pp),.val (.int pq),.val (.int px),.val (.int pl),.val (.int ph),.val (.int x1),.val (.int x2),.val (.int x3),.val (.int x4),.val (.int x5),.val (.int x6),.val (.ref b22),.val (.int (1:Int32)),.val (.int (1:Int32)),.val (.int (1:Int32))] [(.int (1:Int32))])) _
        refine Goes.by (fun _ k => XS.ifNo X35.here hx rfl (hb hby at_205) rfl ((if0 _ _).trans (feq (by decide : ¬ ((1:Int32) = (0:Int32)))).1) k) ?_
        show Goes p.tables e below (T35.setTop (mkF m 208 #[.val (.int pn),.val (.int pp),.val (.int pq),.val (.int px),.val (.int pl),.val (.int ph),.val (.int x1),.val (.int x2),.val (.int x3),.val (.int x4),.val (.int x5),.val (.int x6),.val (.ref b22),.val (.int (1:Int32)),.val (.int (1:Int32)),.val (.int (1:Int32))] [])) _
        refine Goes.by (fun _ k => XS.iconst X35.here hx rfl (hb hby at_208) k) ?_
        show Goes p.tables e below (T35.setTop (mkF m 209 #[.val (.int pn),.val (.int pp),.val (.int pq),.val (.int px),.val (.int pl),.val (.int ph),.val (.int x1),.val (.int x2),.val (.int x3),.val (.int x4),.val (.int x5),.val (.int x6),.val (.ref b22),.val (.int (1:Int32)),.val (.int (1:Int32)),.val (.int (1:Int32))] [(.int (1:Int32))])) _
        refine Goes.by (fun _ k => XS.goto X35.here hx rfl (pc0 := 209) (pc' := 213) rfl (hb hby at_209) (by decide) (by decide) k) ?_
        show Goes p.tables e below (T35.setTop (mkF m 213 #[.val (.int pn),.val (.int pp),.val (.int pq),.val (.int px),.val (.int pl),.val (.int ph),.val (.int x1),.val (.int x2),.val (.int x3),.val (.int x4),.val (.int x5),.val (.int x6),.val (.ref b22),.val (.int (1:Int32)),.val (.int (1:Int32)),.val (.int (1:Int32))] [(.int (1:Int32))])) _
        obtain ⟨fs, hr, hrun, hended, hW, hsame⟩ := X35.leave (v := some (.int (1:Int32))) (fun h => by rw [Bd.returns] at h; cases h)
        refine ⟨_, _, retN X35 hx (t := .boolean) Bd.returns (by simp) (hb hby at_213) hr, hrun, hended, _, _, rfl, ?_, ⟨_, rfl⟩, hW, hsame.mono (by decide) (by decide)⟩
        show Q0 Z pn pp pq px pl ph h0 n0 _ T35.heap _
        rw [e35]
        exact ⟨rfl, N35⟩
      · refine Goes.by (fun _ k => XS.ifNo X35.here hx rfl (hb hby at_175) rfl ((if0 _ _).trans (feq hc36).1) k) ?_
        show Goes p.tables e below (T35.setTop (mkF m 178 #[.val (.int pn),.val (.int pp),.val (.int pq),.val (.int px),.val (.int pl),.val (.int ph),.val (.int x1),.val (.int x2),.val (.int x3),.val (.int x4),.val (.int x5),.val (.int x6),.val (.ref b22),.val (.int (1:Int32)),.val (.int (1:Int32)),.unset] [(.int (fn4d2 x5 x6 gx_27 gy_27 (nb / 64 + 1) ((nb / 64 + 1) / 64 + 1) nl nh))])) _
        refine Goes.by (fun _ k => XS.iconst X35.here hx rfl (hb hby at_178) k) ?_
        show Goes p.tables e below (T35.setTop (mkF m 179 #[.val (.int pn),.val (.int pp),.val (.int pq),.val (.int px),.val (.int pl),.val (.int ph),.val (.int x1),.val (.int x2),.val (.int x3),.val (.int x4),.val (.int x5),.val (.int x6),.val (.ref b22),.val (.int (1:Int32)),.val (.int (1:Int32)),.unset] [(.int (1:Int32)), (.int (fn4d2 x5 x6 gx_27 gy_27 (nb / 64 + 1) ((nb / 64 + 1) / 64 + 1) nl nh))])) _
        refine Goes.by (fun _ k => XS.goto X35.here hx rfl (pc0 := 179) (pc' := 183) rfl (hb hby at_179) (by decide) (by decide) k) ?_
        show Goes p.tables e below (T35.setTop (mkF m 183 #[.val (.int pn),.val (.int pp),.val (.int pq),.val (.int px),.val (.int pl),.val (.int ph),.val (.int x1),.val (.int x2),.val (.int x3),.val (.int x4),.val (.int x5),.val (.int x6),.val (.ref b22),.val (.int (1:Int32)),.val (.int (1:Int32)),.unset] [(.int (1:Int32)), (.int (fn4d2 x5 x6 gx_27 gy_27 (nb / 64 + 1) ((nb / 64 + 1) / 64 + 1) nl nh))])) _
        refine Goes.by (fun _ k => XS.icmpNo X35.here hx rfl (hb hby at_183) rfl (teq ((own_fin (own_any2b _ _ _ _ _ _ _ _) (own_in01 _ _ _) (own_in01 _ _ _) ((own_any2 R_27 hD.2 (own_x _) h_nl h_nh (own_b0 l_nl) (own_b0 l_nh)).trans ((own_has2 _ _ _ _).trans (or_congr (own_in h_nl h_nh h_na).symm (own_in h_nl h_nh h_nq).symm)))).2.1 hc34 hc36 : (fn4d2 x5 x6 gx_27 gy_27 (nb / 64 + 1) ((nb / 64 + 1) / 64 + 1) nl nh) = (1:Int32))).2 k) ?_
        show Goes p.tables e below (T35.setTop (mkF m 186 #[.val (.int pn),.val (.int pp),.val (.int pq),.val (.int px),.val (.int pl),.val (.int ph),.val (.int x1),.val (.int x2),.val (.int x3),.val (.int x4),.val (.int x5),.val (.int x6),.val (.ref b22),.val (.int (1:Int32)),.val (.int (1:Int32)),.unset] [])) _
        refine Goes.by (fun _ k => XS.iconst X35.here hx rfl (hb hby at_186) k) ?_
        show Goes p.tables e below (T35.setTop (mkF m 187 #[.val (.int pn),.val (.int pp),.val (.int pq),.val (.int px),.val (.int pl),.val (.int ph),.val (.int x1),.val (.int x2),.val (.int x3),.val (.int x4),.val (.int x5),.val (.int x6),.val (.ref b22),.val (.int (1:Int32)),.val (.int (1:Int32)),.unset] [(.int (1:Int32))])) _
        refine Goes.by (fun _ k => XS.goto X35.here hx rfl (pc0 := 187) (pc' := 191) rfl (hb hby at_187) (by decide) (by decide) k) ?_
        show Goes p.tables e below (T35.setTop (mkF m 191 #[.val (.int pn),.val (.int pp),.val (.int pq),.val (.int px),.val (.int pl),.val (.int ph),.val (.int x1),.val (.int x2),.val (.int x3),.val (.int x4),.val (.int x5),.val (.int x6),.val (.ref b22),.val (.int (1:Int32)),.val (.int (1:Int32)),.unset] [(.int (1:Int32))])) _
        refine Goes.by (fun _ k => XS.istore X35.here hx rfl (hb hby at_191) rfl (l' := #[.val (.int pn),.val (.int pp),.val (.int pq),.val (.int px),.val (.int pl),.val (.int ph),.val (.int x1),.val (.int x2),.val (.int x3),.val (.int x4),.val (.int x5),.val (.int x6),.val (.ref b22),.val (.int (1:Int32)),.val (.int (1:Int32)),.val (.int (1:Int32))]) rfl k) ?_
        show Goes p.tables e below (T35.setTop (mkF m 193 #[.val (.int pn),.val (.int pp),.val (.int pq),.val (.int px),.val (.int pl),.val (.int ph),.val (.int x1),.val (.int x2),.val (.int x3),.val (.int x4),.val (.int x5),.val (.int x6),.val (.ref b22),.val (.int (1:Int32)),.val (.int (1:Int32)),.val (.int (1:Int32))] [])) _
        refine Goes.by (fun _ k => XS.iload X35.here hx rfl (hb hby at_193) rfl k) ?_
        show Goes p.tables e below (T35.setTop (mkF m 195 #[.val (.int pn),.val (.int pp),.val (.int pq),.val (.int px),.val (.int pl),.val (.int ph),.val (.int x1),.val (.int x2),.val (.int x3),.val (.int x4),.val (.int x5),.val (.int x6),.val (.ref b22),.val (.int (1:Int32)),.val (.int (1:Int32)),.val (.int (1:Int32))] [(.int (1:Int32))])) _
        refine Goes.by (fun _ k => XS.ifNo X35.here hx rfl (hb hby at_195) rfl ((if0 _ _).trans (feq (by decide : ¬ ((1:Int32) = (0:Int32)))).1) k) ?_
        show Goes p.tables e below (T35.setTop (mkF m 198 #[.val (.int pn),.val (.int pp),.val (.int pq),.val (.int px),.val (.int pl),.val (.int ph),.val (.int x1),.val (.int x2),.val (.int x3),.val (.int x4),.val (.int x5),.val (.int x6),.val (.ref b22),.val (.int (1:Int32)),.val (.int (1:Int32)),.val (.int (1:Int32))] [])) _
        refine Goes.by (fun _ k => XS.iload X35.here hx rfl (hb hby at_198) rfl k) ?_
        show Goes p.tables e below (T35.setTop (mkF m 200 #[.val (.int pn),.val (.int pp),.val (.int pq),.val (.int px),.val (.int pl),.val (.int ph),.val (.int x1),.val (.int x2),.val (.int x3),.val (.int x4),.val (.int x5),.val (.int x6),.val (.ref b22),.val (.int (1:Int32)),.val (.int (1:Int32)),.val (.int (1:Int32))] [(.int (1:Int32))])) _
        refine Goes.by (fun _ k => XS.ifNo X35.here hx rfl (hb hby at_200) rfl ((if0 _ _).trans (feq (by decide : ¬ ((1:Int32) = (0:Int32)))).1) k) ?_
        show Goes p.tables e below (T35.setTop (mkF m 203 #[.val (.int pn),.val (.int pp),.val (.int pq),.val (.int px),.val (.int pl),.val (.int ph),.val (.int x1),.val (.int x2),.val (.int x3),.val (.int x4),.val (.int x5),.val (.int x6),.val (.ref b22),.val (.int (1:Int32)),.val (.int (1:Int32)),.val (.int (1:Int32))] [])) _
        refine Goes.by (fun _ k => XS.iload X35.here hx rfl (hb hby at_203) rfl k) ?_
        show Goes p.tables e below (T35.setTop (mkF m 205 #[.val (.int pn),.val (.int pp),.val (.int pq),.val (.int px),.val (.int pl),.val (.int ph),.val (.int x1),.val (.int x2),.val (.int x3),.val (.int x4),.val (.int x5),.val (.int x6),.val (.ref b22),.val (.int (1:Int32)),.val (.int (1:Int32)),.val (.int (1:Int32))] [(.int (1:Int32))])) _
        refine Goes.by (fun _ k => XS.ifNo X35.here hx rfl (hb hby at_205) rfl ((if0 _ _).trans (feq (by decide : ¬ ((1:Int32) = (0:Int32)))).1) k) ?_
        show Goes p.tables e below (T35.setTop (mkF m 208 #[.val (.int pn),.val (.int pp),.val (.int pq),.val (.int px),.val (.int pl),.val (.int ph),.val (.int x1),.val (.int x2),.val (.int x3),.val (.int x4),.val (.int x5),.val (.int x6),.val (.ref b22),.val (.int (1:Int32)),.val (.int (1:Int32)),.val (.int (1:Int32))] [])) _
        refine Goes.by (fun _ k => XS.iconst X35.here hx rfl (hb hby at_208) k) ?_
        show Goes p.tables e below (T35.setTop (mkF m 209 #[.val (.int pn),.val (.int pp),.val (.int pq),.val (.int px),.val (.int pl),.val (.int ph),.val (.int x1),.val (.int x2),.val (.int x3),.val (.int x4),.val (.int x5),.val (.int x6),.val (.ref b22),.val (.int (1:Int32)),.val (.int (1:Int32)),.val (.int (1:Int32))] [(.int (1:Int32))])) _
        refine Goes.by (fun _ k => XS.goto X35.here hx rfl (pc0 := 209) (pc' := 213) rfl (hb hby at_209) (by decide) (by decide) k) ?_
        show Goes p.tables e below (T35.setTop (mkF m 213 #[.val (.int pn),.val (.int pp),.val (.int pq),.val (.int px),.val (.int pl),.val (.int ph),.val (.int x1),.val (.int x2),.val (.int x3),.val (.int x4),.val (.int x5),.val (.int x6),.val (.ref b22),.val (.int (1:Int32)),.val (.int (1:Int32)),.val (.int (1:Int32))] [(.int (1:Int32))])) _
        obtain ⟨fs, hr, hrun, hended, hW, hsame⟩ := X35.leave (v := some (.int (1:Int32))) (fun h => by rw [Bd.returns] at h; cases h)
        refine ⟨_, _, retN X35 hx (t := .boolean) Bd.returns (by simp) (hb hby at_213) hr, hrun, hended, _, _, rfl, ?_, ⟨_, rfl⟩, hW, hsame.mono (by decide) (by decide)⟩
        show Q0 Z pn pp pq px pl ph h0 n0 _ T35.heap _
        rw [e35]
        exact ⟨rfl, N35⟩
    · refine Goes.by (fun _ k => XS.ifYes X33.here hx rfl (pc0 := 163) (pc' := 178) rfl (hb hby at_163) rfl ((if0 _ _).trans (feq hc34).2) (by decide) (by decide) k) ?_
      show Goes p.tables e below (T33.setTop (mkF m 178 #[.val (.int pn),.val (.int pp),.val (.int pq),.val (.int px),.val (.int pl),.val (.int ph),.val (.int x1),.val (.int x2),.val (.int x3),.val (.int x4),.val (.int x5),.val (.int x6),.val (.ref b22),.val (.int (1:Int32)),.val (.int (1:Int32)),.unset] [(.int (fn4d2 x5 x6 gx_27 gy_27 (nb / 64 + 1) ((nb / 64 + 1) / 64 + 1) nl nh))])) _
      refine Goes.by (fun _ k => XS.iconst X33.here hx rfl (hb hby at_178) k) ?_
      show Goes p.tables e below (T33.setTop (mkF m 179 #[.val (.int pn),.val (.int pp),.val (.int pq),.val (.int px),.val (.int pl),.val (.int ph),.val (.int x1),.val (.int x2),.val (.int x3),.val (.int x4),.val (.int x5),.val (.int x6),.val (.ref b22),.val (.int (1:Int32)),.val (.int (1:Int32)),.unset] [(.int (1:Int32)), (.int (fn4d2 x5 x6 gx_27 gy_27 (nb / 64 + 1) ((nb / 64 + 1) / 64 + 1) nl nh))])) _
      refine Goes.by (fun _ k => XS.goto X33.here hx rfl (pc0 := 179) (pc' := 183) rfl (hb hby at_179) (by decide) (by decide) k) ?_
      show Goes p.tables e below (T33.setTop (mkF m 183 #[.val (.int pn),.val (.int pp),.val (.int pq),.val (.int px),.val (.int pl),.val (.int ph),.val (.int x1),.val (.int x2),.val (.int x3),.val (.int x4),.val (.int x5),.val (.int x6),.val (.ref b22),.val (.int (1:Int32)),.val (.int (1:Int32)),.unset] [(.int (1:Int32)), (.int (fn4d2 x5 x6 gx_27 gy_27 (nb / 64 + 1) ((nb / 64 + 1) / 64 + 1) nl nh))])) _
      refine Goes.by (fun _ k => XS.icmpNo X33.here hx rfl (hb hby at_183) rfl (teq ((own_fin (own_any2b _ _ _ _ _ _ _ _) (own_in01 _ _ _) (own_in01 _ _ _) ((own_any2 R_27 hD.2 (own_x _) h_nl h_nh (own_b0 l_nl) (own_b0 l_nh)).trans ((own_has2 _ _ _ _).trans (or_congr (own_in h_nl h_nh h_na).symm (own_in h_nl h_nh h_nq).symm)))).1 hc34 : (fn4d2 x5 x6 gx_27 gy_27 (nb / 64 + 1) ((nb / 64 + 1) / 64 + 1) nl nh) = (1:Int32))).2 k) ?_
      show Goes p.tables e below (T33.setTop (mkF m 186 #[.val (.int pn),.val (.int pp),.val (.int pq),.val (.int px),.val (.int pl),.val (.int ph),.val (.int x1),.val (.int x2),.val (.int x3),.val (.int x4),.val (.int x5),.val (.int x6),.val (.ref b22),.val (.int (1:Int32)),.val (.int (1:Int32)),.unset] [])) _
      refine Goes.by (fun _ k => XS.iconst X33.here hx rfl (hb hby at_186) k) ?_
      show Goes p.tables e below (T33.setTop (mkF m 187 #[.val (.int pn),.val (.int pp),.val (.int pq),.val (.int px),.val (.int pl),.val (.int ph),.val (.int x1),.val (.int x2),.val (.int x3),.val (.int x4),.val (.int x5),.val (.int x6),.val (.ref b22),.val (.int (1:Int32)),.val (.int (1:Int32)),.unset] [(.int (1:Int32))])) _
      refine Goes.by (fun _ k => XS.goto X33.here hx rfl (pc0 := 187) (pc' := 191) rfl (hb hby at_187) (by decide) (by decide) k) ?_
      show Goes p.tables e below (T33.setTop (mkF m 191 #[.val (.int pn),.val (.int pp),.val (.int pq),.val (.int px),.val (.int pl),.val (.int ph),.val (.int x1),.val (.int x2),.val (.int x3),.val (.int x4),.val (.int x5),.val (.int x6),.val (.ref b22),.val (.int (1:Int32)),.val (.int (1:Int32)),.unset] [(.int (1:Int32))])) _
      refine Goes.by (fun _ k => XS.istore X33.here hx rfl (hb hby at_191) rfl (l' := #[.val (.int pn),.val (.int pp),.val (.int pq),.val (.int px),.val (.int pl),.val (.int ph),.val (.int x1),.val (.int x2),.val (.int x3),.val (.int x4),.val (.int x5),.val (.int x6),.val (.ref b22),.val (.int (1:Int32)),.val (.int (1:Int32)),.val (.int (1:Int32))]) rfl k) ?_
      show Goes p.tables e below (T33.setTop (mkF m 193 #[.val (.int pn),.val (.int pp),.val (.int pq),.val (.int px),.val (.int pl),.val (.int ph),.val (.int x1),.val (.int x2),.val (.int x3),.val (.int x4),.val (.int x5),.val (.int x6),.val (.ref b22),.val (.int (1:Int32)),.val (.int (1:Int32)),.val (.int (1:Int32))] [])) _
      refine Goes.by (fun _ k => XS.iload X33.here hx rfl (hb hby at_193) rfl k) ?_
      show Goes p.tables e below (T33.setTop (mkF m 195 #[.val (.int pn),.val (.int pp),.val (.int pq),.val (.int px),.val (.int pl),.val (.int ph),.val (.int x1),.val (.int x2),.val (.int x3),.val (.int x4),.val (.int x5),.val (.int x6),.val (.ref b22),.val (.int (1:Int32)),.val (.int (1:Int32)),.val (.int (1:Int32))] [(.int (1:Int32))])) _
      refine Goes.by (fun _ k => XS.ifNo X33.here hx rfl (hb hby at_195) rfl ((if0 _ _).trans (feq (by decide : ¬ ((1:Int32) = (0:Int32)))).1) k) ?_
      show Goes p.tables e below (T33.setTop (mkF m 198 #[.val (.int pn),.val (.int pp),.val (.int pq),.val (.int px),.val (.int pl),.val (.int ph),.val (.int x1),.val (.int x2),.val (.int x3),.val (.int x4),.val (.int x5),.val (.int x6),.val (.ref b22),.val (.int (1:Int32)),.val (.int (1:Int32)),.val (.int (1:Int32))] [])) _
      refine Goes.by (fun _ k => XS.iload X33.here hx rfl (hb hby at_198) rfl k) ?_
      show Goes p.tables e below (T33.setTop (mkF m 200 #[.val (.int pn),.val (.int pp),.val (.int pq),.val (.int px),.val (.int pl),.val (.int ph),.val (.int x1),.val (.int x2),.val (.int x3),.val (.int x4),.val (.int x5),.val (.int x6),.val (.ref b22),.val (.int (1:Int32)),.val (.int (1:Int32)),.val (.int (1:Int32))] [(.int (1:Int32))])) _
      refine Goes.by (fun _ k => XS.ifNo X33.here hx rfl (hb hby at_200) rfl ((if0 _ _).trans (feq (by decide : ¬ ((1:Int32) = (0:Int32)))).1) k) ?_
      show Goes p.tables e below (T33.setTop (mkF m 203 #[.val (.int pn),.val (.int pp),.val (.int pq),.val (.int px),.val (.int pl),.val (.int ph),.val (.int x1),.val (.int x2),.val (.int x3),.val (.int x4),.val (.int x5),.val (.int x6),.val (.ref b22),.val (.int (1:Int32)),.val (.int (1:Int32)),.val (.int (1:Int32))] [])) _
      refine Goes.by (fun _ k => XS.iload X33.here hx rfl (hb hby at_203) rfl k) ?_
      show Goes p.tables e below (T33.setTop (mkF m 205 #[.val (.int pn),.val (.int pp),.val (.int pq),.val (.int px),.val (.int pl),.val (.int ph),.val (.int x1),.val (.int x2),.val (.int x3),.val (.int x4),.val (.int x5),.val (.int x6),.val (.ref b22),.val (.int (1:Int32)),.val (.int (1:Int32)),.val (.int (1:Int32))] [(.int (1:Int32))])) _
      refine Goes.by (fun _ k => XS.ifNo X33.here hx rfl (hb hby at_205) rfl ((if0 _ _).trans (feq (by decide : ¬ ((1:Int32) = (0:Int32)))).1) k) ?_
      show Goes p.tables e below (T33.setTop (mkF m 208 #[.val (.int pn),.val (.int pp),.val (.int pq),.val (.int px),.val (.int pl),.val (.int ph),.val (.int x1),.val (.int x2),.val (.int x3),.val (.int x4),.val (.int x5),.val (.int x6),.val (.ref b22),.val (.int (1:Int32)),.val (.int (1:Int32)),.val (.int (1:Int32))] [])) _
      refine Goes.by (fun _ k => XS.iconst X33.here hx rfl (hb hby at_208) k) ?_
      show Goes p.tables e below (T33.setTop (mkF m 209 #[.val (.int pn),.val (.int pp),.val (.int pq),.val (.int px),.val (.int pl),.val (.int ph),.val (.int x1),.val (.int x2),.val (.int x3),.val (.int x4),.val (.int x5),.val (.int x6),.val (.ref b22),.val (.int (1:Int32)),.val (.int (1:Int32)),.val (.int (1:Int32))] [(.int (1:Int32))])) _
      refine Goes.by (fun _ k => XS.goto X33.here hx rfl (pc0 := 209) (pc' := 213) rfl (hb hby at_209) (by decide) (by decide) k) ?_
      show Goes p.tables e below (T33.setTop (mkF m 213 #[.val (.int pn),.val (.int pp),.val (.int pq),.val (.int px),.val (.int pl),.val (.int ph),.val (.int x1),.val (.int x2),.val (.int x3),.val (.int x4),.val (.int x5),.val (.int x6),.val (.ref b22),.val (.int (1:Int32)),.val (.int (1:Int32)),.val (.int (1:Int32))] [(.int (1:Int32))])) _
      obtain ⟨fs, hr, hrun, hended, hW, hsame⟩ := X33.leave (v := some (.int (1:Int32))) (fun h => by rw [Bd.returns] at h; cases h)
      refine ⟨_, _, retN X33 hx (t := .boolean) Bd.returns (by simp) (hb hby at_213) hr, hrun, hended, _, _, rfl, ?_, ⟨_, rfl⟩, hW, hsame.mono (by decide) (by decide)⟩
      show Q0 Z pn pp pq px pl ph h0 n0 _ T33.heap _
      rw [e33]
      exact ⟨rfl, N33⟩
  · show Goes p.tables e below (s₁.setTop (mkF m 56 #[.val (.int pn),.val (.int pp),.val (.int pq),.val (.int px),.val (.int pl),.val (.int ph),.val (.int x1),.val (.int x2),.val (.int x3),.val (.int x4),.val (.int x5),.val (.int x6),.unset,.unset,.unset,.unset] [])) _
    obtain ⟨T37, h37, X37, e37, E37, A37, D37, -, st37⟩ := newO X0 hx hZ hown (hw _ (List.mem_of_getElem? (i := 1) rfl)) (hw _ (List.mem_of_getElem? (i := 2) rfl)) (hw _ (List.mem_of_getElem? (i := 3) rfl)) e0 (g := (mkF m 56 #[.val (.int pn),.val (.int pp),.val (.int pq),.val (.int px),.val (.int pl),.val (.int ph),.val (.int x1),.val (.int x2),.val (.int x3),.val (.int x4),.val (.int x5),.val (.int x6),.unset,.unset,.unset,.unset] [])) rfl (hb hby at_56) (by decide) (by decide)
    obtain ⟨b37, g37⟩ : ∃ z, z = h0.size := ⟨_, rfl⟩
    rw [← g37] at A37 D37 st37
    have g_b37 : n0 ≤ b37 := Nat.le_trans Z0 (Nat.le_of_eq g37.symm)
    have sz_b37 : h0.size ≤ b37 := Nat.le_trans (Keep.refl h0 []).1 (Nat.le_of_eq g37.symm)
    have Zs37 : n0 ≤ h37.size := Nat.le_trans Z0 E37.1
    have K37 : Keep h0 h37 [] := (Keep.refl h0 []).ext E37
    refine Goes.by st37 ?_
    have E_b37 : Exa Z h37 b37 "com/example/xml_graph_join/xmlgraphjoin/topo/BitLevels" := A37
    have F_b37_levels : Fld Z h37 b37 "com/example/xml_graph_join/xmlgraphjoin/topo/BitLevels" "levels" "[[J" .null := D37 (Or.inr (hw _ (List.mem_of_getElem? (i := 13) rfl))) (ty := (.array (.array .long))) (by decide)
    show Goes p.tables e below (T37.setTop (mkF m 59 #[.val (.int pn),.val (.int pp),.val (.int pq),.val (.int px),.val (.int pl),.val (.int ph),.val (.int x1),.val (.int x2),.val (.int x3),.val (.int x4),.val (.int x5),.val (.int x6),.unset,.unset,.unset,.unset] [(.ref b37)])) _
    refine Goes.by (fun _ k => XS.dup X37.here hx rfl (hb hby at_59) rfl rfl k) ?_
    show Goes p.tables e below (T37.setTop (mkF m 60 #[.val (.int pn),.val (.int pp),.val (.int pq),.val (.int px),.val (.int pl),.val (.int ph),.val (.int x1),.val (.int x2),.val (.int x3),.val (.int x4),.val (.int x5),.val (.int x6),.unset,.unset,.unset,.unset] [(.ref b37), (.ref b37)])) _
    refine Goes.by (fun _ k => XS.iload X37.here hx rfl (hb hby at_60) rfl k) ?_
    show Goes p.tables e below (T37.setTop (mkF m 62 #[.val (.int pn),.val (.int pp),.val (.int pq),.val (.int px),.val (.int pl),.val (.int ph),.val (.int x1),.val (.int x2),.val (.int x3),.val (.int x4),.val (.int x5),.val (.int x6),.unset,.unset,.unset,.unset] [(.int x1), (.ref b37), (.ref b37)])) _
    obtain ⟨_, _, ⟨T38, L38, k38, n38⟩, -, X38, ⟨Lc38, hQ38, l38, y38, z38⟩, st38⟩ := X37.specialBack hx (y := (⟨"com/example/xml_graph_join/xmlgraphjoin/topo/BitLevels", "<init>", "(I)V"⟩ : MethodName)) rfl hown (mvT hZ (hw _ (List.mem_of_getElem? (i := 4) rfl))) (mvT hZ (hw _ (List.mem_of_getElem? (i := 5) rfl))) (mvT hZ (hw _ (List.mem_of_getElem? (i := 6) rfl))) (by decide) (backOf (W := 1) (rm1d3 l Z a0 hw [] b37 x1 nb h37 n0 Zs37 E_b37 F_b37_levels g_b37 (hnb) (hD)) hZ (hw _ (List.mem_of_getElem? (i := 6) rfl)) (hw _ (List.mem_of_getElem? (i := 3) rfl)) (by decide) (by decide)) (g := (mkF m 62 #[.val (.int pn),.val (.int pp),.val (.int pq),.val (.int px),.val (.int pl),.val (.int ph),.val (.int x1),.val (.int x2),.val (.int x3),.val (.int x4),.val (.int x5),.val (.int x6),.unset,.unset,.unset,.unset] [(.int x1), (.ref b37), (.ref b37)])) rfl (by rw [hml]; rfl) (Steps.refl _) (a := b37) (argsL := [(.int x1)]) (rest := [(.ref b37)]) (lenOf pd_1 rfl) rfl (by show 2 * 0 + (1 + 0) ≤ _; decide) (hb hby at_62) (fun _ _ => ⟨rfl, e37, (by decide : 1 + 4 ≤ _), (by decide : 1 + 266 ≤ _)⟩)
    dsimp only [Pt.U, Pt.locs, Pt.cells, Pt.slots] at X38 l38 y38 z38 st38 hQ38
    rw [l38, y38, z38] at X38
    obtain ⟨ol_38, o0_38, o1_38, o2_38, rfl, N38q, Kq38, po38_0, po38_1, po38_2, po38_3, po38_4, po38_5, po38_6, po38_7, po38_8, po38_9, po38_10, po38_11, po38_12, po38_13, po38_14, po38_15⟩ := hQ38
    have N38 := Fr.app N0 N38q
    refine Goes.via st38 ?_
    have Zs38 : n0 ≤ T38.heap.size := Nat.le_trans Zs37 Kq38.1
    have K38 : Keep h0 T38.heap [] := K37.trans Kq38 (allS (Or.inr sz_b37) all0)
    have lt38_b37 := E_b37.lt
    have sz_ol_38 : h0.size ≤ ol_38 := Nat.le_trans K37.1 po38_6
    have g_ol_38 : n0 ≤ ol_38 := Nat.le_trans Zs37 po38_6
    have ne_b37_ol_38 : b37 ≠ ol_38 := Nat.ne_of_lt (Nat.lt_of_lt_of_le lt38_b37 po38_6)
    have sz_o0_38 : h0.size ≤ o0_38 := Nat.le_trans K37.1 po38_7
    have g_o0_38 : n0 ≤ o0_38 := Nat.le_trans Zs37 po38_7
    have ne_b37_o0_38 : b37 ≠ o0_38 := Nat.ne_of_lt (Nat.lt_of_lt_of_le lt38_b37 po38_7)
    have sz_o1_38 : h0.size ≤ o1_38 := Nat.le_trans K37.1 po38_8
    have g_o1_38 : n0 ≤ o1_38 := Nat.le_trans Zs37 po38_8
    have ne_b37_o1_38 : b37 ≠ o1_38 := Nat.ne_of_lt (Nat.lt_of_lt_of_le lt38_b37 po38_8)
    have sz_o2_38 : h0.size ≤ o2_38 := Nat.le_trans K37.1 po38_9
    have g_o2_38 : n0 ≤ o2_38 := Nat.le_trans Zs37 po38_9
    have ne_b37_o2_38 : b37 ≠ o2_38 := Nat.ne_of_lt (Nat.lt_of_lt_of_le lt38_b37 po38_9)
    have E_b37 : Exa Z T38.heap b37 "com/example/xml_graph_join/xmlgraphjoin/topo/BitLevels" := E_b37.keep Kq38
    have E_b37 : Exa Z T38.heap b37 "com/example/xml_graph_join/xmlgraphjoin/topo/BitLevels" := po38_0
    have F_b37_levels : Fld Z T38.heap b37 "com/example/xml_graph_join/xmlgraphjoin/topo/BitLevels" "levels" "[[J" (.ref ol_38) := po38_1
    have A_ol_38 : Ar Z T38.heap ol_38 (.array .long) 3 (up (up (up (fun _ => .null) 0 (.ref o0_38)) 1 (.ref o1_38)) 2 (.ref o2_38)) := po38_2
    have A_o0_38 : AJ Z T38.heap o0_38 (nb / 64 + 1) (fun _ => (0:Int64)) := po38_3
    have A_o1_38 : AJ Z T38.heap o1_38 ((nb / 64 + 1) / 64 + 1) (fun _ => (0:Int64)) := po38_4
    have A_o2_38 : AJ Z T38.heap o2_38 (((nb / 64 + 1) / 64 + 1) / 64 + 1) (fun _ => (0:Int64)) := po38_5
    have ne_ol_38_o0_38 := po38_10
    have ne_ol_38_o1_38 := po38_11
    have ne_ol_38_o2_38 := po38_12
    have ne_o0_38_o1_38 := po38_13
    have ne_o0_38_o2_38 := po38_14
    have ne_o1_38_o2_38 := po38_15
    have R_0 : R3 own_n0 (nb / 64 + 1) ((nb / 64 + 1) / 64 + 1) (((nb / 64 + 1) / 64 + 1) / 64 + 1) (fun _ => (0:Int64)) (fun _ => (0:Int64)) (fun _ => (0:Int64)) := own_em3 (nb / 64 + 1) ((nb / 64 + 1) / 64 + 1) (((nb / 64 + 1) / 64 + 1) / 64 + 1)
    show Goes p.tables e below (T38.setTop (mkF m 65 #[.val (.int pn),.val (.int pp),.val (.int pq),.val (.int px),.val (.int pl),.val (.int ph),.val (.int x1),.val (.int x2),.val (.int x3),.val (.int x4),.val (.int x5),.val (.int x6),.unset,.unset,.unset,.unset] [(.ref b37)])) _
    refine Goes.by (fun _ k => XS.astore X38.here hx rfl (hb hby at_65) rfl rfl (l' := #[.val (.int pn),.val (.int pp),.val (.int pq),.val (.int px),.val (.int pl),.val (.int ph),.val (.int x1),.val (.int x2),.val (.int x3),.val (.int x4),.val (.int x5),.val (.int x6),.val (.ref b37),.unset,.unset,.unset]) rfl k) ?_
    show Goes p.tables e below (T38.setTop (mkF m 67 #[.val (.int pn),.val (.int pp),.val (.int pq),.val (.int px),.val (.int pl),.val (.int ph),.val (.int x1),.val (.int x2),.val (.int x3),.val (.int x4),.val (.int x5),.val (.int x6),.val (.ref b37),.unset,.unset,.unset] [])) _
    refine Goes.by (fun _ k => XS.aload X38.here hx rfl (hb hby at_67) rfl rfl k) ?_
    show Goes p.tables e below (T38.setTop (mkF m 69 #[.val (.int pn),.val (.int pp),.val (.int pq),.val (.int px),.val (.int pl),.val (.int ph),.val (.int x1),.val (.int x2),.val (.int x3),.val (.int x4),.val (.int x5),.val (.int x6),.val (.ref b37),.unset,.unset,.unset] [(.ref b37)])) _
    refine Goes.by (fun _ k => XS.iload X38.here hx rfl (hb hby at_69) rfl k) ?_
    show Goes p.tables e below (T38.setTop (mkF m 71 #[.val (.int pn),.val (.int pp),.val (.int pq),.val (.int px),.val (.int pl),.val (.int ph),.val (.int x1),.val (.int x2),.val (.int x3),.val (.int x4),.val (.int x5),.val (.int x6),.val (.ref b37),.unset,.unset,.unset] [(.int x2), (.ref b37)])) _
    obtain ⟨cq39, kq39, q39a, q39b, q39c⟩ := isOf hZ rfl E_b37
    obtain ⟨_, _, ⟨T39, L39, k39, n39⟩, -, X39, ⟨Lc39, hQ39, l39, y39, z39⟩, st39⟩ := X38.virtualBack hx (y := (⟨"com/example/xml_graph_join/xmlgraphjoin/topo/BitLevels", "add", "(I)V"⟩ : MethodName)) (z := (⟨"com/example/xml_graph_join/xmlgraphjoin/topo/BitLevels", "add", "(I)V"⟩ : MethodName)) hown (mvT hZ (hw _ (List.mem_of_getElem? (i := 16) rfl))) (mvT hZ (hw _ (List.mem_of_getElem? (i := 17) rfl))) (notFace_of_selects (args := #[]) (mvT hZ (hw _ (List.mem_of_getElem? (i := 19) rfl)))) (mvT hZ (hw _ (List.mem_of_getElem? (i := 19) rfl))) (mvT hZ (hw _ (List.mem_of_getElem? (i := 18) rfl))) (by decide) (backOf (W := 0) (rm3d3 l Z a0 hw [] b37 x2 ol_38 o0_38 o1_38 o2_38 (fun _ => (0:Int64)) (fun _ => (0:Int64)) (fun _ => (0:Int64)) (nb / 64 + 1) ((nb / 64 + 1) / 64 + 1) (((nb / 64 + 1) / 64 + 1) / 64 + 1) na T38.heap n0 Zs38 F_b37_levels A_ol_38 A_o0_38 A_o1_38 A_o2_38 (h_na) (own_b0 l_na) (own_b1 l_na) (own_b2 l_na) ne_b37_o0_38 ne_b37_o1_38 ne_b37_o2_38 ne_ol_38_o0_38 ne_ol_38_o1_38 ne_ol_38_o2_38 ne_o0_38_o1_38 ne_o0_38_o2_38 ne_o1_38_o2_38 g_o0_38 g_o1_38 g_o2_38) hZ (hw _ (List.mem_of_getElem? (i := 20) rfl)) (hw _ (List.mem_of_getElem? (i := 3) rfl)) (by decide) (by decide)) q39a q39c (g := (mkF m 71 #[.val (.int pn),.val (.int pp),.val (.int pq),.val (.int px),.val (.int pl),.val (.int ph),.val (.int x1),.val (.int x2),.val (.int x3),.val (.int x4),.val (.int x5),.val (.int x6),.val (.ref b37),.unset,.unset,.unset] [(.int x2), (.ref b37)])) rfl (by rw [hml]; rfl) (Steps.refl _) (argsL := [(.int x2)]) (rest := []) (lenOf pd_1 rfl) rfl (by show 2 * 0 + _ ≤ _; exact Nat.le_of_eq rfl) (hb hby at_71) (fun _ _ => ⟨rfl, rfl, (by decide : 5 + 0 ≤ _), (by decide : 267 + 0 ≤ _)⟩)
    dsimp only [Pt.U, Pt.locs, Pt.cells, Pt.slots] at X39 l39 y39 z39 st39 hQ39
    rw [l39, y39, z39] at X39
    obtain ⟨rfl, N39q, Kq39, po39_0, po39_1, po39_2, po39_3, po39_4⟩ := hQ39
    have N39 := Fr.app N38 N39q
    refine Goes.via st39 ?_
    have Zs39 : n0 ≤ T39.heap.size := Nat.le_trans Zs38 Kq39.1
    have K39 : Keep h0 T39.heap [] := K38.trans Kq39 (allS (Or.inr sz_o0_38) (allS (Or.inr sz_o1_38) (allS (Or.inr sz_o2_38) all0)))
    have E_b37 : Exa Z T39.heap b37 "com/example/xml_graph_join/xmlgraphjoin/topo/BitLevels" := E_b37.keep Kq39
    have F_b37_levels : Fld Z T39.heap b37 "com/example/xml_graph_join/xmlgraphjoin/topo/BitLevels" "levels" "[[J" (.ref ol_38) := F_b37_levels.keep Kq39 (ninS ne_b37_o0_38 (ninS ne_b37_o1_38 (ninS ne_b37_o2_38 nin0)))
    have A_ol_38 : Ar Z T39.heap ol_38 (.array .long) 3 (up (up (up (fun _ => .null) 0 (.ref o0_38)) 1 (.ref o1_38)) 2 (.ref o2_38)) := A_ol_38.keep Kq39 (ninS ne_ol_38_o0_38 (ninS ne_ol_38_o1_38 (ninS ne_ol_38_o2_38 nin0)))
    have F_b37_levels : Fld Z T39.heap b37 "com/example/xml_graph_join/xmlgraphjoin/topo/BitLevels" "levels" "[[J" (.ref ol_38) := po39_0
    have A_ol_38 : Ar Z T39.heap ol_38 (.array .long) 3 (up (up (up (fun _ => .null) 0 (.ref o0_38)) 1 (.ref o1_38)) 2 (.ref o2_38)) := po39_1
    have A_o0_38 : AJ Z T39.heap o0_38 (nb / 64 + 1) (up (fun _ => (0:Int64)) (na / 64) ((((fun _ => (0:Int64)) (na / 64))) ||| (oneB x2))) := po39_2
    have A_o1_38 : AJ Z T39.heap o1_38 ((nb / 64 + 1) / 64 + 1) (if ((fun _ => (0:Int64)) (na / 64)) = (0:Int64) then (up (fun _ => (0:Int64)) (na / 64 / 64) ((((fun _ => (0:Int64)) (na / 64 / 64))) ||| (oneB ((x2.toUInt32>>>((6:Int32)&&&31).toUInt32).toInt32)))) else (fun _ => (0:Int64))) := po39_3
    have A_o2_38 : AJ Z T39.heap o2_38 (((nb / 64 + 1) / 64 + 1) / 64 + 1) (if ((fun _ => (0:Int64)) (na / 64)) = (0:Int64) then (if ((fun _ => (0:Int64)) (na / 64 / 64)) = (0:Int64) then (up (fun _ => (0:Int64)) (na / 64 / 64 / 64) ((((fun _ => (0:Int64)) (na / 64 / 64 / 64))) ||| (oneB ((((x2.toUInt32>>>((6:Int32)&&&31).toUInt32).toInt32).toUInt32>>>((6:Int32)&&&31).toUInt32).toInt32)))) else (fun _ => (0:Int64))) else (fun _ => (0:Int64))) := po39_4
    obtain ⟨gx_39, gy_39, gz_39, R_39, A_o0_38, A_o1_38, A_o2_38⟩ : ∃ gx_39 gy_39 gz_39 : Nat → Int64, R3 (Add own_n0 na) (nb / 64 + 1) ((nb / 64 + 1) / 64 + 1) (((nb / 64 + 1) / 64 + 1) / 64 + 1) gx_39 gy_39 gz_39 ∧ (AJ Z T39.heap o0_38 (nb / 64 + 1) gx_39) ∧ (AJ Z T39.heap o1_38 ((nb / 64 + 1) / 64 + 1) gy_39) ∧ (AJ Z T39.heap o2_38 (((nb / 64 + 1) / 64 + 1) / 64 + 1) gz_39) := ⟨_, _, _, own_add3 R_0 h_na (own_b0 l_na) (own_b1 l_na) (own_b2 l_na), A_o0_38, A_o1_38, A_o2_38⟩
    show Goes p.tables e below (T39.setTop (mkF m 74 #[.val (.int pn),.val (.int pp),.val (.int pq),.val (.int px),.val (.int pl),.val (.int ph),.val (.int x1),.val (.int x2),.val (.int x3),.val (.int x4),.val (.int x5),.val (.int x6),.val (.ref b37),.unset,.unset,.unset] [])) _
    refine Goes.by (fun _ k => XS.aload X39.here hx rfl (hb hby at_74) rfl rfl k) ?_
    show Goes p.tables e below (T39.setTop (mkF m 76 #[.val (.int pn),.val (.int pp),.val (.int pq),.val (.int px),.val (.int pl),.val (.int ph),.val (.int x1),.val (.int x2),.val (.int x3),.val (.int x4),.val (.int x5),.val (.int x6),.val (.ref b37),.unset,.unset,.unset] [(.ref b37)])) _
    refine Goes.by (fun _ k => XS.iload X39.here hx rfl (hb hby at_76) rfl k) ?_
    show Goes p.tables e below (T39.setTop (mkF m 78 #[.val (.int pn),.val (.int pp),.val (.int pq),.val (.int px),.val (.int pl),.val (.int ph),.val (.int x1),.val (.int x2),.val (.int x3),.val (.int x4),.val (.int x5),.val (.int x6),.val (.ref b37),.unset,.unset,.unset] [(.int x5), (.ref b37)])) _
    refine Goes.by (fun _ k => XS.iload X39.here hx rfl (hb hby at_78) rfl k) ?_
    show Goes p.tables e below (T39.setTop (mkF m 80 #[.val (.int pn),.val (.int pp),.val (.int pq),.val (.int px),.val (.int pl),.val (.int ph),.val (.int x1),.val (.int x2),.val (.int x3),.val (.int x4),.val (.int x5),.val (.int x6),.val (.ref b37),.unset,.unset,.unset] [(.int x6), (.int x5), (.ref b37)])) _
    obtain ⟨cq40, kq40, q40a, q40b, q40c⟩ := isOf hZ rfl E_b37
    obtain ⟨_, _, ⟨T40, L40, k40, n40⟩, -, X40, ⟨Lc40, hQ40, l40, y40, z40⟩, st40⟩ := X39.virtualBack hx (y := (⟨"com/example/xml_graph_join/xmlgraphjoin/topo/BitLevels", "anyIn", "(II)Z"⟩ : MethodName)) (z := (⟨"com/example/xml_graph_join/xmlgraphjoin/topo/BitLevels", "anyIn", "(II)Z"⟩ : MethodName)) hown (mvT hZ (hw _ (List.mem_of_getElem? (i := 21) rfl))) (mvT hZ (hw _ (List.mem_of_getElem? (i := 22) rfl))) (notFace_of_selects (args := #[]) (mvT hZ (hw _ (List.mem_of_getElem? (i := 24) rfl)))) (mvT hZ (hw _ (List.mem_of_getElem? (i := 24) rfl))) (mvT hZ (hw _ (List.mem_of_getElem? (i := 23) rfl))) (by decide) (backOf (W := 0) (rm4d3 l Z a0 hw [] b37 x5 x6 ol_38 o0_38 o1_38 o2_38 gx_39 gy_39 gz_39 (nb / 64 + 1) ((nb / 64 + 1) / 64 + 1) (((nb / 64 + 1) / 64 + 1) / 64 + 1) nl nh T39.heap n0 Zs39 F_b37_levels A_ol_38 A_o0_38 A_o1_38 A_o2_38 (h_nl) (h_nh) (own_b0 l_nl) (own_b0 l_nh) (own_x _) (own_x _)) hZ (hw _ (List.mem_of_getElem? (i := 25) rfl)) (hw _ (List.mem_of_getElem? (i := 3) rfl)) (by decide) (by decide)) q40a q40c (g := (mkF m 80 #[.val (.int pn),.val (.int pp),.val (.int pq),.val (.int px),.val (.int pl),.val (.int ph),.val (.int x1),.val (.int x2),.val (.int x3),.val (.int x4),.val (.int x5),.val (.int x6),.val (.ref b37),.unset,.unset,.unset] [(.int x6), (.int x5), (.ref b37)])) rfl (by rw [hml]; rfl) (Steps.refl _) (argsL := [(.int x5), (.int x6)]) (rest := []) (lenOf pd_2 rfl) rfl (by show 2 * 0 + _ ≤ _; exact Nat.le_of_eq rfl) (hb hby at_80) (fun _ _ => ⟨rfl, rfl, (by decide : 5 + 0 ≤ _), (by decide : 267 + 0 ≤ _)⟩)
    dsimp only [Pt.U, Pt.locs, Pt.cells, Pt.slots] at X40 l40 y40 z40 st40 hQ40
    rw [l40, y40, z40] at X40
    obtain ⟨rfl, N40q, e40⟩ := hQ40
    have N40 := Fr.app N39 N40q
    refine Goes.via st40 ?_
    show Goes p.tables e below (T40.setTop (mkF m 83 #[.val (.int pn),.val (.int pp),.val (.int pq),.val (.int px),.val (.int pl),.val (.int ph),.val (.int x1),.val (.int x2),.val (.int x3),.val (.int x4),.val (.int x5),.val (.int x6),.val (.ref b37),.unset,.unset,.unset] [(.int (fn4d3 x5 x6 gx_39 gy_39 gz_39 (nb / 64 + 1) ((nb / 64 + 1) / 64 + 1) (((nb / 64 + 1) / 64 + 1) / 64 + 1) nl nh))])) _
    refine Goes.by (fun _ k => XS.iload X40.here hx rfl (hb hby at_83) rfl k) ?_
    show Goes p.tables e below (T40.setTop (mkF m 85 #[.val (.int pn),.val (.int pp),.val (.int pq),.val (.int px),.val (.int pl),.val (.int ph),.val (.int x1),.val (.int x2),.val (.int x3),.val (.int x4),.val (.int x5),.val (.int x6),.val (.ref b37),.unset,.unset,.unset] [(.int x5), (.int (fn4d3 x5 x6 gx_39 gy_39 gz_39 (nb / 64 + 1) ((nb / 64 + 1) / 64 + 1) (((nb / 64 + 1) / 64 + 1) / 64 + 1) nl nh))])) _
    refine Goes.by (fun _ k => XS.iload X40.here hx rfl (hb hby at_85) rfl k) ?_
    show Goes p.tables e below (T40.setTop (mkF m 87 #[.val (.int pn),.val (.int pp),.val (.int pq),.val (.int px),.val (.int pl),.val (.int ph),.val (.int x1),.val (.int x2),.val (.int x3),.val (.int x4),.val (.int x5),.val (.int x6),.val (.ref b37),.unset,.unset,.unset] [(.int x6), (.int x5), (.int (fn4d3 x5 x6 gx_39 gy_39 gz_39 (nb / 64 + 1) ((nb / 64 + 1) / 64 + 1) (((nb / 64 + 1) / 64 + 1) / 64 + 1) nl nh))])) _
    refine Goes.by (fun _ k => XS.iload X40.here hx rfl (hb hby at_87) rfl k) ?_
    show Goes p.tables e below (T40.setTop (mkF m 89 #[.val (.int pn),.val (.int pp),.val (.int pq),.val (.int px),.val (.int pl),.val (.int ph),.val (.int x1),.val (.int x2),.val (.int x3),.val (.int x4),.val (.int x5),.val (.int x6),.val (.ref b37),.unset,.unset,.unset] [(.int x2), (.int x6), (.int x5), (.int (fn4d3 x5 x6 gx_39 gy_39 gz_39 (nb / 64 + 1) ((nb / 64 + 1) / 64 + 1) (((nb / 64 + 1) / 64 + 1) / 64 + 1) nl nh))])) _
    obtain ⟨_, _, ⟨T41, L41, k41, n41⟩, -, X41, ⟨Lc41, hQ41, l41, y41, z41⟩, st41⟩ := Jvm.LawKit.callS X40 hx (y := (⟨"com/example/xml_graph_join/xmlgraphjoin/topo/BitLevelsAddPinLaw", "in", "(III)Z"⟩ : MethodName)) hown (mvT hZ (hw _ (List.mem_of_getElem? (i := 33) rfl))) (mvT hZ (hw _ (List.mem_of_getElem? (i := 34) rfl))) (mvT hZ (hw _ (List.mem_of_getElem? (i := 35) rfl))) (mvT hZ (hw _ (List.mem_of_getElem? (i := 36) rfl))) (by decide) (backOf (W := 1) (rm7 l Z a0 hw [] x5 x6 x2 T39.heap n0 Zs39) hZ (hw _ (List.mem_of_getElem? (i := 36) rfl)) (hw _ (List.mem_of_getElem? (i := 35) rfl)) (by decide) (by decide)) (g := (mkF m 89 #[.val (.int pn),.val (.int pp),.val (.int pq),.val (.int px),.val (.int pl),.val (.int ph),.val (.int x1),.val (.int x2),.val (.int x3),.val (.int x4),.val (.int x5),.val (.int x6),.val (.ref b37),.unset,.unset,.unset] [(.int x2), (.int x6), (.int x5), (.int (fn4d3 x5 x6 gx_39 gy_39 gz_39 (nb / 64 + 1) ((nb / 64 + 1) / 64 + 1) (((nb / 64 + 1) / 64 + 1) / 64 + 1) nl nh))])) rfl (by rw [hml]; rfl) (argsL := [(.int x5), (.int x6), (.int x2)]) (rest := [(.int (fn4d3 x5 x6 gx_39 gy_39 gz_39 (nb / 64 + 1) ((nb / 64 + 1) / 64 + 1) (((nb / 64 + 1) / 64 + 1) / 64 + 1) nl nh))]) (lenOf pd_3 rfl) rfl (by show 2 * 0 + (1 + 0) ≤ _; decide) (hb hby at_89) (fun _ _ => ⟨rfl, e40, (by decide : 5 + 0 ≤ _), (by decide : 267 + 0 ≤ _)⟩)
    dsimp only [Pt.U, Pt.locs, Pt.cells, Pt.slots] at X41 l41 y41 z41 st41 hQ41
    rw [l41, y41, z41] at X41
    obtain ⟨rfl, N41q, e41⟩ := hQ41
    have N41 := Fr.app N40 N41q
    refine Goes.by st41 ?_
    show Goes p.tables e below (T41.setTop (mkF m 92 #[.val (.int pn),.val (.int pp),.val (.int pq),.val (.int px),.val (.int pl),.val (.int ph),.val (.int x1),.val (.int x2),.val (.int x3),.val (.int x4),.val (.int x5),.val (.int x6),.val (.ref b37),.unset,.unset,.unset] [(.int (fn7 x5 x6 x2)), (.int (fn4d3 x5 x6 gx_39 gy_39 gz_39 (nb / 64 + 1) ((nb / 64 + 1) / 64 + 1) (((nb / 64 + 1) / 64 + 1) / 64 + 1) nl nh))])) _
    refine Goes.by (fun _ k => XS.icmpNo X41.here hx rfl (hb hby at_92) rfl (teq (own_eq01 (own_any3b _ _ _ _ _ _ _ _ _ _) (own_in01 _ _ _) ((own_any3 R_39 (own_w2 hD.2.2) (own_x _) (own_x _) h_nl h_nh (own_b0 l_nl) (own_b0 l_nh)).trans ((own_has1 _ _ _).trans (own_in h_nl h_nh h_na).symm)) : (fn4d3 x5 x6 gx_39 gy_39 gz_39 (nb / 64 + 1) ((nb / 64 + 1) / 64 + 1) (((nb / 64 + 1) / 64 + 1) / 64 + 1) nl nh) = (fn7 x5 x6 x2))).2 k) ?_
    show Goes p.tables e below (T41.setTop (mkF m 95 #[.val (.int pn),.val (.int pp),.val (.int pq),.val (.int px),.val (.int pl),.val (.int ph),.val (.int x1),.val (.int x2),.val (.int x3),.val (.int x4),.val (.int x5),.val (.int x6),.val (.ref b37),.unset,.unset,.unset] [])) _
    refine Goes.by (fun _ k => XS.iconst X41.here hx rfl (hb hby at_95) k) ?_
    show Goes p.tables e below (T41.setTop (mkF m 96 #[.val (.int pn),.val (.int pp),.val (.int pq),.val (.int px),.val (.int pl),.val (.int ph),.val (.int x1),.val (.int x2),.val (.int x3),.val (.int x4),.val (.int x5),.val (.int x6),.val (.ref b37),.unset,.unset,.unset] [(.int (1:Int32))])) _
    refine Goes.by (fun _ k => XS.goto X41.here hx rfl (pc0 := 96) (pc' := 100) rfl (hb hby at_96) (by decide) (by decide) k) ?_
    show Goes p.tables e below (T41.setTop (mkF m 100 #[.val (.int pn),.val (.int pp),.val (.int pq),.val (.int px),.val (.int pl),.val (.int ph),.val (.int x1),.val (.int x2),.val (.int x3),.val (.int x4),.val (.int x5),.val (.int x6),.val (.ref b37),.unset,.unset,.unset] [(.int (1:Int32))])) _
    refine Goes.by (fun _ k => XS.istore X41.here hx rfl (hb hby at_100) rfl (l' := #[.val (.int pn),.val (.int pp),.val (.int pq),.val (.int px),.val (.int pl),.val (.int ph),.val (.int x1),.val (.int x2),.val (.int x3),.val (.int x4),.val (.int x5),.val (.int x6),.val (.ref b37),.val (.int (1:Int32)),.unset,.unset]) rfl k) ?_
    show Goes p.tables e below (T41.setTop (mkF m 102 #[.val (.int pn),.val (.int pp),.val (.int pq),.val (.int px),.val (.int pl),.val (.int ph),.val (.int x1),.val (.int x2),.val (.int x3),.val (.int x4),.val (.int x5),.val (.int x6),.val (.ref b37),.val (.int (1:Int32)),.unset,.unset] [])) _
    refine Goes.by (fun _ k => XS.aload X41.here hx rfl (hb hby at_102) rfl rfl k) ?_
    show Goes p.tables e below (T41.setTop (mkF m 104 #[.val (.int pn),.val (.int pp),.val (.int pq),.val (.int px),.val (.int pl),.val (.int ph),.val (.int x1),.val (.int x2),.val (.int x3),.val (.int x4),.val (.int x5),.val (.int x6),.val (.ref b37),.val (.int (1:Int32)),.unset,.unset] [(.ref b37)])) _
    refine Goes.by (fun _ k => XS.iload X41.here hx rfl (hb hby at_104) rfl k) ?_
    show Goes p.tables e below (T41.setTop (mkF m 106 #[.val (.int pn),.val (.int pp),.val (.int pq),.val (.int px),.val (.int pl),.val (.int ph),.val (.int x1),.val (.int x2),.val (.int x3),.val (.int x4),.val (.int x5),.val (.int x6),.val (.ref b37),.val (.int (1:Int32)),.unset,.unset] [(.int x3), (.ref b37)])) _
    obtain ⟨cq42, kq42, q42a, q42b, q42c⟩ := isOf hZ e41 E_b37
    obtain ⟨_, _, ⟨T42, L42, k42, n42⟩, -, X42, ⟨Lc42, hQ42, l42, y42, z42⟩, st42⟩ := X41.virtualBack hx (y := (⟨"com/example/xml_graph_join/xmlgraphjoin/topo/BitLevels", "add", "(I)V"⟩ : MethodName)) (z := (⟨"com/example/xml_graph_join/xmlgraphjoin/topo/BitLevels", "add", "(I)V"⟩ : MethodName)) hown (mvT hZ (hw _ (List.mem_of_getElem? (i := 16) rfl))) (mvT hZ (hw _ (List.mem_of_getElem? (i := 17) rfl))) (notFace_of_selects (args := #[]) (mvT hZ (hw _ (List.mem_of_getElem? (i := 19) rfl)))) (mvT hZ (hw _ (List.mem_of_getElem? (i := 19) rfl))) (mvT hZ (hw _ (List.mem_of_getElem? (i := 18) rfl))) (by decide) (backOf (W := 0) (rm3d3 l Z a0 hw [] b37 x3 ol_38 o0_38 o1_38 o2_38 gx_39 gy_39 gz_39 (nb / 64 + 1) ((nb / 64 + 1) / 64 + 1) (((nb / 64 + 1) / 64 + 1) / 64 + 1) nq T39.heap n0 Zs39 F_b37_levels A_ol_38 A_o0_38 A_o1_38 A_o2_38 (h_nq) (own_b0 l_nq) (own_b1 l_nq) (own_b2 l_nq) ne_b37_o0_38 ne_b37_o1_38 ne_b37_o2_38 ne_ol_38_o0_38 ne_ol_38_o1_38 ne_ol_38_o2_38 ne_o0_38_o1_38 ne_o0_38_o2_38 ne_o1_38_o2_38 g_o0_38 g_o1_38 g_o2_38) hZ (hw _ (List.mem_of_getElem? (i := 20) rfl)) (hw _ (List.mem_of_getElem? (i := 3) rfl)) (by decide) (by decide)) q42a q42c (g := (mkF m 106 #[.val (.int pn),.val (.int pp),.val (.int pq),.val (.int px),.val (.int pl),.val (.int ph),.val (.int x1),.val (.int x2),.val (.int x3),.val (.int x4),.val (.int x5),.val (.int x6),.val (.ref b37),.val (.int (1:Int32)),.unset,.unset] [(.int x3), (.ref b37)])) rfl (by rw [hml]; rfl) (Steps.refl _) (argsL := [(.int x3)]) (rest := []) (lenOf pd_1 rfl) rfl (by show 2 * 0 + _ ≤ _; exact Nat.le_of_eq rfl) (hb hby at_106) (fun _ _ => ⟨rfl, e41, (by decide : 5 + 0 ≤ _), (by decide : 267 + 0 ≤ _)⟩)
    dsimp only [Pt.U, Pt.locs, Pt.cells, Pt.slots] at X42 l42 y42 z42 st42 hQ42
    rw [l42, y42, z42] at X42
    obtain ⟨rfl, N42q, Kq42, po42_0, po42_1, po42_2, po42_3, po42_4⟩ := hQ42
    have N42 := Fr.app N41 N42q
    refine Goes.via st42 ?_
    have Zs42 : n0 ≤ T42.heap.size := Nat.le_trans Zs39 Kq42.1
    have K42 : Keep h0 T42.heap [] := K39.trans Kq42 (allS (Or.inr sz_o0_38) (allS (Or.inr sz_o1_38) (allS (Or.inr sz_o2_38) all0)))
    have E_b37 : Exa Z T42.heap b37 "com/example/xml_graph_join/xmlgraphjoin/topo/BitLevels" := E_b37.keep Kq42
    have F_b37_levels : Fld Z T42.heap b37 "com/example/xml_graph_join/xmlgraphjoin/topo/BitLevels" "levels" "[[J" (.ref ol_38) := F_b37_levels.keep Kq42 (ninS ne_b37_o0_38 (ninS ne_b37_o1_38 (ninS ne_b37_o2_38 nin0)))
    have A_ol_38 : Ar Z T42.heap ol_38 (.array .long) 3 (up (up (up (fun _ => .null) 0 (.ref o0_38)) 1 (.ref o1_38)) 2 (.ref o2_38)) := A_ol_38.keep Kq42 (ninS ne_ol_38_o0_38 (ninS ne_ol_38_o1_38 (ninS ne_ol_38_o2_38 nin0)))
    have F_b37_levels : Fld Z T42.heap b37 "com/example/xml_graph_join/xmlgraphjoin/topo/BitLevels" "levels" "[[J" (.ref ol_38) := po42_0
    have A_ol_38 : Ar Z T42.heap ol_38 (.array .long) 3 (up (up (up (fun _ => .null) 0 (.ref o0_38)) 1 (.ref o1_38)) 2 (.ref o2_38)) := po42_1
    have A_o0_38 : AJ Z T42.heap o0_38 (nb / 64 + 1) (up gx_39 (nq / 64) (((gx_39 (nq / 64))) ||| (oneB x3))) := po42_2
    have A_o1_38 : AJ Z T42.heap o1_38 ((nb / 64 + 1) / 64 + 1) (if (gx_39 (nq / 64)) = (0:Int64) then (up gy_39 (nq / 64 / 64) (((gy_39 (nq / 64 / 64))) ||| (oneB ((x3.toUInt32>>>((6:Int32)&&&31).toUInt32).toInt32)))) else gy_39) := po42_3
    have A_o2_38 : AJ Z T42.heap o2_38 (((nb / 64 + 1) / 64 + 1) / 64 + 1) (if (gx_39 (nq / 64)) = (0:Int64) then (if (gy_39 (nq / 64 / 64)) = (0:Int64) then (up gz_39 (nq / 64 / 64 / 64) (((gz_39 (nq / 64 / 64 / 64))) ||| (oneB ((((x3.toUInt32>>>((6:Int32)&&&31).toUInt32).toInt32).toUInt32>>>((6:Int32)&&&31).toUInt32).toInt32)))) else gz_39) else gz_39) := po42_4
    obtain ⟨gx_42, gy_42, gz_42, R_42, A_o0_38, A_o1_38, A_o2_38⟩ : ∃ gx_42 gy_42 gz_42 : Nat → Int64, R3 (Add (Add own_n0 na) nq) (nb / 64 + 1) ((nb / 64 + 1) / 64 + 1) (((nb / 64 + 1) / 64 + 1) / 64 + 1) gx_42 gy_42 gz_42 ∧ (AJ Z T42.heap o0_38 (nb / 64 + 1) gx_42) ∧ (AJ Z T42.heap o1_38 ((nb / 64 + 1) / 64 + 1) gy_42) ∧ (AJ Z T42.heap o2_38 (((nb / 64 + 1) / 64 + 1) / 64 + 1) gz_42) := ⟨_, _, _, own_add3 R_39 h_nq (own_b0 l_nq) (own_b1 l_nq) (own_b2 l_nq), A_o0_38, A_o1_38, A_o2_38⟩
    show Goes p.tables e below (T42.setTop (mkF m 109 #[.val (.int pn),.val (.int pp),.val (.int pq),.val (.int px),.val (.int pl),.val (.int ph),.val (.int x1),.val (.int x2),.val (.int x3),.val (.int x4),.val (.int x5),.val (.int x6),.val (.ref b37),.val (.int (1:Int32)),.unset,.unset] [])) _
    refine Goes.by (fun _ k => XS.aload X42.here hx rfl (hb hby at_109) rfl rfl k) ?_
    show Goes p.tables e below (T42.setTop (mkF m 111 #[.val (.int pn),.val (.int pp),.val (.int pq),.val (.int px),.val (.int pl),.val (.int ph),.val (.int x1),.val (.int x2),.val (.int x3),.val (.int x4),.val (.int x5),.val (.int x6),.val (.ref b37),.val (.int (1:Int32)),.unset,.unset] [(.ref b37)])) _
    refine Goes.by (fun _ k => XS.iload X42.here hx rfl (hb hby at_111) rfl k) ?_
    show Goes p.tables e below (T42.setTop (mkF m 113 #[.val (.int pn),.val (.int pp),.val (.int pq),.val (.int px),.val (.int pl),.val (.int ph),.val (.int x1),.val (.int x2),.val (.int x3),.val (.int x4),.val (.int x5),.val (.int x6),.val (.ref b37),.val (.int (1:Int32)),.unset,.unset] [(.int x4), (.ref b37)])) _
    obtain ⟨cq43, kq43, q43a, q43b, q43c⟩ := isOf hZ rfl E_b37
    obtain ⟨_, _, ⟨T43, L43, k43, n43⟩, -, X43, ⟨Lc43, hQ43, l43, y43, z43⟩, st43⟩ := X42.virtualBack hx (y := (⟨"com/example/xml_graph_join/xmlgraphjoin/topo/BitLevels", "contains", "(I)Z"⟩ : MethodName)) (z := (⟨"com/example/xml_graph_join/xmlgraphjoin/topo/BitLevels", "contains", "(I)Z"⟩ : MethodName)) hown (mvT hZ (hw _ (List.mem_of_getElem? (i := 37) rfl))) (mvT hZ (hw _ (List.mem_of_getElem? (i := 38) rfl))) (notFace_of_selects (args := #[]) (mvT hZ (hw _ (List.mem_of_getElem? (i := 40) rfl)))) (mvT hZ (hw _ (List.mem_of_getElem? (i := 40) rfl))) (mvT hZ (hw _ (List.mem_of_getElem? (i := 39) rfl))) (by decide) (backOf (W := 0) (rm8d3 l Z a0 hw [] b37 x4 ol_38 o0_38 o1_38 o2_38 gx_42 gy_42 gz_42 (nb / 64 + 1) ((nb / 64 + 1) / 64 + 1) (((nb / 64 + 1) / 64 + 1) / 64 + 1) ny T42.heap n0 Zs42 F_b37_levels A_ol_38 A_o0_38 A_o1_38 A_o2_38 (h_ny) (own_b0 l_ny)) hZ (hw _ (List.mem_of_getElem? (i := 41) rfl)) (hw _ (List.mem_of_getElem? (i := 3) rfl)) (by decide) (by decide)) q43a q43c (g := (mkF m 113 #[.val (.int pn),.val (.int pp),.val (.int pq),.val (.int px),.val (.int pl),.val (.int ph),.val (.int x1),.val (.int x2),.val (.int x3),.val (.int x4),.val (.int x5),.val (.int x6),.val (.ref b37),.val (.int (1:Int32)),.unset,.unset] [(.int x4), (.ref b37)])) rfl (by rw [hml]; rfl) (Steps.refl _) (argsL := [(.int x4)]) (rest := []) (lenOf pd_4 rfl) rfl (by show 2 * 0 + _ ≤ _; exact Nat.le_of_eq rfl) (hb hby at_113) (fun _ _ => ⟨rfl, rfl, (by decide : 5 + 0 ≤ _), (by decide : 267 + 0 ≤ _)⟩)
    dsimp only [Pt.U, Pt.locs, Pt.cells, Pt.slots] at X43 l43 y43 z43 st43 hQ43
    rw [l43, y43, z43] at X43
    obtain ⟨rfl, N43q, e43⟩ := hQ43
    have N43 := Fr.app N42 N43q
    refine Goes.via st43 ?_
    show Goes p.tables e below (T43.setTop (mkF m 116 #[.val (.int pn),.val (.int pp),.val (.int pq),.val (.int px),.val (.int pl),.val (.int ph),.val (.int x1),.val (.int x2),.val (.int x3),.val (.int x4),.val (.int x5),.val (.int x6),.val (.ref b37),.val (.int (1:Int32)),.unset,.unset] [(.int (fn8d3 x4 gx_42 gy_42 gz_42 (nb / 64 + 1) ((nb / 64 + 1) / 64 + 1) (((nb / 64 + 1) / 64 + 1) / 64 + 1) ny))])) _
    refine Goes.by (fun _ k => XS.iload X43.here hx rfl (hb hby at_116) rfl k) ?_
    show Goes p.tables e below (T43.setTop (mkF m 118 #[.val (.int pn),.val (.int pp),.val (.int pq),.val (.int px),.val (.int pl),.val (.int ph),.val (.int x1),.val (.int x2),.val (.int x3),.val (.int x4),.val (.int x5),.val (.int x6),.val (.ref b37),.val (.int (1:Int32)),.unset,.unset] [(.int x4), (.int (fn8d3 x4 gx_42 gy_42 gz_42 (nb / 64 + 1) ((nb / 64 + 1) / 64 + 1) (((nb / 64 + 1) / 64 + 1) / 64 + 1) ny))])) _
    refine Goes.by (fun _ k => XS.iload X43.here hx rfl (hb hby at_118) rfl k) ?_
    show Goes p.tables e below (T43.setTop (mkF m 120 #[.val (.int pn),.val (.int pp),.val (.int pq),.val (.int px),.val (.int pl),.val (.int ph),.val (.int x1),.val (.int x2),.val (.int x3),.val (.int x4),.val (.int x5),.val (.int x6),.val (.ref b37),.val (.int (1:Int32)),.unset,.unset] [(.int x2), (.int x4), (.int (fn8d3 x4 gx_42 gy_42 gz_42 (nb / 64 + 1) ((nb / 64 + 1) / 64 + 1) (((nb / 64 + 1) / 64 + 1) / 64 + 1) ny))])) _
    obtain ⟨v44, hv44⟩ : ∃ z : Int32, z = (if x4 = x2 then (1:Int32) else (if x4 = x3 then (1:Int32) else (0:Int32))) := ⟨_, rfl⟩
    refine Goes.by (t' := T43.setTop (mkF m 135 #[.val (.int pn),.val (.int pp),.val (.int pq),.val (.int px),.val (.int pl),.val (.int ph),.val (.int x1),.val (.int x2),.val (.int x3),.val (.int x4),.val (.int x5),.val (.int x6),.val (.ref b37),.val (.int (1:Int32)),.unset,.unset] [(.int v44), (.int (fn8d3 x4 gx_42 gy_42 gz_42 (nb / 64 + 1) ((nb / 64 + 1) / 64 + 1) (((nb / 64 + 1) / 64 + 1) / 64 + 1) ny))])) (fun u k => ?_) ?_
    · show Steps p.tables e below (T43.setTop (mkF m 120 #[.val (.int pn),.val (.int pp),.val (.int pq),.val (.int px),.val (.int pl),.val (.int ph),.val (.int x1),.val (.int x2),.val (.int x3),.val (.int x4),.val (.int x5),.val (.int x6),.val (.ref b37),.val (.int (1:Int32)),.unset,.unset] [(.int x2), (.int x4), (.int (fn8d3 x4 gx_42 gy_42 gz_42 (nb / 64 + 1) ((nb / 64 + 1) / 64 + 1) (((nb / 64 + 1) / 64 + 1) / 64 + 1) ny))])) _
      by_cases hc45 : x4 = x2
      · refine XS.icmpYes X43.here hx rfl (pc0 := 120) (pc' := 130) rfl (hb hby at_120) rfl (teq hc45).1 (by decide) (by decide) ?_
        show Steps p.tables e below (T43.setTop (mkF m 130 #[.val (.int pn),.val (.int pp),.val (.int pq),.val (.int px),.val (.int pl),.val (.int ph),.val (.int x1),.val (.int x2),.val (.int x3),.val (.int x4),.val (.int x5),.val (.int x6),.val (.ref b37),.val (.int (1:Int32)),.unset,.unset] [(.int (fn8d3 x4 gx_42 gy_42 gz_42 (nb / 64 + 1) ((nb / 64 + 1) / 64 + 1) (((nb / 64 + 1) / 64 + 1) / 64 + 1) ny))])) _
        refine XS.iconst X43.here hx rfl (hb hby at_130) ?_
        show Steps p.tables e below (T43.setTop (mkF m 131 #[.val (.int pn),.val (.int pp),.val (.int pq),.val (.int px),.val (.int pl),.val (.int ph),.val (.int x1),.val (.int x2),.val (.int x3),.val (.int x4),.val (.int x5),.val (.int x6),.val (.ref b37),.val (.int (1:Int32)),.unset,.unset] [(.int (1:Int32)), (.int (fn8d3 x4 gx_42 gy_42 gz_42 (nb / 64 + 1) ((nb / 64 + 1) / 64 + 1) (((nb / 64 + 1) / 64 + 1) / 64 + 1) ny))])) _
        refine XS.goto X43.here hx rfl (pc0 := 131) (pc' := 135) rfl (hb hby at_131) (by decide) (by decide) ?_
        show Steps p.tables e below (T43.setTop (mkF m 135 #[.val (.int pn),.val (.int pp),.val (.int pq),.val (.int px),.val (.int pl),.val (.int ph),.val (.int x1),.val (.int x2),.val (.int x3),.val (.int x4),.val (.int x5),.val (.int x6),.val (.ref b37),.val (.int (1:Int32)),.unset,.unset] [(.int (1:Int32)), (.int (fn8d3 x4 gx_42 gy_42 gz_42 (nb / 64 + 1) ((nb / 64 + 1) / 64 + 1) (((nb / 64 + 1) / 64 + 1) / 64 + 1) ny))])) _
        have qv44 : v44 = (1:Int32) := by rw [hv44, if_pos hc45]
        subst qv44
        exact k
      · refine XS.icmpNo X43.here hx rfl (hb hby at_120) rfl (feq hc45).1 ?_
        show Steps p.tables e below (T43.setTop (mkF m 123 #[.val (.int pn),.val (.int pp),.val (.int pq),.val (.int px),.val (.int pl),.val (.int ph),.val (.int x1),.val (.int x2),.val (.int x3),.val (.int x4),.val (.int x5),.val (.int x6),.val (.ref b37),.val (.int (1:Int32)),.unset,.unset] [(.int (fn8d3 x4 gx_42 gy_42 gz_42 (nb / 64 + 1) ((nb / 64 + 1) / 64 + 1) (((nb / 64 + 1) / 64 + 1) / 64 + 1) ny))])) _
        refine XS.iload X43.here hx rfl (hb hby at_123) rfl ?_
        show Steps p.tables e below (T43.setTop (mkF m 125 #[.val (.int pn),.val (.int pp),.val (.int pq),.val (.int px),.val (.int pl),.val (.int ph),.val (.int x1),.val (.int x2),.val (.int x3),.val (.int x4),.val (.int x5),.val (.int x6),.val (.ref b37),.val (.int (1:Int32)),.unset,.unset] [(.int x4), (.int (fn8d3 x4 gx_42 gy_42 gz_42 (nb / 64 + 1) ((nb / 64 + 1) / 64 + 1) (((nb / 64 + 1) / 64 + 1) / 64 + 1) ny))])) _
        refine XS.iload X43.here hx rfl (hb hby at_125) rfl ?_
        show Steps p.tables e below (T43.setTop (mkF m 127 #[.val (.int pn),.val (.int pp),.val (.int pq),.val (.int px),.val (.int pl),.val (.int ph),.val (.int x1),.val (.int x2),.val (.int x3),.val (.int x4),.val (.int x5),.val (.int x6),.val (.ref b37),.val (.int (1:Int32)),.unset,.unset] [(.int x3), (.int x4), (.int (fn8d3 x4 gx_42 gy_42 gz_42 (nb / 64 + 1) ((nb / 64 + 1) / 64 + 1) (((nb / 64 + 1) / 64 + 1) / 64 + 1) ny))])) _
        by_cases hc46 : x4 = x3
        · refine XS.icmpNo X43.here hx rfl (hb hby at_127) rfl (teq hc46).2 ?_
          show Steps p.tables e below (T43.setTop (mkF m 130 #[.val (.int pn),.val (.int pp),.val (.int pq),.val (.int px),.val (.int pl),.val (.int ph),.val (.int x1),.val (.int x2),.val (.int x3),.val (.int x4),.val (.int x5),.val (.int x6),.val (.ref b37),.val (.int (1:Int32)),.unset,.unset] [(.int (fn8d3 x4 gx_42 gy_42 gz_42 (nb / 64 + 1) ((nb / 64 + 1) / 64 + 1) (((nb / 64 + 1) / 64 + 1) / 64 + 1) ny))])) _
          refine XS.iconst X43.here hx rfl (hb hby at_130) ?_
          show Steps p.tables e below (T43.setTop (mkF m 131 #[.val (.int pn),.val (.int pp),.val (.int pq),.val (.int px),.val (.int pl),.val (.int ph),.val (.int x1),.val (.int x2),.val (.int x3),.val (.int x4),.val (.int x5),.val (.int x6),.val (.ref b37),.val (.int (1:Int32)),.unset,.unset] [(.int (1:Int32)), (.int (fn8d3 x4 gx_42 gy_42 gz_42 (nb / 64 + 1) ((nb / 64 + 1) / 64 + 1) (((nb / 64 + 1) / 64 + 1) / 64 + 1) ny))])) _
          refine XS.goto X43.here hx rfl (pc0 := 131) (pc' := 135) rfl (hb hby at_131) (by decide) (by decide) ?_
          show Steps p.tables e below (T43.setTop (mkF m 135 #[.val (.int pn),.val (.int pp),.val (.int pq),.val (.int px),.val (.int pl),.val (.int ph),.val (.int x1),.val (.int x2),.val (.int x3),.val (.int x4),.val (.int x5),.val (.int x6),.val (.ref b37),.val (.int (1:Int32)),.unset,.unset] [(.int (1:Int32)), (.int (fn8d3 x4 gx_42 gy_42 gz_42 (nb / 64 + 1) ((nb / 64 + 1) / 64 + 1) (((nb / 64 + 1) / 64 + 1) / 64 + 1) ny))])) _
          have qv44 : v44 = (1:Int32) := by rw [hv44, if_neg hc45, if_pos hc46]
          subst qv44
          exact k
        · refine XS.icmpYes X43.here hx rfl (pc0 := 127) (pc' := 134) rfl (hb hby at_127) rfl (feq hc46).2 (by decide) (by decide) ?_
          show Steps p.tables e below (T43.setTop (mkF m 134 #[.val (.int pn),.val (.int pp),.val (.int pq),.val (.int px),.val (.int pl),.val (.int ph),.val (.int x1),.val (.int x2),.val (.int x3),.val (.int x4),.val (.int x5),.val (.int x6),.val (.ref b37),.val (.int (1:Int32)),.unset,.unset] [(.int (fn8d3 x4 gx_42 gy_42 gz_42 (nb / 64 + 1) ((nb / 64 + 1) / 64 + 1) (((nb / 64 + 1) / 64 + 1) / 64 + 1) ny))])) _
          refine XS.iconst X43.here hx rfl (hb hby at_134) ?_
          show Steps p.tables e below (T43.setTop (mkF m 135 #[.val (.int pn),.val (.int pp),.val (.int pq),.val (.int px),.val (.int pl),.val (.int ph),.val (.int x1),.val (.int x2),.val (.int x3),.val (.int x4),.val (.int x5),.val (.int x6),.val (.ref b37),.val (.int (1:Int32)),.unset,.unset] [(.int (0:Int32)), (.int (fn8d3 x4 gx_42 gy_42 gz_42 (nb / 64 + 1) ((nb / 64 + 1) / 64 + 1) (((nb / 64 + 1) / 64 + 1) / 64 + 1) ny))])) _
          have qv44 : v44 = (0:Int32) := by rw [hv44, if_neg hc45, if_neg hc46]
          subst qv44
          exact k
    show Goes p.tables e below (T43.setTop (mkF m 135 #[.val (.int pn),.val (.int pp),.val (.int pq),.val (.int px),.val (.int pl),.val (.int ph),.val (.int x1),.val (.int x2),.val (.int x3),.val (.int x4),.val (.int x5),.val (.int x6),.val (.ref b37),.val (.int (1:Int32)),.unset,.unset] [(.int v44), (.int (fn8d3 x4 gx_42 gy_42 gz_42 (nb / 64 + 1) ((nb / 64 + 1) / 64 + 1) (((nb / 64 + 1) / 64 + 1) / 64 + 1) ny))])) _
    refine Goes.by (fun _ k => XS.icmpNo X43.here hx rfl (hb hby at_135) rfl (teq (by rw [hv44]; exact own_con R_42.1 h_na h_nq h_ny (own_b0 l_ny) : (fn8d3 x4 gx_42 gy_42 gz_42 (nb / 64 + 1) ((nb / 64 + 1) / 64 + 1) (((nb / 64 + 1) / 64 + 1) / 64 + 1) ny) = v44)).2 k) ?_
    show Goes p.tables e below (T43.setTop (mkF m 138 #[.val (.int pn),.val (.int pp),.val (.int pq),.val (.int px),.val (.int pl),.val (.int ph),.val (.int x1),.val (.int x2),.val (.int x3),.val (.int x4),.val (.int x5),.val (.int x6),.val (.ref b37),.val (.int (1:Int32)),.unset,.unset] [])) _
    refine Goes.by (fun _ k => XS.iconst X43.here hx rfl (hb hby at_138) k) ?_
    show Goes p.tables e below (T43.setTop (mkF m 139 #[.val (.int pn),.val (.int pp),.val (.int pq),.val (.int px),.val (.int pl),.val (.int ph),.val (.int x1),.val (.int x2),.val (.int x3),.val (.int x4),.val (.int x5),.val (.int x6),.val (.ref b37),.val (.int (1:Int32)),.unset,.unset] [(.int (1:Int32))])) _
    refine Goes.by (fun _ k => XS.goto X43.here hx rfl (pc0 := 139) (pc' := 143) rfl (hb hby at_139) (by decide) (by decide) k) ?_
    show Goes p.tables e below (T43.setTop (mkF m 143 #[.val (.int pn),.val (.int pp),.val (.int pq),.val (.int px),.val (.int pl),.val (.int ph),.val (.int x1),.val (.int x2),.val (.int x3),.val (.int x4),.val (.int x5),.val (.int x6),.val (.ref b37),.val (.int (1:Int32)),.unset,.unset] [(.int (1:Int32))])) _
    refine Goes.by (fun _ k => XS.istore X43.here hx rfl (hb hby at_143) rfl (l' := #[.val (.int pn),.val (.int pp),.val (.int pq),.val (.int px),.val (.int pl),.val (.int ph),.val (.int x1),.val (.int x2),.val (.int x3),.val (.int x4),.val (.int x5),.val (.int x6),.val (.ref b37),.val (.int (1:Int32)),.val (.int (1:Int32)),.unset]) rfl k) ?_
    show Goes p.tables e below (T43.setTop (mkF m 145 #[.val (.int pn),.val (.int pp),.val (.int pq),.val (.int px),.val (.int pl),.val (.int ph),.val (.int x1),.val (.int x2),.val (.int x3),.val (.int x4),.val (.int x5),.val (.int x6),.val (.ref b37),.val (.int (1:Int32)),.val (.int (1:Int32)),.unset] [])) _
    refine Goes.by (fun _ k => XS.aload X43.here hx rfl (hb hby at_145) rfl rfl k) ?_
    show Goes p.tables e below (T43.setTop (mkF m 147 #[.val (.int pn),.val (.int pp),.val (.int pq),.val (.int px),.val (.int pl),.val (.int ph),.val (.int x1),.val (.int x2),.val (.int x3),.val (.int x4),.val (.int x5),.val (.int x6),.val (.ref b37),.val (.int (1:Int32)),.val (.int (1:Int32)),.unset] [(.ref b37)])) _
    refine Goes.by (fun _ k => XS.iload X43.here hx rfl (hb hby at_147) rfl k) ?_
    show Goes p.tables e below (T43.setTop (mkF m 149 #[.val (.int pn),.val (.int pp),.val (.int pq),.val (.int px),.val (.int pl),.val (.int ph),.val (.int x1),.val (.int x2),.val (.int x3),.val (.int x4),.val (.int x5),.val (.int x6),.val (.ref b37),.val (.int (1:Int32)),.val (.int (1:Int32)),.unset] [(.int x5), (.ref b37)])) _
    refine Goes.by (fun _ k => XS.iload X43.here hx rfl (hb hby at_149) rfl k) ?_
    show Goes p.tables e below (T43.setTop (mkF m 151 #[.val (.int pn),.val (.int pp),.val (.int pq),.val (.int px),.val (.int pl),.val (.int ph),.val (.int x1),.val (.int x2),.val (.int x3),.val (.int x4),.val (.int x5),.val (.int x6),.val (.ref b37),.val (.int (1:Int32)),.val (.int (1:Int32)),.unset] [(.int x6), (.int x5), (.ref b37)])) _
    obtain ⟨cq47, kq47, q47a, q47b, q47c⟩ := isOf hZ e43 E_b37
    obtain ⟨_, _, ⟨T47, L47, k47, n47⟩, -, X47, ⟨Lc47, hQ47, l47, y47, z47⟩, st47⟩ := X43.virtualBack hx (y := (⟨"com/example/xml_graph_join/xmlgraphjoin/topo/BitLevels", "anyIn", "(II)Z"⟩ : MethodName)) (z := (⟨"com/example/xml_graph_join/xmlgraphjoin/topo/BitLevels", "anyIn", "(II)Z"⟩ : MethodName)) hown (mvT hZ (hw _ (List.mem_of_getElem? (i := 21) rfl))) (mvT hZ (hw _ (List.mem_of_getElem? (i := 22) rfl))) (notFace_of_selects (args := #[]) (mvT hZ (hw _ (List.mem_of_getElem? (i := 24) rfl)))) (mvT hZ (hw _ (List.mem_of_getElem? (i := 24) rfl))) (mvT hZ (hw _ (List.mem_of_getElem? (i := 23) rfl))) (by decide) (backOf (W := 0) (rm4d3 l Z a0 hw [] b37 x5 x6 ol_38 o0_38 o1_38 o2_38 gx_42 gy_42 gz_42 (nb / 64 + 1) ((nb / 64 + 1) / 64 + 1) (((nb / 64 + 1) / 64 + 1) / 64 + 1) nl nh T42.heap n0 Zs42 F_b37_levels A_ol_38 A_o0_38 A_o1_38 A_o2_38 (h_nl) (h_nh) (own_b0 l_nl) (own_b0 l_nh) (own_x _) (own_x _)) hZ (hw _ (List.mem_of_getElem? (i := 25) rfl)) (hw _ (List.mem_of_getElem? (i := 3) rfl)) (by decide) (by decide)) q47a q47c (g := (mkF m 151 #[.val (.int pn),.val (.int pp),.val (.int pq),.val (.int px),.val (.int pl),.val (.int ph),.val (.int x1),.val (.int x2),.val (.int x3),.val (.int x4),.val (.int x5),.val (.int x6),.val (.ref b37),.val (.int (1:Int32)),.val (.int (1:Int32)),.unset] [(.int x6), (.int x5), (.ref b37)])) rfl (by rw [hml]; rfl) (Steps.refl _) (argsL := [(.int x5), (.int x6)]) (rest := []) (lenOf pd_2 rfl) rfl (by show 2 * 0 + _ ≤ _; exact Nat.le_of_eq rfl) (hb hby at_151) (fun _ _ => ⟨rfl, e43, (by decide : 5 + 0 ≤ _), (by decide : 267 + 0 ≤ _)⟩)
    dsimp only [Pt.U, Pt.locs, Pt.cells, Pt.slots] at X47 l47 y47 z47 st47 hQ47
    rw [l47, y47, z47] at X47
    obtain ⟨rfl, N47q, e47⟩ := hQ47
    have N47 := Fr.app N43 N47q
    refine Goes.via st47 ?_
    show Goes p.tables e below (T47.setTop (mkF m 154 #[.val (.int pn),.val (.int pp),.val (.int pq),.val (.int px),.val (.int pl),.val (.int ph),.val (.int x1),.val (.int x2),.val (.int x3),.val (.int x4),.val (.int x5),.val (.int x6),.val (.ref b37),.val (.int (1:Int32)),.val (.int (1:Int32)),.unset] [(.int (fn4d3 x5 x6 gx_42 gy_42 gz_42 (nb / 64 + 1) ((nb / 64 + 1) / 64 + 1) (((nb / 64 + 1) / 64 + 1) / 64 + 1) nl nh))])) _
    refine Goes.by (fun _ k => XS.iload X47.here hx rfl (hb hby at_154) rfl k) ?_
    show Goes p.tables e below (T47.setTop (mkF m 156 #[.val (.int pn),.val (.int pp),.val (.int pq),.val (.int px),.val (.int pl),.val (.int ph),.val (.int x1),.val (.int x2),.val (.int x3),.val (.int x4),.val (.int x5),.val (.int x6),.val (.ref b37),.val (.int (1:Int32)),.val (.int (1:Int32)),.unset] [(.int x5), (.int (fn4d3 x5 x6 gx_42 gy_42 gz_42 (nb / 64 + 1) ((nb / 64 + 1) / 64 + 1) (((nb / 64 + 1) / 64 + 1) / 64 + 1) nl nh))])) _
    refine Goes.by (fun _ k => XS.iload X47.here hx rfl (hb hby at_156) rfl k) ?_
    show Goes p.tables e below (T47.setTop (mkF m 158 #[.val (.int pn),.val (.int pp),.val (.int pq),.val (.int px),.val (.int pl),.val (.int ph),.val (.int x1),.val (.int x2),.val (.int x3),.val (.int x4),.val (.int x5),.val (.int x6),.val (.ref b37),.val (.int (1:Int32)),.val (.int (1:Int32)),.unset] [(.int x6), (.int x5), (.int (fn4d3 x5 x6 gx_42 gy_42 gz_42 (nb / 64 + 1) ((nb / 64 + 1) / 64 + 1) (((nb / 64 + 1) / 64 + 1) / 64 + 1) nl nh))])) _
    refine Goes.by (fun _ k => XS.iload X47.here hx rfl (hb hby at_158) rfl k) ?_
    show Goes p.tables e below (T47.setTop (mkF m 160 #[.val (.int pn),.val (.int pp),.val (.int pq),.val (.int px),.val (.int pl),.val (.int ph),.val (.int x1),.val (.int x2),.val (.int x3),.val (.int x4),.val (.int x5),.val (.int x6),.val (.ref b37),.val (.int (1:Int32)),.val (.int (1:Int32)),.unset] [(.int x2), (.int x6), (.int x5), (.int (fn4d3 x5 x6 gx_42 gy_42 gz_42 (nb / 64 + 1) ((nb / 64 + 1) / 64 + 1) (((nb / 64 + 1) / 64 + 1) / 64 + 1) nl nh))])) _
    obtain ⟨_, _, ⟨T48, L48, k48, n48⟩, -, X48, ⟨Lc48, hQ48, l48, y48, z48⟩, st48⟩ := Jvm.LawKit.callS X47 hx (y := (⟨"com/example/xml_graph_join/xmlgraphjoin/topo/BitLevelsAddPinLaw", "in", "(III)Z"⟩ : MethodName)) hown (mvT hZ (hw _ (List.mem_of_getElem? (i := 33) rfl))) (mvT hZ (hw _ (List.mem_of_getElem? (i := 34) rfl))) (mvT hZ (hw _ (List.mem_of_getElem? (i := 35) rfl))) (mvT hZ (hw _ (List.mem_of_getElem? (i := 36) rfl))) (by decide) (backOf (W := 1) (rm7 l Z a0 hw [] x5 x6 x2 T42.heap n0 Zs42) hZ (hw _ (List.mem_of_getElem? (i := 36) rfl)) (hw _ (List.mem_of_getElem? (i := 35) rfl)) (by decide) (by decide)) (g := (mkF m 160 #[.val (.int pn),.val (.int pp),.val (.int pq),.val (.int px),.val (.int pl),.val (.int ph),.val (.int x1),.val (.int x2),.val (.int x3),.val (.int x4),.val (.int x5),.val (.int x6),.val (.ref b37),.val (.int (1:Int32)),.val (.int (1:Int32)),.unset] [(.int x2), (.int x6), (.int x5), (.int (fn4d3 x5 x6 gx_42 gy_42 gz_42 (nb / 64 + 1) ((nb / 64 + 1) / 64 + 1) (((nb / 64 + 1) / 64 + 1) / 64 + 1) nl nh))])) rfl (by rw [hml]; rfl) (argsL := [(.int x5), (.int x6), (.int x2)]) (rest := [(.int (fn4d3 x5 x6 gx_42 gy_42 gz_42 (nb / 64 + 1) ((nb / 64 + 1) / 64 + 1) (((nb / 64 + 1) / 64 + 1) / 64 + 1) nl nh))]) (lenOf pd_3 rfl) rfl (by show 2 * 0 + (1 + 0) ≤ _; decide) (hb hby at_160) (fun _ _ => ⟨rfl, e47, (by decide : 5 + 0 ≤ _), (by decide : 267 + 0 ≤ _)⟩)
    dsimp only [Pt.U, Pt.locs, Pt.cells, Pt.slots] at X48 l48 y48 z48 st48 hQ48
    rw [l48, y48, z48] at X48
    obtain ⟨rfl, N48q, e48⟩ := hQ48
    have N48 := Fr.app N47 N48q
    refine Goes.by st48 ?_
    show Goes p.tables e below (T48.setTop (mkF m 163 #[.val (.int pn),.val (.int pp),.val (.int pq),.val (.int px),.val (.int pl),.val (.int ph),.val (.int x1),.val (.int x2),.val (.int x3),.val (.int x4),.val (.int x5),.val (.int x6),.val (.ref b37),.val (.int (1:Int32)),.val (.int (1:Int32)),.unset] [(.int (fn7 x5 x6 x2)), (.int (fn4d3 x5 x6 gx_42 gy_42 gz_42 (nb / 64 + 1) ((nb / 64 + 1) / 64 + 1) (((nb / 64 + 1) / 64 + 1) / 64 + 1) nl nh))])) _
    by_cases hc49 : (fn7 x5 x6 x2) = (0:Int32)
    · refine Goes.by (fun _ k => XS.ifNo X48.here hx rfl (hb hby at_163) rfl ((if0 _ _).trans (teq hc49).2) k) ?_
      show Goes p.tables e below (T48.setTop (mkF m 166 #[.val (.int pn),.val (.int pp),.val (.int pq),.val (.int px),.val (.int pl),.val (.int ph),.val (.int x1),.val (.int x2),.val (.int x3),.val (.int x4),.val (.int x5),.val (.int x6),.val (.ref b37),.val (.int (1:Int32)),.val (.int (1:Int32)),.unset] [(.int (fn4d3 x5 x6 gx_42 gy_42 gz_42 (nb / 64 + 1) ((nb / 64 + 1) / 64 + 1) (((nb / 64 + 1) / 64 + 1) / 64 + 1) nl nh))])) _
      refine Goes.by (fun _ k => XS.iload X48.here hx rfl (hb hby at_166) rfl k) ?_
      show Goes p.tables e below (T48.setTop (mkF m 168 #[.val (.int pn),.val (.int pp),.val (.int pq),.val (.int px),.val (.int pl),.val (.int ph),.val (.int x1),.val (.int x2),.val (.int x3),.val (.int x4),.val (.int x5),.val (.int x6),.val (.ref b37),.val (.int (1:Int32)),.val (.int (1:Int32)),.unset] [(.int x5), (.int (fn4d3 x5 x6 gx_42 gy_42 gz_42 (nb / 64 + 1) ((nb / 64 + 1) / 64 + 1) (((nb / 64 + 1) / 64 + 1) / 64 + 1) nl nh))])) _
      refine Goes.by (fun _ k => XS.iload X48.here hx rfl (hb hby at_168) rfl k) ?_
      show Goes p.tables e below (T48.setTop (mkF m 170 #[.val (.int pn),.val (.int pp),.val (.int pq),.val (.int px),.val (.int pl),.val (.int ph),.val (.int x1),.val (.int x2),.val (.int x3),.val (.int x4),.val (.int x5),.val (.int x6),.val (.ref b37),.val (.int (1:Int32)),.val (.int (1:Int32)),.unset] [(.int x6), (.int x5), (.int (fn4d3 x5 x6 gx_42 gy_42 gz_42 (nb / 64 + 1) ((nb / 64 + 1) / 64 + 1) (((nb / 64 + 1) / 64 + 1) / 64 + 1) nl nh))])) _
      refine Goes.by (fun _ k => XS.iload X48.here hx rfl (hb hby at_170) rfl k) ?_
      show Goes p.tables e below (T48.setTop (mkF m 172 #[.val (.int pn),.val (.int pp),.val (.int pq),.val (.int px),.val (.int pl),.val (.int ph),.val (.int x1),.val (.int x2),.val (.int x3),.val (.int x4),.val (.int x5),.val (.int x6),.val (.ref b37),.val (.int (1:Int32)),.val (.int (1:Int32)),.unset] [(.int x3), (.int x6), (.int x5), (.int (fn4d3 x5 x6 gx_42 gy_42 gz_42 (nb / 64 + 1) ((nb / 64 + 1) / 64 + 1) (((nb / 64 + 1) / 64 + 1) / 64 + 1) nl nh))])) _
      obtain ⟨_, _, ⟨T50, L50, k50, n50⟩, -, X50, ⟨Lc50, hQ50, l50, y50, z50⟩, st50⟩ := Jvm.LawKit.callS X48 hx (y := (⟨"com/example/xml_graph_join/xmlgraphjoin/topo/BitLevelsAddPinLaw", "in", "(III)Z"⟩ : MethodName)) hown (mvT hZ (hw _ (List.mem_of_getElem? (i := 33) rfl))) (mvT hZ (hw _ (List.mem_of_getElem? (i := 34) rfl))) (mvT hZ (hw _ (List.mem_of_getElem? (i := 35) rfl))) (mvT hZ (hw _ (List.mem_of_getElem? (i := 36) rfl))) (by decide) (backOf (W := 1) (rm7 l Z a0 hw [] x5 x6 x3 T42.heap n0 Zs42) hZ (hw _ (List.mem_of_getElem? (i := 36) rfl)) (hw _ (List.mem_of_getElem? (i := 35) rfl)) (by decide) (by decide)) (g := (mkF m 172 #[.val (.int pn),.val (.int pp),.val (.int pq),.val (.int px),.val (.int pl),.val (.int ph),.val (.int x1),.val (.int x2),.val (.int x3),.val (.int x4),.val (.int x5),.val (.int x6),.val (.ref b37),.val (.int (1:Int32)),.val (.int (1:Int32)),.unset] [(.int x3), (.int x6), (.int x5), (.int (fn4d3 x5 x6 gx_42 gy_42 gz_42 (nb / 64 + 1) ((nb / 64 + 1) / 64 + 1) (((nb / 64 + 1) / 64 + 1) / 64 + 1) nl nh))])) rfl (by rw [hml]; rfl) (argsL := [(.int x5), (.int x6), (.int x3)]) (rest := [(.int (fn4d3 x5 x6 gx_42 gy_42 gz_42 (nb / 64 + 1) ((nb / 64 + 1) / 64 + 1) (((nb / 64 + 1) / 64 + 1) / 64 + 1) nl nh))]) (lenOf pd_3 rfl) rfl (by show 2 * 0 + (1 + 0) ≤ _; decide) (hb hby at_172) (fun _ _ => ⟨rfl, e48, (by decide : 5 + 0 ≤ _), (by decide : 267 + 0 ≤ _)⟩)
      dsimp only [Pt.U, Pt.locs, Pt.cells, Pt.slots] at X50 l50 y50 z50 st50 hQ50
      rw [l50, y50, z50] at X50
      obtain ⟨rfl, N50q, e50⟩ := hQ50
      have N50 := Fr.app N48 N50q
      refine Goes.by st50 ?_
      show Goes p.tables e below (T50.setTop (mkF m 175 #[.val (.int pn),.val (.int pp),.val (.int pq),.val (.int px),.val (.int pl),.val (.int ph),.val (.int x1),.val (.int x2),.val (.int x3),.val (.int x4),.val (.int x5),.val (.int x6),.val (.ref b37),.val (.int (1:Int32)),.val (.int (1:Int32)),.unset] [(.int (fn7 x5 x6 x3)), (.int (fn4d3 x5 x6 gx_42 gy_42 gz_42 (nb / 64 + 1) ((nb / 64 + 1) / 64 + 1) (((nb / 64 + 1) / 64 + 1) / 64 + 1) nl nh))])) _
      by_cases hc51 : (fn7 x5 x6 x3) = (0:Int32)
      · refine Goes.by (fun _ k => XS.ifYes X50.here hx rfl (pc0 := 175) (pc' := 182) rfl (hb hby at_175) rfl ((if0 _ _).trans (teq hc51).1) (by decide) (by decide) k) ?_
        show Goes p.tables e below (T50.setTop (mkF m 182 #[.val (.int pn),.val (.int pp),.val (.int pq),.val (.int px),.val (.int pl),.val (.int ph),.val (.int x1),.val (.int x2),.val (.int x3),.val (.int x4),.val (.int x5),.val (.int x6),.val (.ref b37),.val (.int (1:Int32)),.val (.int (1:Int32)),.unset] [(.int (fn4d3 x5 x6 gx_42 gy_42 gz_42 (nb / 64 + 1) ((nb / 64 + 1) / 64 + 1) (((nb / 64 + 1) / 64 + 1) / 64 + 1) nl nh))])) _
        refine Goes.by (fun _ k => XS.iconst X50.here hx rfl (hb hby at_182) k) ?_
        show Goes p.tables e below (T50.setTop (mkF m 183 #[.val (.int pn),.val (.int pp),.val (.int pq),.val (.int px),.val (.int pl),.val (.int ph),.val (.int x1),.val (.int x2),.val (.int x3),.val (.int x4),.val (.int x5),.val (.int x6),.val (.ref b37),.val (.int (1:Int32)),.val (.int (1:Int32)),.unset] [(.int (0:Int32)), (.int (fn4d3 x5 x6 gx_42 gy_42 gz_42 (nb / 64 + 1) ((nb / 64 + 1) / 64 + 1) (((nb / 64 + 1) / 64 + 1) / 64 + 1) nl nh))])) _
        refine Goes.by (fun _ k => XS.icmpNo X50.here hx rfl (hb hby at_183) rfl (teq ((own_fin (own_any3b _ _ _ _ _ _ _ _ _ _) (own_in01 _ _ _) (own_in01 _ _ _) ((own_any3 R_42 (own_w2 hD.2.2) (own_x _) (own_x _) h_nl h_nh (own_b0 l_nl) (own_b0 l_nh)).trans ((own_has2 _ _ _ _).trans (or_congr (own_in h_nl h_nh h_na).symm (own_in h_nl h_nh h_nq).symm)))).2.2 hc49 hc51 : (fn4d3 x5 x6 gx_42 gy_42 gz_42 (nb / 64 + 1) ((nb / 64 + 1) / 64 + 1) (((nb / 64 + 1) / 64 + 1) / 64 + 1) nl nh) = (0:Int32))).2 k) ?_
        show Goes p.tables e below (T50.setTop (mkF m 186 #[.val (.int pn),.val (.int pp),.val (.int pq),.val (.int px),.val (.int pl),.val (.int ph),.val (.int x1),.val (.int x2),.val (.int x3),.val (.int x4),.val (.int x5),.val (.int x6),.val (.ref b37),.val (.int (1:Int32)),.val (.int (1:Int32)),.unset] [])) _
        refine Goes.by (fun _ k => XS.iconst X50.here hx rfl (hb hby at_186) k) ?_
        show Goes p.tables e below (T50.setTop (mkF m 187 #[.val (.int pn),.val (.int pp),.val (.int pq),.val (.int px),.val (.int pl),.val (.int ph),.val (.int x1),.val (.int x2),.val (.int x3),.val (.int x4),.val (.int x5),.val (.int x6),.val (.ref b37),.val (.int (1:Int32)),.val (.int (1:Int32)),.unset] [(.int (1:Int32))])) _
        refine Goes.by (fun _ k => XS.goto X50.here hx rfl (pc0 := 187) (pc' := 191) rfl (hb hby at_187) (by decide) (by decide) k) ?_
        show Goes p.tables e below (T50.setTop (mkF m 191 #[.val (.int pn),.val (.int pp),.val (.int pq),.val (.int px),.val (.int pl),.val (.int ph),.val (.int x1),.val (.int x2),.val (.int x3),.val (.int x4),.val (.int x5),.val (.int x6),.val (.ref b37),.val (.int (1:Int32)),.val (.int (1:Int32)),.unset] [(.int (1:Int32))])) _
        refine Goes.by (fun _ k => XS.istore X50.here hx rfl (hb hby at_191) rfl (l' := #[.val (.int pn),.val (.int pp),.val (.int pq),.val (.int px),.val (.int pl),.val (.int ph),.val (.int x1),.val (.int x2),.val (.int x3),.val (.int x4),.val (.int x5),.val (.int x6),.val (.ref b37),.val (.int (1:Int32)),.val (.int (1:Int32)),.val (.int (1:Int32))]) rfl k) ?_
        show Goes p.tables e below (T50.setTop (mkF m 193 #[.val (.int pn),.val (.int pp),.val (.int pq),.val (.int px),.val (.int pl),.val (.int ph),.val (.int x1),.val (.int x2),.val (.int x3),.val (.int x4),.val (.int x5),.val (.int x6),.val (.ref b37),.val (.int (1:Int32)),.val (.int (1:Int32)),.val (.int (1:Int32))] [])) _
        refine Goes.by (fun _ k => XS.iload X50.here hx rfl (hb hby at_193) rfl k) ?_
        show Goes p.tables e below (T50.setTop (mkF m 195 #[.val (.int pn),.val (.int pp),.val (.int pq),.val (.int px),.val (.int pl),.val (.int ph),.val (.int x1),.val (.int x2),.val (.int x3),.val (.int x4),.val (.int x5),.val (.int x6),.val (.ref b37),.val (.int (1:Int32)),.val (.int (1:Int32)),.val (.int (1:Int32))] [(.int (1:Int32))])) _
        refine Goes.by (fun _ k => XS.ifNo X50.here hx rfl (hb hby at_195) rfl ((if0 _ _).trans (feq (by decide : ¬ ((1:Int32) = (0:Int32)))).1) k) ?_
        show Goes p.tables e below (T50.setTop (mkF m 198 #[.val (.int pn),.val (.int pp),.val (.int pq),.val (.int px),.val (.int pl),.val (.int ph),.val (.int x1),.val (.int x2),.val (.int x3),.val (.int x4),.val (.int x5),.val (.int x6),.val (.ref b37),.val (.int (1:Int32)),.val (.int (1:Int32)),.val (.int (1:Int32))] [])) _
        refine Goes.by (fun _ k => XS.iload X50.here hx rfl (hb hby at_198) rfl k) ?_
        show Goes p.tables e below (T50.setTop (mkF m 200 #[.val (.int pn),.val (.int pp),.val (.int pq),.val (.int px),.val (.int pl),.val (.int ph),.val (.int x1),.val (.int x2),.val (.int x3),.val (.int x4),.val (.int x5),.val (.int x6),.val (.ref b37),.val (.int (1:Int32)),.val (.int (1:Int32)),.val (.int (1:Int32))] [(.int (1:Int32))])) _
        refine Goes.by (fun _ k => XS.ifNo X50.here hx rfl (hb hby at_200) rfl ((if0 _ _).trans (feq (by decide : ¬ ((1:Int32) = (0:Int32)))).1) k) ?_
        show Goes p.tables e below (T50.setTop (mkF m 203 #[.val (.int pn),.val (.int pp),.val (.int pq),.val (.int px),.val (.int pl),.val (.int ph),.val (.int x1),.val (.int x2),.val (.int x3),.val (.int x4),.val (.int x5),.val (.int x6),.val (.ref b37),.val (.int (1:Int32)),.val (.int (1:Int32)),.val (.int (1:Int32))] [])) _
        refine Goes.by (fun _ k => XS.iload X50.here hx rfl (hb hby at_203) rfl k) ?_
        show Goes p.tables e below (T50.setTop (mkF m 205 #[.val (.int pn),.val (.int pp),.val (.int pq),.val (.int px),.val (.int pl),.val (.int ph),.val (.int x1),.val (.int x2),.val (.int x3),.val (.int x4),.val (.int x5),.val (.int x6),.val (.ref b37),.val (.int (1:Int32)),.val (.int (1:Int32)),.val (.int (1:Int32))] [(.int (1:Int32))])) _
        refine Goes.by (fun _ k => XS.ifNo X50.here hx rfl (hb hby at_205) rfl ((if0 _ _).trans (feq (by decide : ¬ ((1:Int32) = (0:Int32)))).1) k) ?_
        show Goes p.tables e below (T50.setTop (mkF m 208 #[.val (.int pn),.val (.int pp),.val (.int pq),.val (.int px),.val (.int pl),.val (.int ph),.val (.int x1),.val (.int x2),.val (.int x3),.val (.int x4),.val (.int x5),.val (.int x6),.val (.ref b37),.val (.int (1:Int32)),.val (.int (1:Int32)),.val (.int (1:Int32))] [])) _
        refine Goes.by (fun _ k => XS.iconst X50.here hx rfl (hb hby at_208) k) ?_
        show Goes p.tables e below (T50.setTop (mkF m 209 #[.val (.int pn),.val (.int pp),.val (.int pq),.val (.int px),.val (.int pl),.val (.int ph),.val (.int x1),.val (.int x2),.val (.int x3),.val (.int x4),.val (.int x5),.val (.int x6),.val (.ref b37),.val (.int (1:Int32)),.val (.int (1:Int32)),.val (.int (1:Int32))] [(.int (1:Int32))])) _
        refine Goes.by (fun _ k => XS.goto X50.here hx rfl (pc0 := 209) (pc' := 213) rfl (hb hby at_209) (by decide) (by decide) k) ?_
        show Goes p.tables e below (T50.setTop (mkF m 213 #[.val (.int pn),.val (.int pp),.val (.int pq),.val (.int px),.val (.int pl),.val (.int ph),.val (.int x1),.val (.int x2),.val (.int x3),.val (.int x4),.val (.int x5),.val (.int x6),.val (.ref b37),.val (.int (1:Int32)),.val (.int (1:Int32)),.val (.int (1:Int32))] [(.int (1:Int32))])) _
        obtain ⟨fs, hr, hrun, hended, hW, hsame⟩ := X50.leave (v := some (.int (1:Int32))) (fun h => by rw [Bd.returns] at h; cases h)
        refine ⟨_, _, retN X50 hx (t := .boolean) Bd.returns (by simp) (hb hby at_213) hr, hrun, hended, _, _, rfl, ?_, ⟨_, rfl⟩, hW, hsame.mono (by decide) (by decide)⟩
        show Q0 Z pn pp pq px pl ph h0 n0 _ T50.heap _
        rw [e50]
        exact ⟨rfl, N50⟩
      · refine Goes.by (fun _ k => XS.ifNo X50.here hx rfl (hb hby at_175) rfl ((if0 _ _).trans (feq hc51).1) k) ?_
        show Goes p.tables e below (T50.setTop (mkF m 178 #[.val (.int pn),.val (.int pp),.val (.int pq),.val (.int px),.val (.int pl),.val (.int ph),.val (.int x1),.val (.int x2),.val (.int x3),.val (.int x4),.val (.int x5),.val (.int x6),.val (.ref b37),.val (.int (1:Int32)),.val (.int (1:Int32)),.unset] [(.int (fn4d3 x5 x6 gx_42 gy_42 gz_42 (nb / 64 + 1) ((nb / 64 + 1) / 64 + 1) (((nb / 64 + 1) / 64 + 1) / 64 + 1) nl nh))])) _
        refine Goes.by (fun _ k => XS.iconst X50.here hx rfl (hb hby at_178) k) ?_
        show Goes p.tables e below (T50.setTop (mkF m 179 #[.val (.int pn),.val (.int pp),.val (.int pq),.val (.int px),.val (.int pl),.val (.int ph),.val (.int x1),.val (.int x2),.val (.int x3),.val (.int x4),.val (.int x5),.val (.int x6),.val (.ref b37),.val (.int (1:Int32)),.val (.int (1:Int32)),.unset] [(.int (1:Int32)), (.int (fn4d3 x5 x6 gx_42 gy_42 gz_42 (nb / 64 + 1) ((nb / 64 + 1) / 64 + 1) (((nb / 64 + 1) / 64 + 1) / 64 + 1) nl nh))])) _
        refine Goes.by (fun _ k => XS.goto X50.here hx rfl (pc0 := 179) (pc' := 183) rfl (hb hby at_179) (by decide) (by decide) k) ?_
        show Goes p.tables e below (T50.setTop (mkF m 183 #[.val (.int pn),.val (.int pp),.val (.int pq),.val (.int px),.val (.int pl),.val (.int ph),.val (.int x1),.val (.int x2),.val (.int x3),.val (.int x4),.val (.int x5),.val (.int x6),.val (.ref b37),.val (.int (1:Int32)),.val (.int (1:Int32)),.unset] [(.int (1:Int32)), (.int (fn4d3 x5 x6 gx_42 gy_42 gz_42 (nb / 64 + 1) ((nb / 64 + 1) / 64 + 1) (((nb / 64 + 1) / 64 + 1) / 64 + 1) nl nh))])) _
        refine Goes.by (fun _ k => XS.icmpNo X50.here hx rfl (hb hby at_183) rfl (teq ((own_fin (own_any3b _ _ _ _ _ _ _ _ _ _) (own_in01 _ _ _) (own_in01 _ _ _) ((own_any3 R_42 (own_w2 hD.2.2) (own_x _) (own_x _) h_nl h_nh (own_b0 l_nl) (own_b0 l_nh)).trans ((own_has2 _ _ _ _).trans (or_congr (own_in h_nl h_nh h_na).symm (own_in h_nl h_nh h_nq).symm)))).2.1 hc49 hc51 : (fn4d3 x5 x6 gx_42 gy_42 gz_42 (nb / 64 + 1) ((nb / 64 + 1) / 64 + 1) (((nb / 64 + 1) / 64 + 1) / 64 + 1) nl nh) = (1:Int32))).2 k) ?_
        show Goes p.tables e below (T50.setTop (mkF m 186 #[.val (.int pn),.val (.int pp),.val (.int pq),.val (.int px),.val (.int pl),.val (.int ph),.val (.int x1),.val (.int x2),.val (.int x3),.val (.int x4),.val (.int x5),.val (.int x6),.val (.ref b37),.val (.int (1:Int32)),.val (.int (1:Int32)),.unset] [])) _
        refine Goes.by (fun _ k => XS.iconst X50.here hx rfl (hb hby at_186) k) ?_
        show Goes p.tables e below (T50.setTop (mkF m 187 #[.val (.int pn),.val (.int pp),.val (.int pq),.val (.int px),.val (.int pl),.val (.int ph),.val (.int x1),.val (.int x2),.val (.int x3),.val (.int x4),.val (.int x5),.val (.int x6),.val (.ref b37),.val (.int (1:Int32)),.val (.int (1:Int32)),.unset] [(.int (1:Int32))])) _
        refine Goes.by (fun _ k => XS.goto X50.here hx rfl (pc0 := 187) (pc' := 191) rfl (hb hby at_187) (by decide) (by decide) k) ?_
        show Goes p.tables e below (T50.setTop (mkF m 191 #[.val (.int pn),.val (.int pp),.val (.int pq),.val (.int px),.val (.int pl),.val (.int ph),.val (.int x1),.val (.int x2),.val (.int x3),.val (.int x4),.val (.int x5),.val (.int x6),.val (.ref b37),.val (.int (1:Int32)),.val (.int (1:Int32)),.unset] [(.int (1:Int32))])) _
        refine Goes.by (fun _ k => XS.istore X50.here hx rfl (hb hby at_191) rfl (l' := #[.val (.int pn),.val (.int pp),.val (.int pq),.val (.int px),.val (.int pl),.val (.int ph),.val (.int x1),.val (.int x2),.val (.int x3),.val (.int x4),.val (.int x5),.val (.int x6),.val (.ref b37),.val (.int (1:Int32)),.val (.int (1:Int32)),.val (.int (1:Int32))]) rfl k) ?_
        show Goes p.tables e below (T50.setTop (mkF m 193 #[.val (.int pn),.val (.int pp),.val (.int pq),.val (.int px),.val (.int pl),.val (.int ph),.val (.int x1),.val (.int x2),.val (.int x3),.val (.int x4),.val (.int x5),.val (.int x6),.val (.ref b37),.val (.int (1:Int32)),.val (.int (1:Int32)),.val (.int (1:Int32))] [])) _
        refine Goes.by (fun _ k => XS.iload X50.here hx rfl (hb hby at_193) rfl k) ?_
        show Goes p.tables e below (T50.setTop (mkF m 195 #[.val (.int pn),.val (.int pp),.val (.int pq),.val (.int px),.val (.int pl),.val (.int ph),.val (.int x1),.val (.int x2),.val (.int x3),.val (.int x4),.val (.int x5),.val (.int x6),.val (.ref b37),.val (.int (1:Int32)),.val (.int (1:Int32)),.val (.int (1:Int32))] [(.int (1:Int32))])) _
        refine Goes.by (fun _ k => XS.ifNo X50.here hx rfl (hb hby at_195) rfl ((if0 _ _).trans (feq (by decide : ¬ ((1:Int32) = (0:Int32)))).1) k) ?_
        show Goes p.tables e below (T50.setTop (mkF m 198 #[.val (.int pn),.val (.int pp),.val (.int pq),.val (.int px),.val (.int pl),.val (.int ph),.val (.int x1),.val (.int x2),.val (.int x3),.val (.int x4),.val (.int x5),.val (.int x6),.val (.ref b37),.val (.int (1:Int32)),.val (.int (1:Int32)),.val (.int (1:Int32))] [])) _
        refine Goes.by (fun _ k => XS.iload X50.here hx rfl (hb hby at_198) rfl k) ?_
        show Goes p.tables e below (T50.setTop (mkF m 200 #[.val (.int pn),.val (.int pp),.val (.int pq),.val (.int px),.val (.int pl),.val (.int ph),.val (.int x1),.val (.int x2),.val (.int x3),.val (.int x4),.val (.int x5),.val (.int x6),.val (.ref b37),.val (.int (1:Int32)),.val (.int (1:Int32)),.val (.int (1:Int32))] [(.int (1:Int32))])) _
        refine Goes.by (fun _ k => XS.ifNo X50.here hx rfl (hb hby at_200) rfl ((if0 _ _).trans (feq (by decide : ¬ ((1:Int32) = (0:Int32)))).1) k) ?_
        show Goes p.tables e below (T50.setTop (mkF m 203 #[.val (.int pn),.val (.int pp),.val (.int pq),.val (.int px),.val (.int pl),.val (.int ph),.val (.int x1),.val (.int x2),.val (.int x3),.val (.int x4),.val (.int x5),.val (.int x6),.val (.ref b37),.val (.int (1:Int32)),.val (.int (1:Int32)),.val (.int (1:Int32))] [])) _
        refine Goes.by (fun _ k => XS.iload X50.here hx rfl (hb hby at_203) rfl k) ?_
        show Goes p.tables e below (T50.setTop (mkF m 205 #[.val (.int pn),.val (.int pp),.val (.int pq),.val (.int px),.val (.int pl),.val (.int ph),.val (.int x1),.val (.int x2),.val (.int x3),.val (.int x4),.val (.int x5),.val (.int x6),.val (.ref b37),.val (.int (1:Int32)),.val (.int (1:Int32)),.val (.int (1:Int32))] [(.int (1:Int32))])) _
        refine Goes.by (fun _ k => XS.ifNo X50.here hx rfl (hb hby at_205) rfl ((if0 _ _).trans (feq (by decide : ¬ ((1:Int32) = (0:Int32)))).1) k) ?_
        show Goes p.tables e below (T50.setTop (mkF m 208 #[.val (.int pn),.val (.int pp),.val (.int pq),.val (.int px),.val (.int pl),.val (.int ph),.val (.int x1),.val (.int x2),.val (.int x3),.val (.int x4),.val (.int x5),.val (.int x6),.val (.ref b37),.val (.int (1:Int32)),.val (.int (1:Int32)),.val (.int (1:Int32))] [])) _
        refine Goes.by (fun _ k => XS.iconst X50.here hx rfl (hb hby at_208) k) ?_
        show Goes p.tables e below (T50.setTop (mkF m 209 #[.val (.int pn),.val (.int pp),.val (.int pq),.val (.int px),.val (.int pl),.val (.int ph),.val (.int x1),.val (.int x2),.val (.int x3),.val (.int x4),.val (.int x5),.val (.int x6),.val (.ref b37),.val (.int (1:Int32)),.val (.int (1:Int32)),.val (.int (1:Int32))] [(.int (1:Int32))])) _
        refine Goes.by (fun _ k => XS.goto X50.here hx rfl (pc0 := 209) (pc' := 213) rfl (hb hby at_209) (by decide) (by decide) k) ?_
        show Goes p.tables e below (T50.setTop (mkF m 213 #[.val (.int pn),.val (.int pp),.val (.int pq),.val (.int px),.val (.int pl),.val (.int ph),.val (.int x1),.val (.int x2),.val (.int x3),.val (.int x4),.val (.int x5),.val (.int x6),.val (.ref b37),.val (.int (1:Int32)),.val (.int (1:Int32)),.val (.int (1:Int32))] [(.int (1:Int32))])) _
        obtain ⟨fs, hr, hrun, hended, hW, hsame⟩ := X50.leave (v := some (.int (1:Int32))) (fun h => by rw [Bd.returns] at h; cases h)
        refine ⟨_, _, retN X50 hx (t := .boolean) Bd.returns (by simp) (hb hby at_213) hr, hrun, hended, _, _, rfl, ?_, ⟨_, rfl⟩, hW, hsame.mono (by decide) (by decide)⟩
        show Q0 Z pn pp pq px pl ph h0 n0 _ T50.heap _
        rw [e50]
        exact ⟨rfl, N50⟩
    · refine Goes.by (fun _ k => XS.ifYes X48.here hx rfl (pc0 := 163) (pc' := 178) rfl (hb hby at_163) rfl ((if0 _ _).trans (feq hc49).2) (by decide) (by decide) k) ?_
      show Goes p.tables e below (T48.setTop (mkF m 178 #[.val (.int pn),.val (.int pp),.val (.int pq),.val (.int px),.val (.int pl),.val (.int ph),.val (.int x1),.val (.int x2),.val (.int x3),.val (.int x4),.val (.int x5),.val (.int x6),.val (.ref b37),.val (.int (1:Int32)),.val (.int (1:Int32)),.unset] [(.int (fn4d3 x5 x6 gx_42 gy_42 gz_42 (nb / 64 + 1) ((nb / 64 + 1) / 64 + 1) (((nb / 64 + 1) / 64 + 1) / 64 + 1) nl nh))])) _
      refine Goes.by (fun _ k => XS.iconst X48.here hx rfl (hb hby at_178) k) ?_
      show Goes p.tables e below (T48.setTop (mkF m 179 #[.val (.int pn),.val (.int pp),.val (.int pq),.val (.int px),.val (.int pl),.val (.int ph),.val (.int x1),.val (.int x2),.val (.int x3),.val (.int x4),.val (.int x5),.val (.int x6),.val (.ref b37),.val (.int (1:Int32)),.val (.int (1:Int32)),.unset] [(.int (1:Int32)), (.int (fn4d3 x5 x6 gx_42 gy_42 gz_42 (nb / 64 + 1) ((nb / 64 + 1) / 64 + 1) (((nb / 64 + 1) / 64 + 1) / 64 + 1) nl nh))])) _
      refine Goes.by (fun _ k => XS.goto X48.here hx rfl (pc0 := 179) (pc' := 183) rfl (hb hby at_179) (by decide) (by decide) k) ?_
      show Goes p.tables e below (T48.setTop (mkF m 183 #[.val (.int pn),.val (.int pp),.val (.int pq),.val (.int px),.val (.int pl),.val (.int ph),.val (.int x1),.val (.int x2),.val (.int x3),.val (.int x4),.val (.int x5),.val (.int x6),.val (.ref b37),.val (.int (1:Int32)),.val (.int (1:Int32)),.unset] [(.int (1:Int32)), (.int (fn4d3 x5 x6 gx_42 gy_42 gz_42 (nb / 64 + 1) ((nb / 64 + 1) / 64 + 1) (((nb / 64 + 1) / 64 + 1) / 64 + 1) nl nh))])) _
      refine Goes.by (fun _ k => XS.icmpNo X48.here hx rfl (hb hby at_183) rfl (teq ((own_fin (own_any3b _ _ _ _ _ _ _ _ _ _) (own_in01 _ _ _) (own_in01 _ _ _) ((own_any3 R_42 (own_w2 hD.2.2) (own_x _) (own_x _) h_nl h_nh (own_b0 l_nl) (own_b0 l_nh)).trans ((own_has2 _ _ _ _).trans (or_congr (own_in h_nl h_nh h_na).symm (own_in h_nl h_nh h_nq).symm)))).1 hc49 : (fn4d3 x5 x6 gx_42 gy_42 gz_42 (nb / 64 + 1) ((nb / 64 + 1) / 64 + 1) (((nb / 64 + 1) / 64 + 1) / 64 + 1) nl nh) = (1:Int32))).2 k) ?_
      show Goes p.tables e below (T48.setTop (mkF m 186 #[.val (.int pn),.val (.int pp),.val (.int pq),.val (.int px),.val (.int pl),.val (.int ph),.val (.int x1),.val (.int x2),.val (.int x3),.val (.int x4),.val (.int x5),.val (.int x6),.val (.ref b37),.val (.int (1:Int32)),.val (.int (1:Int32)),.unset] [])) _
      refine Goes.by (fun _ k => XS.iconst X48.here hx rfl (hb hby at_186) k) ?_
      show Goes p.tables e below (T48.setTop (mkF m 187 #[.val (.int pn),.val (.int pp),.val (.int pq),.val (.int px),.val (.int pl),.val (.int ph),.val (.int x1),.val (.int x2),.val (.int x3),.val (.int x4),.val (.int x5),.val (.int x6),.val (.ref b37),.val (.int (1:Int32)),.val (.int (1:Int32)),.unset] [(.int (1:Int32))])) _
      refine Goes.by (fun _ k => XS.goto X48.here hx rfl (pc0 := 187) (pc' := 191) rfl (hb hby at_187) (by decide) (by decide) k) ?_
      show Goes p.tables e below (T48.setTop (mkF m 191 #[.val (.int pn),.val (.int pp),.val (.int pq),.val (.int px),.val (.int pl),.val (.int ph),.val (.int x1),.val (.int x2),.val (.int x3),.val (.int x4),.val (.int x5),.val (.int x6),.val (.ref b37),.val (.int (1:Int32)),.val (.int (1:Int32)),.unset] [(.int (1:Int32))])) _
      refine Goes.by (fun _ k => XS.istore X48.here hx rfl (hb hby at_191) rfl (l' := #[.val (.int pn),.val (.int pp),.val (.int pq),.val (.int px),.val (.int pl),.val (.int ph),.val (.int x1),.val (.int x2),.val (.int x3),.val (.int x4),.val (.int x5),.val (.int x6),.val (.ref b37),.val (.int (1:Int32)),.val (.int (1:Int32)),.val (.int (1:Int32))]) rfl k) ?_
      show Goes p.tables e below (T48.setTop (mkF m 193 #[.val (.int pn),.val (.int pp),.val (.int pq),.val (.int px),.val (.int pl),.val (.int ph),.val (.int x1),.val (.int x2),.val (.int x3),.val (.int x4),.val (.int x5),.val (.int x6),.val (.ref b37),.val (.int (1:Int32)),.val (.int (1:Int32)),.val (.int (1:Int32))] [])) _
      refine Goes.by (fun _ k => XS.iload X48.here hx rfl (hb hby at_193) rfl k) ?_
      show Goes p.tables e below (T48.setTop (mkF m 195 #[.val (.int pn),.val (.int pp),.val (.int pq),.val (.int px),.val (.int pl),.val (.int ph),.val (.int x1),.val (.int x2),.val (.int x3),.val (.int x4),.val (.int x5),.val (.int x6),.val (.ref b37),.val (.int (1:Int32)),.val (.int (1:Int32)),.val (.int (1:Int32))] [(.int (1:Int32))])) _
      refine Goes.by (fun _ k => XS.ifNo X48.here hx rfl (hb hby at_195) rfl ((if0 _ _).trans (feq (by decide : ¬ ((1:Int32) = (0:Int32)))).1) k) ?_
      show Goes p.tables e below (T48.setTop (mkF m 198 #[.val (.int pn),.val (.int pp),.val (.int pq),.val (.int px),.val (.int pl),.val (.int ph),.val (.int x1),.val (.int x2),.val (.int x3),.val (.int x4),.val (.int x5),.val (.int x6),.val (.ref b37),.val (.int (1:Int32)),.val (.int (1:Int32)),.val (.int (1:Int32))] [])) _
      refine Goes.by (fun _ k => XS.iload X48.here hx rfl (hb hby at_198) rfl k) ?_
      show Goes p.tables e below (T48.setTop (mkF m 200 #[.val (.int pn),.val (.int pp),.val (.int pq),.val (.int px),.val (.int pl),.val (.int ph),.val (.int x1),.val (.int x2),.val (.int x3),.val (.int x4),.val (.int x5),.val (.int x6),.val (.ref b37),.val (.int (1:Int32)),.val (.int (1:Int32)),.val (.int (1:Int32))] [(.int (1:Int32))])) _
      refine Goes.by (fun _ k => XS.ifNo X48.here hx rfl (hb hby at_200) rfl ((if0 _ _).trans (feq (by decide : ¬ ((1:Int32) = (0:Int32)))).1) k) ?_
      show Goes p.tables e below (T48.setTop (mkF m 203 #[.val (.int pn),.val (.int pp),.val (.int pq),.val (.int px),.val (.int pl),.val (.int ph),.val (.int x1),.val (.int x2),.val (.int x3),.val (.int x4),.val (.int x5),.val (.int x6),.val (.ref b37),.val (.int (1:Int32)),.val (.int (1:Int32)),.val (.int (1:Int32))] [])) _
      refine Goes.by (fun _ k => XS.iload X48.here hx rfl (hb hby at_203) rfl k) ?_
      show Goes p.tables e below (T48.setTop (mkF m 205 #[.val (.int pn),.val (.int pp),.val (.int pq),.val (.int px),.val (.int pl),.val (.int ph),.val (.int x1),.val (.int x2),.val (.int x3),.val (.int x4),.val (.int x5),.val (.int x6),.val (.ref b37),.val (.int (1:Int32)),.val (.int (1:Int32)),.val (.int (1:Int32))] [(.int (1:Int32))])) _
      refine Goes.by (fun _ k => XS.ifNo X48.here hx rfl (hb hby at_205) rfl ((if0 _ _).trans (feq (by decide : ¬ ((1:Int32) = (0:Int32)))).1) k) ?_
      show Goes p.tables e below (T48.setTop (mkF m 208 #[.val (.int pn),.val (.int pp),.val (.int pq),.val (.int px),.val (.int pl),.val (.int ph),.val (.int x1),.val (.int x2),.val (.int x3),.val (.int x4),.val (.int x5),.val (.int x6),.val (.ref b37),.val (.int (1:Int32)),.val (.int (1:Int32)),.val (.int (1:Int32))] [])) _
      refine Goes.by (fun _ k => XS.iconst X48.here hx rfl (hb hby at_208) k) ?_
      show Goes p.tables e below (T48.setTop (mkF m 209 #[.val (.int pn),.val (.int pp),.val (.int pq),.val (.int px),.val (.int pl),.val (.int ph),.val (.int x1),.val (.int x2),.val (.int x3),.val (.int x4),.val (.int x5),.val (.int x6),.val (.ref b37),.val (.int (1:Int32)),.val (.int (1:Int32)),.val (.int (1:Int32))] [(.int (1:Int32))])) _
      refine Goes.by (fun _ k => XS.goto X48.here hx rfl (pc0 := 209) (pc' := 213) rfl (hb hby at_209) (by decide) (by decide) k) ?_
      show Goes p.tables e below (T48.setTop (mkF m 213 #[.val (.int pn),.val (.int pp),.val (.int pq),.val (.int px),.val (.int pl),.val (.int ph),.val (.int x1),.val (.int x2),.val (.int x3),.val (.int x4),.val (.int x5),.val (.int x6),.val (.ref b37),.val (.int (1:Int32)),.val (.int (1:Int32)),.val (.int (1:Int32))] [(.int (1:Int32))])) _
      obtain ⟨fs, hr, hrun, hended, hW, hsame⟩ := X48.leave (v := some (.int (1:Int32))) (fun h => by rw [Bd.returns] at h; cases h)
      refine ⟨_, _, retN X48 hx (t := .boolean) Bd.returns (by simp) (hb hby at_213) hr, hrun, hended, _, _, rfl, ?_, ⟨_, rfl⟩, hW, hsame.mono (by decide) (by decide)⟩
      show Q0 Z pn pp pq px pl ph h0 n0 _ T48.heap _
      rw [e48]
      exact ⟨rfl, N48⟩
set_option maxRecDepth 65536 in
set_option maxHeartbeats 40000000 in
theorem comes_1 {Post : Tables → Env → Array Value → State → Outcome → State → Prop} (hpost : ∀ tb e args s v u, (limb_1_1.after args s (.returned v) u = true ∧ limb_1_2.after args s (.returned v) u = true ∧ True) → FrameEnd s (.returned v) u (Jvm.fieldLocs frame_1_writes args s ++ Jvm.arrayLocs frame_1_arrays args s ++ Jvm.staticLocs frame_1_statics s) 24 640 → Post tb e args s (.returned v) u) :
    ArmFor flags0 classFile x code maxLocals ret World_1 tables_1 room_1 Calls_1 rest_1 Pre_1 Post := by
  intro l hfl _ _ p e ha hc hk s m args below hf hA hF happ hP
  obtain ⟨hcalls, hrest, hpre⟩ := hP
  obtain ⟨-, -, -, hnamed, -, -, -, hat⟩ := (Spec.applies_iff hf).mp happ
  obtain ⟨hg, hn⟩ := and_e (Cond.before_iff.mp (show (Jvm.Cond.and given_1 narrow_1).before args s = true from hpre))
  obtain ⟨g1, g2⟩ := and_e hg
  obtain ⟨g3, g4⟩ := and_e g2
  obtain ⟨g5, g6⟩ := and_e g4
  obtain ⟨g7, g8⟩ := and_e g6
  obtain ⟨g9, g10⟩ := and_e g8
  obtain ⟨g11, g12⟩ := and_e g10
  obtain ⟨w0, w1, w2, w3, w4, w5, rfl⟩ : ∃ w0 w1 w2 w3 w4 w5 : Value, args = #[w0, w1, w2, w3, w4, w5] := by
    have hs : args.size = 6 := by simpa [Cond.value, given_1] using g1
    obtain ⟨L⟩ := args
    match L, hs with
    | [w0, w1, w2, w3, w4, w5], _ => exact ⟨w0, w1, w2, w3, w4, w5, rfl⟩
  have hw := fun d (hd : d ∈ tables_1) => atoms_spec (ws := Jvm.Cond.code x code maxLocals ret :: tables_1) hat d (List.mem_cons_of_mem _ hd)
  have hfit : Fit s := fun {y c} hc i hi => by
    obtain ⟨ha, rfl⟩ := Array.getElem?_eq_some_iff.mp hc
    have q := List.all_eq_true.mp ((Array.all_eq_true_iff_forall_mem.mp hF) _ (Array.getElem_mem ha)) i (List.mem_range.mpr hi)
    simpa [Array.getElem?_eq_getElem hi] using q
  obtain ⟨i0, ei0⟩ := is_v g3
  obtain rfl : w0 = (.int i0) := Option.some.inj ei0
  obtain ⟨i1, ei1⟩ := is_v g5
  obtain rfl : w1 = (.int i1) := Option.some.inj ei1
  obtain ⟨i2, ei2⟩ := is_v g7
  obtain rfl : w2 = (.int i2) := Option.some.inj ei2
  obtain ⟨i3, ei3⟩ := is_v g9
  obtain rfl : w3 = (.int i3) := Option.some.inj ei3
  obtain ⟨i4, ei4⟩ := is_v g11
  obtain rfl : w4 = (.int i4) := Option.some.inj ei4
  obtain ⟨i5, ei5⟩ := is_v g12
  obtain rfl : w5 = (.int i5) := Option.some.inj ei5
  obtain ⟨n, o, h1, h2, h3, _, L, rfl, ⟨hv0, N⟩, hq⟩ := rm0 l s _ hw tables_1 i0 i1 i2 i3 i4 i5 s.heap s.heap.size (Nat.le_refl _) p e ha hc hk s m _ below hf ((Spec.applies_iff_loose hf).mp happ).1 ⟨rfl, State.Warmed39.refl s, rfl⟩ trivial
  subst hv0
  refine ⟨n, _, h1, h2, h3, hpost _ _ _ _ _ _ ⟨Cond.after_iff.mpr rfl, Cond.after_iff.mpr (eq_i res_at (Term.int_eval (1)) rfl), trivial⟩ ⟨hq.1, hq.2.1, (hq.2.2.sift fun y hy => Or.inr (N y hy)).mono (by decide) (by decide)⟩⟩
theorem main_1_1 : Claimed_1_1 := comes_1 fun _ _ _ _ _ _ h hF => ⟨h.1, hF⟩
theorem main_1_2 : Claimed_1_2 := comes_1 fun _ _ _ _ _ _ h hF => ⟨h.2.1, hF⟩
end Jvm.Pilot.@@N@@
namespace Jvm.Pilot.@@N@@
open Jvm Jvm.ClassFile Sem Op Lib Jvm.Free Jvm.Stand Jvm.Pilot.@@N@@.Jvm.D
/-! MADE BY PROGRAM (witnessworld.py) out of the Statement's table words and the real class files: 11 classes; the members and pool entries that the words name. The judged class is class 1, her method 2. -/
namespace start1
open Jvm.ClassFile
def u (s : String) : CpInfo := .utf8 (stringToUtf16 s)
/-- a pool by its gaps: so many unusable entries, then the entry; so many at the end -/
def gap : Nat → List CpInfo → List CpInfo
  | 0, r => r
  | n + 1, r => .unusable :: gap n r
def poolList (es : List (Nat × CpInfo)) (last : Nat) : List CpInfo := es.foldr (fun e r => gap e.1 (e.2 :: r)) (gap last [])
def pool (es : List (Nat × CpInfo)) (last : Nat) : Array CpInfo := ⟨poolList es last⟩
def fileOf (pool : Array CpInfo) (this : Nat) (attrs : Array Attribute := #[]) (ms : Array MethodInfo := #[]) (fl : Nat := 33) (sup : Nat := 0) (ifs : Array Nat := #[]) (fds : Array FieldInfo := #[]) : ClassFile where
  minorVersion := 0
  majorVersion := 65
  constantPool := pool
  accessFlags := fl
  thisClass := this
  superClass := sup
  interfaces := ifs
  fields := fds
  methods := ms
  attributes := attrs
def plain (name : String) (sup : Option ClassId) : Class where
  name := name
  kind := .ordinary
  loader := none
  accessFlags := 33
  super := sup
  interfaces := #[]
  cf := none
  fields := #[]
  methods := #[]
  instanceTypes := #[]
  staticTypes := #[]
  resolved := #[]
  callSites := []
  init := .initialized
  statics := none
  mirror := none

def pool0 : Array CpInfo := pool [(5, u "<init>"), (0, u "()V"), (1, .class_ 10), (1, u "java/lang/Object")] 113

def k0c0 : Code := { maxStack := 0, maxLocals := 1, code := object_method_1_code, exceptionTable := #[], attributes := #[] }
def k0m0 : Method := { name := "<init>", desc := "()V", sig := { parameters := [], returnType := none }, accessFlags := 1, code := some k0c0 }
/-- java/lang/Object -/
def k0 : Class := { plain "java/lang/Object" none with
  accessFlags := 33
  interfaces := #[]
  cf := some (fileOf pool0 8 #[] #[{ accessFlags := 1, nameIndex := 5, descriptorIndex := 6, attributes := #[] }] 33 0 #[] #[])
  fields := #[]
  methods := #[k0m0]
  instanceTypes := #[]
  staticTypes := #[]
  resolved := Array.replicate 124 none
  statics := none }

def pool1 : Array CpInfo := pool [(2, .class_ 4), (1, u "java/lang/Object"), (0, u "<init>"), (0, u "()V"), (0, .integer 2147483647), (0, .class_ 9), (0, u "com/example/xml_graph_join/xmlgraphjoin/topo/BitLevels"), (0, .methodref 8 11), (0, .nameAndType 5 12), (0, u "(I)V"), (0, .methodref 8 14), (0, .nameAndType 15 12), (0, u "add"), (0, .methodref 8 17), (0, .nameAndType 18 19), (0, u "anyIn"), (0, u "(II)Z"), (0, .methodref 21 22), (0, .class_ 23), (0, .nameAndType 24 25), (0, u "com/example/xml_graph_join/xmlgraphjoin/topo/BitLevelsAddPinLaw"), (0, u "in"), (0, u "(III)Z"), (0, .methodref 8 27), (0, .nameAndType 28 29), (0, u "contains"), (0, u "(I)Z"), (3, u "law"), (0, u "(IIIIII)Z")] 2

def k1m0 : Method := { name := "<init>", desc := "()V", sig := { parameters := [], returnType := none }, accessFlags := 1, code := none }
def k1c1 : Code := { maxStack := 2, maxLocals := 3, code := method_2_code, exceptionTable := #[], attributes := #[] }
def k1m1 : Method := { name := "in", desc := "(III)Z", sig := { parameters := [.int, .int, .int], returnType := some .boolean }, accessFlags := 10, code := some k1c1 }
def k1c2 : Code := { maxStack := 4, maxLocals := 16, code := code, exceptionTable := #[], attributes := #[] }
def k1m2 : Method := { name := "law", desc := "(IIIIII)Z", sig := { parameters := [.int, .int, .int, .int, .int, .int], returnType := some .boolean }, accessFlags := 9, code := some k1c2 }
/-- com/example/xml_graph_join/xmlgraphjoin/topo/BitLevelsAddPinLaw -/
def k1 : Class := { plain "com/example/xml_graph_join/xmlgraphjoin/topo/BitLevelsAddPinLaw" (some 0) with
  accessFlags := 49
  interfaces := #[]
  cf := some (fileOf pool1 21 #[] #[{ accessFlags := 1, nameIndex := 5, descriptorIndex := 6, attributes := #[] }, { accessFlags := 10, nameIndex := 24, descriptorIndex := 25, attributes := #[] }, { accessFlags := 9, nameIndex := 33, descriptorIndex := 34, attributes := #[] }] 49 2 #[] #[])
  fields := #[]
  methods := #[k1m0, k1m1, k1m2]
  instanceTypes := #[]
  staticTypes := #[]
  resolved := Array.replicate 37 none
  statics := none }

def pool2 : Array CpInfo := pool [(1, .methodref 2 3), (0, .class_ 4), (0, .nameAndType 5 6), (0, u "java/lang/Object"), (0, u "<init>"), (0, u "()V"), (0, .class_ 8), (0, u "[J"), (0, .fieldref 10 11), (0, .class_ 12), (0, .nameAndType 13 14), (0, u "com/example/xml_graph_join/xmlgraphjoin/topo/BitLevels"), (0, u "levels"), (0, u "[[J"), (0, .methodref 10 16), (0, .nameAndType 17 18), (0, u "fromBit"), (0, u "(I)J"), (0, .methodref 10 20), (0, .nameAndType 21 18), (0, u "upToBit"), (0, .long 18446744073709551615), (1, u "(I)V"), (3, u "add"), (1, u "contains"), (0, u "(I)Z"), (0, u "anyIn"), (0, u "(II)Z")] 5

def k2c0 : Code := { maxStack := 3, maxLocals := 5, code := prog_96_method_1_code, exceptionTable := #[], attributes := #[] }
def k2m0 : Method := { name := "<init>", desc := "(I)V", sig := { parameters := [.int], returnType := none }, accessFlags := 0, code := some k2c0 }
def k2c1 : Code := { maxStack := 7, maxLocals := 8, code := prog_96_method_2_code, exceptionTable := #[], attributes := #[] }
def k2m1 : Method := { name := "add", desc := "(I)V", sig := { parameters := [.int], returnType := none }, accessFlags := 0, code := some k2c1 }
def k2c2 : Code := { maxStack := 4, maxLocals := 2, code := prog_96_method_3_code, exceptionTable := #[], attributes := #[] }
def k2m2 : Method := { name := "contains", desc := "(I)Z", sig := { parameters := [.int], returnType := some .boolean }, accessFlags := 0, code := some k2c2 }
def k2c3 : Code := { maxStack := 4, maxLocals := 9, code := prog_96_method_4_code, exceptionTable := #[], attributes := #[] }
def k2m3 : Method := { name := "anyIn", desc := "(II)Z", sig := { parameters := [.int, .int], returnType := some .boolean }, accessFlags := 0, code := some k2c3 }
def k2c4 : Code := { maxStack := 3, maxLocals := 1, code := prog_96_method_7_code, exceptionTable := #[], attributes := #[] }
def k2m4 : Method := { name := "fromBit", desc := "(I)J", sig := { parameters := [.int], returnType := some .long }, accessFlags := 10, code := some k2c4 }
def k2c5 : Code := { maxStack := 5, maxLocals := 1, code := prog_96_method_8_code, exceptionTable := #[], attributes := #[] }
def k2m5 : Method := { name := "upToBit", desc := "(I)J", sig := { parameters := [.int], returnType := some .long }, accessFlags := 10, code := some k2c5 }
/-- com/example/xml_graph_join/xmlgraphjoin/topo/BitLevels -/
def k2 : Class := { plain "com/example/xml_graph_join/xmlgraphjoin/topo/BitLevels" (some 0) with
  accessFlags := 48
  interfaces := #[]
  cf := some (fileOf pool2 10 #[] #[{ accessFlags := 0, nameIndex := 5, descriptorIndex := 24, attributes := #[] }, { accessFlags := 0, nameIndex := 28, descriptorIndex := 24, attributes := #[] }, { accessFlags := 0, nameIndex := 30, descriptorIndex := 31, attributes := #[] }, { accessFlags := 0, nameIndex := 32, descriptorIndex := 33, attributes := #[] }, { accessFlags := 10, nameIndex := 17, descriptorIndex := 18, attributes := #[] }, { accessFlags := 10, nameIndex := 21, descriptorIndex := 18, attributes := #[] }] 48 2 #[] #[{ accessFlags := 18, nameIndex := 13, descriptorIndex := 14, attributes := #[] }])
  fields := #[{ name := "levels", type := (.array (.array .long)), accessFlags := 18, slot := 0, constantValue := 0 }]
  methods := #[k2m0, k2m1, k2m2, k2m3, k2m4, k2m5]
  instanceTypes := #[(.array (.array .long))]
  staticTypes := #[]
  resolved := Array.replicate 39 none
  statics := none }

def pool3 : Array CpInfo := pool [(1, u "java/lang/Cloneable"), (0, .class_ 1), (0, u "java/lang/Object"), (0, .class_ 3)] 3

/-- java/lang/Cloneable -/
def k3 : Class := { plain "java/lang/Cloneable" (some 0) with
  accessFlags := 1537
  interfaces := #[]
  cf := some (fileOf pool3 2 #[] #[] 1537 4 #[] #[])
  fields := #[]
  methods := #[]
  instanceTypes := #[]
  staticTypes := #[]
  resolved := Array.replicate 8 none
  statics := none }

def pool4 : Array CpInfo := pool [(1, u "java/io/Serializable"), (0, .class_ 1), (0, u "java/lang/Object"), (0, .class_ 3)] 3

/-- java/io/Serializable -/
def k4 : Class := { plain "java/io/Serializable" (some 0) with
  accessFlags := 1537
  interfaces := #[]
  cf := some (fileOf pool4 2 #[] #[] 1537 4 #[] #[])
  fields := #[]
  methods := #[]
  instanceTypes := #[]
  staticTypes := #[]
  resolved := Array.replicate 8 none
  statics := none }

/-- the primitive byte -/
def k5 : Class := { plain "byte" none with kind := .primitive 'B', accessFlags := 0x411 }
/-- [B -/
def k6 : Class := { plain "[B" (some 0) with kind := .array 5 .byte, interfaces := #[3, 4], accessFlags := 1041 }

/-- the primitive int -/
def k7 : Class := { plain "int" none with kind := .primitive 'I', accessFlags := 0x411 }
/-- [I -/
def k8 : Class := { plain "[I" (some 0) with kind := .array 7 .int, interfaces := #[3, 4], accessFlags := 1041 }

/-- the primitive long -/
def k9 : Class := { plain "long" none with kind := .primitive 'J', accessFlags := 0x411 }
/-- [J -/
def k10 : Class := { plain "[J" (some 0) with kind := .array 9 .long, interfaces := #[3, 4], accessFlags := 1041 }

/-- [[J -/
def k11 : Class := { plain "[[J" (some 0) with kind := .array 10 (.array .long), interfaces := #[3, 4], accessFlags := 1041 }

def heap : Heap := #[]
def classes : Array Class := #[k0, k1, k2, k3, k4, k5, k6, k7, k8, k9, k10, k11]
def interned : List (Array UInt16 × Addr) := []
def slotsUsed : Nat := 0
def theMethod : MethodId := ⟨1, 2⟩
def args0 : Array Value := #[.int 5, .int 5, .int 5, .int 5, .int 5, .int 5]
def aboutOver (below : List Frame) : State where
  vm := { classes := classes, interned := interned.toArray }
  heap := heap
  slotsUsed := slotsUsed
  threads := #[{ frames := .invoking theMethod args0 :: below }]
def below0 : List Frame := [.native { method := ⟨0, 0⟩, args := #[] }]
def about1 : State := aboutOver below0
def p0 : Program := .bare "" "" ""
def e0 : Env := launch0.env 0 0 0
theorem w_frames : about1.frames = Frame.invoking theMethod args0 :: below0 := rfl
set_option maxRecDepth 65536 in
theorem w_args : argsFit about1.vm theMethod args0 = true := by decide +kernel
set_option maxRecDepth 65536 in
theorem w_heap : heapFits about1 = true := by decide +kernel
set_option maxRecDepth 65536 in
theorem w_runnable : about1.curStatus? = some .runnable := by decide +kernel
set_option maxRecDepth 65536 in
theorem w_alone : about1.alone = true := by decide +kernel
set_option maxRecDepth 65536 in
theorem w_named : about1.methodNamed? x = some theMethod := by decide +kernel
set_option maxRecDepth 65536 in
theorem w_hears : about1.hears theMethod below0 = true := by decide +kernel
set_option maxRecDepth 65536 in
theorem w_ripe : about1.ripe theMethod args0 below0 = true := by decide +kernel
theorem w_running : about1.status = .running := rfl
set_option maxRecDepth 65536 in
theorem w_room : about1.hasRoom e0.platform room_1 = true :=
  launch0.hasRoom_least _ room_1 (by decide +kernel) (by decide +kernel) (by decide +kernel) (by decide +kernel) (by decide +kernel) (by decide +kernel)
theorem allAtoms_all (ts : List Jvm.Cond) (a : Array Jvm.Value) (st : Jvm.State) : (allAtoms ts).before a st = ts.all (fun c => c.before a st) := by
  induction ts with
  | nil => rfl
  | cons c t ih =>
    show (Jvm.Cond.and c (allAtoms t)).before a st = _
    rw [Jvm.Cond.before_and, ih, List.all_cons]
def words1 : List Jvm.Cond := Jvm.Cond.code x code maxLocals ret :: tables_1
/-- a 'code' word, met by the world's own term for the bytes: nothing is compared byte by byte -/
theorem code_word {y : MethodName} {bytes : ByteArray} {mx : Nat} {rt : Option FieldType} {a : Array Value} {s : State} {m : MethodId} {meth : Method} {c : Code} (h1 : s.methodNamed? y = some m) (h2 : s.vm.method? m = some meth) (h3 : meth.code = some c) (h4 : c.code = bytes)
    (h5 : (c.maxLocals == mx && c.exceptionTable.isEmpty && decide (c.maxStack ≤ mostOperands) && decide (meth.sig.returnType = rt) && !meth.locks && decide (parseMethodDescriptor y.desc = some meth.sig)) = true) : (Jvm.Cond.code y bytes mx rt).before a s = true := by
  simp only [Bool.and_eq_true, beq_iff_eq, Bool.not_eq_true', decide_eq_true_eq] at h5
  obtain ⟨⟨⟨⟨⟨g1, g2⟩, g3⟩, g4⟩, g5⟩, g6⟩ := h5
  simp [Cond.before, Cond.holds, Cond.value, h1, h2, h3, h4, g1, g2, g3, g4, g5, g6]
def isCode : Jvm.Cond → Bool
  | .code _ _ _ _ => true
  | _ => false
theorem all_split {L : List Jvm.Cond} {P : Jvm.Cond → Bool} (h1 : L.all (fun c => isCode c || P c) = true) (h2 : ∀ c ∈ L.filter isCode, P c = true) : L.all P = true := by
  refine List.all_eq_true.mpr fun c hc => ?_
  have h := List.all_eq_true.mp h1 c hc
  rcases Bool.eq_false_or_eq_true (isCode c) with hi | hi
  · exact h2 c (List.mem_filter.mpr ⟨hc, hi⟩)
  · simpa [hi] using h
set_option maxRecDepth 65536 in
theorem w_c0 : (Jvm.Cond.code x code maxLocals ret).before args0 about1 = true := code_word (m := ⟨1, 2⟩) (meth := k1m2) (c := k1c2) (by decide +kernel) rfl rfl rfl (by decide +kernel)
set_option maxRecDepth 65536 in
theorem w_c1 : (Jvm.Cond.code ({ cls := "com/example/xml_graph_join/xmlgraphjoin/topo/BitLevels", name := "<init>", desc := "(I)V" } : Jvm.MethodName) prog_96_method_1_code (5 : Nat) (Option.none : Option Jvm.ClassFile.FieldType)).before args0 about1 = true := code_word (m := ⟨2, 0⟩) (meth := k2m0) (c := k2c0) (by decide +kernel) rfl rfl rfl (by decide +kernel)
set_option maxRecDepth 65536 in
theorem w_c2 : (Jvm.Cond.code ({ cls := "java/lang/Object", name := "<init>", desc := "()V" } : Jvm.MethodName) object_method_1_code (1 : Nat) (Option.none : Option Jvm.ClassFile.FieldType)).before args0 about1 = true := code_word (m := ⟨0, 0⟩) (meth := k0m0) (c := k0c0) (by decide +kernel) rfl rfl rfl (by decide +kernel)
set_option maxRecDepth 65536 in
theorem w_c3 : (Jvm.Cond.code ({ cls := "com/example/xml_graph_join/xmlgraphjoin/topo/BitLevels", name := "add", desc := "(I)V" } : Jvm.MethodName) prog_96_method_2_code (8 : Nat) (Option.none : Option Jvm.ClassFile.FieldType)).before args0 about1 = true := code_word (m := ⟨2, 1⟩) (meth := k2m1) (c := k2c1) (by decide +kernel) rfl rfl rfl (by decide +kernel)
set_option maxRecDepth 65536 in
theorem w_c4 : (Jvm.Cond.code ({ cls := "com/example/xml_graph_join/xmlgraphjoin/topo/BitLevels", name := "anyIn", desc := "(II)Z" } : Jvm.MethodName) prog_96_method_4_code (9 : Nat) (Option.some Jvm.ClassFile.FieldType.boolean)).before args0 about1 = true := code_word (m := ⟨2, 3⟩) (meth := k2m3) (c := k2c3) (by decide +kernel) rfl rfl rfl (by decide +kernel)
set_option maxRecDepth 65536 in
theorem w_c5 : (Jvm.Cond.code ({ cls := "com/example/xml_graph_join/xmlgraphjoin/topo/BitLevels", name := "fromBit", desc := "(I)J" } : Jvm.MethodName) prog_96_method_7_code (1 : Nat) (Option.some Jvm.ClassFile.FieldType.long)).before args0 about1 = true := code_word (m := ⟨2, 4⟩) (meth := k2m4) (c := k2c4) (by decide +kernel) rfl rfl rfl (by decide +kernel)
set_option maxRecDepth 65536 in
theorem w_c6 : (Jvm.Cond.code ({ cls := "com/example/xml_graph_join/xmlgraphjoin/topo/BitLevels", name := "upToBit", desc := "(I)J" } : Jvm.MethodName) prog_96_method_8_code (1 : Nat) (Option.some Jvm.ClassFile.FieldType.long)).before args0 about1 = true := code_word (m := ⟨2, 5⟩) (meth := k2m5) (c := k2c5) (by decide +kernel) rfl rfl rfl (by decide +kernel)
set_option maxRecDepth 65536 in
theorem w_c7 : (Jvm.Cond.code ({ cls := "com/example/xml_graph_join/xmlgraphjoin/topo/BitLevelsAddPinLaw", name := "in", desc := "(III)Z" } : Jvm.MethodName) method_2_code (3 : Nat) (Option.some Jvm.ClassFile.FieldType.boolean)).before args0 about1 = true := code_word (m := ⟨1, 1⟩) (meth := k1m1) (c := k1c1) (by decide +kernel) rfl rfl rfl (by decide +kernel)
set_option maxRecDepth 65536 in
theorem w_c8 : (Jvm.Cond.code ({ cls := "com/example/xml_graph_join/xmlgraphjoin/topo/BitLevels", name := "contains", desc := "(I)Z" } : Jvm.MethodName) prog_96_method_3_code (2 : Nat) (Option.some Jvm.ClassFile.FieldType.boolean)).before args0 about1 = true := code_word (m := ⟨2, 2⟩) (meth := k2m2) (c := k2c2) (by decide +kernel) rfl rfl rfl (by decide +kernel)
def codes1 : List Jvm.Cond := [Jvm.Cond.code x code maxLocals ret, Jvm.Cond.code ({ cls := "com/example/xml_graph_join/xmlgraphjoin/topo/BitLevels", name := "<init>", desc := "(I)V" } : Jvm.MethodName) prog_96_method_1_code (5 : Nat) (Option.none : Option Jvm.ClassFile.FieldType), Jvm.Cond.code ({ cls := "java/lang/Object", name := "<init>", desc := "()V" } : Jvm.MethodName) object_method_1_code (1 : Nat) (Option.none : Option Jvm.ClassFile.FieldType), Jvm.Cond.code ({ cls := "com/example/xml_graph_join/xmlgraphjoin/topo/BitLevels", name := "add", desc := "(I)V" } : Jvm.MethodName) prog_96_method_2_code (8 : Nat) (Option.none : Option Jvm.ClassFile.FieldType), Jvm.Cond.code ({ cls := "com/example/xml_graph_join/xmlgraphjoin/topo/BitLevels", name := "anyIn", desc := "(II)Z" } : Jvm.MethodName) prog_96_method_4_code (9 : Nat) (Option.some Jvm.ClassFile.FieldType.boolean), Jvm.Cond.code ({ cls := "com/example/xml_graph_join/xmlgraphjoin/topo/BitLevels", name := "fromBit", desc := "(I)J" } : Jvm.MethodName) prog_96_method_7_code (1 : Nat) (Option.some Jvm.ClassFile.FieldType.long), Jvm.Cond.code ({ cls := "com/example/xml_graph_join/xmlgraphjoin/topo/BitLevels", name := "upToBit", desc := "(I)J" } : Jvm.MethodName) prog_96_method_8_code (1 : Nat) (Option.some Jvm.ClassFile.FieldType.long), Jvm.Cond.code ({ cls := "com/example/xml_graph_join/xmlgraphjoin/topo/BitLevelsAddPinLaw", name := "in", desc := "(III)Z" } : Jvm.MethodName) method_2_code (3 : Nat) (Option.some Jvm.ClassFile.FieldType.boolean), Jvm.Cond.code ({ cls := "com/example/xml_graph_join/xmlgraphjoin/topo/BitLevels", name := "contains", desc := "(I)Z" } : Jvm.MethodName) prog_96_method_3_code (2 : Nat) (Option.some Jvm.ClassFile.FieldType.boolean)]
set_option maxRecDepth 65536 in
theorem codes_eq : words1.filter isCode = codes1 := rfl
theorem w_codes : ∀ c ∈ words1.filter isCode, c.before args0 about1 = true := by
  rw [codes_eq]
  intro c hc
  simp only [codes1, List.mem_cons, List.not_mem_nil, or_false] at hc
  rcases hc with rfl | rfl | rfl | rfl | rfl | rfl | rfl | rfl | rfl
  · exact w_c0
  · exact w_c1
  · exact w_c2
  · exact w_c3
  · exact w_c4
  · exact w_c5
  · exact w_c6
  · exact w_c7
  · exact w_c8
set_option maxRecDepth 65536 in
theorem w_t1 : (words1.take 24).all (fun c => isCode c || c.before args0 about1) = true := by decide +kernel
set_option maxRecDepth 65536 in
theorem w_t2 : (words1.drop 24).all (fun c => isCode c || c.before args0 about1) = true := by decide +kernel
theorem w_tables : (allAtoms (Jvm.Cond.code x code maxLocals ret :: tables_1)).before args0 about1 = true := by
  rw [allAtoms_all]
  show words1.all (fun c => c.before args0 about1) = true
  refine all_split ?_ w_codes
  rw [← List.take_append_drop 24 words1, List.all_append, w_t1, w_t2]
  rfl
set_option maxRecDepth 65536 in
theorem w_case : (Jvm.Cond.and given_1 narrow_1).before args0 about1 = true := by decide +kernel
theorem w_applies : (headSpec (Jvm.Cond.code x code maxLocals ret :: tables_1) room_1).applies x e0.platform about1 = true :=
  (Spec.applies_iff w_frames).mpr ⟨w_running, w_runnable, w_alone, w_named, w_hears, w_ripe, w_room, w_tables⟩
theorem atStart : AtStart classFile x code maxLocals ret World_1 tables_1 room_1 Calls_1 rest_1 Pre_1 launch0 p0 e0 about1 theMethod args0 below0 :=
  ⟨lists_1, trivial, launch0.admits_env _ _ _, launch0.least_env, fairChoices_fair.cas, fairChoices_fair.clock, w_frames, w_args, w_heap, w_applies, trivial, trivial, w_case⟩
end start1
theorem witness_1 : WitnessClaimed_1 := ⟨start1.p0, start1.e0, start1.about1, start1.theMethod, start1.args0, start1.below0, start1.atStart⟩
end Jvm.Pilot.@@N@@

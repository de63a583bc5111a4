import JvmDerived
import JvmDerived.Pilot.@@N@@Statement
import JvmDerived.Pilot.@@N@@Code
set_option linter.unusedVariables false
set_option linter.unusedSimpArgs false
namespace Jvm.RoadKit
open Sem ClassFile Op Lib Jvm.Stand Jvm.Free Jvm.LawKit
/-- own: from A the walk comes to its end, and there R holds -/
def OwnGo (tb : Tables) (e : Env) (below : List Frame) (R : State → Outcome → Prop) (A : State) : Prop := ∃ s₂ o, Steps tb e below A s₂ ∧ s₂.status = .running ∧ Ended s₂ below o ∧ R s₂ o
theorem OwnGo.fwd {tb : Tables} {e : Env} {below : List Frame} {R : State → Outcome → Prop} {A B : State} (h : ∀ t, Steps tb e below B t → Steps tb e below A t) (k : OwnGo tb e below R B) : OwnGo tb e below R A := by
  obtain ⟨s, o, h1, h2⟩ := k
  exact ⟨s, o, h s h1, h2⟩
theorem OwnGo.thru {tb : Tables} {e : Env} {below : List Frame} {R : State → Outcome → Prop} {A B : State} (h : Steps tb e below A B) (k : OwnGo tb e below R B) : OwnGo tb e below R A := k.fwd fun _ q => h.trans q
/-- own: what a body leaves -/
def OwnEnd (s : State) (Q : Option Value → Heap → List Loc → Prop) (k n : Nat) : State → Outcome → Prop := fun U o => ∃ v L, o = .returned v ∧ Q v U.heap L ∧ FrameEnd s o U L k n
section OwnLeaf
variable {p : Program} {l : Launch} {e : Env} {R : Room} {s : State} {m : MethodId} {args : Array Value} {below : List Frame} {meth : Method} {c : Code} {T : State} {locs : List Loc} {cells slots : Nat} {Z : State} {a0 : Array Value} {h : Heap} {Q : Option Value → Heap → List Loc → Prop} {k n : Nat}
theorem own_leaf (X : Stand p l e R s m args below meth c T locs cells slots) (hlk : meth.locks = false) {v : Option Value} (hv : meth.sig.returnType = none → v = none) {g : JFrame} (hc : cells ≤ k) (hs : slots ≤ n) (eT : T.heap = h) (hQ : Q v h locs)
    (hl : ∀ fs, (∀ (f : JFrame) (acts : List Action), f.method = m → f.locked = none → f.entered = [] → (doReturn e (T.setTop f) acts v).1 = T.setFrames fs) → Steps p.tables e below (T.setTop g) (T.setFrames fs)) :
    OwnGo p.tables e below (OwnEnd s Q k n) (T.setTop g) := by
  obtain ⟨fs, hr, hrun, hended, hW, hsame⟩ := X.leave (v := v) hv hlk
  refine ⟨_, _, hl fs hr, hrun, hended, _, _, rfl, ?_, ⟨_, rfl⟩, hW, hsame.mono hc hs⟩
  show Q v T.heap locs
  rw [eT]; exact hQ
theorem own_retI (X : Stand p l e R s m args below meth c T locs cells slots) (hlk : meth.locks = false) (hx : p.tables.exec = Jvm.exec) {pc : Nat} {Ls : Array Slot} {z : Int32} {rest : List Value} (hret : meth.sig.returnType = some .int) (hd : decode c.code pc = .ok (.ireturn, 1)) (hc : cells ≤ k) (hs : slots ≤ n) (eT : T.heap = h) (hQ : Q (some (.int z)) h locs) :
    OwnGo p.tables e below (OwnEnd s Q k n) (T.setTop (mkF m pc Ls (.int z :: rest))) := by
  refine own_leaf X hlk (fun q => by rw [hret] at q; cases q) hc hs eT hQ fun fs hl => ?_
  have hm' : T.vm.method? m = some meth := X.method'
  have hn : narrow .int (.int z) = .int z := rfl
  show Steps p.tables e below (T.setTop { method := m, pc := pc, locals := Ls, stack := _ :: rest, locked := none }) _
  jvm_step X.here [X.here.top, hx, hd, hm', hret, hn]
  first | (intro acts; rw [hl _ acts rfl rfl rfl]) | rw [hl _ _ rfl rfl rfl]
  exact Steps.refl _
theorem own_retZ (X : Stand p l e R s m args below meth c T locs cells slots) (hlk : meth.locks = false) (hx : p.tables.exec = Jvm.exec) {pc : Nat} {Ls : Array Slot} {z : Int32} {rest : List Value} (hret : meth.sig.returnType = some .boolean) (hd : decode c.code pc = .ok (.ireturn, 1)) (hc : cells ≤ k) (hs : slots ≤ n) (eT : T.heap = h) (hQ : Q (some (.int (nar .boolean z))) h locs) :
    OwnGo p.tables e below (OwnEnd s Q k n) (T.setTop (mkF m pc Ls (.int z :: rest))) :=
  own_leaf X hlk (fun q => by rw [hret] at q; cases q) hc hs eT hQ fun fs hl => retN X hx (t := .boolean) hret (by simp) hd hl
theorem own_retJ (X : Stand p l e R s m args below meth c T locs cells slots) (hlk : meth.locks = false) (hx : p.tables.exec = Jvm.exec) {pc : Nat} {Ls : Array Slot} {z : Int64} (hret : meth.sig.returnType = some .long) (hd : decode c.code pc = .ok (.lreturn, 1)) (hc : cells ≤ k) (hs : slots ≤ n) (eT : T.heap = h) (hQ : Q (some (.long z)) h locs) :
    OwnGo p.tables e below (OwnEnd s Q k n) (T.setTop (mkF m pc Ls [.long z])) :=
  own_leaf X hlk (fun q => by rw [hret] at q; cases q) hc hs eT hQ fun fs hl => X.lreturnOut hx hret hd hl
theorem own_retV (X : Stand p l e R s m args below meth c T locs cells slots) (hlk : meth.locks = false) (hx : p.tables.exec = Jvm.exec) {pc : Nat} {Ls : Array Slot} (hret : meth.sig.returnType = none) (hd : decode c.code pc = .ok (.return_, 1)) (hc : cells ≤ k) (hs : slots ≤ n) (eT : T.heap = h) (hQ : Q none h locs) :
    OwnGo p.tables e below (OwnEnd s Q k n) (T.setTop (mkF m pc Ls [])) :=
  own_leaf X hlk (fun _ => rfl) hc hs eT hQ fun fs hl => X.returnOut hx hret hd hl
theorem own_retA (X : Stand p l e R s m args below meth c T locs cells slots) (hlk : meth.locks = false) (hx : p.tables.exec = Jvm.exec) {pc : Nat} {Ls : Array Slot} {w : Value} {rest : List Value} {t : FieldType} (hret : meth.sig.returnType = some t) (ht : t.isReference = true) (hw : w.isRef = true) (hd : decode c.code pc = .ok (.areturn, 1)) (hc : cells ≤ k) (hs : slots ≤ n) (eT : T.heap = h) (hQ : Q (some w) h locs) :
    OwnGo p.tables e below (OwnEnd s Q k n) (T.setTop (mkF m pc Ls (w :: rest))) :=
  own_leaf X hlk (fun q => by rw [hret] at q; cases q) hc hs eT hQ fun fs hl => retOut X hx hret (by cases t <;> first | (cases ht; done) | rfl) (Or.inr (Or.inr (Or.inr (Or.inr ⟨rfl, ht, hw⟩)))) hd hl
theorem own_retD (X : Stand p l e R s m args below meth c T locs cells slots) (hlk : meth.locks = false) (hx : p.tables.exec = Jvm.exec) {pc : Nat} {Ls : Array Slot} {z : UInt64} {rest : List Value} (hret : meth.sig.returnType = some .double) (hd : decode c.code pc = .ok (.dreturn, 1)) (hc : cells ≤ k) (hs : slots ≤ n) (eT : T.heap = h) (hQ : Q (some (.double z)) h locs) :
    OwnGo p.tables e below (OwnEnd s Q k n) (T.setTop (mkF m pc Ls (.double z :: rest))) :=
  own_leaf X hlk (fun q => by rw [hret] at q; cases q) hc hs eT hQ fun fs hl => retOut X hx hret rfl (Or.inr (Or.inr (Or.inl ⟨rfl, rfl, _, rfl⟩))) hd hl
/-! own: int arrays, by a function of the place -/
def OwnIA (Z : State) (h : Heap) (a : Addr) (n : Nat) (f : Nat → Int32) : Prop := ∃ c : Cell, Arr Z h a c .int ∧ c.slots.size = n ∧ n < 2147483648 ∧ ∀ i, i < n → c.slots[i]? = some (.int (f i))
theorem OwnIA.lt {a : Addr} {n : Nat} {f : Nat → Int32} (F : OwnIA Z h a n f) : a < h.size := by obtain ⟨c, A, -⟩ := F; exact A.lt
theorem OwnIA.ext {h' : Heap} {a : Addr} {n : Nat} {f : Nat → Int32} (F : OwnIA Z h a n f) (E : Ext h h') : OwnIA Z h' a n f := by obtain ⟨c, A, r⟩ := F; exact ⟨c, A.ext E, r⟩
theorem OwnIA.other {h' : Heap} {a b : Addr} {n sl : Nat} {v : Value} {f : Nat → Int32} (F : OwnIA Z h b n f) (W : Wr h h' a sl v) (q : b ≠ a) : OwnIA Z h' b n f := by obtain ⟨c, A, r⟩ := F; exact ⟨c, A.other W q, r⟩
theorem OwnIA.keep {h' : Heap} {ws : List Addr} {a : Addr} {n : Nat} {f : Nat → Int32} (F : OwnIA Z h a n f) (K : Keep h h' ws) (q : a ∉ ws) : OwnIA Z h' a n f := by obtain ⟨c, A, r⟩ := F; exact ⟨c, ⟨K.2.1 a c A.1 q, A.2⟩, r⟩
theorem OwnIA.eqv {a : Addr} {n : Nat} {f f' : Nat → Int32} (F : OwnIA Z h a n f) (q : ∀ i, i < n → f i = f' i) : OwnIA Z h a n f' := by obtain ⟨c, A, r1, r2, r3⟩ := F; exact ⟨c, A, r1, r2, fun i hi => by rw [r3 i hi, q i hi]⟩
theorem own_clamp {j : Int32} {i : Nat} (hj : j.toInt = i) : j.toNatClampNeg = i := by simp only [Int32.toNatClampNeg]; omega
theorem own_inb {c : Cell} {j : Int32} {i n : Nat} (S : c.slots.size = n) (hj : j.toInt = i) (hi : i < n) : ¬ (j < 0 ∨ c.slots.size ≤ j.toNatClampNeg) := by
  rw [own_clamp hj, S]; simp only [Int32.lt_iff_toInt_lt, Int32.reduceToInt]; omega
theorem OwnIA.new {a : Addr} {k : ClassId} {z : Int32} {i : Nat} (A : Arr Z h a (newA k .int z) .int) (hz : z.toInt = i) : OwnIA Z h a i (fun _ => 0) := by
  have q := own_clamp hz
  have r := rng32 z
  exact ⟨_, A, by rw [sz_new]; exact q, by omega, fun j hj => by simp [newA, q, hj, defaultValue]⟩
theorem own_len (X : Stand p l e R s m args below meth c T locs cells slots) (hx : p.tables.exec = Jvm.exec) (hZ : Z.Warmed39 s.vm) (eT : T.heap = h) {a : Addr} {n : Nat} {f : Nat → Int32} (V : OwnIA Z h a n f) {g : JFrame} (hg : g.method = m) {rest : List Value} (hs : g.stack = .ref a :: rest) (hd : decode c.code g.pc = .ok (.arraylength, 1)) :
    ∀ target, Steps p.tables e below (T.setTop { g with pc := g.pc + 1, stack := .int (Int32.ofNat n) :: rest }) target → Steps p.tables e below (T.setTop g) target := by
  obtain ⟨cl, A, S, -⟩ := V
  subst S
  exact X.arraylength hx (by rw [eT]; exact A.1) (State.isArrayOf_alike hZ.alike A.2.1) hg hs hd
theorem own_iaload (X : Stand p l e R s m args below meth c T locs cells slots) (hx : p.tables.exec = Jvm.exec) (hZ : Z.Warmed39 s.vm) (eT : T.heap = h) {a : Addr} {n : Nat} {f : Nat → Int32} (V : OwnIA Z h a n f) {j : Int32} {i : Nat} (hj : j.toInt = i) (hi : i < n) {g : JFrame} (hg : g.method = m) {rest : List Value} (hs : g.stack = .int j :: .ref a :: rest) (hd : decode c.code g.pc = .ok (.iaload, 1)) :
    ∀ target, Steps p.tables e below (T.setTop { g with pc := g.pc + 1, stack := .int (f i) :: rest }) target → Steps p.tables e below (T.setTop g) target := by
  obtain ⟨cl, A, S, -, H⟩ := V
  exact X.iaload hx (by rw [eT]; exact A.1) (State.isArrayOf_alike hZ.alike A.2.1) A.2.2 (own_inb S hj hi) (by rw [own_clamp hj]; exact H i hi) hg hs hd
theorem own_iastore (X : Stand p l e R s m args below meth c T locs cells slots) (hx : p.tables.exec = Jvm.exec) (hZ : Z.Warmed39 s.vm) (eT : T.heap = h) {a : Addr} {n : Nat} {f : Nat → Int32} (V : OwnIA Z h a n f) {j x : Int32} {i : Nat} (hj : j.toInt = i) (hi : i < n) {g : JFrame} (hg : g.method = m) {rest : List Value} (hs : g.stack = .int x :: .int j :: .ref a :: rest) (hd : decode c.code g.pc = .ok (.iastore, 1)) :
    ∃ T' h', Stand p l e R s m args below meth c T' (locs ++ [⟨a, i⟩]) cells slots ∧ T'.heap = h' ∧ Wr h h' a i (.int x) ∧ OwnIA Z h' a n (fun k => if k = i then x else f k) ∧ ∀ target, Steps p.tables e below (T'.setTop { g with pc := g.pc + 1, stack := rest }) target → Steps p.tables e below (T.setTop g) target := by
  obtain ⟨cl, A, S, N, H⟩ := V
  obtain ⟨T', h', X', e', W, st⟩ := stI X hx hZ eT A (own_inb S hj hi) hg hs hd
  rw [own_clamp hj] at X' W
  refine ⟨T', h', X', e', W, ⟨_, A.same W, by rw [sz_set]; exact S, N, fun k hk => ?_⟩, st⟩
  by_cases q : k = i
  · subst q; simp [Cell.setSlot, S, hk]
  · simp only [Cell.setSlot, if_neg q]; rw [Array.getElem?_setIfInBounds_ne (Ne.symm q)]; exact H k hk
theorem own_newI (X : Stand p l e R s m args below meth c T locs cells slots) (hx : p.tables.exec = Jvm.exec) (hZ : Z.Warmed39 s.vm) (w : (Cond.arrayClass .int).before a0 Z = true) (eT : T.heap = h) {g : JFrame} (hg : g.method = m) (hd : decode c.code g.pc = .ok (.newarray .int, 2)) {z : Int32} {i : Nat} {rest : List Value} (hs : g.stack = .int z :: rest)
    (hz : z.toInt = i) {cap : Nat} (hcap : i ≤ cap) (hb : cap * 8 ≤ 536870912) (hc : cells + 1 ≤ R.cells) (hl : slots + cap ≤ R.slots) :
    ∃ T' h' a, Stand p l e R s m args below meth c T' locs (cells + 1) (slots + cap) ∧ T'.heap = h' ∧ Ext h h' ∧ a = h.size ∧ OwnIA Z h' a i (fun _ => 0) ∧ ∀ target, Steps p.tables e below (T'.setTop { g with pc := g.pc + 2, stack := .ref a :: rest }) target → Steps p.tables e below (T.setTop g) target := by
  have q := own_clamp hz
  obtain ⟨T', h', cA, X', e', E, A, st⟩ := newP X hx hZ (aty := .int) w eT hg hd hs (by simp only [Int32.lt_iff_toInt_lt, Int32.reduceToInt]; omega) (cap := cap) (by omega) hb hc hl
  exact ⟨T', h', _, X', e', E, rfl, OwnIA.new A hz, st⟩
end OwnLeaf
/-! own: branches, by the ints' own numbers -/
theorem own_blt {x y : Int32} {a b : Int} (hx : x.toInt = a) (hy : y.toInt = b) (h : a < b) : if_icmp.holds .lt x y = true ∧ if_icmp.holds .ge x y = false ∧ if_icmp.holds .gt y x = true ∧ if_icmp.holds .le y x = false := tlt (by rw [Int32.lt_iff_toInt_lt]; omega)
theorem own_bnlt {x y : Int32} {a b : Int} (hx : x.toInt = a) (hy : y.toInt = b) (h : ¬ a < b) : if_icmp.holds .lt x y = false ∧ if_icmp.holds .ge x y = true ∧ if_icmp.holds .gt y x = false ∧ if_icmp.holds .le y x = true := flt (by rw [Int32.lt_iff_toInt_lt]; omega)
theorem own_beq {x y : Int32} {a b : Int} (hx : x.toInt = a) (hy : y.toInt = b) (h : a = b) : if_icmp.holds .eq x y = true ∧ if_icmp.holds .ne x y = false := teq (Int32.toInt_inj.mp (by omega))
theorem own_bneq {x y : Int32} {a b : Int} (hx : x.toInt = a) (hy : y.toInt = b) (h : ¬ a = b) : if_icmp.holds .eq x y = false ∧ if_icmp.holds .ne x y = true := feq fun q => h (by rw [← hx, ← hy, q])
theorem own_Llt {x y : Int64} {a b : Int} (hx : x.toInt = a) (hy : y.toInt = b) (h : a < b) : ifCond.holds .lt (lcmpW x y) = true ∧ ifCond.holds .ge (lcmpW x y) = false := by
  have q : x < y := by rw [Int64.lt_iff_toInt_lt]; omega
  rw [if0, if0]; exact ⟨(tlt ((lw_lt x y).mpr q)).1, (tlt ((lw_lt x y).mpr q)).2.1⟩
theorem own_Lnlt {x y : Int64} {a b : Int} (hx : x.toInt = a) (hy : y.toInt = b) (h : ¬ a < b) : ifCond.holds .lt (lcmpW x y) = false ∧ ifCond.holds .ge (lcmpW x y) = true := by
  have q : ¬ x < y := by rw [Int64.lt_iff_toInt_lt]; omega
  rw [if0, if0]; exact ⟨(flt (fun r => q ((lw_lt x y).mp r))).1, (flt (fun r => q ((lw_lt x y).mp r))).2.1⟩
theorem own_Lgt {x y : Int64} {a b : Int} (hx : x.toInt = a) (hy : y.toInt = b) (h : b < a) : ifCond.holds .gt (lcmpW x y) = true ∧ ifCond.holds .le (lcmpW x y) = false := by
  have q : y < x := by rw [Int64.lt_iff_toInt_lt]; omega
  rw [if0, if0]; exact ⟨(tlt ((lw_gt x y).mpr q)).2.2.1, (tlt ((lw_gt x y).mpr q)).2.2.2⟩
theorem own_Lngt {x y : Int64} {a b : Int} (hx : x.toInt = a) (hy : y.toInt = b) (h : ¬ b < a) : ifCond.holds .gt (lcmpW x y) = false ∧ ifCond.holds .le (lcmpW x y) = true := by
  have q : ¬ y < x := by rw [Int64.lt_iff_toInt_lt]; omega
  rw [if0, if0]; exact ⟨(flt (fun r => q ((lw_gt x y).mp r))).2.2.1, (flt (fun r => q ((lw_gt x y).mp r))).2.2.2⟩
theorem own_Leq {x y : Int64} {a b : Int} (hx : x.toInt = a) (hy : y.toInt = b) (h : a = b) : ifCond.holds .eq (lcmpW x y) = true ∧ ifCond.holds .ne (lcmpW x y) = false := by
  have q : x = y := Int64.toInt_inj.mp (by omega)
  rw [if0, if0]; exact teq ((lw_eq x y).mpr q)
theorem own_Lneq {x y : Int64} {a b : Int} (hx : x.toInt = a) (hy : y.toInt = b) (h : ¬ a = b) : ifCond.holds .eq (lcmpW x y) = false ∧ ifCond.holds .ne (lcmpW x y) = true := by
  have q : ¬ x = y := fun r => h (by rw [← hx, ← hy, r])
  rw [if0, if0]; exact feq fun r => q ((lw_eq x y).mp r)
theorem own_ofNat {i : Nat} (h : i < 2147483648) : (Int32.ofNat i).toInt = (i : Int) := Int32.toInt_ofNat_small h
theorem own_ofNatS (i : Nat) : Int32.ofNat i + 1 = Int32.ofNat (i + 1) := (Int32.ofNat_add i 1).symm
theorem own_fieldInt {args : Array Value} {s : State} {t : Term} {C n d : String} {k : Int32} {w : Addr} (ht : t.eval args s none [] s = some (.ref w)) (h : (Jvm.Cond.eq (.field t C n d) (.int k)).value args s none s [] = some true) : Fld s s.heap w C n d (.int k) := by
  apply Fld.start
  obtain ⟨x, y, hx, hy, -, k2⟩ := cmp_v (Or.inl h)
  have hy' : y = .int k := Option.some.inj (hy.symm.trans (Term.int_eval k))
  subst hy'
  obtain ⟨z, rfl⟩ : ∃ z, x = .int z := k2
  have q := gotT (Cond.eq_ints hx hy) h
  subst q
  rw [← fld_at ht]; exact hx
end Jvm.RoadKit
namespace Jvm.Pilot.@@N@@
open Jvm Jvm.ClassFile Sem Op Lib Jvm.Free Jvm.Stand Jvm.LawKit Jvm.RoadKit Bundle Jvm.Pilot.@@N@@.Jvm.D
def own_sh (x : Int64) (k : Int32) : Int64 := (x.toUInt64 >>> (k &&& 0x3f).toInt64.toUInt64).toInt64
def own_mx (x : Int64) (k : Int32) : Int64 := x ^^^ own_sh x k
def own_mix (z : Int64) : Int64 := own_mx (own_mx (own_mx z 30 * (-4658895280553007687 : Int64)) 27 * (-7723592293110705685 : Int64)) 31
theorem own_top (z : Int64) : 0 ≤ (own_sh z 11).toInt ∧ (own_sh z 11).toInt < 9007199254740992 := by
  have q := c_lushr z (11 : Int32) 11 (by decide) (by decide)
  have r : (own_sh z 11).toInt = (z.toInt % 18446744073709551616) / (2 ^ 11 : Nat) := q
  omega
section OwnFloat
open Jvm.FP Jvm.FP.Core
theorem own_v53 : val64 4368491638549381120 = .fin false 4503599627370496 (-105) := by decide +kernel
theorem own_vp53 : val64 4845873199050653696 = .fin false 4503599627370496 1 := by decide +kernel
theorem own_v1 : val64 4607182418800017408 = .fin false 4503599627370496 (-52) := by decide +kernel
theorem own_units {c : Nat} {q : Int} {k : Nat} {e : Int} (h1 : b64.qmin ≤ q) (h2 : b64.qmin ≤ e) (h : inUnits c q b64.qmin = inUnits k e b64.qmin) : c * 2 ^ (q - e).toNat = k * 2 ^ (e - q).toNat := by
  unfold inUnits at h
  rcases Int.le_total q e with r | r
  · have e1 : (e - b64.qmin).toNat = (q - b64.qmin).toNat + (e - q).toNat := by omega
    rw [e1, Nat.pow_add, ← Nat.mul_assoc, Nat.mul_right_comm] at h
    rw [show (q - e).toNat = 0 by omega, Nat.pow_zero, Nat.mul_one]
    exact Nat.eq_of_mul_eq_mul_right (Nat.two_pow_pos _) h
  · have e1 : (q - b64.qmin).toNat = (e - b64.qmin).toNat + (q - e).toNat := by omega
    rw [e1, Nat.pow_add, ← Nat.mul_assoc, Nat.mul_right_comm] at h
    rw [show (e - q).toNat = 0 by omega, Nat.pow_zero, Nat.mul_one]
    exact Nat.eq_of_mul_eq_mul_right (Nat.two_pow_pos _) h
/-- scaling by a power of two, as units -/
theorem own_scale {c n : Nat} {q e d : Int} (h : c * 2 ^ (q - e).toNat = n * 2 ^ (e - q).toNat) : (c * 4503599627370496) * 2 ^ ((q + (d - 52)) - (e + d)).toNat = n * 2 ^ ((e + d) - (q + (d - 52))).toNat := by
  have p52 : (4503599627370496 : Nat) = 2 ^ 52 := by decide +kernel
  rw [p52]
  rcases Int.le_total q e with r | r
  · rw [show (q - e).toNat = 0 by omega, Nat.pow_zero, Nat.mul_one] at h
    rw [show ((q + (d - 52)) - (e + d)).toNat = 0 by omega, show ((e + d) - (q + (d - 52))).toNat = (e - q).toNat + 52 by omega, Nat.pow_zero, Nat.mul_one, Nat.pow_add, ← Nat.mul_assoc, h]
  · rw [show (e - q).toNat = 0 by omega, Nat.pow_zero, Nat.mul_one] at h
    rcases Int.le_total (q - e) 52 with r2 | r2
    · rw [show ((q + (d - 52)) - (e + d)).toNat = 0 by omega, Nat.pow_zero, Nat.mul_one, ← h, Nat.mul_assoc, ← Nat.pow_add, show (q - e).toNat + ((e + d) - (q + (d - 52))).toNat = 52 by omega]
    · rw [show ((e + d) - (q + (d - 52))).toNat = 0 by omega, Nat.pow_zero, Nat.mul_one, ← h, Nat.mul_assoc, ← Nat.pow_add, show 52 + ((q + (d - 52)) - (e + d)).toNat = (q - e).toNat by omega]
theorem own_round {c n : Nat} {q e d : Int} (h : c * 2 ^ (q - e).toNat = n * 2 ^ (e - q).toNat) : round b64 (.fin false (c * 4503599627370496) (q + (d - 52))) = round b64 (.fin false n (e + d)) := by
  refine roundRatio_congr (by decide) (by decide) ?_
  rw [Nat.mul_one, Nat.mul_one]; exact own_scale h
theorem own_l2d {k : Int64} (h0 : 0 ≤ k.toInt) (h1 : k.toInt < 9007199254740992) : val64 (Core.l2d k) = round b64 (.fin false k.toInt.toNat (0 : Int)) := by
  rw [val64_l2d]; unfold ofInt
  rw [show decide (k.toInt < 0) = false by simp; omega, show k.toInt.natAbs = k.toInt.toNat by omega]
theorem own_rx {n : Nat} {e : Int} (hn : n < 9007199254740992) (h1 : -1074 ≤ e) (h2 : e ≤ 900) : ∃ c q, round b64 (.fin false n e) = .fin false c q ∧ inUnits c q b64.qmin = inUnits n e b64.qmin ∧ b64.qmin ≤ q := by
  have m : b64.qmin = -1074 := by decide
  have M : b64.qmax = 971 := by decide
  obtain ⟨c, q, a1, a2⟩ := round_exact good_b64 false (c := n) (q := e) (by show n < 2 ^ 53; omega) (by omega) (by omega)
  have f := round_fits good_b64 (.fin false n e)
  rw [a1] at f
  exact ⟨c, q, a1, a2, f.2.1⟩
def own_dd (k : Int64) : UInt64 := Core.dmul (Core.l2d k) 4368491638549381120
theorem own_vdd {k : Int64} (h0 : 0 ≤ k.toInt) (h1 : k.toInt < 9007199254740992) : val64 (own_dd k) = round b64 (.fin false k.toInt.toNat (-53 : Int)) := by
  have m : b64.qmin = -1074 := by decide
  obtain ⟨c, q, a1, a2, a3⟩ := own_rx (n := k.toInt.toNat) (e := 0) (by omega) (by omega) (by omega)
  unfold own_dd
  rw [val64_dmul, own_l2d h0 h1, a1, own_v53]
  have s := own_round (d := -53) (own_units a3 (by omega) a2)
  exact s
theorem own_vback {k : Int64} (h0 : 0 ≤ k.toInt) (h1 : k.toInt < 9007199254740992) : val64 (Core.dmul (own_dd k) 4845873199050653696) = val64 (Core.l2d k) := by
  have m : b64.qmin = -1074 := by decide
  obtain ⟨c, q, a1, a2, a3⟩ := own_rx (n := k.toInt.toNat) (e := -53) (by omega) (by omega) (by omega)
  rw [val64_dmul, own_vdd h0 h1, a1, own_vp53, own_l2d h0 h1]
  have s := own_round (d := 53) (own_units a3 (by omega) a2)
  exact s
theorem own_nn {k : Int64} (h0 : 0 ≤ k.toInt) (h1 : k.toInt < 9007199254740992) : val64 (own_dd k) ≠ .nan ∧ val64 (Core.l2d k) ≠ .nan := by
  obtain ⟨c, q, a1, -⟩ := own_rx (n := k.toInt.toNat) (e := -53) (by omega) (by omega) (by omega)
  obtain ⟨c', q', b1, -⟩ := own_rx (n := k.toInt.toNat) (e := 0) (by omega) (by omega) (by omega)
  rw [own_vdd h0 h1, own_l2d h0 h1, a1, b1]; exact ⟨nofun, nofun⟩
theorem own_c3 {k : Int64} (h0 : 0 ≤ k.toInt) (h1 : k.toInt < 9007199254740992) : Core.dcmp (Core.dmul (own_dd k) 4845873199050653696) (Core.l2d k) = some .eq := by
  have nn := own_nn h0 h1
  exact dcmp_eq.mpr ⟨by rw [own_vback h0 h1]; exact nn.2, nn.2, by rw [own_vback h0 h1]⟩
theorem own_zdd {k : Int64} (h0 : 0 ≤ k.toInt) (h1 : k.toInt < 9007199254740992) : zval b64 (val64 (own_dd k)) = ((k.toInt.toNat * 2 ^ 1021 : Nat) : Int) := by
  obtain ⟨c, q, a1, a2, -⟩ := own_rx (n := k.toInt.toNat) (e := -53) (by omega) (by omega) (by omega)
  rw [own_vdd h0 h1, a1]
  have e2 : inUnits k.toInt.toNat (-53) b64.qmin = k.toInt.toNat * 2 ^ 1021 := by
    unfold inUnits; rw [show ((-53 : Int) - b64.qmin).toNat = 1021 by decide]
  rw [← e2, ← a2]; rfl
theorem own_c1 {k : Int64} (h0 : 0 ≤ k.toInt) (h1 : k.toInt < 9007199254740992) : Core.dcmp (own_dd k) 0 = some .gt ∨ Core.dcmp (own_dd k) 0 = some .eq := by
  refine dcmp_ge.mpr ⟨(own_nn h0 h1).1, by decide +kernel, ?_⟩
  rw [zval64_zero, own_zdd h0 h1]; exact Int.natCast_nonneg _
theorem own_c2 {k : Int64} (h0 : 0 ≤ k.toInt) (h1 : k.toInt < 9007199254740992) : Core.dcmp (own_dd k) 4607182418800017408 = some .lt := by
  refine dcmp_lt.mpr ⟨(own_nn h0 h1).1, by rw [own_v1]; nofun, ?_⟩
  have e2 : inUnits 4503599627370496 (-52) b64.qmin = 4503599627370496 * 2 ^ 1022 := by
    unfold inUnits; rw [show ((-52 : Int) - b64.qmin).toNat = 1022 by decide]
  have e3 : zval b64 (Datum.fin false 4503599627370496 (-52)) = ((inUnits 4503599627370496 (-52) b64.qmin : Nat) : Int) := rfl
  have e : (4503599627370496 * 2 ^ 1022 : Nat) = 9007199254740992 * 2 ^ 1021 := by
    rw [show (2 : Nat) ^ 1022 = 2 ^ 1021 * 2 from Nat.pow_succ ..]
    generalize (2 : Nat) ^ 1021 = z
    omega
  rw [own_zdd h0 h1, own_v1, e3, e2, e]
  exact Int.ofNat_lt.mpr (Nat.mul_lt_mul_of_pos_right (by omega) (Nat.two_pow_pos _))
theorem own_no {x : UInt64} (h : val64 x ≠ .nan) : Jvm.Free.Fl.NoNaN64 x := Jvm.Free.Fl.noNaN64_no.mpr (by
  show decide (Core.decode b64 x.toNat = .nan) = false
  exact decide_eq_false h)
theorem own_n1 {k : Int64} (h0 : 0 ≤ k.toInt) (h1 : k.toInt < 9007199254740992) : Jvm.Free.Fl.NoNaN64 (own_dd k) := own_no (own_nn h0 h1).1
theorem own_n2 {k : Int64} (h0 : 0 ≤ k.toInt) (h1 : k.toInt < 9007199254740992) : Jvm.Free.Fl.NoNaN64 (Core.dmul (own_dd k) 4845873199050653696) := own_no (by rw [own_vback h0 h1]; exact (own_nn h0 h1).2)
theorem own_k1 {k : Int64} (h0 : 0 ≤ k.toInt) (h1 : k.toInt < 9007199254740992) : ¬ (Jvm.Op.cmpValue (FP.dcmp (own_dd k) 0) .l).toInt < 0 := by
  rw [Jvm.RoadKit.cmpV_l]
  rcases own_c1 h0 h1 with q | q
  · rw [show FP.dcmp (own_dd k) 0 = some .gt from q]; decide
  · rw [show FP.dcmp (own_dd k) 0 = some .eq from q]; decide
theorem own_k2 {k : Int64} (h0 : 0 ≤ k.toInt) (h1 : k.toInt < 9007199254740992) : (Jvm.Op.cmpValue (FP.dcmp (own_dd k) 4607182418800017408) .g).toInt < 0 := by
  rw [Jvm.RoadKit.cmpV_g, show FP.dcmp (own_dd k) 4607182418800017408 = some .lt from own_c2 h0 h1]; decide
theorem own_k3 {k : Int64} (h0 : 0 ≤ k.toInt) (h1 : k.toInt < 9007199254740992) : (Jvm.Op.cmpValue (FP.dcmp (FP.dmul (own_dd k) 4845873199050653696) (FP.l2d k)) .l).toInt = 0 := by
  rw [Jvm.RoadKit.cmpV_l, show FP.dcmp (FP.dmul (own_dd k) 4845873199050653696) (FP.l2d k) = some .eq from own_c3 h0 h1]; decide
end OwnFloat
theorem pd_0 : parseMethodDescriptor "(J)V" = some ⟨[.long], none⟩ := by decide +kernel
theorem pd_1 : parseMethodDescriptor "()V" = some ⟨[], none⟩ := by decide +kernel
theorem pd_2 : parseMethodDescriptor "()D" = some ⟨[], some .double⟩ := by decide +kernel
theorem pd_3 : parseMethodDescriptor "()J" = some ⟨[], some .long⟩ := by decide +kernel
theorem pd_4 : parseMethodDescriptor "(DJ)Z" = some ⟨[.double, .long], some .boolean⟩ := by decide +kernel
theorem d1_0 : decode prog_38_method_1_code 0 = .ok (.aload_n 0, 1) := by decide +kernel
theorem d1_1 : decode prog_38_method_1_code 1 = .ok (.invokespecial 1, 3) := by decide +kernel
theorem d1_4 : decode prog_38_method_1_code 4 = .ok (.aload_n 0, 1) := by decide +kernel
theorem d1_5 : decode prog_38_method_1_code 5 = .ok (.lload_n 1, 1) := by decide +kernel
theorem d1_6 : decode prog_38_method_1_code 6 = .ok (.putfield 7, 3) := by decide +kernel
theorem d1_9 : decode prog_38_method_1_code 9 = .ok (.return_, 1) := by decide +kernel
theorem pn_1 : plainFor (⟨"com/example/blindfold/blindfold/core/SeededRandom", "<init>", "(J)V"⟩ : MethodName) = true := plainFor_of_name (by first | (simp [plainName, overriddenIn]; done) | decide +kernel)
theorem ef_1 (m : MethodId) (x0 : Addr) (x1 : Int64) : entryFrame m #[(.ref x0), (.long x1)] 3 = mkF m 0 #[.val (.ref x0), .val (.long x1), .second] [] := by first | (simp [entryFrame, mkF, argsToLocals, Value.category, maxLocals]; done) | rfl
def Q1 (Z : State) (a : Addr) (q : Int64) (h0 : Heap) (n0 : Nat) (v : Option Value) (h : Heap) (L : List Loc) : Prop := v = none ∧ Fr n0 L ∧ Keep h0 h [a] ∧ Exa Z h a "com/example/blindfold/blindfold/core/SeededRandom" ∧ Fld Z h a "com/example/blindfold/blindfold/core/SeededRandom" "state" "J" (.long q)
set_option maxRecDepth 65536 in
set_option maxHeartbeats 40000000 in
theorem rm1 (l : Launch) (Z : State) (a0 : Array Value) (hw : ∀ d ∈ tables_1, d.before a0 Z = true) (ws : List Jvm.Cond) (a : Addr) (q : Int64) (h0 : Heap) (n0 : Nat) (Z0 : n0 ≤ h0.size) (E_a : Exa Z h0 a "com/example/blindfold/blindfold/core/SeededRandom") (F_state_a : Fld Z h0 a "com/example/blindfold/blindfold/core/SeededRandom" "state" "J" (.long 0)) (g_a : n0 ≤ a) :
    MetFree l (⟨"com/example/blindfold/blindfold/core/SeededRandom", "<init>", "(J)V"⟩ : MethodName) (head1 (Jvm.Cond.code (⟨"com/example/blindfold/blindfold/core/SeededRandom", "<init>", "(J)V"⟩ : MethodName) prog_38_method_1_code 3 none :: ws) ({ frames := 1, cells := 0, slots := 0, locals := 12 } : Room)) (fun arr' U => arr' = #[(.ref a), (.long q)] ∧ Z.Warmed39 U.vm ∧ U.heap = h0) (fun _ _ _ _ _ => True) (fun _ U o U' => ∃ v L, o = .returned v ∧ (Q1 Z a q h0 n0) v U'.heap L ∧ FrameEnd U o U' L ({ frames := 1, cells := 0, slots := 0, locals := 12 } : Room).cells ({ frames := 1, cells := 0, slots := 0, locals := 12 } : Room).slots) := by
  refine MetFree.of_bodySF pn_1 hisR ?_
  intro p e s m args below meth c s₁ Bd hml0 hP hK
  obtain ⟨rfl, hZ, hh⟩ := hP
  have hx := Bd.exec
  have hby := Bd.bytes
  have hlk : meth.locks = false := BodyLoose.notSynchronized Bd
  have hml : c.maxLocals = 3 := hml0
  have hown : s.vm.findClass "com/example/blindfold/blindfold/core/SeededRandom" = some m.cls := findClass_of_methodNamed Bd.named
  have hnm := (name_of_methodNamed Bd.named Bd.method).1
  have X0 : Stand p l e ({ frames := 1, cells := 0, slots := 0, locals := 12 } : Room) s m #[(.ref a), (.long q)] below meth c s₁ [] 0 0 := Stand.of_body Bd
  have e0 : s₁.heap = h0 := by rw [← hh, Bd.state]; rfl
  have N := Fr.nil n0
  have Zs := Z0
  change OwnGo p.tables e below (OwnEnd s (Q1 Z a q h0 n0) ({ frames := 1, cells := 0, slots := 0, locals := 12 } : Room).cells ({ frames := 1, cells := 0, slots := 0, locals := 12 } : Room).slots) _
  refine OwnGo.fwd (fun tq' kq' => castTop (ef_1 m a q) kq') ?_
  show OwnGo _ _ _ _ (s₁.setTop (mkF m 0 #[.val (.ref a), .val (.long q), .second] []))
  have K : Keep h0 h0 [a] := Keep.refl _ _
  refine OwnGo.fwd (fun tq' kq' => XS.aloadN X0.here hx rfl (hb hby d1_0) rfl rfl kq') ?_
  show OwnGo _ _ _ _ (s₁.setTop (mkF m 1 #[.val (.ref a), .val (.long q), .second] [(.ref a)]))
  obtain ⟨T1, X1, e1, st1⟩ := initO X0 hx hZ hown (hw _ (List.mem_of_getElem? (i := 6) rfl)) (hw _ (List.mem_of_getElem? (i := 7) rfl)) (hw _ (List.mem_of_getElem? (i := 8) rfl)) e0 (g := (mkF m 1 #[.val (.ref a), .val (.long q), .second] [(.ref a)])) rfl (by rw [hml]; rfl) rfl (hb hby d1_1) (by decide) (W := 0) (by show 2 * 0 + _ ≤ _; exact Nat.le_of_eq rfl) (by decide)
  refine OwnGo.fwd st1 ?_
  show OwnGo _ _ _ _ (T1.setTop (mkF m 4 #[.val (.ref a), .val (.long q), .second] []))
  refine OwnGo.fwd (fun tq' kq' => XS.aloadN X1.here hx rfl (hb hby d1_4) rfl rfl kq') ?_
  show OwnGo _ _ _ _ (T1.setTop (mkF m 5 #[.val (.ref a), .val (.long q), .second] [(.ref a)]))
  refine OwnGo.fwd (fun tq' kq' => XS.lloadN X1.here hx rfl (hb hby d1_5) rfl kq') ?_
  show OwnGo _ _ _ _ (T1.setTop (mkF m 6 #[.val (.ref a), .val (.long q), .second] [(.long q), (.ref a)]))
  obtain ⟨T2, h2, X2, e2, W2, st2⟩ := putF X1 hx hZ hown (host := "") (Or.inl (hw _ (List.mem_of_getElem? (i := 9) rfl))) Via.refl e1 F_state_a E_a (Or.inl (hw _ (List.mem_of_getElem? (i := 10) rfl))) (hw _ (List.mem_of_getElem? (i := 1) rfl)) (ty := .long) (by decide) rfl rfl (g := (mkF m 6 #[.val (.ref a), .val (.long q), .second] [(.long q), (.ref a)])) rfl rfl (hb hby d1_6)
  have E_a := E_a.wr W2
  have F_state_a := F_state_a.same W2
  have K := K.wr W2 (Or.inl (List.mem_of_getElem? (i := 0) rfl))
  have Zs := Nat.le_trans Zs (Keep.of_wr W2).1
  have N := Fr.snoc X2 N g_a
  refine OwnGo.fwd st2 ?_
  show OwnGo _ _ _ _ (T2.setTop (mkF m 9 #[.val (.ref a), .val (.long q), .second] []))
  exact own_retV X2 hlk hx Bd.returns (hb hby d1_9) (by decide) (by decide) e2 ⟨rfl, N, K, E_a, F_state_a⟩
theorem d4_0 : decode prog_38_method_2_code 0 = .ok (.aload_n 0, 1) := by decide +kernel
theorem d4_1 : decode prog_38_method_2_code 1 = .ok (.dup, 1) := by decide +kernel
theorem d4_2 : decode prog_38_method_2_code 2 = .ok (.getfield 7, 3) := by decide +kernel
theorem d4_5 : decode prog_38_method_2_code 5 = .ok (.ldc2_w 13, 3) := by decide +kernel
theorem d4_8 : decode prog_38_method_2_code 8 = .ok (.ladd, 1) := by decide +kernel
theorem d4_9 : decode prog_38_method_2_code 9 = .ok (.putfield 7, 3) := by decide +kernel
theorem d4_12 : decode prog_38_method_2_code 12 = .ok (.aload_n 0, 1) := by decide +kernel
theorem d4_13 : decode prog_38_method_2_code 13 = .ok (.getfield 7, 3) := by decide +kernel
theorem d4_16 : decode prog_38_method_2_code 16 = .ok (.lstore_n 1, 1) := by decide +kernel
theorem d4_17 : decode prog_38_method_2_code 17 = .ok (.lload_n 1, 1) := by decide +kernel
theorem d4_18 : decode prog_38_method_2_code 18 = .ok (.lload_n 1, 1) := by decide +kernel
theorem d4_19 : decode prog_38_method_2_code 19 = .ok (.bipush 30, 2) := by decide +kernel
theorem d4_21 : decode prog_38_method_2_code 21 = .ok (.lushr, 1) := by decide +kernel
theorem d4_22 : decode prog_38_method_2_code 22 = .ok (.lxor, 1) := by decide +kernel
theorem d4_23 : decode prog_38_method_2_code 23 = .ok (.ldc2_w 15, 3) := by decide +kernel
theorem d4_26 : decode prog_38_method_2_code 26 = .ok (.lmul, 1) := by decide +kernel
theorem d4_27 : decode prog_38_method_2_code 27 = .ok (.lstore_n 1, 1) := by decide +kernel
theorem d4_28 : decode prog_38_method_2_code 28 = .ok (.lload_n 1, 1) := by decide +kernel
theorem d4_29 : decode prog_38_method_2_code 29 = .ok (.lload_n 1, 1) := by decide +kernel
theorem d4_30 : decode prog_38_method_2_code 30 = .ok (.bipush 27, 2) := by decide +kernel
theorem d4_32 : decode prog_38_method_2_code 32 = .ok (.lushr, 1) := by decide +kernel
theorem d4_33 : decode prog_38_method_2_code 33 = .ok (.lxor, 1) := by decide +kernel
theorem d4_34 : decode prog_38_method_2_code 34 = .ok (.ldc2_w 17, 3) := by decide +kernel
theorem d4_37 : decode prog_38_method_2_code 37 = .ok (.lmul, 1) := by decide +kernel
theorem d4_38 : decode prog_38_method_2_code 38 = .ok (.lstore_n 1, 1) := by decide +kernel
theorem d4_39 : decode prog_38_method_2_code 39 = .ok (.lload_n 1, 1) := by decide +kernel
theorem d4_40 : decode prog_38_method_2_code 40 = .ok (.lload_n 1, 1) := by decide +kernel
theorem d4_41 : decode prog_38_method_2_code 41 = .ok (.bipush 31, 2) := by decide +kernel
theorem d4_43 : decode prog_38_method_2_code 43 = .ok (.lushr, 1) := by decide +kernel
theorem d4_44 : decode prog_38_method_2_code 44 = .ok (.lxor, 1) := by decide +kernel
theorem d4_45 : decode prog_38_method_2_code 45 = .ok (.lreturn, 1) := by decide +kernel
theorem pn_4 : plainFor (⟨"com/example/blindfold/blindfold/core/SeededRandom", "nextLong", "()J"⟩ : MethodName) = true := plainFor_of_name (by first | (simp [plainName, overriddenIn]; done) | decide +kernel)
theorem ef_4 (m : MethodId) (x0 : Addr) : entryFrame m #[(.ref x0)] 3 = mkF m 0 #[.val (.ref x0), .unset, .unset] [] := by first | (simp [entryFrame, mkF, argsToLocals, Value.category, maxLocals]; done) | rfl
def Q4 (Z : State) (a : Addr) (q : Int64) (h0 : Heap) (n0 : Nat) (v : Option Value) (h : Heap) (L : List Loc) : Prop := v = some (.long (own_mix (q + (-7046029254386353131 : Int64)))) ∧ Fr n0 L ∧ Keep h0 h [a] ∧ Exa Z h a "com/example/blindfold/blindfold/core/SeededRandom" ∧ Fld Z h a "com/example/blindfold/blindfold/core/SeededRandom" "state" "J" (.long (q + (-7046029254386353131 : Int64)))
set_option maxRecDepth 65536 in
set_option maxHeartbeats 40000000 in
theorem rm4 (l : Launch) (Z : State) (a0 : Array Value) (hw : ∀ d ∈ tables_1, d.before a0 Z = true) (ws : List Jvm.Cond) (a : Addr) (q : Int64) (h0 : Heap) (n0 : Nat) (Z0 : n0 ≤ h0.size) (E_a : Exa Z h0 a "com/example/blindfold/blindfold/core/SeededRandom") (F_state_a : Fld Z h0 a "com/example/blindfold/blindfold/core/SeededRandom" "state" "J" (.long q)) (g_a : n0 ≤ a) :
    MetFree l (⟨"com/example/blindfold/blindfold/core/SeededRandom", "nextLong", "()J"⟩ : MethodName) (head1 (Jvm.Cond.code (⟨"com/example/blindfold/blindfold/core/SeededRandom", "nextLong", "()J"⟩ : MethodName) prog_38_method_2_code 3 (some .long) :: ws) ({ frames := 0, cells := 0, slots := 0, locals := 0 } : Room)) (fun arr' U => arr' = #[(.ref a)] ∧ Z.Warmed39 U.vm ∧ U.heap = h0) (fun _ _ _ _ _ => True) (fun _ U o U' => ∃ v L, o = .returned v ∧ (Q4 Z a q h0 n0) v U'.heap L ∧ FrameEnd U o U' L ({ frames := 0, cells := 0, slots := 0, locals := 0 } : Room).cells ({ frames := 0, cells := 0, slots := 0, locals := 0 } : Room).slots) := by
  refine MetFree.of_bodySF pn_4 hisR ?_
  intro p e s m args below meth c s₁ Bd hml0 hP hK
  obtain ⟨rfl, hZ, hh⟩ := hP
  have hx := Bd.exec
  have hby := Bd.bytes
  have hlk : meth.locks = false := BodyLoose.notSynchronized Bd
  have hml : c.maxLocals = 3 := hml0
  have hown : s.vm.findClass "com/example/blindfold/blindfold/core/SeededRandom" = some m.cls := findClass_of_methodNamed Bd.named
  have hnm := (name_of_methodNamed Bd.named Bd.method).1
  have X0 : Stand p l e ({ frames := 0, cells := 0, slots := 0, locals := 0 } : Room) s m #[(.ref a)] below meth c s₁ [] 0 0 := Stand.of_body Bd
  have e0 : s₁.heap = h0 := by rw [← hh, Bd.state]; rfl
  have N := Fr.nil n0
  have Zs := Z0
  change OwnGo p.tables e below (OwnEnd s (Q4 Z a q h0 n0) ({ frames := 0, cells := 0, slots := 0, locals := 0 } : Room).cells ({ frames := 0, cells := 0, slots := 0, locals := 0 } : Room).slots) _
  refine OwnGo.fwd (fun tq' kq' => castTop (ef_4 m a) kq') ?_
  show OwnGo _ _ _ _ (s₁.setTop (mkF m 0 #[.val (.ref a), .unset, .unset] []))
  have K : Keep h0 h0 [a] := Keep.refl _ _
  refine OwnGo.fwd (fun tq' kq' => XS.aloadN X0.here hx rfl (hb hby d4_0) rfl rfl kq') ?_
  show OwnGo _ _ _ _ (s₁.setTop (mkF m 1 #[.val (.ref a), .unset, .unset] [(.ref a)]))
  refine OwnGo.fwd (fun tq' kq' => XS.dup X0.here hx rfl (hb hby d4_1) rfl rfl kq') ?_
  show OwnGo _ _ _ _ (s₁.setTop (mkF m 2 #[.val (.ref a), .unset, .unset] [(.ref a), (.ref a)]))
  obtain ⟨T1, X1, e1, st1⟩ := getF X0 hx hZ hown (host := "") (Or.inl (hw _ (List.mem_of_getElem? (i := 9) rfl))) Via.refl e0 F_state_a (g := (mkF m 2 #[.val (.ref a), .unset, .unset] [(.ref a), (.ref a)])) rfl rfl (hb hby d4_2)
  refine OwnGo.fwd st1 ?_
  show OwnGo _ _ _ _ (T1.setTop (mkF m 5 #[.val (.ref a), .unset, .unset] [(.long q), (.ref a)]))
  refine OwnGo.fwd (fun tq' kq' => X1.ldc2Long hx hown (mvT hZ (hw _ (List.mem_of_getElem? (i := 21) rfl))) (g := (mkF m 5 #[.val (.ref a), .unset, .unset] [(.long q), (.ref a)])) rfl (hb hby d4_5) tq' kq') ?_
  show OwnGo _ _ _ _ (T1.setTop (mkF m 8 #[.val (.ref a), .unset, .unset] [(.long (-7046029254386353131 : Int64)), (.long q), (.ref a)]))
  refine OwnGo.fwd (fun tq' kq' => XS.ladd X1.here hx rfl (hb hby d4_8) rfl kq') ?_
  show OwnGo _ _ _ _ (T1.setTop (mkF m 9 #[.val (.ref a), .unset, .unset] [(.long (q + (-7046029254386353131 : Int64))), (.ref a)]))
  obtain ⟨T2, h2, X2, e2, W2, st2⟩ := putF X1 hx hZ hown (host := "") (Or.inl (hw _ (List.mem_of_getElem? (i := 9) rfl))) Via.refl e1 F_state_a E_a (Or.inl (hw _ (List.mem_of_getElem? (i := 10) rfl))) (hw _ (List.mem_of_getElem? (i := 1) rfl)) (ty := .long) (by decide) rfl rfl (g := (mkF m 9 #[.val (.ref a), .unset, .unset] [(.long (q + (-7046029254386353131 : Int64))), (.ref a)])) rfl rfl (hb hby d4_9)
  have E_a := E_a.wr W2
  have F_state_a := F_state_a.same W2
  have K := K.wr W2 (Or.inl (List.mem_of_getElem? (i := 0) rfl))
  have Zs := Nat.le_trans Zs (Keep.of_wr W2).1
  have N := Fr.snoc X2 N g_a
  refine OwnGo.fwd st2 ?_
  show OwnGo _ _ _ _ (T2.setTop (mkF m 12 #[.val (.ref a), .unset, .unset] []))
  refine OwnGo.fwd (fun tq' kq' => XS.aloadN X2.here hx rfl (hb hby d4_12) rfl rfl kq') ?_
  show OwnGo _ _ _ _ (T2.setTop (mkF m 13 #[.val (.ref a), .unset, .unset] [(.ref a)]))
  obtain ⟨T3, X3, e3, st3⟩ := getF X2 hx hZ hown (host := "") (Or.inl (hw _ (List.mem_of_getElem? (i := 9) rfl))) Via.refl e2 F_state_a (g := (mkF m 13 #[.val (.ref a), .unset, .unset] [(.ref a)])) rfl rfl (hb hby d4_13)
  refine OwnGo.fwd st3 ?_
  show OwnGo _ _ _ _ (T3.setTop (mkF m 16 #[.val (.ref a), .unset, .unset] [(.long (q + (-7046029254386353131 : Int64)))]))
  refine OwnGo.fwd (fun tq' kq' => XS.lstoreN X3.here hx rfl (hb hby d4_16) rfl (l' := #[.val (.ref a), .val (.long (q + (-7046029254386353131 : Int64))), .second]) rfl kq') ?_
  show OwnGo _ _ _ _ (T3.setTop (mkF m 17 #[.val (.ref a), .val (.long (q + (-7046029254386353131 : Int64))), .second] []))
  refine OwnGo.fwd (fun tq' kq' => XS.lloadN X3.here hx rfl (hb hby d4_17) rfl kq') ?_
  show OwnGo _ _ _ _ (T3.setTop (mkF m 18 #[.val (.ref a), .val (.long (q + (-7046029254386353131 : Int64))), .second] [(.long (q + (-7046029254386353131 : Int64)))]))
  refine OwnGo.fwd (fun tq' kq' => XS.lloadN X3.here hx rfl (hb hby d4_18) rfl kq') ?_
  show OwnGo _ _ _ _ (T3.setTop (mkF m 19 #[.val (.ref a), .val (.long (q + (-7046029254386353131 : Int64))), .second] [(.long (q + (-7046029254386353131 : Int64))), (.long (q + (-7046029254386353131 : Int64)))]))
  refine OwnGo.fwd (fun tq' kq' => XS.bipush X3.here hx rfl (hb hby d4_19) kq') ?_
  show OwnGo _ _ _ _ (T3.setTop (mkF m 21 #[.val (.ref a), .val (.long (q + (-7046029254386353131 : Int64))), .second] [(.int (30 : Int32)), (.long (q + (-7046029254386353131 : Int64))), (.long (q + (-7046029254386353131 : Int64)))]))
  refine OwnGo.fwd (fun tq' kq' => XS.lushr X3.here hx rfl (hb hby d4_21) rfl kq') ?_
  show OwnGo _ _ _ _ (T3.setTop (mkF m 22 #[.val (.ref a), .val (.long (q + (-7046029254386353131 : Int64))), .second] [(.long (((q + (-7046029254386353131 : Int64)).toUInt64 >>> ((30 : Int32) &&& 0x3f).toInt64.toUInt64).toInt64)), (.long (q + (-7046029254386353131 : Int64)))]))
  refine OwnGo.fwd (fun tq' kq' => XS.lxor X3.here hx rfl (hb hby d4_22) rfl kq') ?_
  show OwnGo _ _ _ _ (T3.setTop (mkF m 23 #[.val (.ref a), .val (.long (q + (-7046029254386353131 : Int64))), .second] [(.long ((q + (-7046029254386353131 : Int64)) ^^^ (((q + (-7046029254386353131 : Int64)).toUInt64 >>> ((30 : Int32) &&& 0x3f).toInt64.toUInt64).toInt64)))]))
  refine OwnGo.fwd (fun tq' kq' => X3.ldc2Long hx hown (mvT hZ (hw _ (List.mem_of_getElem? (i := 22) rfl))) (g := (mkF m 23 #[.val (.ref a), .val (.long (q + (-7046029254386353131 : Int64))), .second] [(.long ((q + (-7046029254386353131 : Int64)) ^^^ (((q + (-7046029254386353131 : Int64)).toUInt64 >>> ((30 : Int32) &&& 0x3f).toInt64.toUInt64).toInt64)))])) rfl (hb hby d4_23) tq' kq') ?_
  show OwnGo _ _ _ _ (T3.setTop (mkF m 26 #[.val (.ref a), .val (.long (q + (-7046029254386353131 : Int64))), .second] [(.long (-4658895280553007687 : Int64)), (.long ((q + (-7046029254386353131 : Int64)) ^^^ (((q + (-7046029254386353131 : Int64)).toUInt64 >>> ((30 : Int32) &&& 0x3f).toInt64.toUInt64).toInt64)))]))
  refine OwnGo.fwd (fun tq' kq' => XS.lmul X3.here hx rfl (hb hby d4_26) rfl kq') ?_
  show OwnGo _ _ _ _ (T3.setTop (mkF m 27 #[.val (.ref a), .val (.long (q + (-7046029254386353131 : Int64))), .second] [(.long (((q + (-7046029254386353131 : Int64)) ^^^ (((q + (-7046029254386353131 : Int64)).toUInt64 >>> ((30 : Int32) &&& 0x3f).toInt64.toUInt64).toInt64)) * (-4658895280553007687 : Int64)))]))
  show OwnGo _ _ _ _ (T3.setTop (mkF m 27 #[.val (.ref a), .val (.long (q + (-7046029254386353131 : Int64))), .second] [(.long (own_mx (q + (-7046029254386353131 : Int64)) 30 * (-4658895280553007687 : Int64)))]))
  refine OwnGo.fwd (fun tq' kq' => XS.lstoreN X3.here hx rfl (hb hby d4_27) rfl (l' := #[.val (.ref a), .val (.long (own_mx (q + (-7046029254386353131 : Int64)) 30 * (-4658895280553007687 : Int64))), .second]) rfl kq') ?_
  show OwnGo _ _ _ _ (T3.setTop (mkF m 28 #[.val (.ref a), .val (.long (own_mx (q + (-7046029254386353131 : Int64)) 30 * (-4658895280553007687 : Int64))), .second] []))
  refine OwnGo.fwd (fun tq' kq' => XS.lloadN X3.here hx rfl (hb hby d4_28) rfl kq') ?_
  show OwnGo _ _ _ _ (T3.setTop (mkF m 29 #[.val (.ref a), .val (.long (own_mx (q + (-7046029254386353131 : Int64)) 30 * (-4658895280553007687 : Int64))), .second] [(.long (own_mx (q + (-7046029254386353131 : Int64)) 30 * (-4658895280553007687 : Int64)))]))
  refine OwnGo.fwd (fun tq' kq' => XS.lloadN X3.here hx rfl (hb hby d4_29) rfl kq') ?_
  show OwnGo _ _ _ _ (T3.setTop (mkF m 30 #[.val (.ref a), .val (.long (own_mx (q + (-7046029254386353131 : Int64)) 30 * (-4658895280553007687 : Int64))), .second] [(.long (own_mx (q + (-7046029254386353131 : Int64)) 30 * (-4658895280553007687 : Int64))), (.long (own_mx (q + (-7046029254386353131 : Int64)) 30 * (-4658895280553007687 : Int64)))]))
  refine OwnGo.fwd (fun tq' kq' => XS.bipush X3.here hx rfl (hb hby d4_30) kq') ?_
  show OwnGo _ _ _ _ (T3.setTop (mkF m 32 #[.val (.ref a), .val (.long (own_mx (q + (-7046029254386353131 : Int64)) 30 * (-4658895280553007687 : Int64))), .second] [(.int (27 : Int32)), (.long (own_mx (q + (-7046029254386353131 : Int64)) 30 * (-4658895280553007687 : Int64))), (.long (own_mx (q + (-7046029254386353131 : Int64)) 30 * (-4658895280553007687 : Int64)))]))
  refine OwnGo.fwd (fun tq' kq' => XS.lushr X3.here hx rfl (hb hby d4_32) rfl kq') ?_
  show OwnGo _ _ _ _ (T3.setTop (mkF m 33 #[.val (.ref a), .val (.long (own_mx (q + (-7046029254386353131 : Int64)) 30 * (-4658895280553007687 : Int64))), .second] [(.long (((own_mx (q + (-7046029254386353131 : Int64)) 30 * (-4658895280553007687 : Int64)).toUInt64 >>> ((27 : Int32) &&& 0x3f).toInt64.toUInt64).toInt64)), (.long (own_mx (q + (-7046029254386353131 : Int64)) 30 * (-4658895280553007687 : Int64)))]))
  refine OwnGo.fwd (fun tq' kq' => XS.lxor X3.here hx rfl (hb hby d4_33) rfl kq') ?_
  show OwnGo _ _ _ _ (T3.setTop (mkF m 34 #[.val (.ref a), .val (.long (own_mx (q + (-7046029254386353131 : Int64)) 30 * (-4658895280553007687 : Int64))), .second] [(.long ((own_mx (q + (-7046029254386353131 : Int64)) 30 * (-4658895280553007687 : Int64)) ^^^ (((own_mx (q + (-7046029254386353131 : Int64)) 30 * (-4658895280553007687 : Int64)).toUInt64 >>> ((27 : Int32) &&& 0x3f).toInt64.toUInt64).toInt64)))]))
  refine OwnGo.fwd (fun tq' kq' => X3.ldc2Long hx hown (mvT hZ (hw _ (List.mem_of_getElem? (i := 23) rfl))) (g := (mkF m 34 #[.val (.ref a), .val (.long (own_mx (q + (-7046029254386353131 : Int64)) 30 * (-4658895280553007687 : Int64))), .second] [(.long ((own_mx (q + (-7046029254386353131 : Int64)) 30 * (-4658895280553007687 : Int64)) ^^^ (((own_mx (q + (-7046029254386353131 : Int64)) 30 * (-4658895280553007687 : Int64)).toUInt64 >>> ((27 : Int32) &&& 0x3f).toInt64.toUInt64).toInt64)))])) rfl (hb hby d4_34) tq' kq') ?_
  show OwnGo _ _ _ _ (T3.setTop (mkF m 37 #[.val (.ref a), .val (.long (own_mx (q + (-7046029254386353131 : Int64)) 30 * (-4658895280553007687 : Int64))), .second] [(.long (-7723592293110705685 : Int64)), (.long ((own_mx (q + (-7046029254386353131 : Int64)) 30 * (-4658895280553007687 : Int64)) ^^^ (((own_mx (q + (-7046029254386353131 : Int64)) 30 * (-4658895280553007687 : Int64)).toUInt64 >>> ((27 : Int32) &&& 0x3f).toInt64.toUInt64).toInt64)))]))
  refine OwnGo.fwd (fun tq' kq' => XS.lmul X3.here hx rfl (hb hby d4_37) rfl kq') ?_
  show OwnGo _ _ _ _ (T3.setTop (mkF m 38 #[.val (.ref a), .val (.long (own_mx (q + (-7046029254386353131 : Int64)) 30 * (-4658895280553007687 : Int64))), .second] [(.long (((own_mx (q + (-7046029254386353131 : Int64)) 30 * (-4658895280553007687 : Int64)) ^^^ (((own_mx (q + (-7046029254386353131 : Int64)) 30 * (-4658895280553007687 : Int64)).toUInt64 >>> ((27 : Int32) &&& 0x3f).toInt64.toUInt64).toInt64)) * (-7723592293110705685 : Int64)))]))
  show OwnGo _ _ _ _ (T3.setTop (mkF m 38 #[.val (.ref a), .val (.long (own_mx (q + (-7046029254386353131 : Int64)) 30 * (-4658895280553007687 : Int64))), .second] [(.long (own_mx (own_mx (q + (-7046029254386353131 : Int64)) 30 * (-4658895280553007687 : Int64)) 27 * (-7723592293110705685 : Int64)))]))
  refine OwnGo.fwd (fun tq' kq' => XS.lstoreN X3.here hx rfl (hb hby d4_38) rfl (l' := #[.val (.ref a), .val (.long (own_mx (own_mx (q + (-7046029254386353131 : Int64)) 30 * (-4658895280553007687 : Int64)) 27 * (-7723592293110705685 : Int64))), .second]) rfl kq') ?_
  show OwnGo _ _ _ _ (T3.setTop (mkF m 39 #[.val (.ref a), .val (.long (own_mx (own_mx (q + (-7046029254386353131 : Int64)) 30 * (-4658895280553007687 : Int64)) 27 * (-7723592293110705685 : Int64))), .second] []))
  refine OwnGo.fwd (fun tq' kq' => XS.lloadN X3.here hx rfl (hb hby d4_39) rfl kq') ?_
  show OwnGo _ _ _ _ (T3.setTop (mkF m 40 #[.val (.ref a), .val (.long (own_mx (own_mx (q + (-7046029254386353131 : Int64)) 30 * (-4658895280553007687 : Int64)) 27 * (-7723592293110705685 : Int64))), .second] [(.long (own_mx (own_mx (q + (-7046029254386353131 : Int64)) 30 * (-4658895280553007687 : Int64)) 27 * (-7723592293110705685 : Int64)))]))
  refine OwnGo.fwd (fun tq' kq' => XS.lloadN X3.here hx rfl (hb hby d4_40) rfl kq') ?_
  show OwnGo _ _ _ _ (T3.setTop (mkF m 41 #[.val (.ref a), .val (.long (own_mx (own_mx (q + (-7046029254386353131 : Int64)) 30 * (-4658895280553007687 : Int64)) 27 * (-7723592293110705685 : Int64))), .second] [(.long (own_mx (own_mx (q + (-7046029254386353131 : Int64)) 30 * (-4658895280553007687 : Int64)) 27 * (-7723592293110705685 : Int64))), (.long (own_mx (own_mx (q + (-7046029254386353131 : Int64)) 30 * (-4658895280553007687 : Int64)) 27 * (-7723592293110705685 : Int64)))]))
  refine OwnGo.fwd (fun tq' kq' => XS.bipush X3.here hx rfl (hb hby d4_41) kq') ?_
  show OwnGo _ _ _ _ (T3.setTop (mkF m 43 #[.val (.ref a), .val (.long (own_mx (own_mx (q + (-7046029254386353131 : Int64)) 30 * (-4658895280553007687 : Int64)) 27 * (-7723592293110705685 : Int64))), .second] [(.int (31 : Int32)), (.long (own_mx (own_mx (q + (-7046029254386353131 : Int64)) 30 * (-4658895280553007687 : Int64)) 27 * (-7723592293110705685 : Int64))), (.long (own_mx (own_mx (q + (-7046029254386353131 : Int64)) 30 * (-4658895280553007687 : Int64)) 27 * (-7723592293110705685 : Int64)))]))
  refine OwnGo.fwd (fun tq' kq' => XS.lushr X3.here hx rfl (hb hby d4_43) rfl kq') ?_
  show OwnGo _ _ _ _ (T3.setTop (mkF m 44 #[.val (.ref a), .val (.long (own_mx (own_mx (q + (-7046029254386353131 : Int64)) 30 * (-4658895280553007687 : Int64)) 27 * (-7723592293110705685 : Int64))), .second] [(.long (((own_mx (own_mx (q + (-7046029254386353131 : Int64)) 30 * (-4658895280553007687 : Int64)) 27 * (-7723592293110705685 : Int64)).toUInt64 >>> ((31 : Int32) &&& 0x3f).toInt64.toUInt64).toInt64)), (.long (own_mx (own_mx (q + (-7046029254386353131 : Int64)) 30 * (-4658895280553007687 : Int64)) 27 * (-7723592293110705685 : Int64)))]))
  refine OwnGo.fwd (fun tq' kq' => XS.lxor X3.here hx rfl (hb hby d4_44) rfl kq') ?_
  show OwnGo _ _ _ _ (T3.setTop (mkF m 45 #[.val (.ref a), .val (.long (own_mx (own_mx (q + (-7046029254386353131 : Int64)) 30 * (-4658895280553007687 : Int64)) 27 * (-7723592293110705685 : Int64))), .second] [(.long ((own_mx (own_mx (q + (-7046029254386353131 : Int64)) 30 * (-4658895280553007687 : Int64)) 27 * (-7723592293110705685 : Int64)) ^^^ (((own_mx (own_mx (q + (-7046029254386353131 : Int64)) 30 * (-4658895280553007687 : Int64)) 27 * (-7723592293110705685 : Int64)).toUInt64 >>> ((31 : Int32) &&& 0x3f).toInt64.toUInt64).toInt64)))]))
  show OwnGo _ _ _ _ (T3.setTop (mkF m 45 #[.val (.ref a), .val (.long (own_mx (own_mx (q + (-7046029254386353131 : Int64)) 30 * (-4658895280553007687 : Int64)) 27 * (-7723592293110705685 : Int64))), .second] [(.long (own_mix (q + (-7046029254386353131 : Int64))))]))
  exact own_retJ X3 hlk hx Bd.returns (hb hby d4_45) (by decide) (by decide) e3 ⟨rfl, N, K, E_a, F_state_a⟩
theorem d3_0 : decode prog_38_method_3_code 0 = .ok (.aload_n 0, 1) := by decide +kernel
theorem d3_1 : decode prog_38_method_3_code 1 = .ok (.invokevirtual 19, 3) := by decide +kernel
theorem d3_4 : decode prog_38_method_3_code 4 = .ok (.bipush 11, 2) := by decide +kernel
theorem d3_6 : decode prog_38_method_3_code 6 = .ok (.lushr, 1) := by decide +kernel
theorem d3_7 : decode prog_38_method_3_code 7 = .ok (.l2d, 1) := by decide +kernel
theorem d3_8 : decode prog_38_method_3_code 8 = .ok (.ldc2_w 23, 3) := by decide +kernel
theorem d3_11 : decode prog_38_method_3_code 11 = .ok (.dmul, 1) := by decide +kernel
theorem d3_12 : decode prog_38_method_3_code 12 = .ok (.dreturn, 1) := by decide +kernel
theorem pn_3 : plainFor (⟨"com/example/blindfold/blindfold/core/SeededRandom", "nextDouble", "()D"⟩ : MethodName) = true := plainFor_of_name (by first | (simp [plainName, overriddenIn]; done) | decide +kernel)
theorem ef_3 (m : MethodId) (x0 : Addr) : entryFrame m #[(.ref x0)] 1 = mkF m 0 #[.val (.ref x0)] [] := by first | (simp [entryFrame, mkF, argsToLocals, Value.category, maxLocals]; done) | rfl
def Q3 (Z : State) (a : Addr) (q : Int64) (h0 : Heap) (n0 : Nat) (v : Option Value) (h : Heap) (L : List Loc) : Prop := v = some (.double (own_dd (own_sh (own_mix (q + (-7046029254386353131 : Int64))) 11))) ∧ Fr n0 L ∧ Keep h0 h [a] ∧ Exa Z h a "com/example/blindfold/blindfold/core/SeededRandom" ∧ Fld Z h a "com/example/blindfold/blindfold/core/SeededRandom" "state" "J" (.long (q + (-7046029254386353131 : Int64)))
set_option maxRecDepth 65536 in
set_option maxHeartbeats 40000000 in
theorem rm3 (l : Launch) (Z : State) (a0 : Array Value) (hw : ∀ d ∈ tables_1, d.before a0 Z = true) (ws : List Jvm.Cond) (a : Addr) (q : Int64) (h0 : Heap) (n0 : Nat) (Z0 : n0 ≤ h0.size) (E_a : Exa Z h0 a "com/example/blindfold/blindfold/core/SeededRandom") (F_state_a : Fld Z h0 a "com/example/blindfold/blindfold/core/SeededRandom" "state" "J" (.long q)) (g_a : n0 ≤ a) :
    MetFree l (⟨"com/example/blindfold/blindfold/core/SeededRandom", "nextDouble", "()D"⟩ : MethodName) (head1 (Jvm.Cond.code (⟨"com/example/blindfold/blindfold/core/SeededRandom", "nextDouble", "()D"⟩ : MethodName) prog_38_method_3_code 1 (some .double) :: ws) ({ frames := 1, cells := 0, slots := 0, locals := 14 } : Room)) (fun arr' U => arr' = #[(.ref a)] ∧ Z.Warmed39 U.vm ∧ U.heap = h0) (fun _ _ _ _ _ => True) (fun _ U o U' => ∃ v L, o = .returned v ∧ (Q3 Z a q h0 n0) v U'.heap L ∧ FrameEnd U o U' L ({ frames := 1, cells := 0, slots := 0, locals := 14 } : Room).cells ({ frames := 1, cells := 0, slots := 0, locals := 14 } : Room).slots) := by
  refine MetFree.of_bodySF pn_3 hisR ?_
  intro p e s m args below meth c s₁ Bd hml0 hP hK
  obtain ⟨rfl, hZ, hh⟩ := hP
  have hx := Bd.exec
  have hby := Bd.bytes
  have hlk : meth.locks = false := BodyLoose.notSynchronized Bd
  have hml : c.maxLocals = 1 := hml0
  have hown : s.vm.findClass "com/example/blindfold/blindfold/core/SeededRandom" = some m.cls := findClass_of_methodNamed Bd.named
  have hnm := (name_of_methodNamed Bd.named Bd.method).1
  have X0 : Stand p l e ({ frames := 1, cells := 0, slots := 0, locals := 14 } : Room) s m #[(.ref a)] below meth c s₁ [] 0 0 := Stand.of_body Bd
  have e0 : s₁.heap = h0 := by rw [← hh, Bd.state]; rfl
  have N := Fr.nil n0
  have Zs := Z0
  change OwnGo p.tables e below (OwnEnd s (Q3 Z a q h0 n0) ({ frames := 1, cells := 0, slots := 0, locals := 14 } : Room).cells ({ frames := 1, cells := 0, slots := 0, locals := 14 } : Room).slots) _
  refine OwnGo.fwd (fun tq' kq' => castTop (ef_3 m a) kq') ?_
  show OwnGo _ _ _ _ (s₁.setTop (mkF m 0 #[.val (.ref a)] []))
  have K : Keep h0 h0 [a] := Keep.refl _ _
  refine OwnGo.fwd (fun tq' kq' => XS.aloadN X0.here hx rfl (hb hby d3_0) rfl rfl kq') ?_
  show OwnGo _ _ _ _ (s₁.setTop (mkF m 1 #[.val (.ref a)] [(.ref a)]))
  obtain ⟨cq1, kq1, q1a, q1b, q1c⟩ := isOf hZ e0 E_a
  obtain ⟨_, _, ⟨T1, L1, k1, n1⟩, -, X1, ⟨Lc1, hQ1, l1, y1, z1⟩, st1⟩ := X0.virtualBack hx (y := (⟨"com/example/blindfold/blindfold/core/SeededRandom", "nextLong", "()J"⟩ : MethodName)) (z := (⟨"com/example/blindfold/blindfold/core/SeededRandom", "nextLong", "()J"⟩ : MethodName)) hown (mvT hZ (hw _ (List.mem_of_getElem? (i := 16) rfl))) (mvT hZ (hw _ (List.mem_of_getElem? (i := 17) rfl))) (notFace_of_selects (args := #[]) (mvT hZ (hw _ (List.mem_of_getElem? (i := 19) rfl)))) (mvT hZ (hw _ (List.mem_of_getElem? (i := 19) rfl))) (mvT hZ (hw _ (List.mem_of_getElem? (i := 18) rfl))) (by decide) (backOf (W := 0) (rm4 l Z a0 hw [] a q h0 n0 Zs E_a F_state_a g_a) hZ (hw _ (List.mem_of_getElem? (i := 20) rfl)) (hw _ (List.mem_of_getElem? (i := 2) rfl)) (by decide) (by decide)) q1a q1c (g := (mkF m 1 #[.val (.ref a)] [(.ref a)])) rfl (by rw [hml]; rfl) (Steps.refl _) (argsL := []) (rest := []) (lenOf pd_3 rfl) rfl (by show 2 * 0 + _ ≤ _; exact Nat.le_of_eq rfl) (hb hby d3_1) (fun _ _ => ⟨rfl, e0, (by decide : 0 + 0 ≤ _), (by decide : 0 + 0 ≤ _)⟩)
  dsimp only [Pt.U, Pt.locs, Pt.cells, Pt.slots] at X1 l1 y1 z1 st1 hQ1
  subst l1 y1 z1
  obtain ⟨h1, eh1⟩ : ∃ z, z = T1.heap := ⟨_, rfl⟩
  rw [← eh1] at hQ1
  obtain ⟨rfl, N1q, K1, E_a, F_state_a⟩ := hQ1
  have N := Fr.app N N1q
  have Zs := Nat.le_trans Zs K1.1
  have K := K.trans K1 (allS (Or.inl (List.mem_of_getElem? (i := 0) rfl)) all0)
  refine OwnGo.thru st1 ?_
  show OwnGo _ _ _ _ (T1.setTop (mkF m 4 #[.val (.ref a)] [(.long (own_mix (q + (-7046029254386353131 : Int64))))]))
  refine OwnGo.fwd (fun tq' kq' => XS.bipush X1.here hx rfl (hb hby d3_4) kq') ?_
  show OwnGo _ _ _ _ (T1.setTop (mkF m 6 #[.val (.ref a)] [(.int (11 : Int32)), (.long (own_mix (q + (-7046029254386353131 : Int64))))]))
  refine OwnGo.fwd (fun tq' kq' => XS.lushr X1.here hx rfl (hb hby d3_6) rfl kq') ?_
  show OwnGo _ _ _ _ (T1.setTop (mkF m 7 #[.val (.ref a)] [(.long (((own_mix (q + (-7046029254386353131 : Int64))).toUInt64 >>> ((11 : Int32) &&& 0x3f).toInt64.toUInt64).toInt64))]))
  show OwnGo _ _ _ _ (T1.setTop (mkF m 7 #[.val (.ref a)] [(.long (own_sh (own_mix (q + (-7046029254386353131 : Int64))) 11))]))
  refine OwnGo.fwd (fun tq' kq' => XS.l2dS X1.here hx rfl (hb hby d3_7) rfl rfl kq') ?_
  show OwnGo _ _ _ _ (T1.setTop (mkF m 8 #[.val (.ref a)] [(.double (FP.l2d (own_sh (own_mix (q + (-7046029254386353131 : Int64))) 11)))]))
  refine OwnGo.fwd (fun tq' kq' => X1.ldc2DoubleC hx hown (mvT hZ (hw _ (List.mem_of_getElem? (i := 24) rfl))) (g := (mkF m 8 #[.val (.ref a)] [(.double (FP.l2d (own_sh (own_mix (q + (-7046029254386353131 : Int64))) 11)))])) rfl (hb hby d3_8) tq' kq') ?_
  show OwnGo _ _ _ _ (T1.setTop (mkF m 11 #[.val (.ref a)] [(.double (4368491638549381120 : UInt64)), (.double (FP.l2d (own_sh (own_mix (q + (-7046029254386353131 : Int64))) 11)))]))
  refine OwnGo.fwd (fun tq' kq' => XS.dmulS X1.here hx rfl (hb hby d3_11) rfl (own_n1 (own_top _).1 (own_top _).2) rfl kq') ?_
  show OwnGo _ _ _ _ (T1.setTop (mkF m 12 #[.val (.ref a)] [(.double (FP.dmul (FP.l2d (own_sh (own_mix (q + (-7046029254386353131 : Int64))) 11)) (4368491638549381120 : UInt64)))]))
  exact own_retD X1 hlk hx Bd.returns (hb hby d3_12) (by decide) (by decide) eh1.symm ⟨rfl, N, K, E_a, F_state_a⟩
theorem d5_0 : decode method_2_code 0 = .ok (.dload_n 0, 1) := by decide +kernel
theorem d5_1 : decode method_2_code 1 = .ok (.dconst 0, 1) := by decide +kernel
theorem d5_2 : decode method_2_code 2 = .ok (.dcmp .l, 1) := by decide +kernel
theorem d5_3 : decode method_2_code 3 = .ok (.ifCond .lt 24, 3) := by decide +kernel
theorem d5_6 : decode method_2_code 6 = .ok (.dload_n 0, 1) := by decide +kernel
theorem d5_7 : decode method_2_code 7 = .ok (.dconst 1, 1) := by decide +kernel
theorem d5_8 : decode method_2_code 8 = .ok (.dcmp .g, 1) := by decide +kernel
theorem d5_9 : decode method_2_code 9 = .ok (.ifCond .ge 18, 3) := by decide +kernel
theorem d5_12 : decode method_2_code 12 = .ok (.dload_n 0, 1) := by decide +kernel
theorem d5_13 : decode method_2_code 13 = .ok (.ldc2_w 9, 3) := by decide +kernel
theorem d5_16 : decode method_2_code 16 = .ok (.dmul, 1) := by decide +kernel
theorem d5_17 : decode method_2_code 17 = .ok (.lload_n 2, 1) := by decide +kernel
theorem d5_18 : decode method_2_code 18 = .ok (.l2d, 1) := by decide +kernel
theorem d5_19 : decode method_2_code 19 = .ok (.dcmp .l, 1) := by decide +kernel
theorem d5_20 : decode method_2_code 20 = .ok (.ifCond .ne 7, 3) := by decide +kernel
theorem d5_23 : decode method_2_code 23 = .ok (.iconst 1, 1) := by decide +kernel
theorem d5_24 : decode method_2_code 24 = .ok (.goto 4, 3) := by decide +kernel
theorem d5_27 : decode method_2_code 27 = .ok (.iconst 0, 1) := by decide +kernel
theorem d5_28 : decode method_2_code 28 = .ok (.ireturn, 1) := by decide +kernel
theorem pn_5 : plainFor (⟨"com/example/blindfold/blindfold/core/SeededRandomNextDoublePinLaw", "ok", "(DJ)Z"⟩ : MethodName) = true := plainFor_of_name (by first | (simp [plainName, overriddenIn]; done) | decide +kernel)
theorem ef_5 (m : MethodId) (x0 : UInt64) (x1 : Int64) : entryFrame m #[(.double x0), (.long x1)] 4 = mkF m 0 #[.val (.double x0), .second, .val (.long x1), .second] [] := by first | (simp [entryFrame, mkF, argsToLocals, Value.category, maxLocals]; done) | rfl
def Q5 (Z : State) (u : Int64) (h0 : Heap) (n0 : Nat) (v : Option Value) (h : Heap) (L : List Loc) : Prop := v = some (.int 1) ∧ Fr n0 L ∧ h = h0
set_option maxRecDepth 65536 in
set_option maxHeartbeats 40000000 in
theorem rm5 (l : Launch) (Z : State) (a0 : Array Value) (hw : ∀ d ∈ tables_1, d.before a0 Z = true) (ws : List Jvm.Cond) (u : Int64) (h0 : Heap) (n0 : Nat) (Z0 : n0 ≤ h0.size) (u0 : 0 ≤ u.toInt) (u1 : u.toInt < 9007199254740992) :
    MetFree l (⟨"com/example/blindfold/blindfold/core/SeededRandomNextDoublePinLaw", "ok", "(DJ)Z"⟩ : MethodName) (head1 (Jvm.Cond.code (⟨"com/example/blindfold/blindfold/core/SeededRandomNextDoublePinLaw", "ok", "(DJ)Z"⟩ : MethodName) method_2_code 4 (some .boolean) :: ws) ({ frames := 0, cells := 0, slots := 0, locals := 0 } : Room)) (fun arr' U => arr' = #[(.double (own_dd u)), (.long u)] ∧ Z.Warmed39 U.vm ∧ U.heap = h0) (fun _ _ _ _ _ => True) (fun _ U o U' => ∃ v L, o = .returned v ∧ (Q5 Z u h0 n0) v U'.heap L ∧ FrameEnd U o U' L ({ frames := 0, cells := 0, slots := 0, locals := 0 } : Room).cells ({ frames := 0, cells := 0, slots := 0, locals := 0 } : Room).slots) := by
  refine MetFree.of_bodySF pn_5 hisR ?_
  intro p e s m args below meth c s₁ Bd hml0 hP hK
  obtain ⟨rfl, hZ, hh⟩ := hP
  have hx := Bd.exec
  have hby := Bd.bytes
  have hlk : meth.locks = false := BodyLoose.notSynchronized Bd
  have hml : c.maxLocals = 4 := hml0
  have hown : s.vm.findClass "com/example/blindfold/blindfold/core/SeededRandomNextDoublePinLaw" = some m.cls := findClass_of_methodNamed Bd.named
  have hnm := (name_of_methodNamed Bd.named Bd.method).1
  have X0 : Stand p l e ({ frames := 0, cells := 0, slots := 0, locals := 0 } : Room) s m #[(.double (own_dd u)), (.long u)] below meth c s₁ [] 0 0 := Stand.of_body Bd
  have e0 : s₁.heap = h0 := by rw [← hh, Bd.state]; rfl
  have N := Fr.nil n0
  have Zs := Z0
  change OwnGo p.tables e below (OwnEnd s (Q5 Z u h0 n0) ({ frames := 0, cells := 0, slots := 0, locals := 0 } : Room).cells ({ frames := 0, cells := 0, slots := 0, locals := 0 } : Room).slots) _
  refine OwnGo.fwd (fun tq' kq' => castTop (ef_5 m (own_dd u) u) kq') ?_
  show OwnGo _ _ _ _ (s₁.setTop (mkF m 0 #[.val (.double (own_dd u)), .second, .val (.long u), .second] []))
  refine OwnGo.fwd (fun tq' kq' => XS.dloadN X0.here hx rfl (hb hby d5_0) rfl kq') ?_
  show OwnGo _ _ _ _ (s₁.setTop (mkF m 1 #[.val (.double (own_dd u)), .second, .val (.long u), .second] [(.double (own_dd u))]))
  refine OwnGo.fwd (fun tq' kq' => XS.dconst0 X0.here hx rfl (hb hby d5_1) rfl kq') ?_
  show OwnGo _ _ _ _ (s₁.setTop (mkF m 2 #[.val (.double (own_dd u)), .second, .val (.long u), .second] [(.double (0 : UInt64)), (.double (own_dd u))]))
  refine OwnGo.fwd (fun tq' kq' => XS.dcmpS X0.here hx rfl (hb hby d5_2) rfl rfl kq') ?_
  show OwnGo _ _ _ _ (s₁.setTop (mkF m 3 #[.val (.double (own_dd u)), .second, .val (.long u), .second] [(.int (cmpValue (FP.dcmp (own_dd u) (0 : UInt64)) .l))]))
  have hc3_1 : ¬ ((cmpValue (FP.dcmp (own_dd u) (0 : UInt64)) .l).toInt < 0) := own_k1 u0 u1
  refine OwnGo.fwd (fun tq' kq' => XS.ifNo X0.here hx rfl (hb hby d5_3) rfl ((if0 _ _).trans (own_bnlt rfl (by decide) hc3_1).1) kq') ?_
  show OwnGo _ _ _ _ (s₁.setTop (mkF m 6 #[.val (.double (own_dd u)), .second, .val (.long u), .second] []))
  refine OwnGo.fwd (fun tq' kq' => XS.dloadN X0.here hx rfl (hb hby d5_6) rfl kq') ?_
  show OwnGo _ _ _ _ (s₁.setTop (mkF m 7 #[.val (.double (own_dd u)), .second, .val (.long u), .second] [(.double (own_dd u))]))
  refine OwnGo.fwd (fun tq' kq' => XS.dconst1 X0.here hx rfl (hb hby d5_7) rfl kq') ?_
  show OwnGo _ _ _ _ (s₁.setTop (mkF m 8 #[.val (.double (own_dd u)), .second, .val (.long u), .second] [(.double (4607182418800017408 : UInt64)), (.double (own_dd u))]))
  refine OwnGo.fwd (fun tq' kq' => XS.dcmpS X0.here hx rfl (hb hby d5_8) rfl rfl kq') ?_
  show OwnGo _ _ _ _ (s₁.setTop (mkF m 9 #[.val (.double (own_dd u)), .second, .val (.long u), .second] [(.int (cmpValue (FP.dcmp (own_dd u) (4607182418800017408 : UInt64)) .g))]))
  have hc9_2 : (cmpValue (FP.dcmp (own_dd u) (4607182418800017408 : UInt64)) .g).toInt < 0 := own_k2 u0 u1
  refine OwnGo.fwd (fun tq' kq' => XS.ifNo X0.here hx rfl (hb hby d5_9) rfl ((if0 _ _).trans (own_blt rfl (by decide) hc9_2).2.1) kq') ?_
  show OwnGo _ _ _ _ (s₁.setTop (mkF m 12 #[.val (.double (own_dd u)), .second, .val (.long u), .second] []))
  refine OwnGo.fwd (fun tq' kq' => XS.dloadN X0.here hx rfl (hb hby d5_12) rfl kq') ?_
  show OwnGo _ _ _ _ (s₁.setTop (mkF m 13 #[.val (.double (own_dd u)), .second, .val (.long u), .second] [(.double (own_dd u))]))
  refine OwnGo.fwd (fun tq' kq' => X0.ldc2DoubleC hx hown (mvT hZ (hw _ (List.mem_of_getElem? (i := 30) rfl))) (g := (mkF m 13 #[.val (.double (own_dd u)), .second, .val (.long u), .second] [(.double (own_dd u))])) rfl (hb hby d5_13) tq' kq') ?_
  show OwnGo _ _ _ _ (s₁.setTop (mkF m 16 #[.val (.double (own_dd u)), .second, .val (.long u), .second] [(.double (4845873199050653696 : UInt64)), (.double (own_dd u))]))
  refine OwnGo.fwd (fun tq' kq' => XS.dmulS X0.here hx rfl (hb hby d5_16) rfl (own_n2 u0 u1) rfl kq') ?_
  show OwnGo _ _ _ _ (s₁.setTop (mkF m 17 #[.val (.double (own_dd u)), .second, .val (.long u), .second] [(.double (FP.dmul (own_dd u) (4845873199050653696 : UInt64)))]))
  refine OwnGo.fwd (fun tq' kq' => XS.lloadN X0.here hx rfl (hb hby d5_17) rfl kq') ?_
  show OwnGo _ _ _ _ (s₁.setTop (mkF m 18 #[.val (.double (own_dd u)), .second, .val (.long u), .second] [(.long u), (.double (FP.dmul (own_dd u) (4845873199050653696 : UInt64)))]))
  refine OwnGo.fwd (fun tq' kq' => XS.l2dS X0.here hx rfl (hb hby d5_18) rfl rfl kq') ?_
  show OwnGo _ _ _ _ (s₁.setTop (mkF m 19 #[.val (.double (own_dd u)), .second, .val (.long u), .second] [(.double (FP.l2d u)), (.double (FP.dmul (own_dd u) (4845873199050653696 : UInt64)))]))
  refine OwnGo.fwd (fun tq' kq' => XS.dcmpS X0.here hx rfl (hb hby d5_19) rfl rfl kq') ?_
  show OwnGo _ _ _ _ (s₁.setTop (mkF m 20 #[.val (.double (own_dd u)), .second, .val (.long u), .second] [(.int (cmpValue (FP.dcmp (FP.dmul (own_dd u) (4845873199050653696 : UInt64)) (FP.l2d u)) .l))]))
  have hc20_3 : (cmpValue (FP.dcmp (FP.dmul (own_dd u) (4845873199050653696 : UInt64)) (FP.l2d u)) .l).toInt = 0 := own_k3 u0 u1
  refine OwnGo.fwd (fun tq' kq' => XS.ifNo X0.here hx rfl (hb hby d5_20) rfl ((if0 _ _).trans (own_beq rfl (by decide) hc20_3).2) kq') ?_
  show OwnGo _ _ _ _ (s₁.setTop (mkF m 23 #[.val (.double (own_dd u)), .second, .val (.long u), .second] []))
  refine OwnGo.fwd (fun tq' kq' => XS.iconst X0.here hx rfl (hb hby d5_23) kq') ?_
  show OwnGo _ _ _ _ (s₁.setTop (mkF m 24 #[.val (.double (own_dd u)), .second, .val (.long u), .second] [(.int (1 : Int32))]))
  refine OwnGo.fwd (fun tq' kq' => XS.goto X0.here hx rfl (pc0 := 24) (pc' := 28) rfl (hb hby d5_24) (by decide) (by decide) kq') ?_
  show OwnGo _ _ _ _ (s₁.setTop (mkF m 28 #[.val (.double (own_dd u)), .second, .val (.long u), .second] [(.int (1 : Int32))]))
  exact own_retZ X0 hlk hx Bd.returns (hb hby d5_28) (by decide) (by decide) e0 ⟨rfl, N, rfl⟩
theorem pn_0 : plainFor (⟨"com/example/blindfold/blindfold/core/SeededRandomNextDoublePinLaw", "law", "(J)Z"⟩ : MethodName) = true := plainFor_of_name (by first | (simp [plainName, overriddenIn]; done) | decide +kernel)
theorem ef_0 (m : MethodId) (x0 : Int64) : entryFrame m #[(.long x0)] maxLocals = mkF m 0 #[.val (.long x0), .second, .unset, .unset, .unset, .unset, .unset, .unset, .unset, .unset, .unset, .unset] [] := by first | (simp [entryFrame, mkF, argsToLocals, Value.category, maxLocals]; done) | rfl
def Q0 (Z : State) (q : Int64) (h0 : Heap) (n0 : Nat) (v : Option Value) (h : Heap) (L : List Loc) : Prop := v = some (.int 1) ∧ Fr n0 L
set_option maxRecDepth 65536 in
set_option maxHeartbeats 40000000 in
theorem rm0 (l : Launch) (Z : State) (a0 : Array Value) (hw : ∀ d ∈ tables_1, d.before a0 Z = true) (ws : List Jvm.Cond) (q : Int64) (h0 : Heap) (n0 : Nat) (Z0 : n0 ≤ h0.size) :
    MetFree l x (head1 (Jvm.Cond.code x code maxLocals ret :: ws) room_1) (fun arr' U => arr' = #[(.long q)] ∧ Z.Warmed39 U.vm ∧ U.heap = h0) (fun _ _ _ _ _ => True) (fun _ U o U' => ∃ v L, o = .returned v ∧ (Q0 Z q h0 n0) v U'.heap L ∧ FrameEnd U o U' L room_1.cells room_1.slots) := by
  refine MetFree.of_bodySF pn_0 hisR ?_
  intro p e s m args below meth c s₁ Bd hml0 hP hK
  obtain ⟨rfl, hZ, hh⟩ := hP
  have hx := Bd.exec
  have hby := Bd.bytes
  have hlk : meth.locks = false := BodyLoose.notSynchronized Bd
  have hml : c.maxLocals = 12 := hml0
  have hown : s.vm.findClass "com/example/blindfold/blindfold/core/SeededRandomNextDoublePinLaw" = some m.cls := findClass_of_methodNamed Bd.named
  have hnm := (name_of_methodNamed Bd.named Bd.method).1
  have X0 : Stand p l e room_1 s m #[(.long q)] below meth c s₁ [] 0 0 := Stand.of_body Bd
  have e0 : s₁.heap = h0 := by rw [← hh, Bd.state]; rfl
  have N := Fr.nil n0
  have Zs := Z0
  change OwnGo p.tables e below (OwnEnd s (Q0 Z q h0 n0) room_1.cells room_1.slots) _
  refine OwnGo.fwd (fun tq' kq' => castTop (ef_0 m q) kq') ?_
  show OwnGo _ _ _ _ (s₁.setTop (mkF m 0 #[.val (.long q), .second, .unset, .unset, .unset, .unset, .unset, .unset, .unset, .unset, .unset, .unset] []))
  obtain ⟨T1, h1, X1, e1, E1, A1, D1, -, st1⟩ := newO X0 hx hZ hown (hw _ (List.mem_of_getElem? (i := 0) rfl)) (hw _ (List.mem_of_getElem? (i := 1) rfl)) (hw _ (List.mem_of_getElem? (i := 2) rfl)) e0 (g := (mkF m 0 #[.val (.long q), .second, .unset, .unset, .unset, .unset, .unset, .unset, .unset, .unset, .unset, .unset] [])) rfl (hb hby at_0) (by decide) (by decide)
  obtain ⟨b1, g1⟩ : ∃ z, z = h0.size := ⟨_, rfl⟩
  rw [← g1] at A1 D1 st1
  have g_b1 : n0 ≤ b1 := Nat.le_trans Zs (Nat.le_of_eq g1.symm)
  have Zs := Nat.le_trans Zs E1.1
  have E_b1 := A1
  have F_state_b1 : Fld Z h1 b1 "com/example/blindfold/blindfold/core/SeededRandom" "state" "J" (.long (0 : Int64)) := D1 (Or.inl (hw _ (List.mem_of_getElem? (i := 10) rfl))) (ty := .long) (by decide)
  refine OwnGo.fwd st1 ?_
  show OwnGo _ _ _ _ (T1.setTop (mkF m 3 #[.val (.long q), .second, .unset, .unset, .unset, .unset, .unset, .unset, .unset, .unset, .unset, .unset] [(.ref b1)]))
  refine OwnGo.fwd (fun tq' kq' => XS.dup X1.here hx rfl (hb hby at_3) rfl rfl kq') ?_
  show OwnGo _ _ _ _ (T1.setTop (mkF m 4 #[.val (.long q), .second, .unset, .unset, .unset, .unset, .unset, .unset, .unset, .unset, .unset, .unset] [(.ref b1), (.ref b1)]))
  refine OwnGo.fwd (fun tq' kq' => XS.lloadN X1.here hx rfl (hb hby at_4) rfl kq') ?_
  show OwnGo _ _ _ _ (T1.setTop (mkF m 5 #[.val (.long q), .second, .unset, .unset, .unset, .unset, .unset, .unset, .unset, .unset, .unset, .unset] [(.long q), (.ref b1), (.ref b1)]))
  obtain ⟨_, _, ⟨T2, L2, k2, n2⟩, -, X2, ⟨Lc2, hQ2, l2, y2, z2⟩, st2⟩ := X1.specialBack hx (y := (⟨"com/example/blindfold/blindfold/core/SeededRandom", "<init>", "(J)V"⟩ : MethodName)) rfl hown (mvT hZ (hw _ (List.mem_of_getElem? (i := 3) rfl))) (mvT hZ (hw _ (List.mem_of_getElem? (i := 4) rfl))) (mvT hZ (hw _ (List.mem_of_getElem? (i := 5) rfl))) (by decide) (backOf (W := 1) (rm1 l Z a0 hw [] b1 q h1 n0 Zs E_b1 F_state_b1 g_b1) hZ (hw _ (List.mem_of_getElem? (i := 5) rfl)) (hw _ (List.mem_of_getElem? (i := 2) rfl)) (by decide) (by decide)) (g := (mkF m 5 #[.val (.long q), .second, .unset, .unset, .unset, .unset, .unset, .unset, .unset, .unset, .unset, .unset] [(.long q), (.ref b1), (.ref b1)])) rfl (by rw [hml]; rfl) (Steps.refl _) (a := b1) (argsL := [(.long q)]) (rest := [(.ref b1)]) (lenOf pd_0 rfl) rfl (by show 2 * 0 + _ ≤ _; exact Nat.le_of_eq rfl) (hb hby at_5) (fun _ _ => ⟨rfl, e1, (by decide : 1 + 0 ≤ _), (by decide : 1 + 0 ≤ _)⟩)
  dsimp only [Pt.U, Pt.locs, Pt.cells, Pt.slots] at X2 l2 y2 z2 st2 hQ2
  subst l2 y2 z2
  obtain ⟨h2, eh2⟩ : ∃ z, z = T2.heap := ⟨_, rfl⟩
  rw [← eh2] at hQ2
  obtain ⟨rfl, N2q, K2, E_b1, F_state_b1⟩ := hQ2
  have N := Fr.app N N2q
  have Zs := Nat.le_trans Zs K2.1
  refine OwnGo.thru st2 ?_
  show OwnGo _ _ _ _ (T2.setTop (mkF m 8 #[.val (.long q), .second, .unset, .unset, .unset, .unset, .unset, .unset, .unset, .unset, .unset, .unset] [(.ref b1)]))
  refine OwnGo.fwd (fun tq' kq' => XS.astoreN X2.here hx rfl (hb hby at_8) rfl rfl (l' := #[.val (.long q), .second, .val (.ref b1), .unset, .unset, .unset, .unset, .unset, .unset, .unset, .unset, .unset]) rfl kq') ?_
  show OwnGo _ _ _ _ (T2.setTop (mkF m 9 #[.val (.long q), .second, .val (.ref b1), .unset, .unset, .unset, .unset, .unset, .unset, .unset, .unset, .unset] []))
  obtain ⟨T3, h3, X3, e3, E3, A3, D3, -, st3⟩ := newO X2 hx hZ hown (hw _ (List.mem_of_getElem? (i := 0) rfl)) (hw _ (List.mem_of_getElem? (i := 1) rfl)) (hw _ (List.mem_of_getElem? (i := 2) rfl)) eh2.symm (g := (mkF m 9 #[.val (.long q), .second, .val (.ref b1), .unset, .unset, .unset, .unset, .unset, .unset, .unset, .unset, .unset] [])) rfl (hb hby at_9) (by decide) (by decide)
  obtain ⟨b3, g3⟩ : ∃ z, z = h2.size := ⟨_, rfl⟩
  rw [← g3] at A3 D3 st3
  have ne_b1_b3 : b1 ≠ b3 := Nat.ne_of_lt (Nat.lt_of_lt_of_le E_b1.lt (Nat.le_of_eq g3.symm))
  have g_b3 : n0 ≤ b3 := Nat.le_trans Zs (Nat.le_of_eq g3.symm)
  have Zs := Nat.le_trans Zs E3.1
  have E_b1 := E_b1.ext E3
  have F_state_b1 := F_state_b1.ext E3
  have E_b3 := A3
  have F_state_b3 : Fld Z h3 b3 "com/example/blindfold/blindfold/core/SeededRandom" "state" "J" (.long (0 : Int64)) := D3 (Or.inl (hw _ (List.mem_of_getElem? (i := 10) rfl))) (ty := .long) (by decide)
  refine OwnGo.fwd st3 ?_
  show OwnGo _ _ _ _ (T3.setTop (mkF m 12 #[.val (.long q), .second, .val (.ref b1), .unset, .unset, .unset, .unset, .unset, .unset, .unset, .unset, .unset] [(.ref b3)]))
  refine OwnGo.fwd (fun tq' kq' => XS.dup X3.here hx rfl (hb hby at_12) rfl rfl kq') ?_
  show OwnGo _ _ _ _ (T3.setTop (mkF m 13 #[.val (.long q), .second, .val (.ref b1), .unset, .unset, .unset, .unset, .unset, .unset, .unset, .unset, .unset] [(.ref b3), (.ref b3)]))
  refine OwnGo.fwd (fun tq' kq' => XS.lloadN X3.here hx rfl (hb hby at_13) rfl kq') ?_
  show OwnGo _ _ _ _ (T3.setTop (mkF m 14 #[.val (.long q), .second, .val (.ref b1), .unset, .unset, .unset, .unset, .unset, .unset, .unset, .unset, .unset] [(.long q), (.ref b3), (.ref b3)]))
  obtain ⟨_, _, ⟨T4, L4, k4, n4⟩, -, X4, ⟨Lc4, hQ4, l4, y4, z4⟩, st4⟩ := X3.specialBack hx (y := (⟨"com/example/blindfold/blindfold/core/SeededRandom", "<init>", "(J)V"⟩ : MethodName)) rfl hown (mvT hZ (hw _ (List.mem_of_getElem? (i := 3) rfl))) (mvT hZ (hw _ (List.mem_of_getElem? (i := 4) rfl))) (mvT hZ (hw _ (List.mem_of_getElem? (i := 5) rfl))) (by decide) (backOf (W := 1) (rm1 l Z a0 hw [] b3 q h3 n0 Zs E_b3 F_state_b3 g_b3) hZ (hw _ (List.mem_of_getElem? (i := 5) rfl)) (hw _ (List.mem_of_getElem? (i := 2) rfl)) (by decide) (by decide)) (g := (mkF m 14 #[.val (.long q), .second, .val (.ref b1), .unset, .unset, .unset, .unset, .unset, .unset, .unset, .unset, .unset] [(.long q), (.ref b3), (.ref b3)])) rfl (by rw [hml]; rfl) (Steps.refl _) (a := b3) (argsL := [(.long q)]) (rest := [(.ref b3)]) (lenOf pd_0 rfl) rfl (by show 2 * 0 + _ ≤ _; exact Nat.le_of_eq rfl) (hb hby at_14) (fun _ _ => ⟨rfl, e3, (by decide : 2 + 0 ≤ _), (by decide : 2 + 0 ≤ _)⟩)
  dsimp only [Pt.U, Pt.locs, Pt.cells, Pt.slots] at X4 l4 y4 z4 st4 hQ4
  subst l4 y4 z4
  obtain ⟨h4, eh4⟩ : ∃ z, z = T4.heap := ⟨_, rfl⟩
  rw [← eh4] at hQ4
  obtain ⟨rfl, N4q, K4, E_b3, F_state_b3⟩ := hQ4
  have N := Fr.app N N4q
  have Zs := Nat.le_trans Zs K4.1
  have E_b1 := E_b1.keep K4
  have F_state_b1 := F_state_b1.keep K4 (ninS ne_b1_b3 nin0)
  refine OwnGo.thru st4 ?_
  show OwnGo _ _ _ _ (T4.setTop (mkF m 17 #[.val (.long q), .second, .val (.ref b1), .unset, .unset, .unset, .unset, .unset, .unset, .unset, .unset, .unset] [(.ref b3)]))
  refine OwnGo.fwd (fun tq' kq' => XS.astoreN X4.here hx rfl (hb hby at_17) rfl rfl (l' := #[.val (.long q), .second, .val (.ref b1), .val (.ref b3), .unset, .unset, .unset, .unset, .unset, .unset, .unset, .unset]) rfl kq') ?_
  show OwnGo _ _ _ _ (T4.setTop (mkF m 18 #[.val (.long q), .second, .val (.ref b1), .val (.ref b3), .unset, .unset, .unset, .unset, .unset, .unset, .unset, .unset] []))
  refine OwnGo.fwd (fun tq' kq' => XS.aloadN X4.here hx rfl (hb hby at_18) rfl rfl kq') ?_
  show OwnGo _ _ _ _ (T4.setTop (mkF m 19 #[.val (.long q), .second, .val (.ref b1), .val (.ref b3), .unset, .unset, .unset, .unset, .unset, .unset, .unset, .unset] [(.ref b1)]))
  obtain ⟨cq5, kq5, q5a, q5b, q5c⟩ := isOf hZ eh4.symm E_b1
  obtain ⟨_, _, ⟨T5, L5, k5, n5⟩, -, X5, ⟨Lc5, hQ5, l5, y5, z5⟩, st5⟩ := X4.virtualBack hx (y := (⟨"com/example/blindfold/blindfold/core/SeededRandom", "nextDouble", "()D"⟩ : MethodName)) (z := (⟨"com/example/blindfold/blindfold/core/SeededRandom", "nextDouble", "()D"⟩ : MethodName)) hown (mvT hZ (hw _ (List.mem_of_getElem? (i := 11) rfl))) (mvT hZ (hw _ (List.mem_of_getElem? (i := 12) rfl))) (notFace_of_selects (args := #[]) (mvT hZ (hw _ (List.mem_of_getElem? (i := 14) rfl)))) (mvT hZ (hw _ (List.mem_of_getElem? (i := 14) rfl))) (mvT hZ (hw _ (List.mem_of_getElem? (i := 13) rfl))) (by decide) (backOf (W := 0) (rm3 l Z a0 hw [] b1 q h4 n0 Zs E_b1 F_state_b1 g_b1) hZ (hw _ (List.mem_of_getElem? (i := 15) rfl)) (hw _ (List.mem_of_getElem? (i := 2) rfl)) (by decide) (by decide)) q5a q5c (g := (mkF m 19 #[.val (.long q), .second, .val (.ref b1), .val (.ref b3), .unset, .unset, .unset, .unset, .unset, .unset, .unset, .unset] [(.ref b1)])) rfl (by rw [hml]; rfl) (Steps.refl _) (argsL := []) (rest := []) (lenOf pd_2 rfl) rfl (by show 2 * 0 + _ ≤ _; exact Nat.le_of_eq rfl) (hb hby at_19) (fun _ _ => ⟨rfl, eh4.symm, (by decide : 2 + 0 ≤ _), (by decide : 2 + 0 ≤ _)⟩)
  dsimp only [Pt.U, Pt.locs, Pt.cells, Pt.slots] at X5 l5 y5 z5 st5 hQ5
  subst l5 y5 z5
  obtain ⟨h5, eh5⟩ : ∃ z, z = T5.heap := ⟨_, rfl⟩
  rw [← eh5] at hQ5
  obtain ⟨rfl, N5q, K5, E_b1, F_state_b1⟩ := hQ5
  have N := Fr.app N N5q
  have Zs := Nat.le_trans Zs K5.1
  have E_b3 := E_b3.keep K5
  have F_state_b3 := F_state_b3.keep K5 (ninS (Ne.symm ne_b1_b3) nin0)
  refine OwnGo.thru st5 ?_
  show OwnGo _ _ _ _ (T5.setTop (mkF m 22 #[.val (.long q), .second, .val (.ref b1), .val (.ref b3), .unset, .unset, .unset, .unset, .unset, .unset, .unset, .unset] [(.double (own_dd (own_sh (own_mix (q + (-7046029254386353131 : Int64))) 11)))]))
  refine OwnGo.fwd (fun tq' kq' => XS.dstore X5.here hx rfl (hb hby at_22) rfl (l' := #[.val (.long q), .second, .val (.ref b1), .val (.ref b3), .val (.double (own_dd (own_sh (own_mix (q + (-7046029254386353131 : Int64))) 11))), .second, .unset, .unset, .unset, .unset, .unset, .unset]) rfl kq') ?_
  show OwnGo _ _ _ _ (T5.setTop (mkF m 24 #[.val (.long q), .second, .val (.ref b1), .val (.ref b3), .val (.double (own_dd (own_sh (own_mix (q + (-7046029254386353131 : Int64))) 11))), .second, .unset, .unset, .unset, .unset, .unset, .unset] []))
  refine OwnGo.fwd (fun tq' kq' => XS.aloadN X5.here hx rfl (hb hby at_24) rfl rfl kq') ?_
  show OwnGo _ _ _ _ (T5.setTop (mkF m 25 #[.val (.long q), .second, .val (.ref b1), .val (.ref b3), .val (.double (own_dd (own_sh (own_mix (q + (-7046029254386353131 : Int64))) 11))), .second, .unset, .unset, .unset, .unset, .unset, .unset] [(.ref b3)]))
  obtain ⟨cq6, kq6, q6a, q6b, q6c⟩ := isOf hZ eh5.symm E_b3
  obtain ⟨_, _, ⟨T6, L6, k6, n6⟩, -, X6, ⟨Lc6, hQ6, l6, y6, z6⟩, st6⟩ := X5.virtualBack hx (y := (⟨"com/example/blindfold/blindfold/core/SeededRandom", "nextLong", "()J"⟩ : MethodName)) (z := (⟨"com/example/blindfold/blindfold/core/SeededRandom", "nextLong", "()J"⟩ : MethodName)) hown (mvT hZ (hw _ (List.mem_of_getElem? (i := 25) rfl))) (mvT hZ (hw _ (List.mem_of_getElem? (i := 17) rfl))) (notFace_of_selects (args := #[]) (mvT hZ (hw _ (List.mem_of_getElem? (i := 19) rfl)))) (mvT hZ (hw _ (List.mem_of_getElem? (i := 19) rfl))) (mvT hZ (hw _ (List.mem_of_getElem? (i := 18) rfl))) (by decide) (backOf (W := 0) (rm4 l Z a0 hw [] b3 q h5 n0 Zs E_b3 F_state_b3 g_b3) hZ (hw _ (List.mem_of_getElem? (i := 20) rfl)) (hw _ (List.mem_of_getElem? (i := 2) rfl)) (by decide) (by decide)) q6a q6c (g := (mkF m 25 #[.val (.long q), .second, .val (.ref b1), .val (.ref b3), .val (.double (own_dd (own_sh (own_mix (q + (-7046029254386353131 : Int64))) 11))), .second, .unset, .unset, .unset, .unset, .unset, .unset] [(.ref b3)])) rfl (by rw [hml]; rfl) (Steps.refl _) (argsL := []) (rest := []) (lenOf pd_3 rfl) rfl (by show 2 * 0 + _ ≤ _; exact Nat.le_of_eq rfl) (hb hby at_25) (fun _ _ => ⟨rfl, eh5.symm, (by decide : 2 + 0 ≤ _), (by decide : 2 + 0 ≤ _)⟩)
  dsimp only [Pt.U, Pt.locs, Pt.cells, Pt.slots] at X6 l6 y6 z6 st6 hQ6
  subst l6 y6 z6
  obtain ⟨h6, eh6⟩ : ∃ z, z = T6.heap := ⟨_, rfl⟩
  rw [← eh6] at hQ6
  obtain ⟨rfl, N6q, K6, E_b3, F_state_b3⟩ := hQ6
  have N := Fr.app N N6q
  have Zs := Nat.le_trans Zs K6.1
  have E_b1 := E_b1.keep K6
  have F_state_b1 := F_state_b1.keep K6 (ninS ne_b1_b3 nin0)
  refine OwnGo.thru st6 ?_
  show OwnGo _ _ _ _ (T6.setTop (mkF m 28 #[.val (.long q), .second, .val (.ref b1), .val (.ref b3), .val (.double (own_dd (own_sh (own_mix (q + (-7046029254386353131 : Int64))) 11))), .second, .unset, .unset, .unset, .unset, .unset, .unset] [(.long (own_mix (q + (-7046029254386353131 : Int64))))]))
  refine OwnGo.fwd (fun tq' kq' => XS.bipush X6.here hx rfl (hb hby at_28) kq') ?_
  show OwnGo _ _ _ _ (T6.setTop (mkF m 30 #[.val (.long q), .second, .val (.ref b1), .val (.ref b3), .val (.double (own_dd (own_sh (own_mix (q + (-7046029254386353131 : Int64))) 11))), .second, .unset, .unset, .unset, .unset, .unset, .unset] [(.int (11 : Int32)), (.long (own_mix (q + (-7046029254386353131 : Int64))))]))
  refine OwnGo.fwd (fun tq' kq' => XS.lushr X6.here hx rfl (hb hby at_30) rfl kq') ?_
  show OwnGo _ _ _ _ (T6.setTop (mkF m 31 #[.val (.long q), .second, .val (.ref b1), .val (.ref b3), .val (.double (own_dd (own_sh (own_mix (q + (-7046029254386353131 : Int64))) 11))), .second, .unset, .unset, .unset, .unset, .unset, .unset] [(.long (((own_mix (q + (-7046029254386353131 : Int64))).toUInt64 >>> ((11 : Int32) &&& 0x3f).toInt64.toUInt64).toInt64))]))
  show OwnGo _ _ _ _ (T6.setTop (mkF m 31 #[.val (.long q), .second, .val (.ref b1), .val (.ref b3), .val (.double (own_dd (own_sh (own_mix (q + (-7046029254386353131 : Int64))) 11))), .second, .unset, .unset, .unset, .unset, .unset, .unset] [(.long (own_sh (own_mix (q + (-7046029254386353131 : Int64))) 11))]))
  refine OwnGo.fwd (fun tq' kq' => XS.lstore X6.here hx rfl (hb hby at_31) rfl (l' := #[.val (.long q), .second, .val (.ref b1), .val (.ref b3), .val (.double (own_dd (own_sh (own_mix (q + (-7046029254386353131 : Int64))) 11))), .second, .val (.long (own_sh (own_mix (q + (-7046029254386353131 : Int64))) 11)), .second, .unset, .unset, .unset, .unset]) rfl kq') ?_
  show OwnGo _ _ _ _ (T6.setTop (mkF m 33 #[.val (.long q), .second, .val (.ref b1), .val (.ref b3), .val (.double (own_dd (own_sh (own_mix (q + (-7046029254386353131 : Int64))) 11))), .second, .val (.long (own_sh (own_mix (q + (-7046029254386353131 : Int64))) 11)), .second, .unset, .unset, .unset, .unset] []))
  refine OwnGo.fwd (fun tq' kq' => XS.aloadN X6.here hx rfl (hb hby at_33) rfl rfl kq') ?_
  show OwnGo _ _ _ _ (T6.setTop (mkF m 34 #[.val (.long q), .second, .val (.ref b1), .val (.ref b3), .val (.double (own_dd (own_sh (own_mix (q + (-7046029254386353131 : Int64))) 11))), .second, .val (.long (own_sh (own_mix (q + (-7046029254386353131 : Int64))) 11)), .second, .unset, .unset, .unset, .unset] [(.ref b1)]))
  obtain ⟨cq7, kq7, q7a, q7b, q7c⟩ := isOf hZ eh6.symm E_b1
  obtain ⟨_, _, ⟨T7, L7, k7, n7⟩, -, X7, ⟨Lc7, hQ7, l7, y7, z7⟩, st7⟩ := X6.virtualBack hx (y := (⟨"com/example/blindfold/blindfold/core/SeededRandom", "nextDouble", "()D"⟩ : MethodName)) (z := (⟨"com/example/blindfold/blindfold/core/SeededRandom", "nextDouble", "()D"⟩ : MethodName)) hown (mvT hZ (hw _ (List.mem_of_getElem? (i := 11) rfl))) (mvT hZ (hw _ (List.mem_of_getElem? (i := 12) rfl))) (notFace_of_selects (args := #[]) (mvT hZ (hw _ (List.mem_of_getElem? (i := 14) rfl)))) (mvT hZ (hw _ (List.mem_of_getElem? (i := 14) rfl))) (mvT hZ (hw _ (List.mem_of_getElem? (i := 13) rfl))) (by decide) (backOf (W := 0) (rm3 l Z a0 hw [] b1 (q + (-7046029254386353131 : Int64)) h6 n0 Zs E_b1 F_state_b1 g_b1) hZ (hw _ (List.mem_of_getElem? (i := 15) rfl)) (hw _ (List.mem_of_getElem? (i := 2) rfl)) (by decide) (by decide)) q7a q7c (g := (mkF m 34 #[.val (.long q), .second, .val (.ref b1), .val (.ref b3), .val (.double (own_dd (own_sh (own_mix (q + (-7046029254386353131 : Int64))) 11))), .second, .val (.long (own_sh (own_mix (q + (-7046029254386353131 : Int64))) 11)), .second, .unset, .unset, .unset, .unset] [(.ref b1)])) rfl (by rw [hml]; rfl) (Steps.refl _) (argsL := []) (rest := []) (lenOf pd_2 rfl) rfl (by show 2 * 0 + _ ≤ _; exact Nat.le_of_eq rfl) (hb hby at_34) (fun _ _ => ⟨rfl, eh6.symm, (by decide : 2 + 0 ≤ _), (by decide : 2 + 0 ≤ _)⟩)
  dsimp only [Pt.U, Pt.locs, Pt.cells, Pt.slots] at X7 l7 y7 z7 st7 hQ7
  subst l7 y7 z7
  obtain ⟨h7, eh7⟩ : ∃ z, z = T7.heap := ⟨_, rfl⟩
  rw [← eh7] at hQ7
  obtain ⟨rfl, N7q, K7, E_b1, F_state_b1⟩ := hQ7
  have N := Fr.app N N7q
  have Zs := Nat.le_trans Zs K7.1
  have E_b3 := E_b3.keep K7
  have F_state_b3 := F_state_b3.keep K7 (ninS (Ne.symm ne_b1_b3) nin0)
  refine OwnGo.thru st7 ?_
  show OwnGo _ _ _ _ (T7.setTop (mkF m 37 #[.val (.long q), .second, .val (.ref b1), .val (.ref b3), .val (.double (own_dd (own_sh (own_mix (q + (-7046029254386353131 : Int64))) 11))), .second, .val (.long (own_sh (own_mix (q + (-7046029254386353131 : Int64))) 11)), .second, .unset, .unset, .unset, .unset] [(.double (own_dd (own_sh (own_mix ((q + (-7046029254386353131 : Int64)) + (-7046029254386353131 : Int64))) 11)))]))
  refine OwnGo.fwd (fun tq' kq' => XS.dstore X7.here hx rfl (hb hby at_37) rfl (l' := #[.val (.long q), .second, .val (.ref b1), .val (.ref b3), .val (.double (own_dd (own_sh (own_mix (q + (-7046029254386353131 : Int64))) 11))), .second, .val (.long (own_sh (own_mix (q + (-7046029254386353131 : Int64))) 11)), .second, .val (.double (own_dd (own_sh (own_mix ((q + (-7046029254386353131 : Int64)) + (-7046029254386353131 : Int64))) 11))), .second, .unset, .unset]) rfl kq') ?_
  show OwnGo _ _ _ _ (T7.setTop (mkF m 39 #[.val (.long q), .second, .val (.ref b1), .val (.ref b3), .val (.double (own_dd (own_sh (own_mix (q + (-7046029254386353131 : Int64))) 11))), .second, .val (.long (own_sh (own_mix (q + (-7046029254386353131 : Int64))) 11)), .second, .val (.double (own_dd (own_sh (own_mix ((q + (-7046029254386353131 : Int64)) + (-7046029254386353131 : Int64))) 11))), .second, .unset, .unset] []))
  refine OwnGo.fwd (fun tq' kq' => XS.aloadN X7.here hx rfl (hb hby at_39) rfl rfl kq') ?_
  show OwnGo _ _ _ _ (T7.setTop (mkF m 40 #[.val (.long q), .second, .val (.ref b1), .val (.ref b3), .val (.double (own_dd (own_sh (own_mix (q + (-7046029254386353131 : Int64))) 11))), .second, .val (.long (own_sh (own_mix (q + (-7046029254386353131 : Int64))) 11)), .second, .val (.double (own_dd (own_sh (own_mix ((q + (-7046029254386353131 : Int64)) + (-7046029254386353131 : Int64))) 11))), .second, .unset, .unset] [(.ref b3)]))
  obtain ⟨cq8, kq8, q8a, q8b, q8c⟩ := isOf hZ eh7.symm E_b3
  obtain ⟨_, _, ⟨T8, L8, k8, n8⟩, -, X8, ⟨Lc8, hQ8, l8, y8, z8⟩, st8⟩ := X7.virtualBack hx (y := (⟨"com/example/blindfold/blindfold/core/SeededRandom", "nextLong", "()J"⟩ : MethodName)) (z := (⟨"com/example/blindfold/blindfold/core/SeededRandom", "nextLong", "()J"⟩ : MethodName)) hown (mvT hZ (hw _ (List.mem_of_getElem? (i := 25) rfl))) (mvT hZ (hw _ (List.mem_of_getElem? (i := 17) rfl))) (notFace_of_selects (args := #[]) (mvT hZ (hw _ (List.mem_of_getElem? (i := 19) rfl)))) (mvT hZ (hw _ (List.mem_of_getElem? (i := 19) rfl))) (mvT hZ (hw _ (List.mem_of_getElem? (i := 18) rfl))) (by decide) (backOf (W := 0) (rm4 l Z a0 hw [] b3 (q + (-7046029254386353131 : Int64)) h7 n0 Zs E_b3 F_state_b3 g_b3) hZ (hw _ (List.mem_of_getElem? (i := 20) rfl)) (hw _ (List.mem_of_getElem? (i := 2) rfl)) (by decide) (by decide)) q8a q8c (g := (mkF m 40 #[.val (.long q), .second, .val (.ref b1), .val (.ref b3), .val (.double (own_dd (own_sh (own_mix (q + (-7046029254386353131 : Int64))) 11))), .second, .val (.long (own_sh (own_mix (q + (-7046029254386353131 : Int64))) 11)), .second, .val (.double (own_dd (own_sh (own_mix ((q + (-7046029254386353131 : Int64)) + (-7046029254386353131 : Int64))) 11))), .second, .unset, .unset] [(.ref b3)])) rfl (by rw [hml]; rfl) (Steps.refl _) (argsL := []) (rest := []) (lenOf pd_3 rfl) rfl (by show 2 * 0 + _ ≤ _; exact Nat.le_of_eq rfl) (hb hby at_40) (fun _ _ => ⟨rfl, eh7.symm, (by decide : 2 + 0 ≤ _), (by decide : 2 + 0 ≤ _)⟩)
  dsimp only [Pt.U, Pt.locs, Pt.cells, Pt.slots] at X8 l8 y8 z8 st8 hQ8
  subst l8 y8 z8
  obtain ⟨h8, eh8⟩ : ∃ z, z = T8.heap := ⟨_, rfl⟩
  rw [← eh8] at hQ8
  obtain ⟨rfl, N8q, K8, E_b3, F_state_b3⟩ := hQ8
  have N := Fr.app N N8q
  have Zs := Nat.le_trans Zs K8.1
  have E_b1 := E_b1.keep K8
  have F_state_b1 := F_state_b1.keep K8 (ninS ne_b1_b3 nin0)
  refine OwnGo.thru st8 ?_
  show OwnGo _ _ _ _ (T8.setTop (mkF m 43 #[.val (.long q), .second, .val (.ref b1), .val (.ref b3), .val (.double (own_dd (own_sh (own_mix (q + (-7046029254386353131 : Int64))) 11))), .second, .val (.long (own_sh (own_mix (q + (-7046029254386353131 : Int64))) 11)), .second, .val (.double (own_dd (own_sh (own_mix ((q + (-7046029254386353131 : Int64)) + (-7046029254386353131 : Int64))) 11))), .second, .unset, .unset] [(.long (own_mix ((q + (-7046029254386353131 : Int64)) + (-7046029254386353131 : Int64))))]))
  refine OwnGo.fwd (fun tq' kq' => XS.bipush X8.here hx rfl (hb hby at_43) kq') ?_
  show OwnGo _ _ _ _ (T8.setTop (mkF m 45 #[.val (.long q), .second, .val (.ref b1), .val (.ref b3), .val (.double (own_dd (own_sh (own_mix (q + (-7046029254386353131 : Int64))) 11))), .second, .val (.long (own_sh (own_mix (q + (-7046029254386353131 : Int64))) 11)), .second, .val (.double (own_dd (own_sh (own_mix ((q + (-7046029254386353131 : Int64)) + (-7046029254386353131 : Int64))) 11))), .second, .unset, .unset] [(.int (11 : Int32)), (.long (own_mix ((q + (-7046029254386353131 : Int64)) + (-7046029254386353131 : Int64))))]))
  refine OwnGo.fwd (fun tq' kq' => XS.lushr X8.here hx rfl (hb hby at_45) rfl kq') ?_
  show OwnGo _ _ _ _ (T8.setTop (mkF m 46 #[.val (.long q), .second, .val (.ref b1), .val (.ref b3), .val (.double (own_dd (own_sh (own_mix (q + (-7046029254386353131 : Int64))) 11))), .second, .val (.long (own_sh (own_mix (q + (-7046029254386353131 : Int64))) 11)), .second, .val (.double (own_dd (own_sh (own_mix ((q + (-7046029254386353131 : Int64)) + (-7046029254386353131 : Int64))) 11))), .second, .unset, .unset] [(.long (((own_mix ((q + (-7046029254386353131 : Int64)) + (-7046029254386353131 : Int64))).toUInt64 >>> ((11 : Int32) &&& 0x3f).toInt64.toUInt64).toInt64))]))
  show OwnGo _ _ _ _ (T8.setTop (mkF m 46 #[.val (.long q), .second, .val (.ref b1), .val (.ref b3), .val (.double (own_dd (own_sh (own_mix (q + (-7046029254386353131 : Int64))) 11))), .second, .val (.long (own_sh (own_mix (q + (-7046029254386353131 : Int64))) 11)), .second, .val (.double (own_dd (own_sh (own_mix ((q + (-7046029254386353131 : Int64)) + (-7046029254386353131 : Int64))) 11))), .second, .unset, .unset] [(.long (own_sh (own_mix ((q + (-7046029254386353131 : Int64)) + (-7046029254386353131 : Int64))) 11))]))
  refine OwnGo.fwd (fun tq' kq' => XS.lstore X8.here hx rfl (hb hby at_46) rfl (l' := #[.val (.long q), .second, .val (.ref b1), .val (.ref b3), .val (.double (own_dd (own_sh (own_mix (q + (-7046029254386353131 : Int64))) 11))), .second, .val (.long (own_sh (own_mix (q + (-7046029254386353131 : Int64))) 11)), .second, .val (.double (own_dd (own_sh (own_mix ((q + (-7046029254386353131 : Int64)) + (-7046029254386353131 : Int64))) 11))), .second, .val (.long (own_sh (own_mix ((q + (-7046029254386353131 : Int64)) + (-7046029254386353131 : Int64))) 11)), .second]) rfl kq') ?_
  show OwnGo _ _ _ _ (T8.setTop (mkF m 48 #[.val (.long q), .second, .val (.ref b1), .val (.ref b3), .val (.double (own_dd (own_sh (own_mix (q + (-7046029254386353131 : Int64))) 11))), .second, .val (.long (own_sh (own_mix (q + (-7046029254386353131 : Int64))) 11)), .second, .val (.double (own_dd (own_sh (own_mix ((q + (-7046029254386353131 : Int64)) + (-7046029254386353131 : Int64))) 11))), .second, .val (.long (own_sh (own_mix ((q + (-7046029254386353131 : Int64)) + (-7046029254386353131 : Int64))) 11)), .second] []))
  refine OwnGo.fwd (fun tq' kq' => XS.dload X8.here hx rfl (hb hby at_48) rfl kq') ?_
  show OwnGo _ _ _ _ (T8.setTop (mkF m 50 #[.val (.long q), .second, .val (.ref b1), .val (.ref b3), .val (.double (own_dd (own_sh (own_mix (q + (-7046029254386353131 : Int64))) 11))), .second, .val (.long (own_sh (own_mix (q + (-7046029254386353131 : Int64))) 11)), .second, .val (.double (own_dd (own_sh (own_mix ((q + (-7046029254386353131 : Int64)) + (-7046029254386353131 : Int64))) 11))), .second, .val (.long (own_sh (own_mix ((q + (-7046029254386353131 : Int64)) + (-7046029254386353131 : Int64))) 11)), .second] [(.double (own_dd (own_sh (own_mix (q + (-7046029254386353131 : Int64))) 11)))]))
  refine OwnGo.fwd (fun tq' kq' => XS.lload X8.here hx rfl (hb hby at_50) rfl kq') ?_
  show OwnGo _ _ _ _ (T8.setTop (mkF m 52 #[.val (.long q), .second, .val (.ref b1), .val (.ref b3), .val (.double (own_dd (own_sh (own_mix (q + (-7046029254386353131 : Int64))) 11))), .second, .val (.long (own_sh (own_mix (q + (-7046029254386353131 : Int64))) 11)), .second, .val (.double (own_dd (own_sh (own_mix ((q + (-7046029254386353131 : Int64)) + (-7046029254386353131 : Int64))) 11))), .second, .val (.long (own_sh (own_mix ((q + (-7046029254386353131 : Int64)) + (-7046029254386353131 : Int64))) 11)), .second] [(.long (own_sh (own_mix (q + (-7046029254386353131 : Int64))) 11)), (.double (own_dd (own_sh (own_mix (q + (-7046029254386353131 : Int64))) 11)))]))
  obtain ⟨_, _, ⟨T9, L9, k9, n9⟩, -, X9, ⟨Lc9, hQ9, l9, y9, z9⟩, st9⟩ := Jvm.LawKit.callS X8 hx (y := (⟨"com/example/blindfold/blindfold/core/SeededRandomNextDoublePinLaw", "ok", "(DJ)Z"⟩ : MethodName)) hown (mvT hZ (hw _ (List.mem_of_getElem? (i := 26) rfl))) (mvT hZ (hw _ (List.mem_of_getElem? (i := 27) rfl))) (mvT hZ (hw _ (List.mem_of_getElem? (i := 28) rfl))) (mvT hZ (hw _ (List.mem_of_getElem? (i := 29) rfl))) (by decide) (backOf (W := 0) (rm5 l Z a0 hw [] (own_sh (own_mix (q + (-7046029254386353131 : Int64))) 11) h8 n0 Zs (own_top _).1 (own_top _).2) hZ (hw _ (List.mem_of_getElem? (i := 29) rfl)) (hw _ (List.mem_of_getElem? (i := 28) rfl)) (by decide) (by decide)) (g := (mkF m 52 #[.val (.long q), .second, .val (.ref b1), .val (.ref b3), .val (.double (own_dd (own_sh (own_mix (q + (-7046029254386353131 : Int64))) 11))), .second, .val (.long (own_sh (own_mix (q + (-7046029254386353131 : Int64))) 11)), .second, .val (.double (own_dd (own_sh (own_mix ((q + (-7046029254386353131 : Int64)) + (-7046029254386353131 : Int64))) 11))), .second, .val (.long (own_sh (own_mix ((q + (-7046029254386353131 : Int64)) + (-7046029254386353131 : Int64))) 11)), .second] [(.long (own_sh (own_mix (q + (-7046029254386353131 : Int64))) 11)), (.double (own_dd (own_sh (own_mix (q + (-7046029254386353131 : Int64))) 11)))])) rfl (by rw [hml]; rfl) (argsL := [(.double (own_dd (own_sh (own_mix (q + (-7046029254386353131 : Int64))) 11))), (.long (own_sh (own_mix (q + (-7046029254386353131 : Int64))) 11))]) (rest := []) (lenOf pd_4 rfl) rfl (by show 2 * 0 + _ ≤ _; exact Nat.le_of_eq rfl) (hb hby at_52) (fun _ _ => ⟨rfl, eh8.symm, (by decide : 2 + 0 ≤ _), (by decide : 2 + 0 ≤ _)⟩)
  dsimp only [Pt.U, Pt.locs, Pt.cells, Pt.slots] at X9 l9 y9 z9 st9 hQ9
  subst l9 y9 z9
  obtain ⟨rfl, N9q, e9⟩ := hQ9
  have N := Fr.app N N9q
  refine OwnGo.fwd st9 ?_
  show OwnGo _ _ _ _ (T9.setTop (mkF m 55 #[.val (.long q), .second, .val (.ref b1), .val (.ref b3), .val (.double (own_dd (own_sh (own_mix (q + (-7046029254386353131 : Int64))) 11))), .second, .val (.long (own_sh (own_mix (q + (-7046029254386353131 : Int64))) 11)), .second, .val (.double (own_dd (own_sh (own_mix ((q + (-7046029254386353131 : Int64)) + (-7046029254386353131 : Int64))) 11))), .second, .val (.long (own_sh (own_mix ((q + (-7046029254386353131 : Int64)) + (-7046029254386353131 : Int64))) 11)), .second] [(.int (1 : Int32))]))
  have hc55_10 : ¬ ((1 : Int) = (0 : Int)) := by decide
  refine OwnGo.fwd (fun tq' kq' => XS.ifNo X9.here hx rfl (hb hby at_55) rfl ((if0 _ _).trans (own_bneq (by decide) (by decide) hc55_10).1) kq') ?_
  show OwnGo _ _ _ _ (T9.setTop (mkF m 58 #[.val (.long q), .second, .val (.ref b1), .val (.ref b3), .val (.double (own_dd (own_sh (own_mix (q + (-7046029254386353131 : Int64))) 11))), .second, .val (.long (own_sh (own_mix (q + (-7046029254386353131 : Int64))) 11)), .second, .val (.double (own_dd (own_sh (own_mix ((q + (-7046029254386353131 : Int64)) + (-7046029254386353131 : Int64))) 11))), .second, .val (.long (own_sh (own_mix ((q + (-7046029254386353131 : Int64)) + (-7046029254386353131 : Int64))) 11)), .second] []))
  refine OwnGo.fwd (fun tq' kq' => XS.dload X9.here hx rfl (hb hby at_58) rfl kq') ?_
  show OwnGo _ _ _ _ (T9.setTop (mkF m 60 #[.val (.long q), .second, .val (.ref b1), .val (.ref b3), .val (.double (own_dd (own_sh (own_mix (q + (-7046029254386353131 : Int64))) 11))), .second, .val (.long (own_sh (own_mix (q + (-7046029254386353131 : Int64))) 11)), .second, .val (.double (own_dd (own_sh (own_mix ((q + (-7046029254386353131 : Int64)) + (-7046029254386353131 : Int64))) 11))), .second, .val (.long (own_sh (own_mix ((q + (-7046029254386353131 : Int64)) + (-7046029254386353131 : Int64))) 11)), .second] [(.double (own_dd (own_sh (own_mix ((q + (-7046029254386353131 : Int64)) + (-7046029254386353131 : Int64))) 11)))]))
  refine OwnGo.fwd (fun tq' kq' => XS.lload X9.here hx rfl (hb hby at_60) rfl kq') ?_
  show OwnGo _ _ _ _ (T9.setTop (mkF m 62 #[.val (.long q), .second, .val (.ref b1), .val (.ref b3), .val (.double (own_dd (own_sh (own_mix (q + (-7046029254386353131 : Int64))) 11))), .second, .val (.long (own_sh (own_mix (q + (-7046029254386353131 : Int64))) 11)), .second, .val (.double (own_dd (own_sh (own_mix ((q + (-7046029254386353131 : Int64)) + (-7046029254386353131 : Int64))) 11))), .second, .val (.long (own_sh (own_mix ((q + (-7046029254386353131 : Int64)) + (-7046029254386353131 : Int64))) 11)), .second] [(.long (own_sh (own_mix ((q + (-7046029254386353131 : Int64)) + (-7046029254386353131 : Int64))) 11)), (.double (own_dd (own_sh (own_mix ((q + (-7046029254386353131 : Int64)) + (-7046029254386353131 : Int64))) 11)))]))
  obtain ⟨_, _, ⟨T11, L11, k11, n11⟩, -, X11, ⟨Lc11, hQ11, l11, y11, z11⟩, st11⟩ := Jvm.LawKit.callS X9 hx (y := (⟨"com/example/blindfold/blindfold/core/SeededRandomNextDoublePinLaw", "ok", "(DJ)Z"⟩ : MethodName)) hown (mvT hZ (hw _ (List.mem_of_getElem? (i := 26) rfl))) (mvT hZ (hw _ (List.mem_of_getElem? (i := 27) rfl))) (mvT hZ (hw _ (List.mem_of_getElem? (i := 28) rfl))) (mvT hZ (hw _ (List.mem_of_getElem? (i := 29) rfl))) (by decide) (backOf (W := 0) (rm5 l Z a0 hw [] (own_sh (own_mix ((q + (-7046029254386353131 : Int64)) + (-7046029254386353131 : Int64))) 11) h8 n0 Zs (own_top _).1 (own_top _).2) hZ (hw _ (List.mem_of_getElem? (i := 29) rfl)) (hw _ (List.mem_of_getElem? (i := 28) rfl)) (by decide) (by decide)) (g := (mkF m 62 #[.val (.long q), .second, .val (.ref b1), .val (.ref b3), .val (.double (own_dd (own_sh (own_mix (q + (-7046029254386353131 : Int64))) 11))), .second, .val (.long (own_sh (own_mix (q + (-7046029254386353131 : Int64))) 11)), .second, .val (.double (own_dd (own_sh (own_mix ((q + (-7046029254386353131 : Int64)) + (-7046029254386353131 : Int64))) 11))), .second, .val (.long (own_sh (own_mix ((q + (-7046029254386353131 : Int64)) + (-7046029254386353131 : Int64))) 11)), .second] [(.long (own_sh (own_mix ((q + (-7046029254386353131 : Int64)) + (-7046029254386353131 : Int64))) 11)), (.double (own_dd (own_sh (own_mix ((q + (-7046029254386353131 : Int64)) + (-7046029254386353131 : Int64))) 11)))])) rfl (by rw [hml]; rfl) (argsL := [(.double (own_dd (own_sh (own_mix ((q + (-7046029254386353131 : Int64)) + (-7046029254386353131 : Int64))) 11))), (.long (own_sh (own_mix ((q + (-7046029254386353131 : Int64)) + (-7046029254386353131 : Int64))) 11))]) (rest := []) (lenOf pd_4 rfl) rfl (by show 2 * 0 + _ ≤ _; exact Nat.le_of_eq rfl) (hb hby at_62) (fun _ _ => ⟨rfl, e9, (by decide : 2 + 0 ≤ _), (by decide : 2 + 0 ≤ _)⟩)
  dsimp only [Pt.U, Pt.locs, Pt.cells, Pt.slots] at X11 l11 y11 z11 st11 hQ11
  subst l11 y11 z11
  obtain ⟨rfl, N11q, e11⟩ := hQ11
  have N := Fr.app N N11q
  refine OwnGo.fwd st11 ?_
  show OwnGo _ _ _ _ (T11.setTop (mkF m 65 #[.val (.long q), .second, .val (.ref b1), .val (.ref b3), .val (.double (own_dd (own_sh (own_mix (q + (-7046029254386353131 : Int64))) 11))), .second, .val (.long (own_sh (own_mix (q + (-7046029254386353131 : Int64))) 11)), .second, .val (.double (own_dd (own_sh (own_mix ((q + (-7046029254386353131 : Int64)) + (-7046029254386353131 : Int64))) 11))), .second, .val (.long (own_sh (own_mix ((q + (-7046029254386353131 : Int64)) + (-7046029254386353131 : Int64))) 11)), .second] [(.int (1 : Int32))]))
  have hc65_12 : ¬ ((1 : Int) = (0 : Int)) := by decide
  refine OwnGo.fwd (fun tq' kq' => XS.ifNo X11.here hx rfl (hb hby at_65) rfl ((if0 _ _).trans (own_bneq (by decide) (by decide) hc65_12).1) kq') ?_
  show OwnGo _ _ _ _ (T11.setTop (mkF m 68 #[.val (.long q), .second, .val (.ref b1), .val (.ref b3), .val (.double (own_dd (own_sh (own_mix (q + (-7046029254386353131 : Int64))) 11))), .second, .val (.long (own_sh (own_mix (q + (-7046029254386353131 : Int64))) 11)), .second, .val (.double (own_dd (own_sh (own_mix ((q + (-7046029254386353131 : Int64)) + (-7046029254386353131 : Int64))) 11))), .second, .val (.long (own_sh (own_mix ((q + (-7046029254386353131 : Int64)) + (-7046029254386353131 : Int64))) 11)), .second] []))
  refine OwnGo.fwd (fun tq' kq' => XS.iconst X11.here hx rfl (hb hby at_68) kq') ?_
  show OwnGo _ _ _ _ (T11.setTop (mkF m 69 #[.val (.long q), .second, .val (.ref b1), .val (.ref b3), .val (.double (own_dd (own_sh (own_mix (q + (-7046029254386353131 : Int64))) 11))), .second, .val (.long (own_sh (own_mix (q + (-7046029254386353131 : Int64))) 11)), .second, .val (.double (own_dd (own_sh (own_mix ((q + (-7046029254386353131 : Int64)) + (-7046029254386353131 : Int64))) 11))), .second, .val (.long (own_sh (own_mix ((q + (-7046029254386353131 : Int64)) + (-7046029254386353131 : Int64))) 11)), .second] [(.int (1 : Int32))]))
  refine OwnGo.fwd (fun tq' kq' => XS.goto X11.here hx rfl (pc0 := 69) (pc' := 73) rfl (hb hby at_69) (by decide) (by decide) kq') ?_
  show OwnGo _ _ _ _ (T11.setTop (mkF m 73 #[.val (.long q), .second, .val (.ref b1), .val (.ref b3), .val (.double (own_dd (own_sh (own_mix (q + (-7046029254386353131 : Int64))) 11))), .second, .val (.long (own_sh (own_mix (q + (-7046029254386353131 : Int64))) 11)), .second, .val (.double (own_dd (own_sh (own_mix ((q + (-7046029254386353131 : Int64)) + (-7046029254386353131 : Int64))) 11))), .second, .val (.long (own_sh (own_mix ((q + (-7046029254386353131 : Int64)) + (-7046029254386353131 : Int64))) 11)), .second] [(.int (1 : Int32))]))
  exact own_retZ X11 hlk hx Bd.returns (hb hby at_73) (by decide) (by decide) e11 ⟨rfl, N⟩
set_option maxRecDepth 65536 in
set_option maxHeartbeats 40000000 in
theorem comes_1 {Post : Tables → Env → Array Value → State → Outcome → State → Prop} (hpost : ∀ tb e args s v u, (limb_1_1.after args s (.returned v) u = true ∧ limb_1_2.after args s (.returned v) u = true ∧ True) → FrameEnd s (.returned v) u (Jvm.fieldLocs frame_1_writes args s ++ Jvm.arrayLocs frame_1_arrays args s ++ Jvm.staticLocs frame_1_statics s) 16 128 → Post tb e args s (.returned v) u) :
    ArmFor flags0 classFile x code maxLocals ret World_1 tables_1 room_1 Calls_1 rest_1 Pre_1 Post := by
  intro l hfl _ _ p e ha hc hk s m args below hf hA hF happ hP
  obtain ⟨hcalls, hrest, hpre⟩ := hP
  obtain ⟨-, -, -, hnamed, -, -, -, hat⟩ := (Spec.applies_iff hf).mp happ
  obtain ⟨hg, hn⟩ := and_e (Cond.before_iff.mp (show (Jvm.Cond.and given_1 narrow_1).before args s = true from hpre))
  obtain ⟨gc, gr0⟩ := and_e hg
  obtain ⟨w0, rfl⟩ : ∃ w0 : Value, args = #[w0] := by
    have hs : args.size = 1 := by simpa [Cond.value, given_1] using gc
    obtain ⟨L⟩ := args
    match L, hs with
    | [w0], _ => exact ⟨w0, rfl⟩
  have hw := fun d (hd : d ∈ tables_1) => atoms_spec (ws := Jvm.Cond.code x code maxLocals ret :: tables_1) hat d (List.mem_cons_of_mem _ hd)
  have hfit : Fit s := fun {y c} hc i hi => by
    obtain ⟨ha, rfl⟩ := Array.getElem?_eq_some_iff.mp hc
    have q := List.all_eq_true.mp ((Array.all_eq_true_iff_forall_mem.mp hF) _ (Array.getElem_mem ha)) i (List.mem_range.mpr hi)
    simpa [Array.getElem?_eq_getElem hi] using q
  obtain ⟨i0, ei0⟩ := isL_v gr0
  obtain rfl : w0 = (.long i0) := Option.some.inj ei0
  obtain ⟨n, o, h1, h2, h3, _, L, rfl, ⟨rfl, N⟩, hq⟩ := rm0 l s _ hw tables_1 i0 s.heap s.heap.size (Nat.le_refl _) p e ha hc hk s m _ below hf ((Spec.applies_iff_loose hf).mp happ).1 ⟨rfl, State.Warmed39.refl s, rfl⟩ trivial
  refine ⟨n, _, h1, h2, h3, hpost _ _ _ _ _ _ ⟨Cond.after_iff.mpr rfl, Cond.after_iff.mpr (eq_i res_at (Term.int_eval (1)) rfl), trivial⟩ ⟨hq.1, hq.2.1, (hq.2.2.sift fun y hy => Or.inr (N y hy)).mono (by decide) (by decide)⟩⟩
theorem main_1_1 : Claimed_1_1 := comes_1 fun _ _ _ _ _ _ h hF => ⟨h.1, hF⟩
theorem main_1_2 : Claimed_1_2 := comes_1 fun _ _ _ _ _ _ h hF => ⟨h.2.1, hF⟩
end Jvm.Pilot.@@N@@
namespace Jvm.Pilot.@@N@@
open Jvm Jvm.ClassFile Sem Op Lib Jvm.Free Jvm.Stand Jvm.Pilot.@@N@@.Jvm.D
/-! MADE BY PROGRAM (witnessworld.py) out of the Statement's table words and the real class files: 9 classes; the members and pool entries that the words name. The judged class is class 1, her method 2. -/
namespace start1
open Jvm.ClassFile
def u (s : String) : CpInfo := .utf8 (stringToUtf16 s)
/-- a pool by its gaps: so many unusable entries, then the entry; so many at the end -/
def gap : Nat → List CpInfo → List CpInfo
  | 0, r => r
  | n + 1, r => .unusable :: gap n r
def poolList (es : List (Nat × CpInfo)) (last : Nat) : List CpInfo := es.foldr (fun e r => gap e.1 (e.2 :: r)) (gap last [])
def pool (es : List (Nat × CpInfo)) (last : Nat) : Array CpInfo := ⟨poolList es last⟩
def fileOf (pool : Array CpInfo) (this : Nat) (attrs : Array Attribute := #[]) (ms : Array MethodInfo := #[]) (fl : Nat := 33) (sup : Nat := 0) (ifs : Array Nat := #[]) (fds : Array FieldInfo := #[]) : ClassFile where
  minorVersion := 0
  majorVersion := 65
  constantPool := pool
  accessFlags := fl
  thisClass := this
  superClass := sup
  interfaces := ifs
  fields := fds
  methods := ms
  attributes := attrs
def plain (name : String) (sup : Option ClassId) : Class where
  name := name
  kind := .ordinary
  loader := none
  accessFlags := 33
  super := sup
  interfaces := #[]
  cf := none
  fields := #[]
  methods := #[]
  instanceTypes := #[]
  staticTypes := #[]
  resolved := #[]
  callSites := []
  init := .initialized
  statics := none
  mirror := none

def pool0 : Array CpInfo := pool [(5, u "<init>"), (0, u "()V"), (1, .class_ 10), (1, u "java/lang/Object")] 113

def k0c0 : Code := { maxStack := 0, maxLocals := 1, code := object_method_1_code, exceptionTable := #[], attributes := #[] }
def k0m0 : Method := { name := "<init>", desc := "()V", sig := { parameters := [], returnType := none }, accessFlags := 1, code := some k0c0 }
/-- java/lang/Object -/
def k0 : Class := { plain "java/lang/Object" none with
  accessFlags := 33
  interfaces := #[]
  cf := some (fileOf pool0 8 #[] #[{ accessFlags := 1, nameIndex := 5, descriptorIndex := 6, attributes := #[] }] 33 0 #[] #[])
  fields := #[]
  methods := #[k0m0]
  instanceTypes := #[]
  staticTypes := #[]
  resolved := Array.replicate 124 none
  statics := none }

def pool1 : Array CpInfo := pool [(2, .class_ 4), (1, u "java/lang/Object"), (0, u "<init>"), (0, u "()V"), (0, .class_ 8), (0, u "com/example/blindfold/blindfold/core/SeededRandomNextDoublePinLaw"), (0, .double 4845873199050653696), (1, .class_ 12), (0, u "com/example/blindfold/blindfold/core/SeededRandom"), (0, .methodref 11 14), (0, .nameAndType 5 15), (0, u "(J)V"), (0, .methodref 11 17), (0, .nameAndType 18 19), (0, u "nextDouble"), (0, u "()D"), (0, .methodref 11 21), (0, .nameAndType 22 23), (0, u "nextLong"), (0, u "()J"), (0, .methodref 7 25), (0, .nameAndType 26 27), (0, u "ok"), (0, u "(DJ)Z"), (0, u "TWO_53"), (0, u "D"), (4, u "law"), (0, u "(J)Z")] 2

def k1m0 : Method := { name := "<init>", desc := "()V", sig := { parameters := [], returnType := none }, accessFlags := 1, code := none }
def k1c1 : Code := { maxStack := 4, maxLocals := 4, code := method_2_code, exceptionTable := #[], attributes := #[] }
def k1m1 : Method := { name := "ok", desc := "(DJ)Z", sig := { parameters := [.double, .long], returnType := some .boolean }, accessFlags := 10, code := some k1c1 }
def k1c2 : Code := { maxStack := 4, maxLocals := 12, code := code, exceptionTable := #[], attributes := #[] }
def k1m2 : Method := { name := "law", desc := "(J)Z", sig := { parameters := [.long], returnType := some .boolean }, accessFlags := 9, code := some k1c2 }
/-- com/example/blindfold/blindfold/core/SeededRandomNextDoublePinLaw -/
def k1 : Class := { plain "com/example/blindfold/blindfold/core/SeededRandomNextDoublePinLaw" (some 0) with
  accessFlags := 49
  interfaces := #[]
  cf := some (fileOf pool1 7 #[] #[{ accessFlags := 1, nameIndex := 5, descriptorIndex := 6, attributes := #[] }, { accessFlags := 10, nameIndex := 26, descriptorIndex := 27, attributes := #[] }, { accessFlags := 9, nameIndex := 34, descriptorIndex := 35, attributes := #[] }] 49 2 #[] #[{ accessFlags := 26, nameIndex := 28, descriptorIndex := 29, attributes := #[] }])
  fields := #[{ name := "TWO_53", type := .double, accessFlags := 26, slot := 0, constantValue := 0 }]
  methods := #[k1m0, k1m1, k1m2]
  instanceTypes := #[]
  staticTypes := #[.double]
  resolved := Array.replicate 38 none
  statics := none }

def pool2 : Array CpInfo := pool [(1, .methodref 2 3), (0, .class_ 4), (0, .nameAndType 5 6), (0, u "java/lang/Object"), (0, u "<init>"), (0, u "()V"), (0, .fieldref 8 9), (0, .class_ 10), (0, .nameAndType 11 12), (0, u "com/example/blindfold/blindfold/core/SeededRandom"), (0, u "state"), (0, u "J"), (0, .long 11400714819323198485), (1, .long 13787848793156543929), (1, .long 10723151780598845931), (1, .methodref 8 20), (0, .nameAndType 21 22), (0, u "nextLong"), (0, u "()J"), (0, .double 4368491638549381120), (5, u "nextDouble"), (0, u "()D"), (29, u "INCREMENT"), (1, u "UNIT"), (0, u "D"), (0, u "(J)V")] 27

def k2c0 : Code := { maxStack := 3, maxLocals := 3, code := prog_38_method_1_code, exceptionTable := #[], attributes := #[] }
def k2m0 : Method := { name := "<init>", desc := "(J)V", sig := { parameters := [.long], returnType := none }, accessFlags := 1, code := some k2c0 }
def k2c1 : Code := { maxStack := 5, maxLocals := 3, code := prog_38_method_2_code, exceptionTable := #[], attributes := #[] }
def k2m1 : Method := { name := "nextLong", desc := "()J", sig := { parameters := [], returnType := some .long }, accessFlags := 1, code := some k2c1 }
def k2c2 : Code := { maxStack := 4, maxLocals := 1, code := prog_38_method_3_code, exceptionTable := #[], attributes := #[] }
def k2m2 : Method := { name := "nextDouble", desc := "()D", sig := { parameters := [], returnType := some .double }, accessFlags := 1, code := some k2c2 }
/-- com/example/blindfold/blindfold/core/SeededRandom -/
def k2 : Class := { plain "com/example/blindfold/blindfold/core/SeededRandom" (some 0) with
  accessFlags := 49
  interfaces := #[]
  cf := some (fileOf pool2 8 #[] #[{ accessFlags := 1, nameIndex := 5, descriptorIndex := 64, attributes := #[] }, { accessFlags := 1, nameIndex := 21, descriptorIndex := 22, attributes := #[] }, { accessFlags := 1, nameIndex := 29, descriptorIndex := 30, attributes := #[] }] 49 2 #[] #[{ accessFlags := 26, nameIndex := 60, descriptorIndex := 12, attributes := #[] }, { accessFlags := 26, nameIndex := 62, descriptorIndex := 63, attributes := #[] }, { accessFlags := 2, nameIndex := 11, descriptorIndex := 12, attributes := #[] }])
  fields := #[{ name := "INCREMENT", type := .long, accessFlags := 26, slot := 0, constantValue := 0 }, { name := "UNIT", type := .double, accessFlags := 26, slot := 1, constantValue := 0 }, { name := "state", type := .long, accessFlags := 2, slot := 0, constantValue := 0 }]
  methods := #[k2m0, k2m1, k2m2]
  instanceTypes := #[.long]
  staticTypes := #[.long, .double]
  resolved := Array.replicate 92 none
  statics := none }

def pool3 : Array CpInfo := pool [(1, u "java/lang/Cloneable"), (0, .class_ 1), (0, u "java/lang/Object"), (0, .class_ 3)] 3

/-- java/lang/Cloneable -/
def k3 : Class := { plain "java/lang/Cloneable" (some 0) with
  accessFlags := 1537
  interfaces := #[]
  cf := some (fileOf pool3 2 #[] #[] 1537 4 #[] #[])
  fields := #[]
  methods := #[]
  instanceTypes := #[]
  staticTypes := #[]
  resolved := Array.replicate 8 none
  statics := none }

def pool4 : Array CpInfo := pool [(1, u "java/io/Serializable"), (0, .class_ 1), (0, u "java/lang/Object"), (0, .class_ 3)] 3

/-- java/io/Serializable -/
def k4 : Class := { plain "java/io/Serializable" (some 0) with
  accessFlags := 1537
  interfaces := #[]
  cf := some (fileOf pool4 2 #[] #[] 1537 4 #[] #[])
  fields := #[]
  methods := #[]
  instanceTypes := #[]
  staticTypes := #[]
  resolved := Array.replicate 8 none
  statics := none }

/-- the primitive byte -/
def k5 : Class := { plain "byte" none with kind := .primitive 'B', accessFlags := 0x411 }
/-- [B -/
def k6 : Class := { plain "[B" (some 0) with kind := .array 5 .byte, interfaces := #[3, 4], accessFlags := 1041 }

/-- the primitive int -/
def k7 : Class := { plain "int" none with kind := .primitive 'I', accessFlags := 0x411 }
/-- [I -/
def k8 : Class := { plain "[I" (some 0) with kind := .array 7 .int, interfaces := #[3, 4], accessFlags := 1041 }

def heap : Heap := #[]
def classes : Array Class := #[k0, k1, k2, k3, k4, k5, k6, k7, k8]
def interned : List (Array UInt16 × Addr) := []
def slotsUsed : Nat := 0
def theMethod : MethodId := ⟨1, 2⟩
def args0 : Array Value := #[.long 12345]
def aboutOver (below : List Frame) : State where
  vm := { classes := classes, interned := interned.toArray }
  heap := heap
  slotsUsed := slotsUsed
  threads := #[{ frames := .invoking theMethod args0 :: below }]
def below0 : List Frame := [.native { method := ⟨0, 0⟩, args := #[] }]
def about1 : State := aboutOver below0
def p0 : Program := .bare "" "" ""
def e0 : Env := launch0.env 0 0 0
theorem w_frames : about1.frames = Frame.invoking theMethod args0 :: below0 := rfl
set_option maxRecDepth 65536 in
theorem w_args : argsFit about1.vm theMethod args0 = true := by decide +kernel
set_option maxRecDepth 65536 in
theorem w_heap : heapFits about1 = true := by decide +kernel
set_option maxRecDepth 65536 in
theorem w_runnable : about1.curStatus? = some .runnable := by decide +kernel
set_option maxRecDepth 65536 in
theorem w_alone : about1.alone = true := by decide +kernel
set_option maxRecDepth 65536 in
theorem w_named : about1.methodNamed? x = some theMethod := by decide +kernel
set_option maxRecDepth 65536 in
theorem w_hears : about1.hears theMethod below0 = true := by decide +kernel
set_option maxRecDepth 65536 in
theorem w_ripe : about1.ripe theMethod args0 below0 = true := by decide +kernel
theorem w_running : about1.status = .running := rfl
set_option maxRecDepth 65536 in
theorem w_room : about1.hasRoom e0.platform room_1 = true :=
  launch0.hasRoom_least _ room_1 (by decide +kernel) (by decide +kernel) (by decide +kernel) (by decide +kernel) (by decide +kernel) (by decide +kernel)
theorem allAtoms_all (ts : List Jvm.Cond) (a : Array Jvm.Value) (st : Jvm.State) : (allAtoms ts).before a st = ts.all (fun c => c.before a st) := by
  induction ts with
  | nil => rfl
  | cons c t ih =>
    show (Jvm.Cond.and c (allAtoms t)).before a st = _
    rw [Jvm.Cond.before_and, ih, List.all_cons]
def words1 : List Jvm.Cond := Jvm.Cond.code x code maxLocals ret :: tables_1
/-- a 'code' word, met by the world's own term for the bytes: nothing is compared byte by byte -/
theorem code_word {y : MethodName} {bytes : ByteArray} {mx : Nat} {rt : Option FieldType} {a : Array Value} {s : State} {m : MethodId} {meth : Method} {c : Code} (h1 : s.methodNamed? y = some m) (h2 : s.vm.method? m = some meth) (h3 : meth.code = some c) (h4 : c.code = bytes)
    (h5 : (c.maxLocals == mx && c.exceptionTable.isEmpty && decide (c.maxStack ≤ mostOperands) && decide (meth.sig.returnType = rt) && !meth.locks && decide (parseMethodDescriptor y.desc = some meth.sig)) = true) : (Jvm.Cond.code y bytes mx rt).before a s = true := by
  simp only [Bool.and_eq_true, beq_iff_eq, Bool.not_eq_true', decide_eq_true_eq] at h5
  obtain ⟨⟨⟨⟨⟨g1, g2⟩, g3⟩, g4⟩, g5⟩, g6⟩ := h5
  simp [Cond.before, Cond.holds, Cond.value, h1, h2, h3, h4, g1, g2, g3, g4, g5, g6]
def isCode : Jvm.Cond → Bool
  | .code _ _ _ _ => true
  | _ => false
theorem all_split {L : List Jvm.Cond} {P : Jvm.Cond → Bool} (h1 : L.all (fun c => isCode c || P c) = true) (h2 : ∀ c ∈ L.filter isCode, P c = true) : L.all P = true := by
  refine List.all_eq_true.mpr fun c hc => ?_
  have h := List.all_eq_true.mp h1 c hc
  rcases Bool.eq_false_or_eq_true (isCode c) with hi | hi
  · exact h2 c (List.mem_filter.mpr ⟨hc, hi⟩)
  · simpa [hi] using h
set_option maxRecDepth 65536 in
theorem w_c0 : (Jvm.Cond.code x code maxLocals ret).before args0 about1 = true := code_word (m := ⟨1, 2⟩) (meth := k1m2) (c := k1c2) (by decide +kernel) rfl rfl rfl (by decide +kernel)
set_option maxRecDepth 65536 in
theorem w_c1 : (Jvm.Cond.code ({ cls := "com/example/blindfold/blindfold/core/SeededRandom", name := "<init>", desc := "(J)V" } : Jvm.MethodName) prog_38_method_1_code (3 : Nat) (Option.none : Option Jvm.ClassFile.FieldType)).before args0 about1 = true := code_word (m := ⟨2, 0⟩) (meth := k2m0) (c := k2c0) (by decide +kernel) rfl rfl rfl (by decide +kernel)
set_option maxRecDepth 65536 in
theorem w_c2 : (Jvm.Cond.code ({ cls := "java/lang/Object", name := "<init>", desc := "()V" } : Jvm.MethodName) object_method_1_code (1 : Nat) (Option.none : Option Jvm.ClassFile.FieldType)).before args0 about1 = true := code_word (m := ⟨0, 0⟩) (meth := k0m0) (c := k0c0) (by decide +kernel) rfl rfl rfl (by decide +kernel)
set_option maxRecDepth 65536 in
theorem w_c3 : (Jvm.Cond.code ({ cls := "com/example/blindfold/blindfold/core/SeededRandom", name := "nextDouble", desc := "()D" } : Jvm.MethodName) prog_38_method_3_code (1 : Nat) (Option.some Jvm.ClassFile.FieldType.double)).before args0 about1 = true := code_word (m := ⟨2, 2⟩) (meth := k2m2) (c := k2c2) (by decide +kernel) rfl rfl rfl (by decide +kernel)
set_option maxRecDepth 65536 in
theorem w_c4 : (Jvm.Cond.code ({ cls := "com/example/blindfold/blindfold/core/SeededRandom", name := "nextLong", desc := "()J" } : Jvm.MethodName) prog_38_method_2_code (3 : Nat) (Option.some Jvm.ClassFile.FieldType.long)).before args0 about1 = true := code_word (m := ⟨2, 1⟩) (meth := k2m1) (c := k2c1) (by decide +kernel) rfl rfl rfl (by decide +kernel)
set_option maxRecDepth 65536 in
theorem w_c5 : (Jvm.Cond.code ({ cls := "com/example/blindfold/blindfold/core/SeededRandomNextDoublePinLaw", name := "ok", desc := "(DJ)Z" } : Jvm.MethodName) method_2_code (4 : Nat) (Option.some Jvm.ClassFile.FieldType.boolean)).before args0 about1 = true := code_word (m := ⟨1, 1⟩) (meth := k1m1) (c := k1c1) (by decide +kernel) rfl rfl rfl (by decide +kernel)
def codes1 : List Jvm.Cond := [Jvm.Cond.code x code maxLocals ret, Jvm.Cond.code ({ cls := "com/example/blindfold/blindfold/core/SeededRandom", name := "<init>", desc := "(J)V" } : Jvm.MethodName) prog_38_method_1_code (3 : Nat) (Option.none : Option Jvm.ClassFile.FieldType), Jvm.Cond.code ({ cls := "java/lang/Object", name := "<init>", desc := "()V" } : Jvm.MethodName) object_method_1_code (1 : Nat) (Option.none : Option Jvm.ClassFile.FieldType), Jvm.Cond.code ({ cls := "com/example/blindfold/blindfold/core/SeededRandom", name := "nextDouble", desc := "()D" } : Jvm.MethodName) prog_38_method_3_code (1 : Nat) (Option.some Jvm.ClassFile.FieldType.double), Jvm.Cond.code ({ cls := "com/example/blindfold/blindfold/core/SeededRandom", name := "nextLong", desc := "()J" } : Jvm.MethodName) prog_38_method_2_code (3 : Nat) (Option.some Jvm.ClassFile.FieldType.long), Jvm.Cond.code ({ cls := "com/example/blindfold/blindfold/core/SeededRandomNextDoublePinLaw", name := "ok", desc := "(DJ)Z" } : Jvm.MethodName) method_2_code (4 : Nat) (Option.some Jvm.ClassFile.FieldType.boolean)]
set_option maxRecDepth 65536 in
theorem codes_eq : words1.filter isCode = codes1 := rfl
theorem w_codes : ∀ c ∈ words1.filter isCode, c.before args0 about1 = true := by
  rw [codes_eq]
  intro c hc
  simp only [codes1, List.mem_cons, List.not_mem_nil, or_false] at hc
  rcases hc with rfl | rfl | rfl | rfl | rfl | rfl
  · exact w_c0
  · exact w_c1
  · exact w_c2
  · exact w_c3
  · exact w_c4
  · exact w_c5
set_option maxRecDepth 65536 in
theorem w_t1 : (words1.take 24).all (fun c => isCode c || c.before args0 about1) = true := by decide +kernel
set_option maxRecDepth 65536 in
theorem w_t2 : (words1.drop 24).all (fun c => isCode c || c.before args0 about1) = true := by decide +kernel
theorem w_tables : (allAtoms (Jvm.Cond.code x code maxLocals ret :: tables_1)).before args0 about1 = true := by
  rw [allAtoms_all]
  show words1.all (fun c => c.before args0 about1) = true
  refine all_split ?_ w_codes
  rw [← List.take_append_drop 24 words1, List.all_append, w_t1, w_t2]
  rfl
set_option maxRecDepth 65536 in
theorem w_case : (Jvm.Cond.and given_1 narrow_1).before args0 about1 = true := by decide +kernel
theorem w_applies : (headSpec (Jvm.Cond.code x code maxLocals ret :: tables_1) room_1).applies x e0.platform about1 = true :=
  (Spec.applies_iff w_frames).mpr ⟨w_running, w_runnable, w_alone, w_named, w_hears, w_ripe, w_room, w_tables⟩
theorem atStart : AtStart classFile x code maxLocals ret World_1 tables_1 room_1 Calls_1 rest_1 Pre_1 launch0 p0 e0 about1 theMethod args0 below0 :=
  ⟨lists_1, trivial, launch0.admits_env _ _ _, launch0.least_env, fairChoices_fair.cas, fairChoices_fair.clock, w_frames, w_args, w_heap, w_applies, trivial, trivial, w_case⟩
end start1
theorem witness_1 : WitnessClaimed_1 := ⟨start1.p0, start1.e0, start1.about1, start1.theMethod, start1.args0, start1.below0, start1.atStart⟩
end Jvm.Pilot.@@N@@

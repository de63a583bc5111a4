import JvmDerived
import JvmDerived.Pilot.@@N@@Statement
import JvmDerived.Pilot.@@N@@Code
set_option linter.unusedVariables false
set_option linter.unusedSimpArgs false
namespace Jvm.RoadKit
open Sem ClassFile Op Lib Jvm.Stand Jvm.Free Jvm.LawKit
/-- own: from A the walk comes to its end, and there R holds -/
def OwnGo (tb : Tables) (e : Env) (below : List Frame) (R : State → Outcome → Prop) (A : State) : Prop := ∃ s₂ o, Steps tb e below A s₂ ∧ s₂.status = .running ∧ Ended s₂ below o ∧ R s₂ o
theorem OwnGo.fwd {tb : Tables} {e : Env} {below : List Frame} {R : State → Outcome → Prop} {A B : State} (h : ∀ t, Steps tb e below B t → Steps tb e below A t) (k : OwnGo tb e below R B) : OwnGo tb e below R A := by
  obtain ⟨s, o, h1, h2⟩ := k
  exact ⟨s, o, h s h1, h2⟩
theorem OwnGo.thru {tb : Tables} {e : Env} {below : List Frame} {R : State → Outcome → Prop} {A B : State} (h : Steps tb e below A B) (k : OwnGo tb e below R B) : OwnGo tb e below R A := k.fwd fun _ q => h.trans q
/-- own: what a body leaves -/
def OwnEnd (s : State) (Q : Option Value → Heap → List Loc → Prop) (k n : Nat) : State → Outcome → Prop := fun U o => ∃ v L, o = .returned v ∧ Q v U.heap L ∧ FrameEnd s o U L k n
section OwnLeaf
variable {p : Program} {l : Launch} {e : Env} {R : Room} {s : State} {m : MethodId} {args : Array Value} {below : List Frame} {meth : Method} {c : Code} {T : State} {locs : List Loc} {cells slots : Nat} {Z : State} {a0 : Array Value} {h : Heap} {Q : Option Value → Heap → List Loc → Prop} {k n : Nat}
theorem own_leaf (X : Stand p l e R s m args below meth c T locs cells slots) (hlk : meth.locks = false) {v : Option Value} (hv : meth.sig.returnType = none → v = none) {g : JFrame} (hc : cells ≤ k) (hs : slots ≤ n) (eT : T.heap = h) (hQ : Q v h locs)
    (hl : ∀ fs, (∀ (f : JFrame) (acts : List Action), f.method = m → f.locked = none → f.entered = [] → (doReturn e (T.setTop f) acts v).1 = T.setFrames fs) → Steps p.tables e below (T.setTop g) (T.setFrames fs)) :
    OwnGo p.tables e below (OwnEnd s Q k n) (T.setTop g) := by
  obtain ⟨fs, hr, hrun, hended, hW, hsame⟩ := X.leave (v := v) hv hlk
  refine ⟨_, _, hl fs hr, hrun, hended, _, _, rfl, ?_, ⟨_, rfl⟩, hW, hsame.mono hc hs⟩
  show Q v T.heap locs
  rw [eT]; exact hQ
theorem own_retI (X : Stand p l e R s m args below meth c T locs cells slots) (hlk : meth.locks = false) (hx : p.tables.exec = Jvm.exec) {pc : Nat} {Ls : Array Slot} {z : Int32} {rest : List Value} (hret : meth.sig.returnType = some .int) (hd : decode c.code pc = .ok (.ireturn, 1)) (hc : cells ≤ k) (hs : slots ≤ n) (eT : T.heap = h) (hQ : Q (some (.int z)) h locs) :
    OwnGo p.tables e below (OwnEnd s Q k n) (T.setTop (mkF m pc Ls (.int z :: rest))) := by
  refine own_leaf X hlk (fun q => by rw [hret] at q; cases q) hc hs eT hQ fun fs hl => ?_
  have hm' : T.vm.method? m = some meth := X.method'
  have hn : narrow .int (.int z) = .int z := rfl
  show Steps p.tables e below (T.setTop { method := m, pc := pc, locals := Ls, stack := _ :: rest, locked := none }) _
  jvm_step X.here [X.here.top, hx, hd, hm', hret, hn]
  first | (intro acts; rw [hl _ acts rfl rfl rfl]) | rw [hl _ _ rfl rfl rfl]
  exact Steps.refl _
theorem own_retZ (X : Stand p l e R s m args below meth c T locs cells slots) (hlk : meth.locks = false) (hx : p.tables.exec = Jvm.exec) {pc : Nat} {Ls : Array Slot} {z : Int32} {rest : List Value} (hret : meth.sig.returnType = some .boolean) (hd : decode c.code pc = .ok (.ireturn, 1)) (hc : cells ≤ k) (hs : slots ≤ n) (eT : T.heap = h) (hQ : Q (some (.int (nar .boolean z))) h locs) :
    OwnGo p.tables e below (OwnEnd s Q k n) (T.setTop (mkF m pc Ls (.int z :: rest))) :=
  own_leaf X hlk (fun q => by rw [hret] at q; cases q) hc hs eT hQ fun fs hl => retN X hx (t := .boolean) hret (by simp) hd hl
theorem own_retJ (X : Stand p l e R s m args below meth c T locs cells slots) (hlk : meth.locks = false) (hx : p.tables.exec = Jvm.exec) {pc : Nat} {Ls : Array Slot} {z : Int64} (hret : meth.sig.returnType = some .long) (hd : decode c.code pc = .ok (.lreturn, 1)) (hc : cells ≤ k) (hs : slots ≤ n) (eT : T.heap = h) (hQ : Q (some (.long z)) h locs) :
    OwnGo p.tables e below (OwnEnd s Q k n) (T.setTop (mkF m pc Ls [.long z])) :=
  own_leaf X hlk (fun q => by rw [hret] at q; cases q) hc hs eT hQ fun fs hl => X.lreturnOut hx hret hd hl
theorem own_retV (X : Stand p l e R s m args below meth c T locs cells slots) (hlk : meth.locks = false) (hx : p.tables.exec = Jvm.exec) {pc : Nat} {Ls : Array Slot} (hret : meth.sig.returnType = none) (hd : decode c.code pc = .ok (.return_, 1)) (hc : cells ≤ k) (hs : slots ≤ n) (eT : T.heap = h) (hQ : Q none h locs) :
    OwnGo p.tables e below (OwnEnd s Q k n) (T.setTop (mkF m pc Ls [])) :=
  own_leaf X hlk (fun _ => rfl) hc hs eT hQ fun fs hl => X.returnOut hx hret hd hl
theorem own_retA (X : Stand p l e R s m args below meth c T locs cells slots) (hlk : meth.locks = false) (hx : p.tables.exec = Jvm.exec) {pc : Nat} {Ls : Array Slot} {w : Value} {rest : List Value} {t : FieldType} (hret : meth.sig.returnType = some t) (ht : t.isReference = true) (hw : w.isRef = true) (hd : decode c.code pc = .ok (.areturn, 1)) (hc : cells ≤ k) (hs : slots ≤ n) (eT : T.heap = h) (hQ : Q (some w) h locs) :
    OwnGo p.tables e below (OwnEnd s Q k n) (T.setTop (mkF m pc Ls (w :: rest))) :=
  own_leaf X hlk (fun q => by rw [hret] at q; cases q) hc hs eT hQ fun fs hl => retOut X hx hret (by cases t <;> first | (cases ht; done) | rfl) (Or.inr (Or.inr (Or.inr (Or.inr ⟨rfl, ht, hw⟩)))) hd hl
/-! own: int arrays, by a function of the place -/
def OwnIA (Z : State) (h : Heap) (a : Addr) (n : Nat) (f : Nat → Int32) : Prop := ∃ c : Cell, Arr Z h a c .int ∧ c.slots.size = n ∧ n < 2147483648 ∧ ∀ i, i < n → c.slots[i]? = some (.int (f i))
theorem OwnIA.lt {a : Addr} {n : Nat} {f : Nat → Int32} (F : OwnIA Z h a n f) : a < h.size := by obtain ⟨c, A, -⟩ := F; exact A.lt
theorem OwnIA.ext {h' : Heap} {a : Addr} {n : Nat} {f : Nat → Int32} (F : OwnIA Z h a n f) (E : Ext h h') : OwnIA Z h' a n f := by obtain ⟨c, A, r⟩ := F; exact ⟨c, A.ext E, r⟩
theorem OwnIA.other {h' : Heap} {a b : Addr} {n sl : Nat} {v : Value} {f : Nat → Int32} (F : OwnIA Z h b n f) (W : Wr h h' a sl v) (q : b ≠ a) : OwnIA Z h' b n f := by obtain ⟨c, A, r⟩ := F; exact ⟨c, A.other W q, r⟩
theorem OwnIA.keep {h' : Heap} {ws : List Addr} {a : Addr} {n : Nat} {f : Nat → Int32} (F : OwnIA Z h a n f) (K : Keep h h' ws) (q : a ∉ ws) : OwnIA Z h' a n f := by obtain ⟨c, A, r⟩ := F; exact ⟨c, ⟨K.2.1 a c A.1 q, A.2⟩, r⟩
theorem OwnIA.eqv {a : Addr} {n : Nat} {f f' : Nat → Int32} (F : OwnIA Z h a n f) (q : ∀ i, i < n → f i = f' i) : OwnIA Z h a n f' := by obtain ⟨c, A, r1, r2, r3⟩ := F; exact ⟨c, A, r1, r2, fun i hi => by rw [r3 i hi, q i hi]⟩
theorem own_clamp {j : Int32} {i : Nat} (hj : j.toInt = i) : j.toNatClampNeg = i := by simp only [Int32.toNatClampNeg]; omega
theorem own_inb {c : Cell} {j : Int32} {i n : Nat} (S : c.slots.size = n) (hj : j.toInt = i) (hi : i < n) : ¬ (j < 0 ∨ c.slots.size ≤ j.toNatClampNeg) := by
  rw [own_clamp hj, S]; simp only [Int32.lt_iff_toInt_lt, Int32.reduceToInt]; omega
theorem OwnIA.new {a : Addr} {k : ClassId} {z : Int32} {i : Nat} (A : Arr Z h a (newA k .int z) .int) (hz : z.toInt = i) : OwnIA Z h a i (fun _ => 0) := by
  have q := own_clamp hz
  have r := rng32 z
  exact ⟨_, A, by rw [sz_new]; exact q, by omega, fun j hj => by simp [newA, q, hj, defaultValue]⟩
theorem own_len (X : Stand p l e R s m args below meth c T locs cells slots) (hx : p.tables.exec = Jvm.exec) (hZ : Z.Warmed39 s.vm) (eT : T.heap = h) {a : Addr} {n : Nat} {f : Nat → Int32} (V : OwnIA Z h a n f) {g : JFrame} (hg : g.method = m) {rest : List Value} (hs : g.stack = .ref a :: rest) (hd : decode c.code g.pc = .ok (.arraylength, 1)) :
    ∀ target, Steps p.tables e below (T.setTop { g with pc := g.pc + 1, stack := .int (Int32.ofNat n) :: rest }) target → Steps p.tables e below (T.setTop g) target := by
  obtain ⟨cl, A, S, -⟩ := V
  subst S
  exact X.arraylength hx (by rw [eT]; exact A.1) (State.isArrayOf_alike hZ.alike A.2.1) hg hs hd
theorem own_iaload (X : Stand p l e R s m args below meth c T locs cells slots) (hx : p.tables.exec = Jvm.exec) (hZ : Z.Warmed39 s.vm) (eT : T.heap = h) {a : Addr} {n : Nat} {f : Nat → Int32} (V : OwnIA Z h a n f) {j : Int32} {i : Nat} (hj : j.toInt = i) (hi : i < n) {g : JFrame} (hg : g.method = m) {rest : List Value} (hs : g.stack = .int j :: .ref a :: rest) (hd : decode c.code g.pc = .ok (.iaload, 1)) :
    ∀ target, Steps p.tables e below (T.setTop { g with pc := g.pc + 1, stack := .int (f i) :: rest }) target → Steps p.tables e below (T.setTop g) target := by
  obtain ⟨cl, A, S, -, H⟩ := V
  exact X.iaload hx (by rw [eT]; exact A.1) (State.isArrayOf_alike hZ.alike A.2.1) A.2.2 (own_inb S hj hi) (by rw [own_clamp hj]; exact H i hi) hg hs hd
theorem own_iastore (X : Stand p l e R s m args below meth c T locs cells slots) (hx : p.tables.exec = Jvm.exec) (hZ : Z.Warmed39 s.vm) (eT : T.heap = h) {a : Addr} {n : Nat} {f : Nat → Int32} (V : OwnIA Z h a n f) {j x : Int32} {i : Nat} (hj : j.toInt = i) (hi : i < n) {g : JFrame} (hg : g.method = m) {rest : List Value} (hs : g.stack = .int x :: .int j :: .ref a :: rest) (hd : decode c.code g.pc = .ok (.iastore, 1)) :
    ∃ T' h', Stand p l e R s m args below meth c T' (locs ++ [⟨a, i⟩]) cells slots ∧ T'.heap = h' ∧ Wr h h' a i (.int x) ∧ OwnIA Z h' a n (fun k => if k = i then x else f k) ∧ ∀ target, Steps p.tables e below (T'.setTop { g with pc := g.pc + 1, stack := rest }) target → Steps p.tables e below (T.setTop g) target := by
  obtain ⟨cl, A, S, N, H⟩ := V
  obtain ⟨T', h', X', e', W, st⟩ := stI X hx hZ eT A (own_inb S hj hi) hg hs hd
  rw [own_clamp hj] at X' W
  refine ⟨T', h', X', e', W, ⟨_, A.same W, by rw [sz_set]; exact S, N, fun k hk => ?_⟩, st⟩
  by_cases q : k = i
  · subst q; simp [Cell.setSlot, S, hk]
  · simp only [Cell.setSlot, if_neg q]; rw [Array.getElem?_setIfInBounds_ne (Ne.symm q)]; exact H k hk
theorem own_newI (X : Stand p l e R s m args below meth c T locs cells slots) (hx : p.tables.exec = Jvm.exec) (hZ : Z.Warmed39 s.vm) (w : (Cond.arrayClass .int).before a0 Z = true) (eT : T.heap = h) {g : JFrame} (hg : g.method = m) (hd : decode c.code g.pc = .ok (.newarray .int, 2)) {z : Int32} {i : Nat} {rest : List Value} (hs : g.stack = .int z :: rest)
    (hz : z.toInt = i) {cap : Nat} (hcap : i ≤ cap) (hb : cap * 8 ≤ 536870912) (hc : cells + 1 ≤ R.cells) (hl : slots + cap ≤ R.slots) :
    ∃ T' h' a, Stand p l e R s m args below meth c T' locs (cells + 1) (slots + cap) ∧ T'.heap = h' ∧ Ext h h' ∧ a = h.size ∧ OwnIA Z h' a i (fun _ => 0) ∧ ∀ target, Steps p.tables e below (T'.setTop { g with pc := g.pc + 2, stack := .ref a :: rest }) target → Steps p.tables e below (T.setTop g) target := by
  have q := own_clamp hz
  obtain ⟨T', h', cA, X', e', E, A, st⟩ := newP X hx hZ (aty := .int) w eT hg hd hs (by simp only [Int32.lt_iff_toInt_lt, Int32.reduceToInt]; omega) (cap := cap) (by omega) hb hc hl
  exact ⟨T', h', _, X', e', E, rfl, OwnIA.new A hz, st⟩
end OwnLeaf
/-! own: branches, by the ints' own numbers -/
theorem own_blt {x y : Int32} {a b : Int} (hx : x.toInt = a) (hy : y.toInt = b) (h : a < b) : if_icmp.holds .lt x y = true ∧ if_icmp.holds .ge x y = false ∧ if_icmp.holds .gt y x = true ∧ if_icmp.holds .le y x = false := tlt (by rw [Int32.lt_iff_toInt_lt]; omega)
theorem own_bnlt {x y : Int32} {a b : Int} (hx : x.toInt = a) (hy : y.toInt = b) (h : ¬ a < b) : if_icmp.holds .lt x y = false ∧ if_icmp.holds .ge x y = true ∧ if_icmp.holds .gt y x = false ∧ if_icmp.holds .le y x = true := flt (by rw [Int32.lt_iff_toInt_lt]; omega)
theorem own_beq {x y : Int32} {a b : Int} (hx : x.toInt = a) (hy : y.toInt = b) (h : a = b) : if_icmp.holds .eq x y = true ∧ if_icmp.holds .ne x y = false := teq (Int32.toInt_inj.mp (by omega))
theorem own_bneq {x y : Int32} {a b : Int} (hx : x.toInt = a) (hy : y.toInt = b) (h : ¬ a = b) : if_icmp.holds .eq x y = false ∧ if_icmp.holds .ne x y = true := feq fun q => h (by rw [← hx, ← hy, q])
theorem own_Llt {x y : Int64} {a b : Int} (hx : x.toInt = a) (hy : y.toInt = b) (h : a < b) : ifCond.holds .lt (lcmpW x y) = true ∧ ifCond.holds .ge (lcmpW x y) = false := by
  have q : x < y := by rw [Int64.lt_iff_toInt_lt]; omega
  rw [if0, if0]; exact ⟨(tlt ((lw_lt x y).mpr q)).1, (tlt ((lw_lt x y).mpr q)).2.1⟩
theorem own_Lnlt {x y : Int64} {a b : Int} (hx : x.toInt = a) (hy : y.toInt = b) (h : ¬ a < b) : ifCond.holds .lt (lcmpW x y) = false ∧ ifCond.holds .ge (lcmpW x y) = true := by
  have q : ¬ x < y := by rw [Int64.lt_iff_toInt_lt]; omega
  rw [if0, if0]; exact ⟨(flt (fun r => q ((lw_lt x y).mp r))).1, (flt (fun r => q ((lw_lt x y).mp r))).2.1⟩
theorem own_Lgt {x y : Int64} {a b : Int} (hx : x.toInt = a) (hy : y.toInt = b) (h : b < a) : ifCond.holds .gt (lcmpW x y) = true ∧ ifCond.holds .le (lcmpW x y) = false := by
  have q : y < x := by rw [Int64.lt_iff_toInt_lt]; omega
  rw [if0, if0]; exact ⟨(tlt ((lw_gt x y).mpr q)).2.2.1, (tlt ((lw_gt x y).mpr q)).2.2.2⟩
theorem own_Lngt {x y : Int64} {a b : Int} (hx : x.toInt = a) (hy : y.toInt = b) (h : ¬ b < a) : ifCond.holds .gt (lcmpW x y) = false ∧ ifCond.holds .le (lcmpW x y) = true := by
  have q : ¬ y < x := by rw [Int64.lt_iff_toInt_lt]; omega
  rw [if0, if0]; exact ⟨(flt (fun r => q ((lw_gt x y).mp r))).2.2.1, (flt (fun r => q ((lw_gt x y).mp r))).2.2.2⟩
theorem own_Leq {x y : Int64} {a b : Int} (hx : x.toInt = a) (hy : y.toInt = b) (h : a = b) : ifCond.holds .eq (lcmpW x y) = true ∧ ifCond.holds .ne (lcmpW x y) = false := by
  have q : x = y := Int64.toInt_inj.mp (by omega)
  rw [if0, if0]; exact teq ((lw_eq x y).mpr q)
theorem own_Lneq {x y : Int64} {a b : Int} (hx : x.toInt = a) (hy : y.toInt = b) (h : ¬ a = b) : ifCond.holds .eq (lcmpW x y) = false ∧ ifCond.holds .ne (lcmpW x y) = true := by
  have q : ¬ x = y := fun r => h (by rw [← hx, ← hy, r])
  rw [if0, if0]; exact feq fun r => q ((lw_eq x y).mp r)
theorem own_ofNat {i : Nat} (h : i < 2147483648) : (Int32.ofNat i).toInt = (i : Int) := Int32.toInt_ofNat_small h
theorem own_ofNatS (i : Nat) : Int32.ofNat i + 1 = Int32.ofNat (i + 1) := (Int32.ofNat_add i 1).symm
theorem own_fieldInt {args : Array Value} {s : State} {t : Term} {C n d : String} {k : Int32} {w : Addr} (ht : t.eval args s none [] s = some (.ref w)) (h : (Jvm.Cond.eq (.field t C n d) (.int k)).value args s none s [] = some true) : Fld s s.heap w C n d (.int k) := by
  apply Fld.start
  obtain ⟨x, y, hx, hy, -, k2⟩ := cmp_v (Or.inl h)
  have hy' : y = .int k := Option.some.inj (hy.symm.trans (Term.int_eval k))
  subst hy'
  obtain ⟨z, rfl⟩ : ∃ z, x = .int z := k2
  have q := gotT (Cond.eq_ints hx hy) h
  subst q
  rw [← fld_at ht]; exact hx
end Jvm.RoadKit
namespace Jvm.Pilot.@@N@@
open Jvm Jvm.ClassFile Sem Op Lib Jvm.Free Jvm.Stand Jvm.LawKit Jvm.RoadKit Bundle Jvm.Pilot.@@N@@.Jvm.D
/-- own: an Arcs with its two int arrays -/
def own_A (Z : State) (h : Heap) (n0 : Nat) (a sa ta : Addr) (i : Nat) (f g : Nat → Int32) : Prop :=
  Exa Z h a "com/example/ctl_checker/ctlchecker/Arcs" ∧ Fld Z h a "com/example/ctl_checker/ctlchecker/Arcs" "sources" "[I" (.ref sa) ∧ Fld Z h a "com/example/ctl_checker/ctlchecker/Arcs" "targets" "[I" (.ref ta) ∧ Fld Z h a "com/example/ctl_checker/ctlchecker/Arcs" "count" "I" (.int (Int32.ofNat i)) ∧ OwnIA Z h sa 16 f ∧ OwnIA Z h ta 16 g ∧ a ≠ sa ∧ a ≠ ta ∧ sa ≠ ta ∧ n0 ≤ a ∧ n0 ≤ sa ∧ n0 ≤ ta
def own_rf (s m0 m1 m2 m3 : Int32) : Int32 := if s.toInt = 0 then m0 else if s.toInt = 1 then m1 else if s.toInt = 2 then m2 else m3
def own_mp (m0 m1 m2 m3 : Int32) (k : Nat) : Int32 := if k = 3 then m3 else if k = 2 then m2 else if k = 1 then m1 else if k = 0 then m0 else 0
theorem own_mrf {s m0 m1 m2 m3 : Int32} {i : Nat} (h : s.toInt = i) (hi : i < 4) : own_mp m0 m1 m2 m3 i = own_rf s m0 m1 m2 m3 := by
  unfold own_mp own_rf
  rw [h]
  match i, hi with
  | 0, _ => rfl
  | 1, _ => rfl
  | 2, _ => rfl
  | 3, _ => rfl
theorem own_three (x : Int32) : (x &&& (3 : Int32)) % (3 : Int32) = 0 ∨ (x &&& (3 : Int32)) % (3 : Int32) = 1 ∨ (x &&& (3 : Int32)) % (3 : Int32) = 2 := by
  have q := c_and x (3 : Int32) (by decide)
  have r := (c_irem (x &&& (3 : Int32)) (3 : Int32) 3 (by decide)).1 q.1
  simp only [← Int32.toInt_inj, r, Int32.reduceToInt]
  omega
theorem own_four (x : Int32) : ∃ i : Nat, (x &&& (3 : Int32)).toInt = i ∧ i < 4 := by
  have q := c_and x (3 : Int32) (by decide)
  have e : (3 : Int32).toInt = 3 := by decide
  exact ⟨(x &&& (3 : Int32)).toInt.toNat, by omega, by omega⟩
theorem pd_0 : parseMethodDescriptor "()V" = some ⟨[], none⟩ := by decide +kernel
theorem pd_1 : parseMethodDescriptor "([I)V" = some ⟨[(.array .int)], none⟩ := by decide +kernel
theorem pd_2 : parseMethodDescriptor "()I" = some ⟨[], some .int⟩ := by decide +kernel
theorem pd_3 : parseMethodDescriptor "(II)V" = some ⟨[.int, .int], none⟩ := by decide +kernel
theorem pd_4 : parseMethodDescriptor "(I)I" = some ⟨[.int], some .int⟩ := by decide +kernel
theorem pd_5 : parseMethodDescriptor "(IIIII)I" = some ⟨[.int, .int, .int, .int, .int], some .int⟩ := by decide +kernel
theorem d1_0 : decode prog_1_method_1_code 0 = .ok (.aload_n 0, 1) := by decide +kernel
theorem d1_1 : decode prog_1_method_1_code 1 = .ok (.invokespecial 1, 3) := by decide +kernel
theorem d1_4 : decode prog_1_method_1_code 4 = .ok (.aload_n 0, 1) := by decide +kernel
theorem d1_5 : decode prog_1_method_1_code 5 = .ok (.bipush 16, 2) := by decide +kernel
theorem d1_7 : decode prog_1_method_1_code 7 = .ok (.newarray .int, 2) := by decide +kernel
theorem d1_9 : decode prog_1_method_1_code 9 = .ok (.putfield 7, 3) := by decide +kernel
theorem d1_12 : decode prog_1_method_1_code 12 = .ok (.aload_n 0, 1) := by decide +kernel
theorem d1_13 : decode prog_1_method_1_code 13 = .ok (.bipush 16, 2) := by decide +kernel
theorem d1_15 : decode prog_1_method_1_code 15 = .ok (.newarray .int, 2) := by decide +kernel
theorem d1_17 : decode prog_1_method_1_code 17 = .ok (.putfield 13, 3) := by decide +kernel
theorem d1_20 : decode prog_1_method_1_code 20 = .ok (.return_, 1) := by decide +kernel
theorem pn_1 : plainName "com/example/ctl_checker/ctlchecker/Arcs" = true := by first | (simp [plainName, overriddenIn]; done) | decide +kernel
theorem ef_1 (m : MethodId) (x0 : Addr) : entryFrame m #[(.ref x0)] 1 = mkF m 0 #[.val (.ref x0)] [] := by first | (simp [entryFrame, mkF, argsToLocals, Value.category, maxLocals]; done) | rfl
def Q1 (Z : State) (a : Addr) (h0 : Heap) (n0 : Nat) (v : Option Value) (h : Heap) (L : List Loc) : Prop := v = none ∧ Fr n0 L ∧ Keep h0 h [a] ∧ ∃ sa ta, h0.size ≤ sa ∧ h0.size ≤ ta ∧ own_A Z h n0 a sa ta 0 (fun _ => 0) (fun _ => 0)
set_option maxRecDepth 65536 in
set_option maxHeartbeats 40000000 in
theorem rm1 (l : Launch) (Z : State) (a0 : Array Value) (hw : ∀ d ∈ tables_1, d.before a0 Z = true) (ws : List Jvm.Cond) (a : Addr) (h0 : Heap) (n0 : Nat) (Z0 : n0 ≤ h0.size) (E_a : Exa Z h0 a "com/example/ctl_checker/ctlchecker/Arcs") (F_sources_a : Fld Z h0 a "com/example/ctl_checker/ctlchecker/Arcs" "sources" "[I" .null) (F_targets_a : Fld Z h0 a "com/example/ctl_checker/ctlchecker/Arcs" "targets" "[I" .null) (F_count_a : Fld Z h0 a "com/example/ctl_checker/ctlchecker/Arcs" "count" "I" (.int 0)) (g_a : n0 ≤ a) :
    MetFree l (⟨"com/example/ctl_checker/ctlchecker/Arcs", "<init>", "()V"⟩ : MethodName) (head1 (Jvm.Cond.code (⟨"com/example/ctl_checker/ctlchecker/Arcs", "<init>", "()V"⟩ : MethodName) prog_1_method_1_code 1 none :: ws) ({ frames := 1, cells := 2, slots := 32, locals := 14 } : Room)) (fun arr' U => arr' = #[(.ref a)] ∧ Z.Warmed39 U.vm ∧ U.heap = h0) (fun _ _ _ _ _ => True) (fun _ U o U' => ∃ v L, o = .returned v ∧ (Q1 Z a h0 n0) v U'.heap L ∧ FrameEnd U o U' L ({ frames := 1, cells := 2, slots := 32, locals := 14 } : Room).cells ({ frames := 1, cells := 2, slots := 32, locals := 14 } : Room).slots) := by
  refine MetFree.of_bodySF (plainFor_of_name pn_1) hisR ?_
  intro p e s m args below meth c s₁ Bd hml0 hP hK
  obtain ⟨rfl, hZ, hh⟩ := hP
  have hx := Bd.exec
  have hby := Bd.bytes
  have hlk : meth.locks = false := BodyLoose.notSynchronized Bd
  have hml : c.maxLocals = 1 := hml0
  have hown : s.vm.findClass "com/example/ctl_checker/ctlchecker/Arcs" = some m.cls := findClass_of_methodNamed Bd.named
  have hnm := (name_of_methodNamed Bd.named Bd.method).1
  have X0 : Stand p l e ({ frames := 1, cells := 2, slots := 32, locals := 14 } : Room) s m #[(.ref a)] below meth c s₁ [] 0 0 := Stand.of_body Bd
  have e0 : s₁.heap = h0 := by rw [← hh, Bd.state]; rfl
  have N := Fr.nil n0
  have Zs := Z0
  change OwnGo p.tables e below (OwnEnd s (Q1 Z a h0 n0) ({ frames := 1, cells := 2, slots := 32, locals := 14 } : Room).cells ({ frames := 1, cells := 2, slots := 32, locals := 14 } : Room).slots) _
  refine OwnGo.fwd (fun tq' kq' => castTop (ef_1 m a) kq') ?_
  show OwnGo _ _ _ _ (s₁.setTop (mkF m 0 #[.val (.ref a)] []))
  have K : Keep h0 h0 [a] := Keep.refl _ _
  refine OwnGo.fwd (fun tq' kq' => XS.aloadN X0.here hx rfl (hb hby d1_0) rfl rfl kq') ?_
  show OwnGo _ _ _ _ (s₁.setTop (mkF m 1 #[.val (.ref a)] [(.ref a)]))
  obtain ⟨T1, X1, e1, st1⟩ := initO X0 hx hZ hown (hw _ (List.mem_of_getElem? (i := 7) rfl)) (hw _ (List.mem_of_getElem? (i := 8) rfl)) (hw _ (List.mem_of_getElem? (i := 9) rfl)) e0 (g := (mkF m 1 #[.val (.ref a)] [(.ref a)])) rfl (by rw [hml]; rfl) rfl (hb hby d1_1) (by decide) (W := 0) (by show 2 * 0 + _ ≤ _; exact Nat.le_of_eq rfl) (by decide)
  refine OwnGo.fwd st1 ?_
  show OwnGo _ _ _ _ (T1.setTop (mkF m 4 #[.val (.ref a)] []))
  refine OwnGo.fwd (fun tq' kq' => XS.aloadN X1.here hx rfl (hb hby d1_4) rfl rfl kq') ?_
  show OwnGo _ _ _ _ (T1.setTop (mkF m 5 #[.val (.ref a)] [(.ref a)]))
  refine OwnGo.fwd (fun tq' kq' => XS.bipush X1.here hx rfl (hb hby d1_5) kq') ?_
  show OwnGo _ _ _ _ (T1.setTop (mkF m 7 #[.val (.ref a)] [(.int (16 : Int32)), (.ref a)]))
  obtain ⟨T2, h2, b2, X2, e2, E2, g2, V2, st2⟩ := own_newI X1 hx hZ (hw _ (List.mem_of_getElem? (i := 0) rfl)) e1 (g := (mkF m 7 #[.val (.ref a)] [(.int (16 : Int32)), (.ref a)])) rfl (hb hby d1_7) rfl (i := 16) (by decide) (cap := 16) (by decide) (by decide) (by decide) (by decide)
  have ne_a_b2 : a ≠ b2 := Nat.ne_of_lt (Nat.lt_of_lt_of_le E_a.lt (Nat.le_of_eq g2.symm))
  have g_b2 : n0 ≤ b2 := Nat.le_trans Zs (Nat.le_of_eq g2.symm)
  have sz_b2 : h0.size ≤ b2 := Nat.le_trans K.1 (Nat.le_of_eq g2.symm)
  have K := K.ext E2
  have Zs := Nat.le_trans Zs E2.1
  have E_a := E_a.ext E2
  have F_sources_a := F_sources_a.ext E2
  have F_targets_a := F_targets_a.ext E2
  have F_count_a := F_count_a.ext E2
  have V_b2 := V2
  refine OwnGo.fwd st2 ?_
  show OwnGo _ _ _ _ (T2.setTop (mkF m 9 #[.val (.ref a)] [(.ref b2), (.ref a)]))
  obtain ⟨T3, h3, X3, e3, W3, st3⟩ := putF X2 hx hZ hown (host := "") (Or.inl (hw _ (List.mem_of_getElem? (i := 10) rfl))) Via.refl e2 F_sources_a E_a (Or.inl (hw _ (List.mem_of_getElem? (i := 11) rfl))) (hw _ (List.mem_of_getElem? (i := 2) rfl)) (ty := (.array .int)) (by decide) rfl rfl (g := (mkF m 9 #[.val (.ref a)] [(.ref b2), (.ref a)])) rfl rfl (hb hby d1_9)
  have E_a := E_a.wr W3
  have F_sources_a := F_sources_a.same W3
  have F_targets_a := F_targets_a.other W3 (Or.inr (slot_ne (Or.inl (hw _ (List.mem_of_getElem? (i := 13) rfl))) (Or.inl (hw _ (List.mem_of_getElem? (i := 11) rfl))) (by decide) (t := (.array .int)) (t' := (.array .int)) (by decide) (by decide)))
  have F_count_a := F_count_a.other W3 (Or.inr (slot_ne (Or.inl (hw _ (List.mem_of_getElem? (i := 20) rfl))) (Or.inl (hw _ (List.mem_of_getElem? (i := 11) rfl))) (by decide) (t := .int) (t' := (.array .int)) (by decide) (by decide)))
  have V_b2 := V_b2.other W3 (Ne.symm ne_a_b2)
  have K := K.wr W3 (Or.inl (List.mem_of_getElem? (i := 0) rfl))
  have Zs := Nat.le_trans Zs (Keep.of_wr W3).1
  have N := Fr.snoc X3 N g_a
  refine OwnGo.fwd st3 ?_
  show OwnGo _ _ _ _ (T3.setTop (mkF m 12 #[.val (.ref a)] []))
  refine OwnGo.fwd (fun tq' kq' => XS.aloadN X3.here hx rfl (hb hby d1_12) rfl rfl kq') ?_
  show OwnGo _ _ _ _ (T3.setTop (mkF m 13 #[.val (.ref a)] [(.ref a)]))
  refine OwnGo.fwd (fun tq' kq' => XS.bipush X3.here hx rfl (hb hby d1_13) kq') ?_
  show OwnGo _ _ _ _ (T3.setTop (mkF m 15 #[.val (.ref a)] [(.int (16 : Int32)), (.ref a)]))
  obtain ⟨T4, h4, b4, X4, e4, E4, g4, V4, st4⟩ := own_newI X3 hx hZ (hw _ (List.mem_of_getElem? (i := 0) rfl)) e3 (g := (mkF m 15 #[.val (.ref a)] [(.int (16 : Int32)), (.ref a)])) rfl (hb hby d1_15) rfl (i := 16) (by decide) (cap := 16) (by decide) (by decide) (by decide) (by decide)
  have ne_a_b4 : a ≠ b4 := Nat.ne_of_lt (Nat.lt_of_lt_of_le E_a.lt (Nat.le_of_eq g4.symm))
  have ne_b2_b4 : b2 ≠ b4 := Nat.ne_of_lt (Nat.lt_of_lt_of_le V_b2.lt (Nat.le_of_eq g4.symm))
  have g_b4 : n0 ≤ b4 := Nat.le_trans Zs (Nat.le_of_eq g4.symm)
  have sz_b4 : h0.size ≤ b4 := Nat.le_trans K.1 (Nat.le_of_eq g4.symm)
  have K := K.ext E4
  have Zs := Nat.le_trans Zs E4.1
  have E_a := E_a.ext E4
  have F_sources_a := F_sources_a.ext E4
  have F_targets_a := F_targets_a.ext E4
  have F_count_a := F_count_a.ext E4
  have V_b2 := V_b2.ext E4
  have V_b4 := V4
  refine OwnGo.fwd st4 ?_
  show OwnGo _ _ _ _ (T4.setTop (mkF m 17 #[.val (.ref a)] [(.ref b4), (.ref a)]))
  obtain ⟨T5, h5, X5, e5, W5, st5⟩ := putF X4 hx hZ hown (host := "") (Or.inl (hw _ (List.mem_of_getElem? (i := 12) rfl))) Via.refl e4 F_targets_a E_a (Or.inl (hw _ (List.mem_of_getElem? (i := 13) rfl))) (hw _ (List.mem_of_getElem? (i := 2) rfl)) (ty := (.array .int)) (by decide) rfl rfl (g := (mkF m 17 #[.val (.ref a)] [(.ref b4), (.ref a)])) rfl rfl (hb hby d1_17)
  have E_a := E_a.wr W5
  have F_sources_a := F_sources_a.other W5 (Or.inr (slot_ne (Or.inl (hw _ (List.mem_of_getElem? (i := 11) rfl))) (Or.inl (hw _ (List.mem_of_getElem? (i := 13) rfl))) (by decide) (t := (.array .int)) (t' := (.array .int)) (by decide) (by decide)))
  have F_targets_a := F_targets_a.same W5
  have F_count_a := F_count_a.other W5 (Or.inr (slot_ne (Or.inl (hw _ (List.mem_of_getElem? (i := 20) rfl))) (Or.inl (hw _ (List.mem_of_getElem? (i := 13) rfl))) (by decide) (t := .int) (t' := (.array .int)) (by decide) (by decide)))
  have V_b2 := V_b2.other W5 (Ne.symm ne_a_b2)
  have V_b4 := V_b4.other W5 (Ne.symm ne_a_b4)
  have K := K.wr W5 (Or.inl (List.mem_of_getElem? (i := 0) rfl))
  have Zs := Nat.le_trans Zs (Keep.of_wr W5).1
  have N := Fr.snoc X5 N g_a
  refine OwnGo.fwd st5 ?_
  show OwnGo _ _ _ _ (T5.setTop (mkF m 20 #[.val (.ref a)] []))
  exact own_retV X5 hlk hx Bd.returns (hb hby d1_20) (by decide) (by decide) e5 ⟨rfl, N, K, b2, b4, sz_b2, sz_b4, E_a, F_sources_a, F_targets_a, F_count_a, V_b2, V_b4, ne_a_b2, ne_a_b4, ne_b2_b4, g_a, g_b2, g_b4⟩
theorem d4_0 : decode prog_1_method_3_code 0 = .ok (.aload_n 0, 1) := by decide +kernel
theorem d4_1 : decode prog_1_method_3_code 1 = .ok (.getfield 16, 3) := by decide +kernel
theorem d4_4 : decode prog_1_method_3_code 4 = .ok (.ireturn, 1) := by decide +kernel
theorem pn_4 : plainName "com/example/ctl_checker/ctlchecker/Arcs" = true := by first | (simp [plainName, overriddenIn]; done) | decide +kernel
theorem ef_4 (m : MethodId) (x0 : Addr) : entryFrame m #[(.ref x0)] 1 = mkF m 0 #[.val (.ref x0)] [] := by first | (simp [entryFrame, mkF, argsToLocals, Value.category, maxLocals]; done) | rfl
def Q4 (Z : State) (a : Addr) (sa : Addr) (ta : Addr) (i : Nat) (f : Nat → Int32) (g : Nat → Int32) (h0 : Heap) (n0 : Nat) (v : Option Value) (h : Heap) (L : List Loc) : Prop := v = some (.int (Int32.ofNat i)) ∧ Fr n0 L ∧ h = h0
set_option maxRecDepth 65536 in
set_option maxHeartbeats 40000000 in
theorem rm4 (l : Launch) (Z : State) (a0 : Array Value) (hw : ∀ d ∈ tables_1, d.before a0 Z = true) (ws : List Jvm.Cond) (a : Addr) (sa : Addr) (ta : Addr) (i : Nat) (f : Nat → Int32) (g : Nat → Int32) (h0 : Heap) (n0 : Nat) (Z0 : n0 ≤ h0.size) (HA : own_A Z h0 n0 a sa ta i f g) :
    MetFree l (⟨"com/example/ctl_checker/ctlchecker/Arcs", "size", "()I"⟩ : MethodName) (head1 (Jvm.Cond.code (⟨"com/example/ctl_checker/ctlchecker/Arcs", "size", "()I"⟩ : MethodName) prog_1_method_3_code 1 (some .int) :: ws) ({ frames := 0, cells := 0, slots := 0, locals := 0 } : Room)) (fun arr' U => arr' = #[(.ref a)] ∧ Z.Warmed39 U.vm ∧ U.heap = h0) (fun _ _ _ _ _ => True) (fun _ U o U' => ∃ v L, o = .returned v ∧ (Q4 Z a sa ta i f g h0 n0) v U'.heap L ∧ FrameEnd U o U' L ({ frames := 0, cells := 0, slots := 0, locals := 0 } : Room).cells ({ frames := 0, cells := 0, slots := 0, locals := 0 } : Room).slots) := by
  refine MetFree.of_bodySF (plainFor_of_name pn_4) hisR ?_
  intro p e s m args below meth c s₁ Bd hml0 hP hK
  obtain ⟨rfl, hZ, hh⟩ := hP
  have hx := Bd.exec
  have hby := Bd.bytes
  have hlk : meth.locks = false := BodyLoose.notSynchronized Bd
  have hml : c.maxLocals = 1 := hml0
  have hown : s.vm.findClass "com/example/ctl_checker/ctlchecker/Arcs" = some m.cls := findClass_of_methodNamed Bd.named
  have hnm := (name_of_methodNamed Bd.named Bd.method).1
  have X0 : Stand p l e ({ frames := 0, cells := 0, slots := 0, locals := 0 } : Room) s m #[(.ref a)] below meth c s₁ [] 0 0 := Stand.of_body Bd
  have e0 : s₁.heap = h0 := by rw [← hh, Bd.state]; rfl
  have N := Fr.nil n0
  have Zs := Z0
  change OwnGo p.tables e below (OwnEnd s (Q4 Z a sa ta i f g h0 n0) ({ frames := 0, cells := 0, slots := 0, locals := 0 } : Room).cells ({ frames := 0, cells := 0, slots := 0, locals := 0 } : Room).slots) _
  refine OwnGo.fwd (fun tq' kq' => castTop (ef_4 m a) kq') ?_
  show OwnGo _ _ _ _ (s₁.setTop (mkF m 0 #[.val (.ref a)] []))
  obtain ⟨E_a, F_sources_a, F_targets_a, F_count_a, V_sa, V_ta, ne_a_sa, ne_a_ta, ne_sa_ta, g_a, g_sa, g_ta⟩ := HA
  refine OwnGo.fwd (fun tq' kq' => XS.aloadN X0.here hx rfl (hb hby d4_0) rfl rfl kq') ?_
  show OwnGo _ _ _ _ (s₁.setTop (mkF m 1 #[.val (.ref a)] [(.ref a)]))
  obtain ⟨T1, X1, e1, st1⟩ := getF X0 hx hZ hown (host := "") (Or.inl (hw _ (List.mem_of_getElem? (i := 19) rfl))) Via.refl e0 F_count_a (g := (mkF m 1 #[.val (.ref a)] [(.ref a)])) rfl rfl (hb hby d4_1)
  refine OwnGo.fwd st1 ?_
  show OwnGo _ _ _ _ (T1.setTop (mkF m 4 #[.val (.ref a)] [(.int (Int32.ofNat i))]))
  exact own_retI X1 hlk hx Bd.returns (hb hby d4_4) (by decide) (by decide) e1 ⟨rfl, N, rfl⟩
theorem d6_0 : decode prog_1_method_4_code 0 = .ok (.aload_n 0, 1) := by decide +kernel
theorem d6_1 : decode prog_1_method_4_code 1 = .ok (.getfield 7, 3) := by decide +kernel
theorem d6_4 : decode prog_1_method_4_code 4 = .ok (.iload_n 1, 1) := by decide +kernel
theorem d6_5 : decode prog_1_method_4_code 5 = .ok (.iaload, 1) := by decide +kernel
theorem d6_6 : decode prog_1_method_4_code 6 = .ok (.ireturn, 1) := by decide +kernel
theorem pn_6 : plainName "com/example/ctl_checker/ctlchecker/Arcs" = true := by first | (simp [plainName, overriddenIn]; done) | decide +kernel
theorem ef_6 (m : MethodId) (x0 : Addr) (x1 : Int32) : entryFrame m #[(.ref x0), (.int x1)] 2 = mkF m 0 #[.val (.ref x0), .val (.int x1)] [] := by first | (simp [entryFrame, mkF, argsToLocals, Value.category, maxLocals]; done) | rfl
def Q6 (Z : State) (a : Addr) (sa : Addr) (ta : Addr) (i : Nat) (f : Nat → Int32) (g : Nat → Int32) (z : Int32) (j : Nat) (h0 : Heap) (n0 : Nat) (v : Option Value) (h : Heap) (L : List Loc) : Prop := v = some (.int (f j)) ∧ Fr n0 L ∧ h = h0
set_option maxRecDepth 65536 in
set_option maxHeartbeats 40000000 in
theorem rm6 (l : Launch) (Z : State) (a0 : Array Value) (hw : ∀ d ∈ tables_1, d.before a0 Z = true) (ws : List Jvm.Cond) (a : Addr) (sa : Addr) (ta : Addr) (i : Nat) (f : Nat → Int32) (g : Nat → Int32) (z : Int32) (j : Nat) (h0 : Heap) (n0 : Nat) (Z0 : n0 ≤ h0.size) (HA : own_A Z h0 n0 a sa ta i f g) (hz : z.toInt = (j : Int)) (hj : j < 16) :
    MetFree l (⟨"com/example/ctl_checker/ctlchecker/Arcs", "getSource", "(I)I"⟩ : MethodName) (head1 (Jvm.Cond.code (⟨"com/example/ctl_checker/ctlchecker/Arcs", "getSource", "(I)I"⟩ : MethodName) prog_1_method_4_code 2 (some .int) :: ws) ({ frames := 0, cells := 0, slots := 0, locals := 0 } : Room)) (fun arr' U => arr' = #[(.ref a), (.int z)] ∧ Z.Warmed39 U.vm ∧ U.heap = h0) (fun _ _ _ _ _ => True) (fun _ U o U' => ∃ v L, o = .returned v ∧ (Q6 Z a sa ta i f g z j h0 n0) v U'.heap L ∧ FrameEnd U o U' L ({ frames := 0, cells := 0, slots := 0, locals := 0 } : Room).cells ({ frames := 0, cells := 0, slots := 0, locals := 0 } : Room).slots) := by
  refine MetFree.of_bodySF (plainFor_of_name pn_6) hisR ?_
  intro p e s m args below meth c s₁ Bd hml0 hP hK
  obtain ⟨rfl, hZ, hh⟩ := hP
  have hx := Bd.exec
  have hby := Bd.bytes
  have hlk : meth.locks = false := BodyLoose.notSynchronized Bd
  have hml : c.maxLocals = 2 := hml0
  have hown : s.vm.findClass "com/example/ctl_checker/ctlchecker/Arcs" = some m.cls := findClass_of_methodNamed Bd.named
  have hnm := (name_of_methodNamed Bd.named Bd.method).1
  have X0 : Stand p l e ({ frames := 0, cells := 0, slots := 0, locals := 0 } : Room) s m #[(.ref a), (.int z)] below meth c s₁ [] 0 0 := Stand.of_body Bd
  have e0 : s₁.heap = h0 := by rw [← hh, Bd.state]; rfl
  have N := Fr.nil n0
  have Zs := Z0
  change OwnGo p.tables e below (OwnEnd s (Q6 Z a sa ta i f g z j h0 n0) ({ frames := 0, cells := 0, slots := 0, locals := 0 } : Room).cells ({ frames := 0, cells := 0, slots := 0, locals := 0 } : Room).slots) _
  refine OwnGo.fwd (fun tq' kq' => castTop (ef_6 m a z) kq') ?_
  show OwnGo _ _ _ _ (s₁.setTop (mkF m 0 #[.val (.ref a), .val (.int z)] []))
  obtain ⟨E_a, F_sources_a, F_targets_a, F_count_a, V_sa, V_ta, ne_a_sa, ne_a_ta, ne_sa_ta, g_a, g_sa, g_ta⟩ := HA
  refine OwnGo.fwd (fun tq' kq' => XS.aloadN X0.here hx rfl (hb hby d6_0) rfl rfl kq') ?_
  show OwnGo _ _ _ _ (s₁.setTop (mkF m 1 #[.val (.ref a), .val (.int z)] [(.ref a)]))
  obtain ⟨T1, X1, e1, st1⟩ := getF X0 hx hZ hown (host := "") (Or.inl (hw _ (List.mem_of_getElem? (i := 10) rfl))) Via.refl e0 F_sources_a (g := (mkF m 1 #[.val (.ref a), .val (.int z)] [(.ref a)])) rfl rfl (hb hby d6_1)
  refine OwnGo.fwd st1 ?_
  show OwnGo _ _ _ _ (T1.setTop (mkF m 4 #[.val (.ref a), .val (.int z)] [(.ref sa)]))
  refine OwnGo.fwd (fun tq' kq' => XS.iloadN X1.here hx rfl (hb hby d6_4) rfl kq') ?_
  show OwnGo _ _ _ _ (T1.setTop (mkF m 5 #[.val (.ref a), .val (.int z)] [(.int z), (.ref sa)]))
  refine OwnGo.fwd (fun tq' kq' => own_iaload X1 hx hZ e1 V_sa (i := j) hz hj (g := (mkF m 5 #[.val (.ref a), .val (.int z)] [(.int z), (.ref sa)])) rfl rfl (hb hby d6_5) tq' kq') ?_
  show OwnGo _ _ _ _ (T1.setTop (mkF m 6 #[.val (.ref a), .val (.int z)] [(.int (f j))]))
  exact own_retI X1 hlk hx Bd.returns (hb hby d6_6) (by decide) (by decide) e1 ⟨rfl, N, rfl⟩
theorem d8_0 : decode prog_1_method_5_code 0 = .ok (.aload_n 0, 1) := by decide +kernel
theorem d8_1 : decode prog_1_method_5_code 1 = .ok (.getfield 13, 3) := by decide +kernel
theorem d8_4 : decode prog_1_method_5_code 4 = .ok (.iload_n 1, 1) := by decide +kernel
theorem d8_5 : decode prog_1_method_5_code 5 = .ok (.iaload, 1) := by decide +kernel
theorem d8_6 : decode prog_1_method_5_code 6 = .ok (.ireturn, 1) := by decide +kernel
theorem pn_8 : plainName "com/example/ctl_checker/ctlchecker/Arcs" = true := by first | (simp [plainName, overriddenIn]; done) | decide +kernel
theorem ef_8 (m : MethodId) (x0 : Addr) (x1 : Int32) : entryFrame m #[(.ref x0), (.int x1)] 2 = mkF m 0 #[.val (.ref x0), .val (.int x1)] [] := by first | (simp [entryFrame, mkF, argsToLocals, Value.category, maxLocals]; done) | rfl
def Q8 (Z : State) (a : Addr) (sa : Addr) (ta : Addr) (i : Nat) (f : Nat → Int32) (g : Nat → Int32) (z : Int32) (j : Nat) (h0 : Heap) (n0 : Nat) (v : Option Value) (h : Heap) (L : List Loc) : Prop := v = some (.int (g j)) ∧ Fr n0 L ∧ h = h0
set_option maxRecDepth 65536 in
set_option maxHeartbeats 40000000 in
theorem rm8 (l : Launch) (Z : State) (a0 : Array Value) (hw : ∀ d ∈ tables_1, d.before a0 Z = true) (ws : List Jvm.Cond) (a : Addr) (sa : Addr) (ta : Addr) (i : Nat) (f : Nat → Int32) (g : Nat → Int32) (z : Int32) (j : Nat) (h0 : Heap) (n0 : Nat) (Z0 : n0 ≤ h0.size) (HA : own_A Z h0 n0 a sa ta i f g) (hz : z.toInt = (j : Int)) (hj : j < 16) :
    MetFree l (⟨"com/example/ctl_checker/ctlchecker/Arcs", "getTarget", "(I)I"⟩ : MethodName) (head1 (Jvm.Cond.code (⟨"com/example/ctl_checker/ctlchecker/Arcs", "getTarget", "(I)I"⟩ : MethodName) prog_1_method_5_code 2 (some .int) :: ws) ({ frames := 0, cells := 0, slots := 0, locals := 0 } : Room)) (fun arr' U => arr' = #[(.ref a), (.int z)] ∧ Z.Warmed39 U.vm ∧ U.heap = h0) (fun _ _ _ _ _ => True) (fun _ U o U' => ∃ v L, o = .returned v ∧ (Q8 Z a sa ta i f g z j h0 n0) v U'.heap L ∧ FrameEnd U o U' L ({ frames := 0, cells := 0, slots := 0, locals := 0 } : Room).cells ({ frames := 0, cells := 0, slots := 0, locals := 0 } : Room).slots) := by
  refine MetFree.of_bodySF (plainFor_of_name pn_8) hisR ?_
  intro p e s m args below meth c s₁ Bd hml0 hP hK
  obtain ⟨rfl, hZ, hh⟩ := hP
  have hx := Bd.exec
  have hby := Bd.bytes
  have hlk : meth.locks = false := BodyLoose.notSynchronized Bd
  have hml : c.maxLocals = 2 := hml0
  have hown : s.vm.findClass "com/example/ctl_checker/ctlchecker/Arcs" = some m.cls := findClass_of_methodNamed Bd.named
  have hnm := (name_of_methodNamed Bd.named Bd.method).1
  have X0 : Stand p l e ({ frames := 0, cells := 0, slots := 0, locals := 0 } : Room) s m #[(.ref a), (.int z)] below meth c s₁ [] 0 0 := Stand.of_body Bd
  have e0 : s₁.heap = h0 := by rw [← hh, Bd.state]; rfl
  have N := Fr.nil n0
  have Zs := Z0
  change OwnGo p.tables e below (OwnEnd s (Q8 Z a sa ta i f g z j h0 n0) ({ frames := 0, cells := 0, slots := 0, locals := 0 } : Room).cells ({ frames := 0, cells := 0, slots := 0, locals := 0 } : Room).slots) _
  refine OwnGo.fwd (fun tq' kq' => castTop (ef_8 m a z) kq') ?_
  show OwnGo _ _ _ _ (s₁.setTop (mkF m 0 #[.val (.ref a), .val (.int z)] []))
  obtain ⟨E_a, F_sources_a, F_targets_a, F_count_a, V_sa, V_ta, ne_a_sa, ne_a_ta, ne_sa_ta, g_a, g_sa, g_ta⟩ := HA
  refine OwnGo.fwd (fun tq' kq' => XS.aloadN X0.here hx rfl (hb hby d8_0) rfl rfl kq') ?_
  show OwnGo _ _ _ _ (s₁.setTop (mkF m 1 #[.val (.ref a), .val (.int z)] [(.ref a)]))
  obtain ⟨T1, X1, e1, st1⟩ := getF X0 hx hZ hown (host := "") (Or.inl (hw _ (List.mem_of_getElem? (i := 12) rfl))) Via.refl e0 F_targets_a (g := (mkF m 1 #[.val (.ref a), .val (.int z)] [(.ref a)])) rfl rfl (hb hby d8_1)
  refine OwnGo.fwd st1 ?_
  show OwnGo _ _ _ _ (T1.setTop (mkF m 4 #[.val (.ref a), .val (.int z)] [(.ref ta)]))
  refine OwnGo.fwd (fun tq' kq' => XS.iloadN X1.here hx rfl (hb hby d8_4) rfl kq') ?_
  show OwnGo _ _ _ _ (T1.setTop (mkF m 5 #[.val (.ref a), .val (.int z)] [(.int z), (.ref ta)]))
  refine OwnGo.fwd (fun tq' kq' => own_iaload X1 hx hZ e1 V_ta (i := j) hz hj (g := (mkF m 5 #[.val (.ref a), .val (.int z)] [(.int z), (.ref ta)])) rfl rfl (hb hby d8_5) tq' kq') ?_
  show OwnGo _ _ _ _ (T1.setTop (mkF m 6 #[.val (.ref a), .val (.int z)] [(.int (g j))]))
  exact own_retI X1 hlk hx Bd.returns (hb hby d8_6) (by decide) (by decide) e1 ⟨rfl, N, rfl⟩
theorem d5_0 : decode prog_1_method_2_code 0 = .ok (.aload_n 0, 1) := by decide +kernel
theorem d5_1 : decode prog_1_method_2_code 1 = .ok (.getfield 16, 3) := by decide +kernel
theorem d5_4 : decode prog_1_method_2_code 4 = .ok (.aload_n 0, 1) := by decide +kernel
theorem d5_5 : decode prog_1_method_2_code 5 = .ok (.getfield 7, 3) := by decide +kernel
theorem d5_8 : decode prog_1_method_2_code 8 = .ok (.arraylength, 1) := by decide +kernel
theorem d5_9 : decode prog_1_method_2_code 9 = .ok (.if_icmp .ne 62, 3) := by decide +kernel
theorem d5_12 : decode prog_1_method_2_code 12 = .ok (.aload_n 0, 1) := by decide +kernel
theorem d5_13 : decode prog_1_method_2_code 13 = .ok (.getfield 16, 3) := by decide +kernel
theorem d5_16 : decode prog_1_method_2_code 16 = .ok (.i2l, 1) := by decide +kernel
theorem d5_17 : decode prog_1_method_2_code 17 = .ok (.ldc2_w 20, 3) := by decide +kernel
theorem d5_20 : decode prog_1_method_2_code 20 = .ok (.lmul, 1) := by decide +kernel
theorem d5_21 : decode prog_1_method_2_code 21 = .ok (.ldc2_w 24, 3) := by decide +kernel
theorem d5_24 : decode prog_1_method_2_code 24 = .ok (.invokestatic 26, 3) := by decide +kernel
theorem d5_27 : decode prog_1_method_2_code 27 = .ok (.l2i, 1) := by decide +kernel
theorem d5_28 : decode prog_1_method_2_code 28 = .ok (.istore_n 3, 1) := by decide +kernel
theorem d5_29 : decode prog_1_method_2_code 29 = .ok (.iload_n 3, 1) := by decide +kernel
theorem d5_30 : decode prog_1_method_2_code 30 = .ok (.aload_n 0, 1) := by decide +kernel
theorem d5_31 : decode prog_1_method_2_code 31 = .ok (.getfield 16, 3) := by decide +kernel
theorem d5_34 : decode prog_1_method_2_code 34 = .ok (.if_icmp .ne 13, 3) := by decide +kernel
theorem d5_37 : decode prog_1_method_2_code 37 = .ok (.new 32, 3) := by decide +kernel
theorem d5_40 : decode prog_1_method_2_code 40 = .ok (.dup, 1) := by decide +kernel
theorem d5_41 : decode prog_1_method_2_code 41 = .ok (.ldc 34, 2) := by decide +kernel
theorem d5_43 : decode prog_1_method_2_code 43 = .ok (.invokespecial 36, 3) := by decide +kernel
theorem d5_46 : decode prog_1_method_2_code 46 = .ok (.athrow, 1) := by decide +kernel
theorem d5_47 : decode prog_1_method_2_code 47 = .ok (.aload_n 0, 1) := by decide +kernel
theorem d5_48 : decode prog_1_method_2_code 48 = .ok (.aload_n 0, 1) := by decide +kernel
theorem d5_49 : decode prog_1_method_2_code 49 = .ok (.getfield 7, 3) := by decide +kernel
theorem d5_52 : decode prog_1_method_2_code 52 = .ok (.iload_n 3, 1) := by decide +kernel
theorem d5_53 : decode prog_1_method_2_code 53 = .ok (.invokestatic 39, 3) := by decide +kernel
theorem d5_56 : decode prog_1_method_2_code 56 = .ok (.putfield 7, 3) := by decide +kernel
theorem d5_59 : decode prog_1_method_2_code 59 = .ok (.aload_n 0, 1) := by decide +kernel
theorem d5_60 : decode prog_1_method_2_code 60 = .ok (.aload_n 0, 1) := by decide +kernel
theorem d5_61 : decode prog_1_method_2_code 61 = .ok (.getfield 13, 3) := by decide +kernel
theorem d5_64 : decode prog_1_method_2_code 64 = .ok (.iload_n 3, 1) := by decide +kernel
theorem d5_65 : decode prog_1_method_2_code 65 = .ok (.invokestatic 39, 3) := by decide +kernel
theorem d5_68 : decode prog_1_method_2_code 68 = .ok (.putfield 13, 3) := by decide +kernel
theorem d5_71 : decode prog_1_method_2_code 71 = .ok (.aload_n 0, 1) := by decide +kernel
theorem d5_72 : decode prog_1_method_2_code 72 = .ok (.getfield 7, 3) := by decide +kernel
theorem d5_75 : decode prog_1_method_2_code 75 = .ok (.aload_n 0, 1) := by decide +kernel
theorem d5_76 : decode prog_1_method_2_code 76 = .ok (.getfield 16, 3) := by decide +kernel
theorem d5_79 : decode prog_1_method_2_code 79 = .ok (.iload_n 1, 1) := by decide +kernel
theorem d5_80 : decode prog_1_method_2_code 80 = .ok (.iastore, 1) := by decide +kernel
theorem d5_81 : decode prog_1_method_2_code 81 = .ok (.aload_n 0, 1) := by decide +kernel
theorem d5_82 : decode prog_1_method_2_code 82 = .ok (.getfield 13, 3) := by decide +kernel
theorem d5_85 : decode prog_1_method_2_code 85 = .ok (.aload_n 0, 1) := by decide +kernel
theorem d5_86 : decode prog_1_method_2_code 86 = .ok (.getfield 16, 3) := by decide +kernel
theorem d5_89 : decode prog_1_method_2_code 89 = .ok (.iload_n 2, 1) := by decide +kernel
theorem d5_90 : decode prog_1_method_2_code 90 = .ok (.iastore, 1) := by decide +kernel
theorem d5_91 : decode prog_1_method_2_code 91 = .ok (.aload_n 0, 1) := by decide +kernel
theorem d5_92 : decode prog_1_method_2_code 92 = .ok (.dup, 1) := by decide +kernel
theorem d5_93 : decode prog_1_method_2_code 93 = .ok (.getfield 16, 3) := by decide +kernel
theorem d5_96 : decode prog_1_method_2_code 96 = .ok (.iconst 1, 1) := by decide +kernel
theorem d5_97 : decode prog_1_method_2_code 97 = .ok (.iadd, 1) := by decide +kernel
theorem d5_98 : decode prog_1_method_2_code 98 = .ok (.putfield 16, 3) := by decide +kernel
theorem d5_101 : decode prog_1_method_2_code 101 = .ok (.return_, 1) := by decide +kernel
theorem pn_5 : plainName "com/example/ctl_checker/ctlchecker/Arcs" = true := by first | (simp [plainName, overriddenIn]; done) | decide +kernel
theorem ef_5 (m : MethodId) (x0 : Addr) (x1 : Int32) (x2 : Int32) : entryFrame m #[(.ref x0), (.int x1), (.int x2)] 4 = mkF m 0 #[.val (.ref x0), .val (.int x1), .val (.int x2), .unset] [] := by first | (simp [entryFrame, mkF, argsToLocals, Value.category, maxLocals]; done) | rfl
def Q5 (Z : State) (a : Addr) (sa : Addr) (ta : Addr) (i : Nat) (f : Nat → Int32) (g : Nat → Int32) (x : Int32) (y : Int32) (h0 : Heap) (n0 : Nat) (v : Option Value) (h : Heap) (L : List Loc) : Prop := v = none ∧ Fr n0 L ∧ Keep h0 h [a, sa, ta] ∧ own_A Z h n0 a sa ta (i + 1) (fun k => if k = i then x else f k) (fun k => if k = i then y else g k)
set_option maxRecDepth 65536 in
set_option maxHeartbeats 40000000 in
theorem rm5 (l : Launch) (Z : State) (a0 : Array Value) (hw : ∀ d ∈ tables_1, d.before a0 Z = true) (ws : List Jvm.Cond) (a : Addr) (sa : Addr) (ta : Addr) (i : Nat) (f : Nat → Int32) (g : Nat → Int32) (x : Int32) (y : Int32) (h0 : Heap) (n0 : Nat) (Z0 : n0 ≤ h0.size) (HA : own_A Z h0 n0 a sa ta i f g) (hi : i < 16) :
    MetFree l (⟨"com/example/ctl_checker/ctlchecker/Arcs", "add", "(II)V"⟩ : MethodName) (head1 (Jvm.Cond.code (⟨"com/example/ctl_checker/ctlchecker/Arcs", "add", "(II)V"⟩ : MethodName) prog_1_method_2_code 4 none :: ws) ({ frames := 0, cells := 0, slots := 0, locals := 0 } : Room)) (fun arr' U => arr' = #[(.ref a), (.int x), (.int y)] ∧ Z.Warmed39 U.vm ∧ U.heap = h0) (fun _ _ _ _ _ => True) (fun _ U o U' => ∃ v L, o = .returned v ∧ (Q5 Z a sa ta i f g x y h0 n0) v U'.heap L ∧ FrameEnd U o U' L ({ frames := 0, cells := 0, slots := 0, locals := 0 } : Room).cells ({ frames := 0, cells := 0, slots := 0, locals := 0 } : Room).slots) := by
  refine MetFree.of_bodySF (plainFor_of_name pn_5) hisR ?_
  intro p e s m args below meth c s₁ Bd hml0 hP hK
  obtain ⟨rfl, hZ, hh⟩ := hP
  have hx := Bd.exec
  have hby := Bd.bytes
  have hlk : meth.locks = false := BodyLoose.notSynchronized Bd
  have hml : c.maxLocals = 4 := hml0
  have hown : s.vm.findClass "com/example/ctl_checker/ctlchecker/Arcs" = some m.cls := findClass_of_methodNamed Bd.named
  have hnm := (name_of_methodNamed Bd.named Bd.method).1
  have X0 : Stand p l e ({ frames := 0, cells := 0, slots := 0, locals := 0 } : Room) s m #[(.ref a), (.int x), (.int y)] below meth c s₁ [] 0 0 := Stand.of_body Bd
  have e0 : s₁.heap = h0 := by rw [← hh, Bd.state]; rfl
  have N := Fr.nil n0
  have Zs := Z0
  change OwnGo p.tables e below (OwnEnd s (Q5 Z a sa ta i f g x y h0 n0) ({ frames := 0, cells := 0, slots := 0, locals := 0 } : Room).cells ({ frames := 0, cells := 0, slots := 0, locals := 0 } : Room).slots) _
  refine OwnGo.fwd (fun tq' kq' => castTop (ef_5 m a x y) kq') ?_
  show OwnGo _ _ _ _ (s₁.setTop (mkF m 0 #[.val (.ref a), .val (.int x), .val (.int y), .unset] []))
  obtain ⟨E_a, F_sources_a, F_targets_a, F_count_a, V_sa, V_ta, ne_a_sa, ne_a_ta, ne_sa_ta, g_a, g_sa, g_ta⟩ := HA
  have hi_i : (Int32.ofNat i).toInt = (i : Int) := own_ofNat (by omega)
  have K : Keep h0 h0 [a, sa, ta] := Keep.refl _ _
  refine OwnGo.fwd (fun tq' kq' => XS.aloadN X0.here hx rfl (hb hby d5_0) rfl rfl kq') ?_
  show OwnGo _ _ _ _ (s₁.setTop (mkF m 1 #[.val (.ref a), .val (.int x), .val (.int y), .unset] [(.ref a)]))
  obtain ⟨T1, X1, e1, st1⟩ := getF X0 hx hZ hown (host := "") (Or.inl (hw _ (List.mem_of_getElem? (i := 19) rfl))) Via.refl e0 F_count_a (g := (mkF m 1 #[.val (.ref a), .val (.int x), .val (.int y), .unset] [(.ref a)])) rfl rfl (hb hby d5_1)
  refine OwnGo.fwd st1 ?_
  show OwnGo _ _ _ _ (T1.setTop (mkF m 4 #[.val (.ref a), .val (.int x), .val (.int y), .unset] [(.int (Int32.ofNat i))]))
  refine OwnGo.fwd (fun tq' kq' => XS.aloadN X1.here hx rfl (hb hby d5_4) rfl rfl kq') ?_
  show OwnGo _ _ _ _ (T1.setTop (mkF m 5 #[.val (.ref a), .val (.int x), .val (.int y), .unset] [(.ref a), (.int (Int32.ofNat i))]))
  obtain ⟨T2, X2, e2, st2⟩ := getF X1 hx hZ hown (host := "") (Or.inl (hw _ (List.mem_of_getElem? (i := 10) rfl))) Via.refl e1 F_sources_a (g := (mkF m 5 #[.val (.ref a), .val (.int x), .val (.int y), .unset] [(.ref a), (.int (Int32.ofNat i))])) rfl rfl (hb hby d5_5)
  refine OwnGo.fwd st2 ?_
  show OwnGo _ _ _ _ (T2.setTop (mkF m 8 #[.val (.ref a), .val (.int x), .val (.int y), .unset] [(.ref sa), (.int (Int32.ofNat i))]))
  refine OwnGo.fwd (fun tq' kq' => own_len X2 hx hZ e2 V_sa (g := (mkF m 8 #[.val (.ref a), .val (.int x), .val (.int y), .unset] [(.ref sa), (.int (Int32.ofNat i))])) rfl rfl (hb hby d5_8) tq' kq') ?_
  show OwnGo _ _ _ _ (T2.setTop (mkF m 9 #[.val (.ref a), .val (.int x), .val (.int y), .unset] [(.int (Int32.ofNat 16)), (.int (Int32.ofNat i))]))
  have hc9_3 : ¬ ((i : Int) = 16) := by omega
  refine OwnGo.fwd (fun tq' kq' => XS.icmpYes X2.here hx rfl (pc0 := 9) (pc' := 71) rfl (hb hby d5_9) rfl (own_bneq hi_i (by decide) hc9_3).2 (by decide) (by decide) kq') ?_
  show OwnGo _ _ _ _ (T2.setTop (mkF m 71 #[.val (.ref a), .val (.int x), .val (.int y), .unset] []))
  refine OwnGo.fwd (fun tq' kq' => XS.aloadN X2.here hx rfl (hb hby d5_71) rfl rfl kq') ?_
  show OwnGo _ _ _ _ (T2.setTop (mkF m 72 #[.val (.ref a), .val (.int x), .val (.int y), .unset] [(.ref a)]))
  obtain ⟨T4, X4, e4, st4⟩ := getF X2 hx hZ hown (host := "") (Or.inl (hw _ (List.mem_of_getElem? (i := 10) rfl))) Via.refl e2 F_sources_a (g := (mkF m 72 #[.val (.ref a), .val (.int x), .val (.int y), .unset] [(.ref a)])) rfl rfl (hb hby d5_72)
  refine OwnGo.fwd st4 ?_
  show OwnGo _ _ _ _ (T4.setTop (mkF m 75 #[.val (.ref a), .val (.int x), .val (.int y), .unset] [(.ref sa)]))
  refine OwnGo.fwd (fun tq' kq' => XS.aloadN X4.here hx rfl (hb hby d5_75) rfl rfl kq') ?_
  show OwnGo _ _ _ _ (T4.setTop (mkF m 76 #[.val (.ref a), .val (.int x), .val (.int y), .unset] [(.ref a), (.ref sa)]))
  obtain ⟨T5, X5, e5, st5⟩ := getF X4 hx hZ hown (host := "") (Or.inl (hw _ (List.mem_of_getElem? (i := 19) rfl))) Via.refl e4 F_count_a (g := (mkF m 76 #[.val (.ref a), .val (.int x), .val (.int y), .unset] [(.ref a), (.ref sa)])) rfl rfl (hb hby d5_76)
  refine OwnGo.fwd st5 ?_
  show OwnGo _ _ _ _ (T5.setTop (mkF m 79 #[.val (.ref a), .val (.int x), .val (.int y), .unset] [(.int (Int32.ofNat i)), (.ref sa)]))
  refine OwnGo.fwd (fun tq' kq' => XS.iloadN X5.here hx rfl (hb hby d5_79) rfl kq') ?_
  show OwnGo _ _ _ _ (T5.setTop (mkF m 80 #[.val (.ref a), .val (.int x), .val (.int y), .unset] [(.int x), (.int (Int32.ofNat i)), (.ref sa)]))
  obtain ⟨T6, h6, X6, e6, W6, V6, st6⟩ := own_iastore X5 hx hZ e5 V_sa (i := i) hi_i hi (g := (mkF m 80 #[.val (.ref a), .val (.int x), .val (.int y), .unset] [(.int x), (.int (Int32.ofNat i)), (.ref sa)])) rfl rfl (hb hby d5_80)
  have E_a := E_a.wr W6
  have F_sources_a := F_sources_a.other W6 (Or.inl ne_a_sa)
  have F_targets_a := F_targets_a.other W6 (Or.inl ne_a_sa)
  have F_count_a := F_count_a.other W6 (Or.inl ne_a_sa)
  have V_ta := V_ta.other W6 (Ne.symm ne_sa_ta)
  have K := K.wr W6 (Or.inl (List.mem_of_getElem? (i := 1) rfl))
  have Zs := Nat.le_trans Zs (Keep.of_wr W6).1
  have N := Fr.snoc X6 N g_sa
  have V_sa := V6
  refine OwnGo.fwd st6 ?_
  show OwnGo _ _ _ _ (T6.setTop (mkF m 81 #[.val (.ref a), .val (.int x), .val (.int y), .unset] []))
  refine OwnGo.fwd (fun tq' kq' => XS.aloadN X6.here hx rfl (hb hby d5_81) rfl rfl kq') ?_
  show OwnGo _ _ _ _ (T6.setTop (mkF m 82 #[.val (.ref a), .val (.int x), .val (.int y), .unset] [(.ref a)]))
  obtain ⟨T7, X7, e7, st7⟩ := getF X6 hx hZ hown (host := "") (Or.inl (hw _ (List.mem_of_getElem? (i := 12) rfl))) Via.refl e6 F_targets_a (g := (mkF m 82 #[.val (.ref a), .val (.int x), .val (.int y), .unset] [(.ref a)])) rfl rfl (hb hby d5_82)
  refine OwnGo.fwd st7 ?_
  show OwnGo _ _ _ _ (T7.setTop (mkF m 85 #[.val (.ref a), .val (.int x), .val (.int y), .unset] [(.ref ta)]))
  refine OwnGo.fwd (fun tq' kq' => XS.aloadN X7.here hx rfl (hb hby d5_85) rfl rfl kq') ?_
  show OwnGo _ _ _ _ (T7.setTop (mkF m 86 #[.val (.ref a), .val (.int x), .val (.int y), .unset] [(.ref a), (.ref ta)]))
  obtain ⟨T8, X8, e8, st8⟩ := getF X7 hx hZ hown (host := "") (Or.inl (hw _ (List.mem_of_getElem? (i := 19) rfl))) Via.refl e7 F_count_a (g := (mkF m 86 #[.val (.ref a), .val (.int x), .val (.int y), .unset] [(.ref a), (.ref ta)])) rfl rfl (hb hby d5_86)
  refine OwnGo.fwd st8 ?_
  show OwnGo _ _ _ _ (T8.setTop (mkF m 89 #[.val (.ref a), .val (.int x), .val (.int y), .unset] [(.int (Int32.ofNat i)), (.ref ta)]))
  refine OwnGo.fwd (fun tq' kq' => XS.iloadN X8.here hx rfl (hb hby d5_89) rfl kq') ?_
  show OwnGo _ _ _ _ (T8.setTop (mkF m 90 #[.val (.ref a), .val (.int x), .val (.int y), .unset] [(.int y), (.int (Int32.ofNat i)), (.ref ta)]))
  obtain ⟨T9, h9, X9, e9, W9, V9, st9⟩ := own_iastore X8 hx hZ e8 V_ta (i := i) hi_i hi (g := (mkF m 90 #[.val (.ref a), .val (.int x), .val (.int y), .unset] [(.int y), (.int (Int32.ofNat i)), (.ref ta)])) rfl rfl (hb hby d5_90)
  have E_a := E_a.wr W9
  have F_sources_a := F_sources_a.other W9 (Or.inl ne_a_ta)
  have F_targets_a := F_targets_a.other W9 (Or.inl ne_a_ta)
  have F_count_a := F_count_a.other W9 (Or.inl ne_a_ta)
  have V_sa := V_sa.other W9 ne_sa_ta
  have K := K.wr W9 (Or.inl (List.mem_of_getElem? (i := 2) rfl))
  have Zs := Nat.le_trans Zs (Keep.of_wr W9).1
  have N := Fr.snoc X9 N g_ta
  have V_ta := V9
  refine OwnGo.fwd st9 ?_
  show OwnGo _ _ _ _ (T9.setTop (mkF m 91 #[.val (.ref a), .val (.int x), .val (.int y), .unset] []))
  refine OwnGo.fwd (fun tq' kq' => XS.aloadN X9.here hx rfl (hb hby d5_91) rfl rfl kq') ?_
  show OwnGo _ _ _ _ (T9.setTop (mkF m 92 #[.val (.ref a), .val (.int x), .val (.int y), .unset] [(.ref a)]))
  refine OwnGo.fwd (fun tq' kq' => XS.dup X9.here hx rfl (hb hby d5_92) rfl rfl kq') ?_
  show OwnGo _ _ _ _ (T9.setTop (mkF m 93 #[.val (.ref a), .val (.int x), .val (.int y), .unset] [(.ref a), (.ref a)]))
  obtain ⟨T10, X10, e10, st10⟩ := getF X9 hx hZ hown (host := "") (Or.inl (hw _ (List.mem_of_getElem? (i := 19) rfl))) Via.refl e9 F_count_a (g := (mkF m 93 #[.val (.ref a), .val (.int x), .val (.int y), .unset] [(.ref a), (.ref a)])) rfl rfl (hb hby d5_93)
  refine OwnGo.fwd st10 ?_
  show OwnGo _ _ _ _ (T10.setTop (mkF m 96 #[.val (.ref a), .val (.int x), .val (.int y), .unset] [(.int (Int32.ofNat i)), (.ref a)]))
  refine OwnGo.fwd (fun tq' kq' => XS.iconst X10.here hx rfl (hb hby d5_96) kq') ?_
  show OwnGo _ _ _ _ (T10.setTop (mkF m 97 #[.val (.ref a), .val (.int x), .val (.int y), .unset] [(.int (1 : Int32)), (.int (Int32.ofNat i)), (.ref a)]))
  refine OwnGo.fwd (fun tq' kq' => XS.iadd X10.here hx rfl (hb hby d5_97) rfl kq') ?_
  show OwnGo _ _ _ _ (T10.setTop (mkF m 98 #[.val (.ref a), .val (.int x), .val (.int y), .unset] [(.int ((Int32.ofNat i) + (1 : Int32))), (.ref a)]))
  obtain ⟨T11, h11, X11, e11, W11, st11⟩ := putF X10 hx hZ hown (host := "") (Or.inl (hw _ (List.mem_of_getElem? (i := 19) rfl))) Via.refl e10 F_count_a E_a (Or.inl (hw _ (List.mem_of_getElem? (i := 20) rfl))) (hw _ (List.mem_of_getElem? (i := 2) rfl)) (ty := .int) (by decide) rfl rfl (g := (mkF m 98 #[.val (.ref a), .val (.int x), .val (.int y), .unset] [(.int ((Int32.ofNat i) + (1 : Int32))), (.ref a)])) rfl rfl (hb hby d5_98)
  have E_a := E_a.wr W11
  have F_sources_a := F_sources_a.other W11 (Or.inr (slot_ne (Or.inl (hw _ (List.mem_of_getElem? (i := 11) rfl))) (Or.inl (hw _ (List.mem_of_getElem? (i := 20) rfl))) (by decide) (t := (.array .int)) (t' := .int) (by decide) (by decide)))
  have F_targets_a := F_targets_a.other W11 (Or.inr (slot_ne (Or.inl (hw _ (List.mem_of_getElem? (i := 13) rfl))) (Or.inl (hw _ (List.mem_of_getElem? (i := 20) rfl))) (by decide) (t := (.array .int)) (t' := .int) (by decide) (by decide)))
  have F_count_a := F_count_a.same W11
  have V_sa := V_sa.other W11 (Ne.symm ne_a_sa)
  have V_ta := V_ta.other W11 (Ne.symm ne_a_ta)
  have K := K.wr W11 (Or.inl (List.mem_of_getElem? (i := 0) rfl))
  have Zs := Nat.le_trans Zs (Keep.of_wr W11).1
  have N := Fr.snoc X11 N g_a
  refine OwnGo.fwd st11 ?_
  show OwnGo _ _ _ _ (T11.setTop (mkF m 101 #[.val (.ref a), .val (.int x), .val (.int y), .unset] []))
  exact own_retV X11 hlk hx Bd.returns (hb hby d5_101) (by decide) (by decide) e11 ⟨rfl, N, K, E_a, F_sources_a, F_targets_a, (own_ofNatS i) ▸ F_count_a, V_sa, V_ta, ne_a_sa, ne_a_ta, ne_sa_ta, g_a, g_sa, g_ta⟩
theorem d3_0 : decode prog_1_method_6_code 0 = .ok (.iconst 0, 1) := by decide +kernel
theorem d3_1 : decode prog_1_method_6_code 1 = .ok (.istore_n 2, 1) := by decide +kernel
theorem d3_2 : decode prog_1_method_6_code 2 = .ok (.iload_n 2, 1) := by decide +kernel
theorem d3_3 : decode prog_1_method_6_code 3 = .ok (.aload_n 0, 1) := by decide +kernel
theorem d3_4 : decode prog_1_method_6_code 4 = .ok (.getfield 16, 3) := by decide +kernel
theorem d3_7 : decode prog_1_method_6_code 7 = .ok (.if_icmp .ge 37, 3) := by decide +kernel
theorem d3_10 : decode prog_1_method_6_code 10 = .ok (.aload_n 0, 1) := by decide +kernel
theorem d3_11 : decode prog_1_method_6_code 11 = .ok (.getfield 7, 3) := by decide +kernel
theorem d3_14 : decode prog_1_method_6_code 14 = .ok (.iload_n 2, 1) := by decide +kernel
theorem d3_15 : decode prog_1_method_6_code 15 = .ok (.aload_n 1, 1) := by decide +kernel
theorem d3_16 : decode prog_1_method_6_code 16 = .ok (.aload_n 0, 1) := by decide +kernel
theorem d3_17 : decode prog_1_method_6_code 17 = .ok (.getfield 7, 3) := by decide +kernel
theorem d3_20 : decode prog_1_method_6_code 20 = .ok (.iload_n 2, 1) := by decide +kernel
theorem d3_21 : decode prog_1_method_6_code 21 = .ok (.iaload, 1) := by decide +kernel
theorem d3_22 : decode prog_1_method_6_code 22 = .ok (.iaload, 1) := by decide +kernel
theorem d3_23 : decode prog_1_method_6_code 23 = .ok (.iastore, 1) := by decide +kernel
theorem d3_24 : decode prog_1_method_6_code 24 = .ok (.aload_n 0, 1) := by decide +kernel
theorem d3_25 : decode prog_1_method_6_code 25 = .ok (.getfield 13, 3) := by decide +kernel
theorem d3_28 : decode prog_1_method_6_code 28 = .ok (.iload_n 2, 1) := by decide +kernel
theorem d3_29 : decode prog_1_method_6_code 29 = .ok (.aload_n 1, 1) := by decide +kernel
theorem d3_30 : decode prog_1_method_6_code 30 = .ok (.aload_n 0, 1) := by decide +kernel
theorem d3_31 : decode prog_1_method_6_code 31 = .ok (.getfield 13, 3) := by decide +kernel
theorem d3_34 : decode prog_1_method_6_code 34 = .ok (.iload_n 2, 1) := by decide +kernel
theorem d3_35 : decode prog_1_method_6_code 35 = .ok (.iaload, 1) := by decide +kernel
theorem d3_36 : decode prog_1_method_6_code 36 = .ok (.iaload, 1) := by decide +kernel
theorem d3_37 : decode prog_1_method_6_code 37 = .ok (.iastore, 1) := by decide +kernel
theorem d3_38 : decode prog_1_method_6_code 38 = .ok (.iinc 2 1, 3) := by decide +kernel
theorem d3_41 : decode prog_1_method_6_code 41 = .ok (.goto (-39), 3) := by decide +kernel
theorem d3_44 : decode prog_1_method_6_code 44 = .ok (.return_, 1) := by decide +kernel
theorem pn_3 : plainName "com/example/ctl_checker/ctlchecker/Arcs" = true := by first | (simp [plainName, overriddenIn]; done) | decide +kernel
theorem ef_3c0 (m : MethodId) (x0 : Addr) (x1 : Addr) : entryFrame m #[(.ref x0), (.ref x1)] 3 = mkF m 0 #[.val (.ref x0), .val (.ref x1), .unset] [] := by first | (simp [entryFrame, mkF, argsToLocals, Value.category, maxLocals]; done) | rfl
def Q3c0 (Z : State) (a : Addr) (sa : Addr) (ta : Addr) (f : Nat → Int32) (g : Nat → Int32) (mp : Addr) (u : Nat → Int32) (h0 : Heap) (n0 : Nat) (v : Option Value) (h : Heap) (L : List Loc) : Prop := v = none ∧ Fr n0 L ∧ Keep h0 h [sa, ta] ∧ own_A Z h n0 a sa ta 0 f g
set_option maxRecDepth 65536 in
set_option maxHeartbeats 40000000 in
theorem rm3c0 (l : Launch) (Z : State) (a0 : Array Value) (hw : ∀ d ∈ tables_1, d.before a0 Z = true) (ws : List Jvm.Cond) (a : Addr) (sa : Addr) (ta : Addr) (f : Nat → Int32) (g : Nat → Int32) (mp : Addr) (u : Nat → Int32) (h0 : Heap) (n0 : Nat) (Z0 : n0 ≤ h0.size) (HA : own_A Z h0 n0 a sa ta 0 f g) (V_mp : OwnIA Z h0 mp 4 u) (ne_mp_sa : mp ≠ sa) (ne_mp_ta : mp ≠ ta) :
    MetFree l (⟨"com/example/ctl_checker/ctlchecker/Arcs", "renumber", "([I)V"⟩ : MethodName) (head1 (Jvm.Cond.code (⟨"com/example/ctl_checker/ctlchecker/Arcs", "renumber", "([I)V"⟩ : MethodName) prog_1_method_6_code 3 none :: ws) ({ frames := 0, cells := 0, slots := 0, locals := 0 } : Room)) (fun arr' U => arr' = #[(.ref a), (.ref mp)] ∧ Z.Warmed39 U.vm ∧ U.heap = h0) (fun _ _ _ _ _ => True) (fun _ U o U' => ∃ v L, o = .returned v ∧ (Q3c0 Z a sa ta f g mp u h0 n0) v U'.heap L ∧ FrameEnd U o U' L ({ frames := 0, cells := 0, slots := 0, locals := 0 } : Room).cells ({ frames := 0, cells := 0, slots := 0, locals := 0 } : Room).slots) := by
  refine MetFree.of_bodySF (plainFor_of_name pn_3) hisR ?_
  intro p e s m args below meth c s₁ Bd hml0 hP hK
  obtain ⟨rfl, hZ, hh⟩ := hP
  have hx := Bd.exec
  have hby := Bd.bytes
  have hlk : meth.locks = false := BodyLoose.notSynchronized Bd
  have hml : c.maxLocals = 3 := hml0
  have hown : s.vm.findClass "com/example/ctl_checker/ctlchecker/Arcs" = some m.cls := findClass_of_methodNamed Bd.named
  have hnm := (name_of_methodNamed Bd.named Bd.method).1
  have X0 : Stand p l e ({ frames := 0, cells := 0, slots := 0, locals := 0 } : Room) s m #[(.ref a), (.ref mp)] below meth c s₁ [] 0 0 := Stand.of_body Bd
  have e0 : s₁.heap = h0 := by rw [← hh, Bd.state]; rfl
  have N := Fr.nil n0
  have Zs := Z0
  change OwnGo p.tables e below (OwnEnd s (Q3c0 Z a sa ta f g mp u h0 n0) ({ frames := 0, cells := 0, slots := 0, locals := 0 } : Room).cells ({ frames := 0, cells := 0, slots := 0, locals := 0 } : Room).slots) _
  refine OwnGo.fwd (fun tq' kq' => castTop (ef_3c0 m a mp) kq') ?_
  show OwnGo _ _ _ _ (s₁.setTop (mkF m 0 #[.val (.ref a), .val (.ref mp), .unset] []))
  obtain ⟨E_a, F_sources_a, F_targets_a, F_count_a, V_sa, V_ta, ne_a_sa, ne_a_ta, ne_sa_ta, g_a, g_sa, g_ta⟩ := HA
  have K : Keep h0 h0 [sa, ta] := Keep.refl _ _
  refine OwnGo.fwd (fun tq' kq' => XS.iconst X0.here hx rfl (hb hby d3_0) kq') ?_
  show OwnGo _ _ _ _ (s₁.setTop (mkF m 1 #[.val (.ref a), .val (.ref mp), .unset] [(.int (0 : Int32))]))
  refine OwnGo.fwd (fun tq' kq' => XS.istoreN X0.here hx rfl (hb hby d3_1) rfl (l' := #[.val (.ref a), .val (.ref mp), .val (.int (0 : Int32))]) rfl kq') ?_
  show OwnGo _ _ _ _ (s₁.setTop (mkF m 2 #[.val (.ref a), .val (.ref mp), .val (.int (0 : Int32))] []))
  refine OwnGo.fwd (fun tq' kq' => XS.iloadN X0.here hx rfl (hb hby d3_2) rfl kq') ?_
  show OwnGo _ _ _ _ (s₁.setTop (mkF m 3 #[.val (.ref a), .val (.ref mp), .val (.int (0 : Int32))] [(.int (0 : Int32))]))
  refine OwnGo.fwd (fun tq' kq' => XS.aloadN X0.here hx rfl (hb hby d3_3) rfl rfl kq') ?_
  show OwnGo _ _ _ _ (s₁.setTop (mkF m 4 #[.val (.ref a), .val (.ref mp), .val (.int (0 : Int32))] [(.ref a), (.int (0 : Int32))]))
  obtain ⟨T1, X1, e1, st1⟩ := getF X0 hx hZ hown (host := "") (Or.inl (hw _ (List.mem_of_getElem? (i := 19) rfl))) Via.refl e0 F_count_a (g := (mkF m 4 #[.val (.ref a), .val (.ref mp), .val (.int (0 : Int32))] [(.ref a), (.int (0 : Int32))])) rfl rfl (hb hby d3_4)
  refine OwnGo.fwd st1 ?_
  show OwnGo _ _ _ _ (T1.setTop (mkF m 7 #[.val (.ref a), .val (.ref mp), .val (.int (0 : Int32))] [(.int (Int32.ofNat 0)), (.int (0 : Int32))]))
  have hc7_2 : ¬ ((0 : Int) < (0 : Int)) := by decide
  refine OwnGo.fwd (fun tq' kq' => XS.icmpYes X1.here hx rfl (pc0 := 7) (pc' := 44) rfl (hb hby d3_7) rfl (own_bnlt (by decide) (by decide) hc7_2).2.1 (by decide) (by decide) kq') ?_
  show OwnGo _ _ _ _ (T1.setTop (mkF m 44 #[.val (.ref a), .val (.ref mp), .val (.int (0 : Int32))] []))
  exact own_retV X1 hlk hx Bd.returns (hb hby d3_44) (by decide) (by decide) e1 ⟨rfl, N, K, ⟨E_a, F_sources_a, F_targets_a, F_count_a, V_sa, V_ta, ne_a_sa, ne_a_ta, ne_sa_ta, g_a, g_sa, g_ta⟩⟩
theorem ef_3c1 (m : MethodId) (x0 : Addr) (x1 : Addr) : entryFrame m #[(.ref x0), (.ref x1)] 3 = mkF m 0 #[.val (.ref x0), .val (.ref x1), .unset] [] := by first | (simp [entryFrame, mkF, argsToLocals, Value.category, maxLocals]; done) | rfl
def Q3c1 (Z : State) (a : Addr) (sa : Addr) (ta : Addr) (f : Nat → Int32) (g : Nat → Int32) (mp : Addr) (u : Nat → Int32) (i0 : Nat) (j0 : Nat) (h0 : Heap) (n0 : Nat) (v : Option Value) (h : Heap) (L : List Loc) : Prop := v = none ∧ Fr n0 L ∧ Keep h0 h [sa, ta] ∧ own_A Z h n0 a sa ta 1 (fun k => if k = 0 then (u i0) else f k) (fun k => if k = 0 then (u j0) else g k)
set_option maxRecDepth 65536 in
set_option maxHeartbeats 40000000 in
theorem rm3c1 (l : Launch) (Z : State) (a0 : Array Value) (hw : ∀ d ∈ tables_1, d.before a0 Z = true) (ws : List Jvm.Cond) (a : Addr) (sa : Addr) (ta : Addr) (f : Nat → Int32) (g : Nat → Int32) (mp : Addr) (u : Nat → Int32) (i0 : Nat) (j0 : Nat) (h0 : Heap) (n0 : Nat) (Z0 : n0 ≤ h0.size) (HA : own_A Z h0 n0 a sa ta 1 f g) (V_mp : OwnIA Z h0 mp 4 u) (ne_mp_sa : mp ≠ sa) (ne_mp_ta : mp ≠ ta) (hf0 : (f 0).toInt = (i0 : Int)) (hi0 : i0 < 4) (hg0 : (g 0).toInt = (j0 : Int)) (hj0 : j0 < 4) :
    MetFree l (⟨"com/example/ctl_checker/ctlchecker/Arcs", "renumber", "([I)V"⟩ : MethodName) (head1 (Jvm.Cond.code (⟨"com/example/ctl_checker/ctlchecker/Arcs", "renumber", "([I)V"⟩ : MethodName) prog_1_method_6_code 3 none :: ws) ({ frames := 0, cells := 0, slots := 0, locals := 0 } : Room)) (fun arr' U => arr' = #[(.ref a), (.ref mp)] ∧ Z.Warmed39 U.vm ∧ U.heap = h0) (fun _ _ _ _ _ => True) (fun _ U o U' => ∃ v L, o = .returned v ∧ (Q3c1 Z a sa ta f g mp u i0 j0 h0 n0) v U'.heap L ∧ FrameEnd U o U' L ({ frames := 0, cells := 0, slots := 0, locals := 0 } : Room).cells ({ frames := 0, cells := 0, slots := 0, locals := 0 } : Room).slots) := by
  refine MetFree.of_bodySF (plainFor_of_name pn_3) hisR ?_
  intro p e s m args below meth c s₁ Bd hml0 hP hK
  obtain ⟨rfl, hZ, hh⟩ := hP
  have hx := Bd.exec
  have hby := Bd.bytes
  have hlk : meth.locks = false := BodyLoose.notSynchronized Bd
  have hml : c.maxLocals = 3 := hml0
  have hown : s.vm.findClass "com/example/ctl_checker/ctlchecker/Arcs" = some m.cls := findClass_of_methodNamed Bd.named
  have hnm := (name_of_methodNamed Bd.named Bd.method).1
  have X0 : Stand p l e ({ frames := 0, cells := 0, slots := 0, locals := 0 } : Room) s m #[(.ref a), (.ref mp)] below meth c s₁ [] 0 0 := Stand.of_body Bd
  have e0 : s₁.heap = h0 := by rw [← hh, Bd.state]; rfl
  have N := Fr.nil n0
  have Zs := Z0
  change OwnGo p.tables e below (OwnEnd s (Q3c1 Z a sa ta f g mp u i0 j0 h0 n0) ({ frames := 0, cells := 0, slots := 0, locals := 0 } : Room).cells ({ frames := 0, cells := 0, slots := 0, locals := 0 } : Room).slots) _
  refine OwnGo.fwd (fun tq' kq' => castTop (ef_3c1 m a mp) kq') ?_
  show OwnGo _ _ _ _ (s₁.setTop (mkF m 0 #[.val (.ref a), .val (.ref mp), .unset] []))
  obtain ⟨E_a, F_sources_a, F_targets_a, F_count_a, V_sa, V_ta, ne_a_sa, ne_a_ta, ne_sa_ta, g_a, g_sa, g_ta⟩ := HA
  have K : Keep h0 h0 [sa, ta] := Keep.refl _ _
  refine OwnGo.fwd (fun tq' kq' => XS.iconst X0.here hx rfl (hb hby d3_0) kq') ?_
  show OwnGo _ _ _ _ (s₁.setTop (mkF m 1 #[.val (.ref a), .val (.ref mp), .unset] [(.int (0 : Int32))]))
  refine OwnGo.fwd (fun tq' kq' => XS.istoreN X0.here hx rfl (hb hby d3_1) rfl (l' := #[.val (.ref a), .val (.ref mp), .val (.int (0 : Int32))]) rfl kq') ?_
  show OwnGo _ _ _ _ (s₁.setTop (mkF m 2 #[.val (.ref a), .val (.ref mp), .val (.int (0 : Int32))] []))
  refine OwnGo.fwd (fun tq' kq' => XS.iloadN X0.here hx rfl (hb hby d3_2) rfl kq') ?_
  show OwnGo _ _ _ _ (s₁.setTop (mkF m 3 #[.val (.ref a), .val (.ref mp), .val (.int (0 : Int32))] [(.int (0 : Int32))]))
  refine OwnGo.fwd (fun tq' kq' => XS.aloadN X0.here hx rfl (hb hby d3_3) rfl rfl kq') ?_
  show OwnGo _ _ _ _ (s₁.setTop (mkF m 4 #[.val (.ref a), .val (.ref mp), .val (.int (0 : Int32))] [(.ref a), (.int (0 : Int32))]))
  obtain ⟨T1, X1, e1, st1⟩ := getF X0 hx hZ hown (host := "") (Or.inl (hw _ (List.mem_of_getElem? (i := 19) rfl))) Via.refl e0 F_count_a (g := (mkF m 4 #[.val (.ref a), .val (.ref mp), .val (.int (0 : Int32))] [(.ref a), (.int (0 : Int32))])) rfl rfl (hb hby d3_4)
  refine OwnGo.fwd st1 ?_
  show OwnGo _ _ _ _ (T1.setTop (mkF m 7 #[.val (.ref a), .val (.ref mp), .val (.int (0 : Int32))] [(.int (Int32.ofNat 1)), (.int (0 : Int32))]))
  have hc7_2 : (0 : Int) < (1 : Int) := by decide
  refine OwnGo.fwd (fun tq' kq' => XS.icmpNo X1.here hx rfl (hb hby d3_7) rfl (own_blt (by decide) (by decide) hc7_2).2.1 kq') ?_
  show OwnGo _ _ _ _ (T1.setTop (mkF m 10 #[.val (.ref a), .val (.ref mp), .val (.int (0 : Int32))] []))
  refine OwnGo.fwd (fun tq' kq' => XS.aloadN X1.here hx rfl (hb hby d3_10) rfl rfl kq') ?_
  show OwnGo _ _ _ _ (T1.setTop (mkF m 11 #[.val (.ref a), .val (.ref mp), .val (.int (0 : Int32))] [(.ref a)]))
  obtain ⟨T3, X3, e3, st3⟩ := getF X1 hx hZ hown (host := "") (Or.inl (hw _ (List.mem_of_getElem? (i := 10) rfl))) Via.refl e1 F_sources_a (g := (mkF m 11 #[.val (.ref a), .val (.ref mp), .val (.int (0 : Int32))] [(.ref a)])) rfl rfl (hb hby d3_11)
  refine OwnGo.fwd st3 ?_
  show OwnGo _ _ _ _ (T3.setTop (mkF m 14 #[.val (.ref a), .val (.ref mp), .val (.int (0 : Int32))] [(.ref sa)]))
  refine OwnGo.fwd (fun tq' kq' => XS.iloadN X3.here hx rfl (hb hby d3_14) rfl kq') ?_
  show OwnGo _ _ _ _ (T3.setTop (mkF m 15 #[.val (.ref a), .val (.ref mp), .val (.int (0 : Int32))] [(.int (0 : Int32)), (.ref sa)]))
  refine OwnGo.fwd (fun tq' kq' => XS.aloadN X3.here hx rfl (hb hby d3_15) rfl rfl kq') ?_
  show OwnGo _ _ _ _ (T3.setTop (mkF m 16 #[.val (.ref a), .val (.ref mp), .val (.int (0 : Int32))] [(.ref mp), (.int (0 : Int32)), (.ref sa)]))
  refine OwnGo.fwd (fun tq' kq' => XS.aloadN X3.here hx rfl (hb hby d3_16) rfl rfl kq') ?_
  show OwnGo _ _ _ _ (T3.setTop (mkF m 17 #[.val (.ref a), .val (.ref mp), .val (.int (0 : Int32))] [(.ref a), (.ref mp), (.int (0 : Int32)), (.ref sa)]))
  obtain ⟨T4, X4, e4, st4⟩ := getF X3 hx hZ hown (host := "") (Or.inl (hw _ (List.mem_of_getElem? (i := 10) rfl))) Via.refl e3 F_sources_a (g := (mkF m 17 #[.val (.ref a), .val (.ref mp), .val (.int (0 : Int32))] [(.ref a), (.ref mp), (.int (0 : Int32)), (.ref sa)])) rfl rfl (hb hby d3_17)
  refine OwnGo.fwd st4 ?_
  show OwnGo _ _ _ _ (T4.setTop (mkF m 20 #[.val (.ref a), .val (.ref mp), .val (.int (0 : Int32))] [(.ref sa), (.ref mp), (.int (0 : Int32)), (.ref sa)]))
  refine OwnGo.fwd (fun tq' kq' => XS.iloadN X4.here hx rfl (hb hby d3_20) rfl kq') ?_
  show OwnGo _ _ _ _ (T4.setTop (mkF m 21 #[.val (.ref a), .val (.ref mp), .val (.int (0 : Int32))] [(.int (0 : Int32)), (.ref sa), (.ref mp), (.int (0 : Int32)), (.ref sa)]))
  refine OwnGo.fwd (fun tq' kq' => own_iaload X4 hx hZ e4 V_sa (i := 0) (by decide) (by decide) (g := (mkF m 21 #[.val (.ref a), .val (.ref mp), .val (.int (0 : Int32))] [(.int (0 : Int32)), (.ref sa), (.ref mp), (.int (0 : Int32)), (.ref sa)])) rfl rfl (hb hby d3_21) tq' kq') ?_
  show OwnGo _ _ _ _ (T4.setTop (mkF m 22 #[.val (.ref a), .val (.ref mp), .val (.int (0 : Int32))] [(.int (f 0)), (.ref mp), (.int (0 : Int32)), (.ref sa)]))
  show OwnGo _ _ _ _ (T4.setTop (mkF m 22 #[.val (.ref a), .val (.ref mp), .val (.int (0 : Int32))] [(.int (f 0)), (.ref mp), (.int (0 : Int32)), (.ref sa)]))
  refine OwnGo.fwd (fun tq' kq' => own_iaload X4 hx hZ e4 V_mp (i := i0) hf0 hi0 (g := (mkF m 22 #[.val (.ref a), .val (.ref mp), .val (.int (0 : Int32))] [(.int (f 0)), (.ref mp), (.int (0 : Int32)), (.ref sa)])) rfl rfl (hb hby d3_22) tq' kq') ?_
  show OwnGo _ _ _ _ (T4.setTop (mkF m 23 #[.val (.ref a), .val (.ref mp), .val (.int (0 : Int32))] [(.int (u i0)), (.int (0 : Int32)), (.ref sa)]))
  obtain ⟨T5, h5, X5, e5, W5, V5, st5⟩ := own_iastore X4 hx hZ e4 V_sa (i := 0) (by decide) (by decide) (g := (mkF m 23 #[.val (.ref a), .val (.ref mp), .val (.int (0 : Int32))] [(.int (u i0)), (.int (0 : Int32)), (.ref sa)])) rfl rfl (hb hby d3_23)
  have E_a := E_a.wr W5
  have F_sources_a := F_sources_a.other W5 (Or.inl ne_a_sa)
  have F_targets_a := F_targets_a.other W5 (Or.inl ne_a_sa)
  have F_count_a := F_count_a.other W5 (Or.inl ne_a_sa)
  have V_ta := V_ta.other W5 (Ne.symm ne_sa_ta)
  have V_mp := V_mp.other W5 ne_mp_sa
  have K := K.wr W5 (Or.inl (List.mem_of_getElem? (i := 0) rfl))
  have Zs := Nat.le_trans Zs (Keep.of_wr W5).1
  have N := Fr.snoc X5 N g_sa
  have V_sa := V5
  refine OwnGo.fwd st5 ?_
  show OwnGo _ _ _ _ (T5.setTop (mkF m 24 #[.val (.ref a), .val (.ref mp), .val (.int (0 : Int32))] []))
  refine OwnGo.fwd (fun tq' kq' => XS.aloadN X5.here hx rfl (hb hby d3_24) rfl rfl kq') ?_
  show OwnGo _ _ _ _ (T5.setTop (mkF m 25 #[.val (.ref a), .val (.ref mp), .val (.int (0 : Int32))] [(.ref a)]))
  obtain ⟨T6, X6, e6, st6⟩ := getF X5 hx hZ hown (host := "") (Or.inl (hw _ (List.mem_of_getElem? (i := 12) rfl))) Via.refl e5 F_targets_a (g := (mkF m 25 #[.val (.ref a), .val (.ref mp), .val (.int (0 : Int32))] [(.ref a)])) rfl rfl (hb hby d3_25)
  refine OwnGo.fwd st6 ?_
  show OwnGo _ _ _ _ (T6.setTop (mkF m 28 #[.val (.ref a), .val (.ref mp), .val (.int (0 : Int32))] [(.ref ta)]))
  refine OwnGo.fwd (fun tq' kq' => XS.iloadN X6.here hx rfl (hb hby d3_28) rfl kq') ?_
  show OwnGo _ _ _ _ (T6.setTop (mkF m 29 #[.val (.ref a), .val (.ref mp), .val (.int (0 : Int32))] [(.int (0 : Int32)), (.ref ta)]))
  refine OwnGo.fwd (fun tq' kq' => XS.aloadN X6.here hx rfl (hb hby d3_29) rfl rfl kq') ?_
  show OwnGo _ _ _ _ (T6.setTop (mkF m 30 #[.val (.ref a), .val (.ref mp), .val (.int (0 : Int32))] [(.ref mp), (.int (0 : Int32)), (.ref ta)]))
  refine OwnGo.fwd (fun tq' kq' => XS.aloadN X6.here hx rfl (hb hby d3_30) rfl rfl kq') ?_
  show OwnGo _ _ _ _ (T6.setTop (mkF m 31 #[.val (.ref a), .val (.ref mp), .val (.int (0 : Int32))] [(.ref a), (.ref mp), (.int (0 : Int32)), (.ref ta)]))
  obtain ⟨T7, X7, e7, st7⟩ := getF X6 hx hZ hown (host := "") (Or.inl (hw _ (List.mem_of_getElem? (i := 12) rfl))) Via.refl e6 F_targets_a (g := (mkF m 31 #[.val (.ref a), .val (.ref mp), .val (.int (0 : Int32))] [(.ref a), (.ref mp), (.int (0 : Int32)), (.ref ta)])) rfl rfl (hb hby d3_31)
  refine OwnGo.fwd st7 ?_
  show OwnGo _ _ _ _ (T7.setTop (mkF m 34 #[.val (.ref a), .val (.ref mp), .val (.int (0 : Int32))] [(.ref ta), (.ref mp), (.int (0 : Int32)), (.ref ta)]))
  refine OwnGo.fwd (fun tq' kq' => XS.iloadN X7.here hx rfl (hb hby d3_34) rfl kq') ?_
  show OwnGo _ _ _ _ (T7.setTop (mkF m 35 #[.val (.ref a), .val (.ref mp), .val (.int (0 : Int32))] [(.int (0 : Int32)), (.ref ta), (.ref mp), (.int (0 : Int32)), (.ref ta)]))
  refine OwnGo.fwd (fun tq' kq' => own_iaload X7 hx hZ e7 V_ta (i := 0) (by decide) (by decide) (g := (mkF m 35 #[.val (.ref a), .val (.ref mp), .val (.int (0 : Int32))] [(.int (0 : Int32)), (.ref ta), (.ref mp), (.int (0 : Int32)), (.ref ta)])) rfl rfl (hb hby d3_35) tq' kq') ?_
  show OwnGo _ _ _ _ (T7.setTop (mkF m 36 #[.val (.ref a), .val (.ref mp), .val (.int (0 : Int32))] [(.int (g 0)), (.ref mp), (.int (0 : Int32)), (.ref ta)]))
  show OwnGo _ _ _ _ (T7.setTop (mkF m 36 #[.val (.ref a), .val (.ref mp), .val (.int (0 : Int32))] [(.int (g 0)), (.ref mp), (.int (0 : Int32)), (.ref ta)]))
  refine OwnGo.fwd (fun tq' kq' => own_iaload X7 hx hZ e7 V_mp (i := j0) hg0 hj0 (g := (mkF m 36 #[.val (.ref a), .val (.ref mp), .val (.int (0 : Int32))] [(.int (g 0)), (.ref mp), (.int (0 : Int32)), (.ref ta)])) rfl rfl (hb hby d3_36) tq' kq') ?_
  show OwnGo _ _ _ _ (T7.setTop (mkF m 37 #[.val (.ref a), .val (.ref mp), .val (.int (0 : Int32))] [(.int (u j0)), (.int (0 : Int32)), (.ref ta)]))
  obtain ⟨T8, h8, X8, e8, W8, V8, st8⟩ := own_iastore X7 hx hZ e7 V_ta (i := 0) (by decide) (by decide) (g := (mkF m 37 #[.val (.ref a), .val (.ref mp), .val (.int (0 : Int32))] [(.int (u j0)), (.int (0 : Int32)), (.ref ta)])) rfl rfl (hb hby d3_37)
  have E_a := E_a.wr W8
  have F_sources_a := F_sources_a.other W8 (Or.inl ne_a_ta)
  have F_targets_a := F_targets_a.other W8 (Or.inl ne_a_ta)
  have F_count_a := F_count_a.other W8 (Or.inl ne_a_ta)
  have V_mp := V_mp.other W8 ne_mp_ta
  have V_sa := V_sa.other W8 ne_sa_ta
  have K := K.wr W8 (Or.inl (List.mem_of_getElem? (i := 1) rfl))
  have Zs := Nat.le_trans Zs (Keep.of_wr W8).1
  have N := Fr.snoc X8 N g_ta
  have V_ta := V8
  refine OwnGo.fwd st8 ?_
  show OwnGo _ _ _ _ (T8.setTop (mkF m 38 #[.val (.ref a), .val (.ref mp), .val (.int (0 : Int32))] []))
  refine OwnGo.fwd (fun tq' kq' => XS.iinc X8.here hx rfl (hb hby d3_38) rfl (l' := #[.val (.ref a), .val (.ref mp), .val (.int (1 : Int32))]) rfl kq') ?_
  show OwnGo _ _ _ _ (T8.setTop (mkF m 41 #[.val (.ref a), .val (.ref mp), .val (.int (1 : Int32))] []))
  refine OwnGo.fwd (fun tq' kq' => XS.goto X8.here hx rfl (pc0 := 41) (pc' := 2) rfl (hb hby d3_41) (by decide) (by decide) kq') ?_
  show OwnGo _ _ _ _ (T8.setTop (mkF m 2 #[.val (.ref a), .val (.ref mp), .val (.int (1 : Int32))] []))
  refine OwnGo.fwd (fun tq' kq' => XS.iloadN X8.here hx rfl (hb hby d3_2) rfl kq') ?_
  show OwnGo _ _ _ _ (T8.setTop (mkF m 3 #[.val (.ref a), .val (.ref mp), .val (.int (1 : Int32))] [(.int (1 : Int32))]))
  refine OwnGo.fwd (fun tq' kq' => XS.aloadN X8.here hx rfl (hb hby d3_3) rfl rfl kq') ?_
  show OwnGo _ _ _ _ (T8.setTop (mkF m 4 #[.val (.ref a), .val (.ref mp), .val (.int (1 : Int32))] [(.ref a), (.int (1 : Int32))]))
  obtain ⟨T9, X9, e9, st9⟩ := getF X8 hx hZ hown (host := "") (Or.inl (hw _ (List.mem_of_getElem? (i := 19) rfl))) Via.refl e8 F_count_a (g := (mkF m 4 #[.val (.ref a), .val (.ref mp), .val (.int (1 : Int32))] [(.ref a), (.int (1 : Int32))])) rfl rfl (hb hby d3_4)
  refine OwnGo.fwd st9 ?_
  show OwnGo _ _ _ _ (T9.setTop (mkF m 7 #[.val (.ref a), .val (.ref mp), .val (.int (1 : Int32))] [(.int (Int32.ofNat 1)), (.int (1 : Int32))]))
  have hc7_10 : ¬ ((1 : Int) < (1 : Int)) := by decide
  refine OwnGo.fwd (fun tq' kq' => XS.icmpYes X9.here hx rfl (pc0 := 7) (pc' := 44) rfl (hb hby d3_7) rfl (own_bnlt (by decide) (by decide) hc7_10).2.1 (by decide) (by decide) kq') ?_
  show OwnGo _ _ _ _ (T9.setTop (mkF m 44 #[.val (.ref a), .val (.ref mp), .val (.int (1 : Int32))] []))
  exact own_retV X9 hlk hx Bd.returns (hb hby d3_44) (by decide) (by decide) e9 ⟨rfl, N, K, ⟨E_a, F_sources_a, F_targets_a, F_count_a, V_sa, V_ta, ne_a_sa, ne_a_ta, ne_sa_ta, g_a, g_sa, g_ta⟩⟩
theorem ef_3c2 (m : MethodId) (x0 : Addr) (x1 : Addr) : entryFrame m #[(.ref x0), (.ref x1)] 3 = mkF m 0 #[.val (.ref x0), .val (.ref x1), .unset] [] := by first | (simp [entryFrame, mkF, argsToLocals, Value.category, maxLocals]; done) | rfl
def Q3c2 (Z : State) (a : Addr) (sa : Addr) (ta : Addr) (f : Nat → Int32) (g : Nat → Int32) (mp : Addr) (u : Nat → Int32) (i0 : Nat) (i1 : Nat) (j0 : Nat) (j1 : Nat) (h0 : Heap) (n0 : Nat) (v : Option Value) (h : Heap) (L : List Loc) : Prop := v = none ∧ Fr n0 L ∧ Keep h0 h [sa, ta] ∧ own_A Z h n0 a sa ta 2 (fun k => if k = 1 then (u i1) else (fun k => if k = 0 then (u i0) else f k) k) (fun k => if k = 1 then (u j1) else (fun k => if k = 0 then (u j0) else g k) k)
set_option maxRecDepth 65536 in
set_option maxHeartbeats 40000000 in
theorem rm3c2 (l : Launch) (Z : State) (a0 : Array Value) (hw : ∀ d ∈ tables_1, d.before a0 Z = true) (ws : List Jvm.Cond) (a : Addr) (sa : Addr) (ta : Addr) (f : Nat → Int32) (g : Nat → Int32) (mp : Addr) (u : Nat → Int32) (i0 : Nat) (i1 : Nat) (j0 : Nat) (j1 : Nat) (h0 : Heap) (n0 : Nat) (Z0 : n0 ≤ h0.size) (HA : own_A Z h0 n0 a sa ta 2 f g) (V_mp : OwnIA Z h0 mp 4 u) (ne_mp_sa : mp ≠ sa) (ne_mp_ta : mp ≠ ta) (hf0 : (f 0).toInt = (i0 : Int)) (hi0 : i0 < 4) (hg0 : (g 0).toInt = (j0 : Int)) (hj0 : j0 < 4) (hf1 : (f 1).toInt = (i1 : Int)) (hi1 : i1 < 4) (hg1 : (g 1).toInt = (j1 : Int)) (hj1 : j1 < 4) :
    MetFree l (⟨"com/example/ctl_checker/ctlchecker/Arcs", "renumber", "([I)V"⟩ : MethodName) (head1 (Jvm.Cond.code (⟨"com/example/ctl_checker/ctlchecker/Arcs", "renumber", "([I)V"⟩ : MethodName) prog_1_method_6_code 3 none :: ws) ({ frames := 0, cells := 0, slots := 0, locals := 0 } : Room)) (fun arr' U => arr' = #[(.ref a), (.ref mp)] ∧ Z.Warmed39 U.vm ∧ U.heap = h0) (fun _ _ _ _ _ => True) (fun _ U o U' => ∃ v L, o = .returned v ∧ (Q3c2 Z a sa ta f g mp u i0 i1 j0 j1 h0 n0) v U'.heap L ∧ FrameEnd U o U' L ({ frames := 0, cells := 0, slots := 0, locals := 0 } : Room).cells ({ frames := 0, cells := 0, slots := 0, locals := 0 } : Room).slots) := by
  refine MetFree.of_bodySF (plainFor_of_name pn_3) hisR ?_
  intro p e s m args below meth c s₁ Bd hml0 hP hK
  obtain ⟨rfl, hZ, hh⟩ := hP
  have hx := Bd.exec
  have hby := Bd.bytes
  have hlk : meth.locks = false := BodyLoose.notSynchronized Bd
  have hml : c.maxLocals = 3 := hml0
  have hown : s.vm.findClass "com/example/ctl_checker/ctlchecker/Arcs" = some m.cls := findClass_of_methodNamed Bd.named
  have hnm := (name_of_methodNamed Bd.named Bd.method).1
  have X0 : Stand p l e ({ frames := 0, cells := 0, slots := 0, locals := 0 } : Room) s m #[(.ref a), (.ref mp)] below meth c s₁ [] 0 0 := Stand.of_body Bd
  have e0 : s₁.heap = h0 := by rw [← hh, Bd.state]; rfl
  have N := Fr.nil n0
  have Zs := Z0
  change OwnGo p.tables e below (OwnEnd s (Q3c2 Z a sa ta f g mp u i0 i1 j0 j1 h0 n0) ({ frames := 0, cells := 0, slots := 0, locals := 0 } : Room).cells ({ frames := 0, cells := 0, slots := 0, locals := 0 } : Room).slots) _
  refine OwnGo.fwd (fun tq' kq' => castTop (ef_3c2 m a mp) kq') ?_
  show OwnGo _ _ _ _ (s₁.setTop (mkF m 0 #[.val (.ref a), .val (.ref mp), .unset] []))
  obtain ⟨E_a, F_sources_a, F_targets_a, F_count_a, V_sa, V_ta, ne_a_sa, ne_a_ta, ne_sa_ta, g_a, g_sa, g_ta⟩ := HA
  have K : Keep h0 h0 [sa, ta] := Keep.refl _ _
  refine OwnGo.fwd (fun tq' kq' => XS.iconst X0.here hx rfl (hb hby d3_0) kq') ?_
  show OwnGo _ _ _ _ (s₁.setTop (mkF m 1 #[.val (.ref a), .val (.ref mp), .unset] [(.int (0 : Int32))]))
  refine OwnGo.fwd (fun tq' kq' => XS.istoreN X0.here hx rfl (hb hby d3_1) rfl (l' := #[.val (.ref a), .val (.ref mp), .val (.int (0 : Int32))]) rfl kq') ?_
  show OwnGo _ _ _ _ (s₁.setTop (mkF m 2 #[.val (.ref a), .val (.ref mp), .val (.int (0 : Int32))] []))
  refine OwnGo.fwd (fun tq' kq' => XS.iloadN X0.here hx rfl (hb hby d3_2) rfl kq') ?_
  show OwnGo _ _ _ _ (s₁.setTop (mkF m 3 #[.val (.ref a), .val (.ref mp), .val (.int (0 : Int32))] [(.int (0 : Int32))]))
  refine OwnGo.fwd (fun tq' kq' => XS.aloadN X0.here hx rfl (hb hby d3_3) rfl rfl kq') ?_
  show OwnGo _ _ _ _ (s₁.setTop (mkF m 4 #[.val (.ref a), .val (.ref mp), .val (.int (0 : Int32))] [(.ref a), (.int (0 : Int32))]))
  obtain ⟨T1, X1, e1, st1⟩ := getF X0 hx hZ hown (host := "") (Or.inl (hw _ (List.mem_of_getElem? (i := 19) rfl))) Via.refl e0 F_count_a (g := (mkF m 4 #[.val (.ref a), .val (.ref mp), .val (.int (0 : Int32))] [(.ref a), (.int (0 : Int32))])) rfl rfl (hb hby d3_4)
  refine OwnGo.fwd st1 ?_
  show OwnGo _ _ _ _ (T1.setTop (mkF m 7 #[.val (.ref a), .val (.ref mp), .val (.int (0 : Int32))] [(.int (Int32.ofNat 2)), (.int (0 : Int32))]))
  have hc7_2 : (0 : Int) < (2 : Int) := by decide
  refine OwnGo.fwd (fun tq' kq' => XS.icmpNo X1.here hx rfl (hb hby d3_7) rfl (own_blt (by decide) (by decide) hc7_2).2.1 kq') ?_
  show OwnGo _ _ _ _ (T1.setTop (mkF m 10 #[.val (.ref a), .val (.ref mp), .val (.int (0 : Int32))] []))
  refine OwnGo.fwd (fun tq' kq' => XS.aloadN X1.here hx rfl (hb hby d3_10) rfl rfl kq') ?_
  show OwnGo _ _ _ _ (T1.setTop (mkF m 11 #[.val (.ref a), .val (.ref mp), .val (.int (0 : Int32))] [(.ref a)]))
  obtain ⟨T3, X3, e3, st3⟩ := getF X1 hx hZ hown (host := "") (Or.inl (hw _ (List.mem_of_getElem? (i := 10) rfl))) Via.refl e1 F_sources_a (g := (mkF m 11 #[.val (.ref a), .val (.ref mp), .val (.int (0 : Int32))] [(.ref a)])) rfl rfl (hb hby d3_11)
  refine OwnGo.fwd st3 ?_
  show OwnGo _ _ _ _ (T3.setTop (mkF m 14 #[.val (.ref a), .val (.ref mp), .val (.int (0 : Int32))] [(.ref sa)]))
  refine OwnGo.fwd (fun tq' kq' => XS.iloadN X3.here hx rfl (hb hby d3_14) rfl kq') ?_
  show OwnGo _ _ _ _ (T3.setTop (mkF m 15 #[.val (.ref a), .val (.ref mp), .val (.int (0 : Int32))] [(.int (0 : Int32)), (.ref sa)]))
  refine OwnGo.fwd (fun tq' kq' => XS.aloadN X3.here hx rfl (hb hby d3_15) rfl rfl kq') ?_
  show OwnGo _ _ _ _ (T3.setTop (mkF m 16 #[.val (.ref a), .val (.ref mp), .val (.int (0 : Int32))] [(.ref mp), (.int (0 : Int32)), (.ref sa)]))
  refine OwnGo.fwd (fun tq' kq' => XS.aloadN X3.here hx rfl (hb hby d3_16) rfl rfl kq') ?_
  show OwnGo _ _ _ _ (T3.setTop (mkF m 17 #[.val (.ref a), .val (.ref mp), .val (.int (0 : Int32))] [(.ref a), (.ref mp), (.int (0 : Int32)), (.ref sa)]))
  obtain ⟨T4, X4, e4, st4⟩ := getF X3 hx hZ hown (host := "") (Or.inl (hw _ (List.mem_of_getElem? (i := 10) rfl))) Via.refl e3 F_sources_a (g := (mkF m 17 #[.val (.ref a), .val (.ref mp), .val (.int (0 : Int32))] [(.ref a), (.ref mp), (.int (0 : Int32)), (.ref sa)])) rfl rfl (hb hby d3_17)
  refine OwnGo.fwd st4 ?_
  show OwnGo _ _ _ _ (T4.setTop (mkF m 20 #[.val (.ref a), .val (.ref mp), .val (.int (0 : Int32))] [(.ref sa), (.ref mp), (.int (0 : Int32)), (.ref sa)]))
  refine OwnGo.fwd (fun tq' kq' => XS.iloadN X4.here hx rfl (hb hby d3_20) rfl kq') ?_
  show OwnGo _ _ _ _ (T4.setTop (mkF m 21 #[.val (.ref a), .val (.ref mp), .val (.int (0 : Int32))] [(.int (0 : Int32)), (.ref sa), (.ref mp), (.int (0 : Int32)), (.ref sa)]))
  refine OwnGo.fwd (fun tq' kq' => own_iaload X4 hx hZ e4 V_sa (i := 0) (by decide) (by decide) (g := (mkF m 21 #[.val (.ref a), .val (.ref mp), .val (.int (0 : Int32))] [(.int (0 : Int32)), (.ref sa), (.ref mp), (.int (0 : Int32)), (.ref sa)])) rfl rfl (hb hby d3_21) tq' kq') ?_
  show OwnGo _ _ _ _ (T4.setTop (mkF m 22 #[.val (.ref a), .val (.ref mp), .val (.int (0 : Int32))] [(.int (f 0)), (.ref mp), (.int (0 : Int32)), (.ref sa)]))
  show OwnGo _ _ _ _ (T4.setTop (mkF m 22 #[.val (.ref a), .val (.ref mp), .val (.int (0 : Int32))] [(.int (f 0)), (.ref mp), (.int (0 : Int32)), (.ref sa)]))
  refine OwnGo.fwd (fun tq' kq' => own_iaload X4 hx hZ e4 V_mp (i := i0) hf0 hi0 (g := (mkF m 22 #[.val (.ref a), .val (.ref mp), .val (.int (0 : Int32))] [(.int (f 0)), (.ref mp), (.int (0 : Int32)), (.ref sa)])) rfl rfl (hb hby d3_22) tq' kq') ?_
  show OwnGo _ _ _ _ (T4.setTop (mkF m 23 #[.val (.ref a), .val (.ref mp), .val (.int (0 : Int32))] [(.int (u i0)), (.int (0 : Int32)), (.ref sa)]))
  obtain ⟨T5, h5, X5, e5, W5, V5, st5⟩ := own_iastore X4 hx hZ e4 V_sa (i := 0) (by decide) (by decide) (g := (mkF m 23 #[.val (.ref a), .val (.ref mp), .val (.int (0 : Int32))] [(.int (u i0)), (.int (0 : Int32)), (.ref sa)])) rfl rfl (hb hby d3_23)
  have E_a := E_a.wr W5
  have F_sources_a := F_sources_a.other W5 (Or.inl ne_a_sa)
  have F_targets_a := F_targets_a.other W5 (Or.inl ne_a_sa)
  have F_count_a := F_count_a.other W5 (Or.inl ne_a_sa)
  have V_ta := V_ta.other W5 (Ne.symm ne_sa_ta)
  have V_mp := V_mp.other W5 ne_mp_sa
  have K := K.wr W5 (Or.inl (List.mem_of_getElem? (i := 0) rfl))
  have Zs := Nat.le_trans Zs (Keep.of_wr W5).1
  have N := Fr.snoc X5 N g_sa
  have V_sa := V5
  refine OwnGo.fwd st5 ?_
  show OwnGo _ _ _ _ (T5.setTop (mkF m 24 #[.val (.ref a), .val (.ref mp), .val (.int (0 : Int32))] []))
  refine OwnGo.fwd (fun tq' kq' => XS.aloadN X5.here hx rfl (hb hby d3_24) rfl rfl kq') ?_
  show OwnGo _ _ _ _ (T5.setTop (mkF m 25 #[.val (.ref a), .val (.ref mp), .val (.int (0 : Int32))] [(.ref a)]))
  obtain ⟨T6, X6, e6, st6⟩ := getF X5 hx hZ hown (host := "") (Or.inl (hw _ (List.mem_of_getElem? (i := 12) rfl))) Via.refl e5 F_targets_a (g := (mkF m 25 #[.val (.ref a), .val (.ref mp), .val (.int (0 : Int32))] [(.ref a)])) rfl rfl (hb hby d3_25)
  refine OwnGo.fwd st6 ?_
  show OwnGo _ _ _ _ (T6.setTop (mkF m 28 #[.val (.ref a), .val (.ref mp), .val (.int (0 : Int32))] [(.ref ta)]))
  refine OwnGo.fwd (fun tq' kq' => XS.iloadN X6.here hx rfl (hb hby d3_28) rfl kq') ?_
  show OwnGo _ _ _ _ (T6.setTop (mkF m 29 #[.val (.ref a), .val (.ref mp), .val (.int (0 : Int32))] [(.int (0 : Int32)), (.ref ta)]))
  refine OwnGo.fwd (fun tq' kq' => XS.aloadN X6.here hx rfl (hb hby d3_29) rfl rfl kq') ?_
  show OwnGo _ _ _ _ (T6.setTop (mkF m 30 #[.val (.ref a), .val (.ref mp), .val (.int (0 : Int32))] [(.ref mp), (.int (0 : Int32)), (.ref ta)]))
  refine OwnGo.fwd (fun tq' kq' => XS.aloadN X6.here hx rfl (hb hby d3_30) rfl rfl kq') ?_
  show OwnGo _ _ _ _ (T6.setTop (mkF m 31 #[.val (.ref a), .val (.ref mp), .val (.int (0 : Int32))] [(.ref a), (.ref mp), (.int (0 : Int32)), (.ref ta)]))
  obtain ⟨T7, X7, e7, st7⟩ := getF X6 hx hZ hown (host := "") (Or.inl (hw _ (List.mem_of_getElem? (i := 12) rfl))) Via.refl e6 F_targets_a (g := (mkF m 31 #[.val (.ref a), .val (.ref mp), .val (.int (0 : Int32))] [(.ref a), (.ref mp), (.int (0 : Int32)), (.ref ta)])) rfl rfl (hb hby d3_31)
  refine OwnGo.fwd st7 ?_
  show OwnGo _ _ _ _ (T7.setTop (mkF m 34 #[.val (.ref a), .val (.ref mp), .val (.int (0 : Int32))] [(.ref ta), (.ref mp), (.int (0 : Int32)), (.ref ta)]))
  refine OwnGo.fwd (fun tq' kq' => XS.iloadN X7.here hx rfl (hb hby d3_34) rfl kq') ?_
  show OwnGo _ _ _ _ (T7.setTop (mkF m 35 #[.val (.ref a), .val (.ref mp), .val (.int (0 : Int32))] [(.int (0 : Int32)), (.ref ta), (.ref mp), (.int (0 : Int32)), (.ref ta)]))
  refine OwnGo.fwd (fun tq' kq' => own_iaload X7 hx hZ e7 V_ta (i := 0) (by decide) (by decide) (g := (mkF m 35 #[.val (.ref a), .val (.ref mp), .val (.int (0 : Int32))] [(.int (0 : Int32)), (.ref ta), (.ref mp), (.int (0 : Int32)), (.ref ta)])) rfl rfl (hb hby d3_35) tq' kq') ?_
  show OwnGo _ _ _ _ (T7.setTop (mkF m 36 #[.val (.ref a), .val (.ref mp), .val (.int (0 : Int32))] [(.int (g 0)), (.ref mp), (.int (0 : Int32)), (.ref ta)]))
  show OwnGo _ _ _ _ (T7.setTop (mkF m 36 #[.val (.ref a), .val (.ref mp), .val (.int (0 : Int32))] [(.int (g 0)), (.ref mp), (.int (0 : Int32)), (.ref ta)]))
  refine OwnGo.fwd (fun tq' kq' => own_iaload X7 hx hZ e7 V_mp (i := j0) hg0 hj0 (g := (mkF m 36 #[.val (.ref a), .val (.ref mp), .val (.int (0 : Int32))] [(.int (g 0)), (.ref mp), (.int (0 : Int32)), (.ref ta)])) rfl rfl (hb hby d3_36) tq' kq') ?_
  show OwnGo _ _ _ _ (T7.setTop (mkF m 37 #[.val (.ref a), .val (.ref mp), .val (.int (0 : Int32))] [(.int (u j0)), (.int (0 : Int32)), (.ref ta)]))
  obtain ⟨T8, h8, X8, e8, W8, V8, st8⟩ := own_iastore X7 hx hZ e7 V_ta (i := 0) (by decide) (by decide) (g := (mkF m 37 #[.val (.ref a), .val (.ref mp), .val (.int (0 : Int32))] [(.int (u j0)), (.int (0 : Int32)), (.ref ta)])) rfl rfl (hb hby d3_37)
  have E_a := E_a.wr W8
  have F_sources_a := F_sources_a.other W8 (Or.inl ne_a_ta)
  have F_targets_a := F_targets_a.other W8 (Or.inl ne_a_ta)
  have F_count_a := F_count_a.other W8 (Or.inl ne_a_ta)
  have V_mp := V_mp.other W8 ne_mp_ta
  have V_sa := V_sa.other W8 ne_sa_ta
  have K := K.wr W8 (Or.inl (List.mem_of_getElem? (i := 1) rfl))
  have Zs := Nat.le_trans Zs (Keep.of_wr W8).1
  have N := Fr.snoc X8 N g_ta
  have V_ta := V8
  refine OwnGo.fwd st8 ?_
  show OwnGo _ _ _ _ (T8.setTop (mkF m 38 #[.val (.ref a), .val (.ref mp), .val (.int (0 : Int32))] []))
  refine OwnGo.fwd (fun tq' kq' => XS.iinc X8.here hx rfl (hb hby d3_38) rfl (l' := #[.val (.ref a), .val (.ref mp), .val (.int (1 : Int32))]) rfl kq') ?_
  show OwnGo _ _ _ _ (T8.setTop (mkF m 41 #[.val (.ref a), .val (.ref mp), .val (.int (1 : Int32))] []))
  refine OwnGo.fwd (fun tq' kq' => XS.goto X8.here hx rfl (pc0 := 41) (pc' := 2) rfl (hb hby d3_41) (by decide) (by decide) kq') ?_
  show OwnGo _ _ _ _ (T8.setTop (mkF m 2 #[.val (.ref a), .val (.ref mp), .val (.int (1 : Int32))] []))
  refine OwnGo.fwd (fun tq' kq' => XS.iloadN X8.here hx rfl (hb hby d3_2) rfl kq') ?_
  show OwnGo _ _ _ _ (T8.setTop (mkF m 3 #[.val (.ref a), .val (.ref mp), .val (.int (1 : Int32))] [(.int (1 : Int32))]))
  refine OwnGo.fwd (fun tq' kq' => XS.aloadN X8.here hx rfl (hb hby d3_3) rfl rfl kq') ?_
  show OwnGo _ _ _ _ (T8.setTop (mkF m 4 #[.val (.ref a), .val (.ref mp), .val (.int (1 : Int32))] [(.ref a), (.int (1 : Int32))]))
  obtain ⟨T9, X9, e9, st9⟩ := getF X8 hx hZ hown (host := "") (Or.inl (hw _ (List.mem_of_getElem? (i := 19) rfl))) Via.refl e8 F_count_a (g := (mkF m 4 #[.val (.ref a), .val (.ref mp), .val (.int (1 : Int32))] [(.ref a), (.int (1 : Int32))])) rfl rfl (hb hby d3_4)
  refine OwnGo.fwd st9 ?_
  show OwnGo _ _ _ _ (T9.setTop (mkF m 7 #[.val (.ref a), .val (.ref mp), .val (.int (1 : Int32))] [(.int (Int32.ofNat 2)), (.int (1 : Int32))]))
  have hc7_10 : (1 : Int) < (2 : Int) := by decide
  refine OwnGo.fwd (fun tq' kq' => XS.icmpNo X9.here hx rfl (hb hby d3_7) rfl (own_blt (by decide) (by decide) hc7_10).2.1 kq') ?_
  show OwnGo _ _ _ _ (T9.setTop (mkF m 10 #[.val (.ref a), .val (.ref mp), .val (.int (1 : Int32))] []))
  refine OwnGo.fwd (fun tq' kq' => XS.aloadN X9.here hx rfl (hb hby d3_10) rfl rfl kq') ?_
  show OwnGo _ _ _ _ (T9.setTop (mkF m 11 #[.val (.ref a), .val (.ref mp), .val (.int (1 : Int32))] [(.ref a)]))
  obtain ⟨T11, X11, e11, st11⟩ := getF X9 hx hZ hown (host := "") (Or.inl (hw _ (List.mem_of_getElem? (i := 10) rfl))) Via.refl e9 F_sources_a (g := (mkF m 11 #[.val (.ref a), .val (.ref mp), .val (.int (1 : Int32))] [(.ref a)])) rfl rfl (hb hby d3_11)
  refine OwnGo.fwd st11 ?_
  show OwnGo _ _ _ _ (T11.setTop (mkF m 14 #[.val (.ref a), .val (.ref mp), .val (.int (1 : Int32))] [(.ref sa)]))
  refine OwnGo.fwd (fun tq' kq' => XS.iloadN X11.here hx rfl (hb hby d3_14) rfl kq') ?_
  show OwnGo _ _ _ _ (T11.setTop (mkF m 15 #[.val (.ref a), .val (.ref mp), .val (.int (1 : Int32))] [(.int (1 : Int32)), (.ref sa)]))
  refine OwnGo.fwd (fun tq' kq' => XS.aloadN X11.here hx rfl (hb hby d3_15) rfl rfl kq') ?_
  show OwnGo _ _ _ _ (T11.setTop (mkF m 16 #[.val (.ref a), .val (.ref mp), .val (.int (1 : Int32))] [(.ref mp), (.int (1 : Int32)), (.ref sa)]))
  refine OwnGo.fwd (fun tq' kq' => XS.aloadN X11.here hx rfl (hb hby d3_16) rfl rfl kq') ?_
  show OwnGo _ _ _ _ (T11.setTop (mkF m 17 #[.val (.ref a), .val (.ref mp), .val (.int (1 : Int32))] [(.ref a), (.ref mp), (.int (1 : Int32)), (.ref sa)]))
  obtain ⟨T12, X12, e12, st12⟩ := getF X11 hx hZ hown (host := "") (Or.inl (hw _ (List.mem_of_getElem? (i := 10) rfl))) Via.refl e11 F_sources_a (g := (mkF m 17 #[.val (.ref a), .val (.ref mp), .val (.int (1 : Int32))] [(.ref a), (.ref mp), (.int (1 : Int32)), (.ref sa)])) rfl rfl (hb hby d3_17)
  refine OwnGo.fwd st12 ?_
  show OwnGo _ _ _ _ (T12.setTop (mkF m 20 #[.val (.ref a), .val (.ref mp), .val (.int (1 : Int32))] [(.ref sa), (.ref mp), (.int (1 : Int32)), (.ref sa)]))
  refine OwnGo.fwd (fun tq' kq' => XS.iloadN X12.here hx rfl (hb hby d3_20) rfl kq') ?_
  show OwnGo _ _ _ _ (T12.setTop (mkF m 21 #[.val (.ref a), .val (.ref mp), .val (.int (1 : Int32))] [(.int (1 : Int32)), (.ref sa), (.ref mp), (.int (1 : Int32)), (.ref sa)]))
  refine OwnGo.fwd (fun tq' kq' => own_iaload X12 hx hZ e12 V_sa (i := 1) (by decide) (by decide) (g := (mkF m 21 #[.val (.ref a), .val (.ref mp), .val (.int (1 : Int32))] [(.int (1 : Int32)), (.ref sa), (.ref mp), (.int (1 : Int32)), (.ref sa)])) rfl rfl (hb hby d3_21) tq' kq') ?_
  show OwnGo _ _ _ _ (T12.setTop (mkF m 22 #[.val (.ref a), .val (.ref mp), .val (.int (1 : Int32))] [(.int ((fun k => if k = 0 then (u i0) else f k) 1)), (.ref mp), (.int (1 : Int32)), (.ref sa)]))
  show OwnGo _ _ _ _ (T12.setTop (mkF m 22 #[.val (.ref a), .val (.ref mp), .val (.int (1 : Int32))] [(.int (f 1)), (.ref mp), (.int (1 : Int32)), (.ref sa)]))
  refine OwnGo.fwd (fun tq' kq' => own_iaload X12 hx hZ e12 V_mp (i := i1) hf1 hi1 (g := (mkF m 22 #[.val (.ref a), .val (.ref mp), .val (.int (1 : Int32))] [(.int (f 1)), (.ref mp), (.int (1 : Int32)), (.ref sa)])) rfl rfl (hb hby d3_22) tq' kq') ?_
  show OwnGo _ _ _ _ (T12.setTop (mkF m 23 #[.val (.ref a), .val (.ref mp), .val (.int (1 : Int32))] [(.int (u i1)), (.int (1 : Int32)), (.ref sa)]))
  obtain ⟨T13, h13, X13, e13, W13, V13, st13⟩ := own_iastore X12 hx hZ e12 V_sa (i := 1) (by decide) (by decide) (g := (mkF m 23 #[.val (.ref a), .val (.ref mp), .val (.int (1 : Int32))] [(.int (u i1)), (.int (1 : Int32)), (.ref sa)])) rfl rfl (hb hby d3_23)
  have E_a := E_a.wr W13
  have F_sources_a := F_sources_a.other W13 (Or.inl ne_a_sa)
  have F_targets_a := F_targets_a.other W13 (Or.inl ne_a_sa)
  have F_count_a := F_count_a.other W13 (Or.inl ne_a_sa)
  have V_mp := V_mp.other W13 ne_mp_sa
  have V_ta := V_ta.other W13 (Ne.symm ne_sa_ta)
  have K := K.wr W13 (Or.inl (List.mem_of_getElem? (i := 0) rfl))
  have Zs := Nat.le_trans Zs (Keep.of_wr W13).1
  have N := Fr.snoc X13 N g_sa
  have V_sa := V13
  refine OwnGo.fwd st13 ?_
  show OwnGo _ _ _ _ (T13.setTop (mkF m 24 #[.val (.ref a), .val (.ref mp), .val (.int (1 : Int32))] []))
  refine OwnGo.fwd (fun tq' kq' => XS.aloadN X13.here hx rfl (hb hby d3_24) rfl rfl kq') ?_
  show OwnGo _ _ _ _ (T13.setTop (mkF m 25 #[.val (.ref a), .val (.ref mp), .val (.int (1 : Int32))] [(.ref a)]))
  obtain ⟨T14, X14, e14, st14⟩ := getF X13 hx hZ hown (host := "") (Or.inl (hw _ (List.mem_of_getElem? (i := 12) rfl))) Via.refl e13 F_targets_a (g := (mkF m 25 #[.val (.ref a), .val (.ref mp), .val (.int (1 : Int32))] [(.ref a)])) rfl rfl (hb hby d3_25)
  refine OwnGo.fwd st14 ?_
  show OwnGo _ _ _ _ (T14.setTop (mkF m 28 #[.val (.ref a), .val (.ref mp), .val (.int (1 : Int32))] [(.ref ta)]))
  refine OwnGo.fwd (fun tq' kq' => XS.iloadN X14.here hx rfl (hb hby d3_28) rfl kq') ?_
  show OwnGo _ _ _ _ (T14.setTop (mkF m 29 #[.val (.ref a), .val (.ref mp), .val (.int (1 : Int32))] [(.int (1 : Int32)), (.ref ta)]))
  refine OwnGo.fwd (fun tq' kq' => XS.aloadN X14.here hx rfl (hb hby d3_29) rfl rfl kq') ?_
  show OwnGo _ _ _ _ (T14.setTop (mkF m 30 #[.val (.ref a), .val (.ref mp), .val (.int (1 : Int32))] [(.ref mp), (.int (1 : Int32)), (.ref ta)]))
  refine OwnGo.fwd (fun tq' kq' => XS.aloadN X14.here hx rfl (hb hby d3_30) rfl rfl kq') ?_
  show OwnGo _ _ _ _ (T14.setTop (mkF m 31 #[.val (.ref a), .val (.ref mp), .val (.int (1 : Int32))] [(.ref a), (.ref mp), (.int (1 : Int32)), (.ref ta)]))
  obtain ⟨T15, X15, e15, st15⟩ := getF X14 hx hZ hown (host := "") (Or.inl (hw _ (List.mem_of_getElem? (i := 12) rfl))) Via.refl e14 F_targets_a (g := (mkF m 31 #[.val (.ref a), .val (.ref mp), .val (.int (1 : Int32))] [(.ref a), (.ref mp), (.int (1 : Int32)), (.ref ta)])) rfl rfl (hb hby d3_31)
  refine OwnGo.fwd st15 ?_
  show OwnGo _ _ _ _ (T15.setTop (mkF m 34 #[.val (.ref a), .val (.ref mp), .val (.int (1 : Int32))] [(.ref ta), (.ref mp), (.int (1 : Int32)), (.ref ta)]))
  refine OwnGo.fwd (fun tq' kq' => XS.iloadN X15.here hx rfl (hb hby d3_34) rfl kq') ?_
  show OwnGo _ _ _ _ (T15.setTop (mkF m 35 #[.val (.ref a), .val (.ref mp), .val (.int (1 : Int32))] [(.int (1 : Int32)), (.ref ta), (.ref mp), (.int (1 : Int32)), (.ref ta)]))
  refine OwnGo.fwd (fun tq' kq' => own_iaload X15 hx hZ e15 V_ta (i := 1) (by decide) (by decide) (g := (mkF m 35 #[.val (.ref a), .val (.ref mp), .val (.int (1 : Int32))] [(.int (1 : Int32)), (.ref ta), (.ref mp), (.int (1 : Int32)), (.ref ta)])) rfl rfl (hb hby d3_35) tq' kq') ?_
  show OwnGo _ _ _ _ (T15.setTop (mkF m 36 #[.val (.ref a), .val (.ref mp), .val (.int (1 : Int32))] [(.int ((fun k => if k = 0 then (u j0) else g k) 1)), (.ref mp), (.int (1 : Int32)), (.ref ta)]))
  show OwnGo _ _ _ _ (T15.setTop (mkF m 36 #[.val (.ref a), .val (.ref mp), .val (.int (1 : Int32))] [(.int (g 1)), (.ref mp), (.int (1 : Int32)), (.ref ta)]))
  refine OwnGo.fwd (fun tq' kq' => own_iaload X15 hx hZ e15 V_mp (i := j1) hg1 hj1 (g := (mkF m 36 #[.val (.ref a), .val (.ref mp), .val (.int (1 : Int32))] [(.int (g 1)), (.ref mp), (.int (1 : Int32)), (.ref ta)])) rfl rfl (hb hby d3_36) tq' kq') ?_
  show OwnGo _ _ _ _ (T15.setTop (mkF m 37 #[.val (.ref a), .val (.ref mp), .val (.int (1 : Int32))] [(.int (u j1)), (.int (1 : Int32)), (.ref ta)]))
  obtain ⟨T16, h16, X16, e16, W16, V16, st16⟩ := own_iastore X15 hx hZ e15 V_ta (i := 1) (by decide) (by decide) (g := (mkF m 37 #[.val (.ref a), .val (.ref mp), .val (.int (1 : Int32))] [(.int (u j1)), (.int (1 : Int32)), (.ref ta)])) rfl rfl (hb hby d3_37)
  have E_a := E_a.wr W16
  have F_sources_a := F_sources_a.other W16 (Or.inl ne_a_ta)
  have F_targets_a := F_targets_a.other W16 (Or.inl ne_a_ta)
  have F_count_a := F_count_a.other W16 (Or.inl ne_a_ta)
  have V_mp := V_mp.other W16 ne_mp_ta
  have V_sa := V_sa.other W16 ne_sa_ta
  have K := K.wr W16 (Or.inl (List.mem_of_getElem? (i := 1) rfl))
  have Zs := Nat.le_trans Zs (Keep.of_wr W16).1
  have N := Fr.snoc X16 N g_ta
  have V_ta := V16
  refine OwnGo.fwd st16 ?_
  show OwnGo _ _ _ _ (T16.setTop (mkF m 38 #[.val (.ref a), .val (.ref mp), .val (.int (1 : Int32))] []))
  refine OwnGo.fwd (fun tq' kq' => XS.iinc X16.here hx rfl (hb hby d3_38) rfl (l' := #[.val (.ref a), .val (.ref mp), .val (.int (2 : Int32))]) rfl kq') ?_
  show OwnGo _ _ _ _ (T16.setTop (mkF m 41 #[.val (.ref a), .val (.ref mp), .val (.int (2 : Int32))] []))
  refine OwnGo.fwd (fun tq' kq' => XS.goto X16.here hx rfl (pc0 := 41) (pc' := 2) rfl (hb hby d3_41) (by decide) (by decide) kq') ?_
  show OwnGo _ _ _ _ (T16.setTop (mkF m 2 #[.val (.ref a), .val (.ref mp), .val (.int (2 : Int32))] []))
  refine OwnGo.fwd (fun tq' kq' => XS.iloadN X16.here hx rfl (hb hby d3_2) rfl kq') ?_
  show OwnGo _ _ _ _ (T16.setTop (mkF m 3 #[.val (.ref a), .val (.ref mp), .val (.int (2 : Int32))] [(.int (2 : Int32))]))
  refine OwnGo.fwd (fun tq' kq' => XS.aloadN X16.here hx rfl (hb hby d3_3) rfl rfl kq') ?_
  show OwnGo _ _ _ _ (T16.setTop (mkF m 4 #[.val (.ref a), .val (.ref mp), .val (.int (2 : Int32))] [(.ref a), (.int (2 : Int32))]))
  obtain ⟨T17, X17, e17, st17⟩ := getF X16 hx hZ hown (host := "") (Or.inl (hw _ (List.mem_of_getElem? (i := 19) rfl))) Via.refl e16 F_count_a (g := (mkF m 4 #[.val (.ref a), .val (.ref mp), .val (.int (2 : Int32))] [(.ref a), (.int (2 : Int32))])) rfl rfl (hb hby d3_4)
  refine OwnGo.fwd st17 ?_
  show OwnGo _ _ _ _ (T17.setTop (mkF m 7 #[.val (.ref a), .val (.ref mp), .val (.int (2 : Int32))] [(.int (Int32.ofNat 2)), (.int (2 : Int32))]))
  have hc7_18 : ¬ ((2 : Int) < (2 : Int)) := by decide
  refine OwnGo.fwd (fun tq' kq' => XS.icmpYes X17.here hx rfl (pc0 := 7) (pc' := 44) rfl (hb hby d3_7) rfl (own_bnlt (by decide) (by decide) hc7_18).2.1 (by decide) (by decide) kq') ?_
  show OwnGo _ _ _ _ (T17.setTop (mkF m 44 #[.val (.ref a), .val (.ref mp), .val (.int (2 : Int32))] []))
  exact own_retV X17 hlk hx Bd.returns (hb hby d3_44) (by decide) (by decide) e17 ⟨rfl, N, K, ⟨E_a, F_sources_a, F_targets_a, F_count_a, V_sa, V_ta, ne_a_sa, ne_a_ta, ne_sa_ta, g_a, g_sa, g_ta⟩⟩
theorem d7_0 : decode method_2_code 0 = .ok (.iload_n 0, 1) := by decide +kernel
theorem d7_1 : decode method_2_code 1 = .ok (.ifCond .ne 5, 3) := by decide +kernel
theorem d7_4 : decode method_2_code 4 = .ok (.iload_n 1, 1) := by decide +kernel
theorem d7_5 : decode method_2_code 5 = .ok (.ireturn, 1) := by decide +kernel
theorem d7_6 : decode method_2_code 6 = .ok (.iload_n 0, 1) := by decide +kernel
theorem d7_7 : decode method_2_code 7 = .ok (.iconst 1, 1) := by decide +kernel
theorem d7_8 : decode method_2_code 8 = .ok (.if_icmp .ne 5, 3) := by decide +kernel
theorem d7_11 : decode method_2_code 11 = .ok (.iload_n 2, 1) := by decide +kernel
theorem d7_12 : decode method_2_code 12 = .ok (.ireturn, 1) := by decide +kernel
theorem d7_13 : decode method_2_code 13 = .ok (.iload_n 0, 1) := by decide +kernel
theorem d7_14 : decode method_2_code 14 = .ok (.iconst 2, 1) := by decide +kernel
theorem d7_15 : decode method_2_code 15 = .ok (.if_icmp .ne 5, 3) := by decide +kernel
theorem d7_18 : decode method_2_code 18 = .ok (.iload_n 3, 1) := by decide +kernel
theorem d7_19 : decode method_2_code 19 = .ok (.ireturn, 1) := by decide +kernel
theorem d7_20 : decode method_2_code 20 = .ok (.iload 4, 2) := by decide +kernel
theorem d7_22 : decode method_2_code 22 = .ok (.ireturn, 1) := by decide +kernel
theorem pn_7 : plainName "com/example/ctl_checker/ctlchecker/ArcsRenumberPinLaw" = true := by first | (simp [plainName, overriddenIn]; done) | decide +kernel
theorem ef_7 (m : MethodId) (x0 : Int32) (x1 : Int32) (x2 : Int32) (x3 : Int32) (x4 : Int32) : entryFrame m #[(.int x0), (.int x1), (.int x2), (.int x3), (.int x4)] 5 = mkF m 0 #[.val (.int x0), .val (.int x1), .val (.int x2), .val (.int x3), .val (.int x4)] [] := by first | (simp [entryFrame, mkF, argsToLocals, Value.category, maxLocals]; done) | rfl
def Q7 (Z : State) (sx : Int32) (m0 : Int32) (m1 : Int32) (m2 : Int32) (m3 : Int32) (h0 : Heap) (n0 : Nat) (v : Option Value) (h : Heap) (L : List Loc) : Prop := v = some (.int (own_rf sx m0 m1 m2 m3)) ∧ Fr n0 L ∧ h = h0
set_option maxRecDepth 65536 in
set_option maxHeartbeats 40000000 in
theorem rm7 (l : Launch) (Z : State) (a0 : Array Value) (hw : ∀ d ∈ tables_1, d.before a0 Z = true) (ws : List Jvm.Cond) (sx : Int32) (m0 : Int32) (m1 : Int32) (m2 : Int32) (m3 : Int32) (h0 : Heap) (n0 : Nat) (Z0 : n0 ≤ h0.size) :
    MetFree l (⟨"com/example/ctl_checker/ctlchecker/ArcsRenumberPinLaw", "ref", "(IIIII)I"⟩ : MethodName) (head1 (Jvm.Cond.code (⟨"com/example/ctl_checker/ctlchecker/ArcsRenumberPinLaw", "ref", "(IIIII)I"⟩ : MethodName) method_2_code 5 (some .int) :: ws) ({ frames := 0, cells := 0, slots := 0, locals := 0 } : Room)) (fun arr' U => arr' = #[(.int sx), (.int m0), (.int m1), (.int m2), (.int m3)] ∧ Z.Warmed39 U.vm ∧ U.heap = h0) (fun _ _ _ _ _ => True) (fun _ U o U' => ∃ v L, o = .returned v ∧ (Q7 Z sx m0 m1 m2 m3 h0 n0) v U'.heap L ∧ FrameEnd U o U' L ({ frames := 0, cells := 0, slots := 0, locals := 0 } : Room).cells ({ frames := 0, cells := 0, slots := 0, locals := 0 } : Room).slots) := by
  refine MetFree.of_bodySF (plainFor_of_name pn_7) hisR ?_
  intro p e s m args below meth c s₁ Bd hml0 hP hK
  obtain ⟨rfl, hZ, hh⟩ := hP
  have hx := Bd.exec
  have hby := Bd.bytes
  have hlk : meth.locks = false := BodyLoose.notSynchronized Bd
  have hml : c.maxLocals = 5 := hml0
  have hown : s.vm.findClass "com/example/ctl_checker/ctlchecker/ArcsRenumberPinLaw" = some m.cls := findClass_of_methodNamed Bd.named
  have hnm := (name_of_methodNamed Bd.named Bd.method).1
  have X0 : Stand p l e ({ frames := 0, cells := 0, slots := 0, locals := 0 } : Room) s m #[(.int sx), (.int m0), (.int m1), (.int m2), (.int m3)] below meth c s₁ [] 0 0 := Stand.of_body Bd
  have e0 : s₁.heap = h0 := by rw [← hh, Bd.state]; rfl
  have N := Fr.nil n0
  have Zs := Z0
  change OwnGo p.tables e below (OwnEnd s (Q7 Z sx m0 m1 m2 m3 h0 n0) ({ frames := 0, cells := 0, slots := 0, locals := 0 } : Room).cells ({ frames := 0, cells := 0, slots := 0, locals := 0 } : Room).slots) _
  refine OwnGo.fwd (fun tq' kq' => castTop (ef_7 m sx m0 m1 m2 m3) kq') ?_
  show OwnGo _ _ _ _ (s₁.setTop (mkF m 0 #[.val (.int sx), .val (.int m0), .val (.int m1), .val (.int m2), .val (.int m3)] []))
  refine OwnGo.fwd (fun tq' kq' => XS.iloadN X0.here hx rfl (hb hby d7_0) rfl kq') ?_
  show OwnGo _ _ _ _ (s₁.setTop (mkF m 1 #[.val (.int sx), .val (.int m0), .val (.int m1), .val (.int m2), .val (.int m3)] [(.int sx)]))
  by_cases hc1_1 : sx.toInt = 0
  · refine OwnGo.fwd (fun tq' kq' => XS.ifNo X0.here hx rfl (hb hby d7_1) rfl ((if0 _ _).trans (own_beq rfl (by decide) hc1_1).2) kq') ?_
    show OwnGo _ _ _ _ (s₁.setTop (mkF m 4 #[.val (.int sx), .val (.int m0), .val (.int m1), .val (.int m2), .val (.int m3)] []))
    refine OwnGo.fwd (fun tq' kq' => XS.iloadN X0.here hx rfl (hb hby d7_4) rfl kq') ?_
    show OwnGo _ _ _ _ (s₁.setTop (mkF m 5 #[.val (.int sx), .val (.int m0), .val (.int m1), .val (.int m2), .val (.int m3)] [(.int m0)]))
    exact own_retI X0 hlk hx Bd.returns (hb hby d7_5) (by decide) (by decide) e0 ⟨by unfold own_rf; rw [if_pos hc1_1], N, rfl⟩
  · refine OwnGo.fwd (fun tq' kq' => XS.ifYes X0.here hx rfl (pc0 := 1) (pc' := 6) rfl (hb hby d7_1) rfl ((if0 _ _).trans (own_bneq rfl (by decide) hc1_1).2) (by decide) (by decide) kq') ?_
    show OwnGo _ _ _ _ (s₁.setTop (mkF m 6 #[.val (.int sx), .val (.int m0), .val (.int m1), .val (.int m2), .val (.int m3)] []))
    refine OwnGo.fwd (fun tq' kq' => XS.iloadN X0.here hx rfl (hb hby d7_6) rfl kq') ?_
    show OwnGo _ _ _ _ (s₁.setTop (mkF m 7 #[.val (.int sx), .val (.int m0), .val (.int m1), .val (.int m2), .val (.int m3)] [(.int sx)]))
    refine OwnGo.fwd (fun tq' kq' => XS.iconst X0.here hx rfl (hb hby d7_7) kq') ?_
    show OwnGo _ _ _ _ (s₁.setTop (mkF m 8 #[.val (.int sx), .val (.int m0), .val (.int m1), .val (.int m2), .val (.int m3)] [(.int (1 : Int32)), (.int sx)]))
    by_cases hc8_2 : sx.toInt = 1
    · refine OwnGo.fwd (fun tq' kq' => XS.icmpNo X0.here hx rfl (hb hby d7_8) rfl (own_beq rfl (by decide) hc8_2).2 kq') ?_
      show OwnGo _ _ _ _ (s₁.setTop (mkF m 11 #[.val (.int sx), .val (.int m0), .val (.int m1), .val (.int m2), .val (.int m3)] []))
      refine OwnGo.fwd (fun tq' kq' => XS.iloadN X0.here hx rfl (hb hby d7_11) rfl kq') ?_
      show OwnGo _ _ _ _ (s₁.setTop (mkF m 12 #[.val (.int sx), .val (.int m0), .val (.int m1), .val (.int m2), .val (.int m3)] [(.int m1)]))
      exact own_retI X0 hlk hx Bd.returns (hb hby d7_12) (by decide) (by decide) e0 ⟨by unfold own_rf; rw [if_neg hc1_1, if_pos hc8_2], N, rfl⟩
    · refine OwnGo.fwd (fun tq' kq' => XS.icmpYes X0.here hx rfl (pc0 := 8) (pc' := 13) rfl (hb hby d7_8) rfl (own_bneq rfl (by decide) hc8_2).2 (by decide) (by decide) kq') ?_
      show OwnGo _ _ _ _ (s₁.setTop (mkF m 13 #[.val (.int sx), .val (.int m0), .val (.int m1), .val (.int m2), .val (.int m3)] []))
      refine OwnGo.fwd (fun tq' kq' => XS.iloadN X0.here hx rfl (hb hby d7_13) rfl kq') ?_
      show OwnGo _ _ _ _ (s₁.setTop (mkF m 14 #[.val (.int sx), .val (.int m0), .val (.int m1), .val (.int m2), .val (.int m3)] [(.int sx)]))
      refine OwnGo.fwd (fun tq' kq' => XS.iconst X0.here hx rfl (hb hby d7_14) kq') ?_
      show OwnGo _ _ _ _ (s₁.setTop (mkF m 15 #[.val (.int sx), .val (.int m0), .val (.int m1), .val (.int m2), .val (.int m3)] [(.int (2 : Int32)), (.int sx)]))
      by_cases hc15_3 : sx.toInt = 2
      · refine OwnGo.fwd (fun tq' kq' => XS.icmpNo X0.here hx rfl (hb hby d7_15) rfl (own_beq rfl (by decide) hc15_3).2 kq') ?_
        show OwnGo _ _ _ _ (s₁.setTop (mkF m 18 #[.val (.int sx), .val (.int m0), .val (.int m1), .val (.int m2), .val (.int m3)] []))
        refine OwnGo.fwd (fun tq' kq' => XS.iloadN X0.here hx rfl (hb hby d7_18) rfl kq') ?_
        show OwnGo _ _ _ _ (s₁.setTop (mkF m 19 #[.val (.int sx), .val (.int m0), .val (.int m1), .val (.int m2), .val (.int m3)] [(.int m2)]))
        exact own_retI X0 hlk hx Bd.returns (hb hby d7_19) (by decide) (by decide) e0 ⟨by unfold own_rf; rw [if_neg hc1_1, if_neg hc8_2, if_pos hc15_3], N, rfl⟩
      · refine OwnGo.fwd (fun tq' kq' => XS.icmpYes X0.here hx rfl (pc0 := 15) (pc' := 20) rfl (hb hby d7_15) rfl (own_bneq rfl (by decide) hc15_3).2 (by decide) (by decide) kq') ?_
        show OwnGo _ _ _ _ (s₁.setTop (mkF m 20 #[.val (.int sx), .val (.int m0), .val (.int m1), .val (.int m2), .val (.int m3)] []))
        refine OwnGo.fwd (fun tq' kq' => XS.iload X0.here hx rfl (hb hby d7_20) rfl kq') ?_
        show OwnGo _ _ _ _ (s₁.setTop (mkF m 22 #[.val (.int sx), .val (.int m0), .val (.int m1), .val (.int m2), .val (.int m3)] [(.int m3)]))
        exact own_retI X0 hlk hx Bd.returns (hb hby d7_22) (by decide) (by decide) e0 ⟨by unfold own_rf; rw [if_neg hc1_1, if_neg hc8_2, if_neg hc15_3], N, rfl⟩
theorem pn_0 : plainName "com/example/ctl_checker/ctlchecker/ArcsRenumberPinLaw" = true := by first | (simp [plainName, overriddenIn]; done) | decide +kernel
theorem ef_0 (m : MethodId) (x0 : Int32) (x1 : Int32) (x2 : Int32) (x3 : Int32) (x4 : Int32) : entryFrame m #[(.int x0), (.int x1), (.int x2), (.int x3), (.int x4)] maxLocals = mkF m 0 #[.val (.int x0), .val (.int x1), .val (.int x2), .val (.int x3), .val (.int x4), .unset, .unset, .unset, .unset, .unset, .unset, .unset, .unset] [] := by first | (simp [entryFrame, mkF, argsToLocals, Value.category, maxLocals]; done) | rfl
def Q0 (Z : State) (p0 : Int32) (m0 : Int32) (m1 : Int32) (m2 : Int32) (m3 : Int32) (h0 : Heap) (n0 : Nat) (v : Option Value) (h : Heap) (L : List Loc) : Prop := v = some (.int 1) ∧ Fr n0 L
set_option maxRecDepth 65536 in
set_option maxHeartbeats 40000000 in
theorem rm0 (l : Launch) (Z : State) (a0 : Array Value) (hw : ∀ d ∈ tables_1, d.before a0 Z = true) (ws : List Jvm.Cond) (p0 : Int32) (m0 : Int32) (m1 : Int32) (m2 : Int32) (m3 : Int32) (h0 : Heap) (n0 : Nat) (Z0 : n0 ≤ h0.size) :
    MetFree l x (head1 (Jvm.Cond.code x code maxLocals ret :: ws) room_1) (fun arr' U => arr' = #[(.int p0), (.int m0), (.int m1), (.int m2), (.int m3)] ∧ Z.Warmed39 U.vm ∧ U.heap = h0) (fun _ _ _ _ _ => True) (fun _ U o U' => ∃ v L, o = .returned v ∧ (Q0 Z p0 m0 m1 m2 m3 h0 n0) v U'.heap L ∧ FrameEnd U o U' L room_1.cells room_1.slots) := by
  refine MetFree.of_bodySF (plainFor_of_name pn_0) hisR ?_
  intro p e s m args below meth c s₁ Bd hml0 hP hK
  obtain ⟨rfl, hZ, hh⟩ := hP
  have hx := Bd.exec
  have hby := Bd.bytes
  have hlk : meth.locks = false := BodyLoose.notSynchronized Bd
  have hml : c.maxLocals = 13 := hml0
  have hown : s.vm.findClass "com/example/ctl_checker/ctlchecker/ArcsRenumberPinLaw" = some m.cls := findClass_of_methodNamed Bd.named
  have hnm := (name_of_methodNamed Bd.named Bd.method).1
  have X0 : Stand p l e room_1 s m #[(.int p0), (.int m0), (.int m1), (.int m2), (.int m3)] below meth c s₁ [] 0 0 := Stand.of_body Bd
  have e0 : s₁.heap = h0 := by rw [← hh, Bd.state]; rfl
  have N := Fr.nil n0
  have Zs := Z0
  change OwnGo p.tables e below (OwnEnd s (Q0 Z p0 m0 m1 m2 m3 h0 n0) room_1.cells room_1.slots) _
  refine OwnGo.fwd (fun tq' kq' => castTop (ef_0 m p0 m0 m1 m2 m3) kq') ?_
  show OwnGo _ _ _ _ (s₁.setTop (mkF m 0 #[.val (.int p0), .val (.int m0), .val (.int m1), .val (.int m2), .val (.int m3), .unset, .unset, .unset, .unset, .unset, .unset, .unset, .unset] []))
  refine OwnGo.fwd (fun tq' kq' => XS.iloadN X0.here hx rfl (hb hby at_0) rfl kq') ?_
  show OwnGo _ _ _ _ (s₁.setTop (mkF m 1 #[.val (.int p0), .val (.int m0), .val (.int m1), .val (.int m2), .val (.int m3), .unset, .unset, .unset, .unset, .unset, .unset, .unset, .unset] [(.int p0)]))
  refine OwnGo.fwd (fun tq' kq' => XS.iconst X0.here hx rfl (hb hby at_1) kq') ?_
  show OwnGo _ _ _ _ (s₁.setTop (mkF m 2 #[.val (.int p0), .val (.int m0), .val (.int m1), .val (.int m2), .val (.int m3), .unset, .unset, .unset, .unset, .unset, .unset, .unset, .unset] [(.int (3 : Int32)), (.int p0)]))
  refine OwnGo.fwd (fun tq' kq' => XS.iand X0.here hx rfl (hb hby at_2) rfl kq') ?_
  show OwnGo _ _ _ _ (s₁.setTop (mkF m 3 #[.val (.int p0), .val (.int m0), .val (.int m1), .val (.int m2), .val (.int m3), .unset, .unset, .unset, .unset, .unset, .unset, .unset, .unset] [(.int (p0 &&& (3 : Int32)))]))
  refine OwnGo.fwd (fun tq' kq' => XS.iconst X0.here hx rfl (hb hby at_3) kq') ?_
  show OwnGo _ _ _ _ (s₁.setTop (mkF m 4 #[.val (.int p0), .val (.int m0), .val (.int m1), .val (.int m2), .val (.int m3), .unset, .unset, .unset, .unset, .unset, .unset, .unset, .unset] [(.int (3 : Int32)), (.int (p0 &&& (3 : Int32)))]))
  refine OwnGo.fwd (fun tq' kq' => iremM X0 hx rfl (hb hby at_4) rfl (by decide) kq') ?_
  show OwnGo _ _ _ _ (s₁.setTop (mkF m 5 #[.val (.int p0), .val (.int m0), .val (.int m1), .val (.int m2), .val (.int m3), .unset, .unset, .unset, .unset, .unset, .unset, .unset, .unset] [(.int ((p0 &&& (3 : Int32)) % (3 : Int32)))]))
  obtain ⟨nn, hv_nn⟩ : ∃ q : Int32, q = ((p0 &&& (3 : Int32)) % (3 : Int32)) := ⟨_, rfl⟩
  rw [← hv_nn]
  show OwnGo _ _ _ _ (s₁.setTop (mkF m 5 #[.val (.int p0), .val (.int m0), .val (.int m1), .val (.int m2), .val (.int m3), .unset, .unset, .unset, .unset, .unset, .unset, .unset, .unset] [(.int nn)]))
  have hn3 := own_three p0
  rw [← hv_nn] at hn3
  refine OwnGo.fwd (fun tq' kq' => XS.istore X0.here hx rfl (hb hby at_5) rfl (l' := #[.val (.int p0), .val (.int m0), .val (.int m1), .val (.int m2), .val (.int m3), .val (.int nn), .unset, .unset, .unset, .unset, .unset, .unset, .unset]) rfl kq') ?_
  show OwnGo _ _ _ _ (s₁.setTop (mkF m 7 #[.val (.int p0), .val (.int m0), .val (.int m1), .val (.int m2), .val (.int m3), .val (.int nn), .unset, .unset, .unset, .unset, .unset, .unset, .unset] []))
  refine OwnGo.fwd (fun tq' kq' => XS.iloadN X0.here hx rfl (hb hby at_7) rfl kq') ?_
  show OwnGo _ _ _ _ (s₁.setTop (mkF m 8 #[.val (.int p0), .val (.int m0), .val (.int m1), .val (.int m2), .val (.int m3), .val (.int nn), .unset, .unset, .unset, .unset, .unset, .unset, .unset] [(.int p0)]))
  refine OwnGo.fwd (fun tq' kq' => XS.iconst X0.here hx rfl (hb hby at_8) kq') ?_
  show OwnGo _ _ _ _ (s₁.setTop (mkF m 9 #[.val (.int p0), .val (.int m0), .val (.int m1), .val (.int m2), .val (.int m3), .val (.int nn), .unset, .unset, .unset, .unset, .unset, .unset, .unset] [(.int (2 : Int32)), (.int p0)]))
  refine OwnGo.fwd (fun tq' kq' => XS.iushr X0.here hx rfl (hb hby at_9) rfl kq') ?_
  show OwnGo _ _ _ _ (s₁.setTop (mkF m 10 #[.val (.int p0), .val (.int m0), .val (.int m1), .val (.int m2), .val (.int m3), .val (.int nn), .unset, .unset, .unset, .unset, .unset, .unset, .unset] [(.int ((p0.toUInt32 >>> ((2 : Int32) &&& 31).toUInt32).toInt32))]))
  refine OwnGo.fwd (fun tq' kq' => XS.iconst X0.here hx rfl (hb hby at_10) kq') ?_
  show OwnGo _ _ _ _ (s₁.setTop (mkF m 11 #[.val (.int p0), .val (.int m0), .val (.int m1), .val (.int m2), .val (.int m3), .val (.int nn), .unset, .unset, .unset, .unset, .unset, .unset, .unset] [(.int (3 : Int32)), (.int ((p0.toUInt32 >>> ((2 : Int32) &&& 31).toUInt32).toInt32))]))
  refine OwnGo.fwd (fun tq' kq' => XS.iand X0.here hx rfl (hb hby at_11) rfl kq') ?_
  show OwnGo _ _ _ _ (s₁.setTop (mkF m 12 #[.val (.int p0), .val (.int m0), .val (.int m1), .val (.int m2), .val (.int m3), .val (.int nn), .unset, .unset, .unset, .unset, .unset, .unset, .unset] [(.int (((p0.toUInt32 >>> ((2 : Int32) &&& 31).toUInt32).toInt32) &&& (3 : Int32)))]))
  obtain ⟨s0, hv_s0⟩ : ∃ q : Int32, q = (((p0.toUInt32 >>> ((2 : Int32) &&& 31).toUInt32).toInt32) &&& (3 : Int32)) := ⟨_, rfl⟩
  rw [← hv_s0]
  show OwnGo _ _ _ _ (s₁.setTop (mkF m 12 #[.val (.int p0), .val (.int m0), .val (.int m1), .val (.int m2), .val (.int m3), .val (.int nn), .unset, .unset, .unset, .unset, .unset, .unset, .unset] [(.int s0)]))
  obtain ⟨x0, hx0, lx0⟩ : ∃ i : Nat, s0.toInt = i ∧ i < 4 := by rw [hv_s0]; exact own_four _
  refine OwnGo.fwd (fun tq' kq' => XS.istore X0.here hx rfl (hb hby at_12) rfl (l' := #[.val (.int p0), .val (.int m0), .val (.int m1), .val (.int m2), .val (.int m3), .val (.int nn), .val (.int s0), .unset, .unset, .unset, .unset, .unset, .unset]) rfl kq') ?_
  show OwnGo _ _ _ _ (s₁.setTop (mkF m 14 #[.val (.int p0), .val (.int m0), .val (.int m1), .val (.int m2), .val (.int m3), .val (.int nn), .val (.int s0), .unset, .unset, .unset, .unset, .unset, .unset] []))
  refine OwnGo.fwd (fun tq' kq' => XS.iloadN X0.here hx rfl (hb hby at_14) rfl kq') ?_
  show OwnGo _ _ _ _ (s₁.setTop (mkF m 15 #[.val (.int p0), .val (.int m0), .val (.int m1), .val (.int m2), .val (.int m3), .val (.int nn), .val (.int s0), .unset, .unset, .unset, .unset, .unset, .unset] [(.int p0)]))
  refine OwnGo.fwd (fun tq' kq' => XS.iconst X0.here hx rfl (hb hby at_15) kq') ?_
  show OwnGo _ _ _ _ (s₁.setTop (mkF m 16 #[.val (.int p0), .val (.int m0), .val (.int m1), .val (.int m2), .val (.int m3), .val (.int nn), .val (.int s0), .unset, .unset, .unset, .unset, .unset, .unset] [(.int (4 : Int32)), (.int p0)]))
  refine OwnGo.fwd (fun tq' kq' => XS.iushr X0.here hx rfl (hb hby at_16) rfl kq') ?_
  show OwnGo _ _ _ _ (s₁.setTop (mkF m 17 #[.val (.int p0), .val (.int m0), .val (.int m1), .val (.int m2), .val (.int m3), .val (.int nn), .val (.int s0), .unset, .unset, .unset, .unset, .unset, .unset] [(.int ((p0.toUInt32 >>> ((4 : Int32) &&& 31).toUInt32).toInt32))]))
  refine OwnGo.fwd (fun tq' kq' => XS.iconst X0.here hx rfl (hb hby at_17) kq') ?_
  show OwnGo _ _ _ _ (s₁.setTop (mkF m 18 #[.val (.int p0), .val (.int m0), .val (.int m1), .val (.int m2), .val (.int m3), .val (.int nn), .val (.int s0), .unset, .unset, .unset, .unset, .unset, .unset] [(.int (3 : Int32)), (.int ((p0.toUInt32 >>> ((4 : Int32) &&& 31).toUInt32).toInt32))]))
  refine OwnGo.fwd (fun tq' kq' => XS.iand X0.here hx rfl (hb hby at_18) rfl kq') ?_
  show OwnGo _ _ _ _ (s₁.setTop (mkF m 19 #[.val (.int p0), .val (.int m0), .val (.int m1), .val (.int m2), .val (.int m3), .val (.int nn), .val (.int s0), .unset, .unset, .unset, .unset, .unset, .unset] [(.int (((p0.toUInt32 >>> ((4 : Int32) &&& 31).toUInt32).toInt32) &&& (3 : Int32)))]))
  obtain ⟨t0, hv_t0⟩ : ∃ q : Int32, q = (((p0.toUInt32 >>> ((4 : Int32) &&& 31).toUInt32).toInt32) &&& (3 : Int32)) := ⟨_, rfl⟩
  rw [← hv_t0]
  show OwnGo _ _ _ _ (s₁.setTop (mkF m 19 #[.val (.int p0), .val (.int m0), .val (.int m1), .val (.int m2), .val (.int m3), .val (.int nn), .val (.int s0), .unset, .unset, .unset, .unset, .unset, .unset] [(.int t0)]))
  obtain ⟨x1, hx1, lx1⟩ : ∃ i : Nat, t0.toInt = i ∧ i < 4 := by rw [hv_t0]; exact own_four _
  refine OwnGo.fwd (fun tq' kq' => XS.istore X0.here hx rfl (hb hby at_19) rfl (l' := #[.val (.int p0), .val (.int m0), .val (.int m1), .val (.int m2), .val (.int m3), .val (.int nn), .val (.int s0), .val (.int t0), .unset, .unset, .unset, .unset, .unset]) rfl kq') ?_
  show OwnGo _ _ _ _ (s₁.setTop (mkF m 21 #[.val (.int p0), .val (.int m0), .val (.int m1), .val (.int m2), .val (.int m3), .val (.int nn), .val (.int s0), .val (.int t0), .unset, .unset, .unset, .unset, .unset] []))
  refine OwnGo.fwd (fun tq' kq' => XS.iloadN X0.here hx rfl (hb hby at_21) rfl kq') ?_
  show OwnGo _ _ _ _ (s₁.setTop (mkF m 22 #[.val (.int p0), .val (.int m0), .val (.int m1), .val (.int m2), .val (.int m3), .val (.int nn), .val (.int s0), .val (.int t0), .unset, .unset, .unset, .unset, .unset] [(.int p0)]))
  refine OwnGo.fwd (fun tq' kq' => XS.bipush X0.here hx rfl (hb hby at_22) kq') ?_
  show OwnGo _ _ _ _ (s₁.setTop (mkF m 24 #[.val (.int p0), .val (.int m0), .val (.int m1), .val (.int m2), .val (.int m3), .val (.int nn), .val (.int s0), .val (.int t0), .unset, .unset, .unset, .unset, .unset] [(.int (6 : Int32)), (.int p0)]))
  refine OwnGo.fwd (fun tq' kq' => XS.iushr X0.here hx rfl (hb hby at_24) rfl kq') ?_
  show OwnGo _ _ _ _ (s₁.setTop (mkF m 25 #[.val (.int p0), .val (.int m0), .val (.int m1), .val (.int m2), .val (.int m3), .val (.int nn), .val (.int s0), .val (.int t0), .unset, .unset, .unset, .unset, .unset] [(.int ((p0.toUInt32 >>> ((6 : Int32) &&& 31).toUInt32).toInt32))]))
  refine OwnGo.fwd (fun tq' kq' => XS.iconst X0.here hx rfl (hb hby at_25) kq') ?_
  show OwnGo _ _ _ _ (s₁.setTop (mkF m 26 #[.val (.int p0), .val (.int m0), .val (.int m1), .val (.int m2), .val (.int m3), .val (.int nn), .val (.int s0), .val (.int t0), .unset, .unset, .unset, .unset, .unset] [(.int (3 : Int32)), (.int ((p0.toUInt32 >>> ((6 : Int32) &&& 31).toUInt32).toInt32))]))
  refine OwnGo.fwd (fun tq' kq' => XS.iand X0.here hx rfl (hb hby at_26) rfl kq') ?_
  show OwnGo _ _ _ _ (s₁.setTop (mkF m 27 #[.val (.int p0), .val (.int m0), .val (.int m1), .val (.int m2), .val (.int m3), .val (.int nn), .val (.int s0), .val (.int t0), .unset, .unset, .unset, .unset, .unset] [(.int (((p0.toUInt32 >>> ((6 : Int32) &&& 31).toUInt32).toInt32) &&& (3 : Int32)))]))
  obtain ⟨s1, hv_s1⟩ : ∃ q : Int32, q = (((p0.toUInt32 >>> ((6 : Int32) &&& 31).toUInt32).toInt32) &&& (3 : Int32)) := ⟨_, rfl⟩
  rw [← hv_s1]
  show OwnGo _ _ _ _ (s₁.setTop (mkF m 27 #[.val (.int p0), .val (.int m0), .val (.int m1), .val (.int m2), .val (.int m3), .val (.int nn), .val (.int s0), .val (.int t0), .unset, .unset, .unset, .unset, .unset] [(.int s1)]))
  obtain ⟨x2, hx2, lx2⟩ : ∃ i : Nat, s1.toInt = i ∧ i < 4 := by rw [hv_s1]; exact own_four _
  refine OwnGo.fwd (fun tq' kq' => XS.istore X0.here hx rfl (hb hby at_27) rfl (l' := #[.val (.int p0), .val (.int m0), .val (.int m1), .val (.int m2), .val (.int m3), .val (.int nn), .val (.int s0), .val (.int t0), .val (.int s1), .unset, .unset, .unset, .unset]) rfl kq') ?_
  show OwnGo _ _ _ _ (s₁.setTop (mkF m 29 #[.val (.int p0), .val (.int m0), .val (.int m1), .val (.int m2), .val (.int m3), .val (.int nn), .val (.int s0), .val (.int t0), .val (.int s1), .unset, .unset, .unset, .unset] []))
  refine OwnGo.fwd (fun tq' kq' => XS.iloadN X0.here hx rfl (hb hby at_29) rfl kq') ?_
  show OwnGo _ _ _ _ (s₁.setTop (mkF m 30 #[.val (.int p0), .val (.int m0), .val (.int m1), .val (.int m2), .val (.int m3), .val (.int nn), .val (.int s0), .val (.int t0), .val (.int s1), .unset, .unset, .unset, .unset] [(.int p0)]))
  refine OwnGo.fwd (fun tq' kq' => XS.bipush X0.here hx rfl (hb hby at_30) kq') ?_
  show OwnGo _ _ _ _ (s₁.setTop (mkF m 32 #[.val (.int p0), .val (.int m0), .val (.int m1), .val (.int m2), .val (.int m3), .val (.int nn), .val (.int s0), .val (.int t0), .val (.int s1), .unset, .unset, .unset, .unset] [(.int (8 : Int32)), (.int p0)]))
  refine OwnGo.fwd (fun tq' kq' => XS.iushr X0.here hx rfl (hb hby at_32) rfl kq') ?_
  show OwnGo _ _ _ _ (s₁.setTop (mkF m 33 #[.val (.int p0), .val (.int m0), .val (.int m1), .val (.int m2), .val (.int m3), .val (.int nn), .val (.int s0), .val (.int t0), .val (.int s1), .unset, .unset, .unset, .unset] [(.int ((p0.toUInt32 >>> ((8 : Int32) &&& 31).toUInt32).toInt32))]))
  refine OwnGo.fwd (fun tq' kq' => XS.iconst X0.here hx rfl (hb hby at_33) kq') ?_
  show OwnGo _ _ _ _ (s₁.setTop (mkF m 34 #[.val (.int p0), .val (.int m0), .val (.int m1), .val (.int m2), .val (.int m3), .val (.int nn), .val (.int s0), .val (.int t0), .val (.int s1), .unset, .unset, .unset, .unset] [(.int (3 : Int32)), (.int ((p0.toUInt32 >>> ((8 : Int32) &&& 31).toUInt32).toInt32))]))
  refine OwnGo.fwd (fun tq' kq' => XS.iand X0.here hx rfl (hb hby at_34) rfl kq') ?_
  show OwnGo _ _ _ _ (s₁.setTop (mkF m 35 #[.val (.int p0), .val (.int m0), .val (.int m1), .val (.int m2), .val (.int m3), .val (.int nn), .val (.int s0), .val (.int t0), .val (.int s1), .unset, .unset, .unset, .unset] [(.int (((p0.toUInt32 >>> ((8 : Int32) &&& 31).toUInt32).toInt32) &&& (3 : Int32)))]))
  obtain ⟨t1, hv_t1⟩ : ∃ q : Int32, q = (((p0.toUInt32 >>> ((8 : Int32) &&& 31).toUInt32).toInt32) &&& (3 : Int32)) := ⟨_, rfl⟩
  rw [← hv_t1]
  show OwnGo _ _ _ _ (s₁.setTop (mkF m 35 #[.val (.int p0), .val (.int m0), .val (.int m1), .val (.int m2), .val (.int m3), .val (.int nn), .val (.int s0), .val (.int t0), .val (.int s1), .unset, .unset, .unset, .unset] [(.int t1)]))
  obtain ⟨x3, hx3, lx3⟩ : ∃ i : Nat, t1.toInt = i ∧ i < 4 := by rw [hv_t1]; exact own_four _
  refine OwnGo.fwd (fun tq' kq' => XS.istore X0.here hx rfl (hb hby at_35) rfl (l' := #[.val (.int p0), .val (.int m0), .val (.int m1), .val (.int m2), .val (.int m3), .val (.int nn), .val (.int s0), .val (.int t0), .val (.int s1), .val (.int t1), .unset, .unset, .unset]) rfl kq') ?_
  show OwnGo _ _ _ _ (s₁.setTop (mkF m 37 #[.val (.int p0), .val (.int m0), .val (.int m1), .val (.int m2), .val (.int m3), .val (.int nn), .val (.int s0), .val (.int t0), .val (.int s1), .val (.int t1), .unset, .unset, .unset] []))
  refine OwnGo.fwd (fun tq' kq' => XS.iconst X0.here hx rfl (hb hby at_37) kq') ?_
  show OwnGo _ _ _ _ (s₁.setTop (mkF m 38 #[.val (.int p0), .val (.int m0), .val (.int m1), .val (.int m2), .val (.int m3), .val (.int nn), .val (.int s0), .val (.int t0), .val (.int s1), .val (.int t1), .unset, .unset, .unset] [(.int (4 : Int32))]))
  obtain ⟨T1, h1, b1, X1, e1, E1, g1, V1, st1⟩ := own_newI X0 hx hZ (hw _ (List.mem_of_getElem? (i := 0) rfl)) e0 (g := (mkF m 38 #[.val (.int p0), .val (.int m0), .val (.int m1), .val (.int m2), .val (.int m3), .val (.int nn), .val (.int s0), .val (.int t0), .val (.int s1), .val (.int t1), .unset, .unset, .unset] [(.int (4 : Int32))])) rfl (hb hby at_38) rfl (i := 4) (by decide) (cap := 4) (by decide) (by decide) (by decide) (by decide)
  have g_b1 : n0 ≤ b1 := Nat.le_trans Zs (Nat.le_of_eq g1.symm)
  have Zs := Nat.le_trans Zs E1.1
  have V_b1 := V1
  refine OwnGo.fwd st1 ?_
  show OwnGo _ _ _ _ (T1.setTop (mkF m 40 #[.val (.int p0), .val (.int m0), .val (.int m1), .val (.int m2), .val (.int m3), .val (.int nn), .val (.int s0), .val (.int t0), .val (.int s1), .val (.int t1), .unset, .unset, .unset] [(.ref b1)]))
  refine OwnGo.fwd (fun tq' kq' => XS.dup X1.here hx rfl (hb hby at_40) rfl rfl kq') ?_
  show OwnGo _ _ _ _ (T1.setTop (mkF m 41 #[.val (.int p0), .val (.int m0), .val (.int m1), .val (.int m2), .val (.int m3), .val (.int nn), .val (.int s0), .val (.int t0), .val (.int s1), .val (.int t1), .unset, .unset, .unset] [(.ref b1), (.ref b1)]))
  refine OwnGo.fwd (fun tq' kq' => XS.iconst X1.here hx rfl (hb hby at_41) kq') ?_
  show OwnGo _ _ _ _ (T1.setTop (mkF m 42 #[.val (.int p0), .val (.int m0), .val (.int m1), .val (.int m2), .val (.int m3), .val (.int nn), .val (.int s0), .val (.int t0), .val (.int s1), .val (.int t1), .unset, .unset, .unset] [(.int (0 : Int32)), (.ref b1), (.ref b1)]))
  refine OwnGo.fwd (fun tq' kq' => XS.iloadN X1.here hx rfl (hb hby at_42) rfl kq') ?_
  show OwnGo _ _ _ _ (T1.setTop (mkF m 43 #[.val (.int p0), .val (.int m0), .val (.int m1), .val (.int m2), .val (.int m3), .val (.int nn), .val (.int s0), .val (.int t0), .val (.int s1), .val (.int t1), .unset, .unset, .unset] [(.int m0), (.int (0 : Int32)), (.ref b1), (.ref b1)]))
  obtain ⟨T2, h2, X2, e2, W2, V2, st2⟩ := own_iastore X1 hx hZ e1 V_b1 (i := 0) (by decide) (by decide) (g := (mkF m 43 #[.val (.int p0), .val (.int m0), .val (.int m1), .val (.int m2), .val (.int m3), .val (.int nn), .val (.int s0), .val (.int t0), .val (.int s1), .val (.int t1), .unset, .unset, .unset] [(.int m0), (.int (0 : Int32)), (.ref b1), (.ref b1)])) rfl rfl (hb hby at_43)
  have Zs := Nat.le_trans Zs (Keep.of_wr W2).1
  have N := Fr.snoc X2 N g_b1
  have V_b1 := V2
  refine OwnGo.fwd st2 ?_
  show OwnGo _ _ _ _ (T2.setTop (mkF m 44 #[.val (.int p0), .val (.int m0), .val (.int m1), .val (.int m2), .val (.int m3), .val (.int nn), .val (.int s0), .val (.int t0), .val (.int s1), .val (.int t1), .unset, .unset, .unset] [(.ref b1)]))
  refine OwnGo.fwd (fun tq' kq' => XS.dup X2.here hx rfl (hb hby at_44) rfl rfl kq') ?_
  show OwnGo _ _ _ _ (T2.setTop (mkF m 45 #[.val (.int p0), .val (.int m0), .val (.int m1), .val (.int m2), .val (.int m3), .val (.int nn), .val (.int s0), .val (.int t0), .val (.int s1), .val (.int t1), .unset, .unset, .unset] [(.ref b1), (.ref b1)]))
  refine OwnGo.fwd (fun tq' kq' => XS.iconst X2.here hx rfl (hb hby at_45) kq') ?_
  show OwnGo _ _ _ _ (T2.setTop (mkF m 46 #[.val (.int p0), .val (.int m0), .val (.int m1), .val (.int m2), .val (.int m3), .val (.int nn), .val (.int s0), .val (.int t0), .val (.int s1), .val (.int t1), .unset, .unset, .unset] [(.int (1 : Int32)), (.ref b1), (.ref b1)]))
  refine OwnGo.fwd (fun tq' kq' => XS.iloadN X2.here hx rfl (hb hby at_46) rfl kq') ?_
  show OwnGo _ _ _ _ (T2.setTop (mkF m 47 #[.val (.int p0), .val (.int m0), .val (.int m1), .val (.int m2), .val (.int m3), .val (.int nn), .val (.int s0), .val (.int t0), .val (.int s1), .val (.int t1), .unset, .unset, .unset] [(.int m1), (.int (1 : Int32)), (.ref b1), (.ref b1)]))
  obtain ⟨T3, h3, X3, e3, W3, V3, st3⟩ := own_iastore X2 hx hZ e2 V_b1 (i := 1) (by decide) (by decide) (g := (mkF m 47 #[.val (.int p0), .val (.int m0), .val (.int m1), .val (.int m2), .val (.int m3), .val (.int nn), .val (.int s0), .val (.int t0), .val (.int s1), .val (.int t1), .unset, .unset, .unset] [(.int m1), (.int (1 : Int32)), (.ref b1), (.ref b1)])) rfl rfl (hb hby at_47)
  have Zs := Nat.le_trans Zs (Keep.of_wr W3).1
  have N := Fr.snoc X3 N g_b1
  have V_b1 := V3
  refine OwnGo.fwd st3 ?_
  show OwnGo _ _ _ _ (T3.setTop (mkF m 48 #[.val (.int p0), .val (.int m0), .val (.int m1), .val (.int m2), .val (.int m3), .val (.int nn), .val (.int s0), .val (.int t0), .val (.int s1), .val (.int t1), .unset, .unset, .unset] [(.ref b1)]))
  refine OwnGo.fwd (fun tq' kq' => XS.dup X3.here hx rfl (hb hby at_48) rfl rfl kq') ?_
  show OwnGo _ _ _ _ (T3.setTop (mkF m 49 #[.val (.int p0), .val (.int m0), .val (.int m1), .val (.int m2), .val (.int m3), .val (.int nn), .val (.int s0), .val (.int t0), .val (.int s1), .val (.int t1), .unset, .unset, .unset] [(.ref b1), (.ref b1)]))
  refine OwnGo.fwd (fun tq' kq' => XS.iconst X3.here hx rfl (hb hby at_49) kq') ?_
  show OwnGo _ _ _ _ (T3.setTop (mkF m 50 #[.val (.int p0), .val (.int m0), .val (.int m1), .val (.int m2), .val (.int m3), .val (.int nn), .val (.int s0), .val (.int t0), .val (.int s1), .val (.int t1), .unset, .unset, .unset] [(.int (2 : Int32)), (.ref b1), (.ref b1)]))
  refine OwnGo.fwd (fun tq' kq' => XS.iloadN X3.here hx rfl (hb hby at_50) rfl kq') ?_
  show OwnGo _ _ _ _ (T3.setTop (mkF m 51 #[.val (.int p0), .val (.int m0), .val (.int m1), .val (.int m2), .val (.int m3), .val (.int nn), .val (.int s0), .val (.int t0), .val (.int s1), .val (.int t1), .unset, .unset, .unset] [(.int m2), (.int (2 : Int32)), (.ref b1), (.ref b1)]))
  obtain ⟨T4, h4, X4, e4, W4, V4, st4⟩ := own_iastore X3 hx hZ e3 V_b1 (i := 2) (by decide) (by decide) (g := (mkF m 51 #[.val (.int p0), .val (.int m0), .val (.int m1), .val (.int m2), .val (.int m3), .val (.int nn), .val (.int s0), .val (.int t0), .val (.int s1), .val (.int t1), .unset, .unset, .unset] [(.int m2), (.int (2 : Int32)), (.ref b1), (.ref b1)])) rfl rfl (hb hby at_51)
  have Zs := Nat.le_trans Zs (Keep.of_wr W4).1
  have N := Fr.snoc X4 N g_b1
  have V_b1 := V4
  refine OwnGo.fwd st4 ?_
  show OwnGo _ _ _ _ (T4.setTop (mkF m 52 #[.val (.int p0), .val (.int m0), .val (.int m1), .val (.int m2), .val (.int m3), .val (.int nn), .val (.int s0), .val (.int t0), .val (.int s1), .val (.int t1), .unset, .unset, .unset] [(.ref b1)]))
  refine OwnGo.fwd (fun tq' kq' => XS.dup X4.here hx rfl (hb hby at_52) rfl rfl kq') ?_
  show OwnGo _ _ _ _ (T4.setTop (mkF m 53 #[.val (.int p0), .val (.int m0), .val (.int m1), .val (.int m2), .val (.int m3), .val (.int nn), .val (.int s0), .val (.int t0), .val (.int s1), .val (.int t1), .unset, .unset, .unset] [(.ref b1), (.ref b1)]))
  refine OwnGo.fwd (fun tq' kq' => XS.iconst X4.here hx rfl (hb hby at_53) kq') ?_
  show OwnGo _ _ _ _ (T4.setTop (mkF m 54 #[.val (.int p0), .val (.int m0), .val (.int m1), .val (.int m2), .val (.int m3), .val (.int nn), .val (.int s0), .val (.int t0), .val (.int s1), .val (.int t1), .unset, .unset, .unset] [(.int (3 : Int32)), (.ref b1), (.ref b1)]))
  refine OwnGo.fwd (fun tq' kq' => XS.iload X4.here hx rfl (hb hby at_54) rfl kq') ?_
  show OwnGo _ _ _ _ (T4.setTop (mkF m 56 #[.val (.int p0), .val (.int m0), .val (.int m1), .val (.int m2), .val (.int m3), .val (.int nn), .val (.int s0), .val (.int t0), .val (.int s1), .val (.int t1), .unset, .unset, .unset] [(.int m3), (.int (3 : Int32)), (.ref b1), (.ref b1)]))
  obtain ⟨T5, h5, X5, e5, W5, V5, st5⟩ := own_iastore X4 hx hZ e4 V_b1 (i := 3) (by decide) (by decide) (g := (mkF m 56 #[.val (.int p0), .val (.int m0), .val (.int m1), .val (.int m2), .val (.int m3), .val (.int nn), .val (.int s0), .val (.int t0), .val (.int s1), .val (.int t1), .unset, .unset, .unset] [(.int m3), (.int (3 : Int32)), (.ref b1), (.ref b1)])) rfl rfl (hb hby at_56)
  have Zs := Nat.le_trans Zs (Keep.of_wr W5).1
  have N := Fr.snoc X5 N g_b1
  have V_b1 := V5
  refine OwnGo.fwd st5 ?_
  show OwnGo _ _ _ _ (T5.setTop (mkF m 57 #[.val (.int p0), .val (.int m0), .val (.int m1), .val (.int m2), .val (.int m3), .val (.int nn), .val (.int s0), .val (.int t0), .val (.int s1), .val (.int t1), .unset, .unset, .unset] [(.ref b1)]))
  have V_b1 : OwnIA Z h5 b1 4 (own_mp m0 m1 m2 m3) := V_b1
  refine OwnGo.fwd (fun tq' kq' => XS.astore X5.here hx rfl (hb hby at_57) rfl rfl (l' := #[.val (.int p0), .val (.int m0), .val (.int m1), .val (.int m2), .val (.int m3), .val (.int nn), .val (.int s0), .val (.int t0), .val (.int s1), .val (.int t1), .val (.ref b1), .unset, .unset]) rfl kq') ?_
  show OwnGo _ _ _ _ (T5.setTop (mkF m 59 #[.val (.int p0), .val (.int m0), .val (.int m1), .val (.int m2), .val (.int m3), .val (.int nn), .val (.int s0), .val (.int t0), .val (.int s1), .val (.int t1), .val (.ref b1), .unset, .unset] []))
  obtain ⟨T6, h6, X6, e6, E6, A6, D6, -, st6⟩ := newO X5 hx hZ hown (hw _ (List.mem_of_getElem? (i := 1) rfl)) (hw _ (List.mem_of_getElem? (i := 2) rfl)) (hw _ (List.mem_of_getElem? (i := 3) rfl)) e5 (g := (mkF m 59 #[.val (.int p0), .val (.int m0), .val (.int m1), .val (.int m2), .val (.int m3), .val (.int nn), .val (.int s0), .val (.int t0), .val (.int s1), .val (.int t1), .val (.ref b1), .unset, .unset] [])) rfl (hb hby at_59) (by decide) (by decide)
  obtain ⟨b6, g6⟩ : ∃ z, z = h5.size := ⟨_, rfl⟩
  rw [← g6] at A6 D6 st6
  have ne_b1_b6 : b1 ≠ b6 := Nat.ne_of_lt (Nat.lt_of_lt_of_le V_b1.lt (Nat.le_of_eq g6.symm))
  have g_b6 : n0 ≤ b6 := Nat.le_trans Zs (Nat.le_of_eq g6.symm)
  have Zs := Nat.le_trans Zs E6.1
  have V_b1 := V_b1.ext E6
  have E_b6 := A6
  have F_sources_b6 : Fld Z h6 b6 "com/example/ctl_checker/ctlchecker/Arcs" "sources" "[I" .null := D6 (Or.inl (hw _ (List.mem_of_getElem? (i := 11) rfl))) (ty := (.array .int)) (by decide)
  have F_targets_b6 : Fld Z h6 b6 "com/example/ctl_checker/ctlchecker/Arcs" "targets" "[I" .null := D6 (Or.inl (hw _ (List.mem_of_getElem? (i := 13) rfl))) (ty := (.array .int)) (by decide)
  have F_count_b6 : Fld Z h6 b6 "com/example/ctl_checker/ctlchecker/Arcs" "count" "I" (.int (0 : Int32)) := D6 (Or.inl (hw _ (List.mem_of_getElem? (i := 20) rfl))) (ty := .int) (by decide)
  refine OwnGo.fwd st6 ?_
  show OwnGo _ _ _ _ (T6.setTop (mkF m 62 #[.val (.int p0), .val (.int m0), .val (.int m1), .val (.int m2), .val (.int m3), .val (.int nn), .val (.int s0), .val (.int t0), .val (.int s1), .val (.int t1), .val (.ref b1), .unset, .unset] [(.ref b6)]))
  refine OwnGo.fwd (fun tq' kq' => XS.dup X6.here hx rfl (hb hby at_62) rfl rfl kq') ?_
  show OwnGo _ _ _ _ (T6.setTop (mkF m 63 #[.val (.int p0), .val (.int m0), .val (.int m1), .val (.int m2), .val (.int m3), .val (.int nn), .val (.int s0), .val (.int t0), .val (.int s1), .val (.int t1), .val (.ref b1), .unset, .unset] [(.ref b6), (.ref b6)]))
  obtain ⟨_, _, ⟨T7, L7, k7, n7⟩, -, X7, ⟨Lc7, hQ7, l7, y7, z7⟩, st7⟩ := X6.specialBack hx (y := (⟨"com/example/ctl_checker/ctlchecker/Arcs", "<init>", "()V"⟩ : MethodName)) rfl hown (mvT hZ (hw _ (List.mem_of_getElem? (i := 4) rfl))) (mvT hZ (hw _ (List.mem_of_getElem? (i := 5) rfl))) (mvT hZ (hw _ (List.mem_of_getElem? (i := 6) rfl))) (by decide) (backOf (W := 1) (rm1 l Z a0 hw [] b6 h6 n0 Zs E_b6 F_sources_b6 F_targets_b6 F_count_b6 g_b6) hZ (hw _ (List.mem_of_getElem? (i := 6) rfl)) (hw _ (List.mem_of_getElem? (i := 3) rfl)) (by decide) (by decide)) (g := (mkF m 63 #[.val (.int p0), .val (.int m0), .val (.int m1), .val (.int m2), .val (.int m3), .val (.int nn), .val (.int s0), .val (.int t0), .val (.int s1), .val (.int t1), .val (.ref b1), .unset, .unset] [(.ref b6), (.ref b6)])) rfl (by rw [hml]; rfl) (Steps.refl _) (a := b6) (argsL := []) (rest := [(.ref b6)]) (lenOf pd_0 rfl) rfl (by show 2 * 0 + _ ≤ _; exact Nat.le_of_eq rfl) (hb hby at_63) (fun _ _ => ⟨rfl, e6, (by decide : 2 + 2 ≤ _), (by decide : 7 + 32 ≤ _)⟩)
  dsimp only [Pt.U, Pt.locs, Pt.cells, Pt.slots] at X7 l7 y7 z7 st7 hQ7
  subst l7 y7 z7
  have lt_b1 := V_b1.lt
  have lt_b6 := E_b6.lt
  obtain ⟨h7, eh7⟩ : ∃ z, z = T7.heap := ⟨_, rfl⟩
  rw [← eh7] at hQ7
  obtain ⟨rfl, N7q, K7, sa, ta, sz_sa, sz_ta, E_b6, F_sources_b6, F_targets_b6, F_count_b6, V_sa, V_ta, ne_b6_sa, ne_b6_ta, ne_sa_ta, g_b6, g_sa, g_ta⟩ := hQ7
  have N := Fr.app N N7q
  have Zs := Nat.le_trans Zs K7.1
  have V_b1 := V_b1.keep K7 (ninS ne_b1_b6 nin0)
  have ne_b1_sa : b1 ≠ sa := Nat.ne_of_lt (Nat.lt_of_lt_of_le lt_b1 sz_sa)
  have ne_b1_ta : b1 ≠ ta := Nat.ne_of_lt (Nat.lt_of_lt_of_le lt_b1 sz_ta)
  refine OwnGo.thru st7 ?_
  show OwnGo _ _ _ _ (T7.setTop (mkF m 66 #[.val (.int p0), .val (.int m0), .val (.int m1), .val (.int m2), .val (.int m3), .val (.int nn), .val (.int s0), .val (.int t0), .val (.int s1), .val (.int t1), .val (.ref b1), .unset, .unset] [(.ref b6)]))
  refine OwnGo.fwd (fun tq' kq' => XS.astore X7.here hx rfl (hb hby at_66) rfl rfl (l' := #[.val (.int p0), .val (.int m0), .val (.int m1), .val (.int m2), .val (.int m3), .val (.int nn), .val (.int s0), .val (.int t0), .val (.int s1), .val (.int t1), .val (.ref b1), .val (.ref b6), .unset]) rfl kq') ?_
  show OwnGo _ _ _ _ (T7.setTop (mkF m 68 #[.val (.int p0), .val (.int m0), .val (.int m1), .val (.int m2), .val (.int m3), .val (.int nn), .val (.int s0), .val (.int t0), .val (.int s1), .val (.int t1), .val (.ref b1), .val (.ref b6), .unset] []))
  rcases (show nn = (0 : Int32) ∨ nn = (1 : Int32) ∨ nn = (2 : Int32) from hn3) with rfl | rfl | rfl
  · show OwnGo _ _ _ _ (T7.setTop (mkF m 68 #[.val (.int p0), .val (.int m0), .val (.int m1), .val (.int m2), .val (.int m3), .val (.int (0 : Int32)), .val (.int s0), .val (.int t0), .val (.int s1), .val (.int t1), .val (.ref b1), .val (.ref b6), .unset] []))
    refine OwnGo.fwd (fun tq' kq' => XS.iload X7.here hx rfl (hb hby at_68) rfl kq') ?_
    show OwnGo _ _ _ _ (T7.setTop (mkF m 70 #[.val (.int p0), .val (.int m0), .val (.int m1), .val (.int m2), .val (.int m3), .val (.int (0 : Int32)), .val (.int s0), .val (.int t0), .val (.int s1), .val (.int t1), .val (.ref b1), .val (.ref b6), .unset] [(.int (0 : Int32))]))
    refine OwnGo.fwd (fun tq' kq' => XS.iconst X7.here hx rfl (hb hby at_70) kq') ?_
    show OwnGo _ _ _ _ (T7.setTop (mkF m 71 #[.val (.int p0), .val (.int m0), .val (.int m1), .val (.int m2), .val (.int m3), .val (.int (0 : Int32)), .val (.int s0), .val (.int t0), .val (.int s1), .val (.int t1), .val (.ref b1), .val (.ref b6), .unset] [(.int (1 : Int32)), (.int (0 : Int32))]))
    have hc71_8 : (0 : Int) < (1 : Int) := by decide
    refine OwnGo.fwd (fun tq' kq' => XS.icmpYes X7.here hx rfl (pc0 := 71) (pc' := 83) rfl (hb hby at_71) rfl (own_blt (by decide) (by decide) hc71_8).1 (by decide) (by decide) kq') ?_
    show OwnGo _ _ _ _ (T7.setTop (mkF m 83 #[.val (.int p0), .val (.int m0), .val (.int m1), .val (.int m2), .val (.int m3), .val (.int (0 : Int32)), .val (.int s0), .val (.int t0), .val (.int s1), .val (.int t1), .val (.ref b1), .val (.ref b6), .unset] []))
    refine OwnGo.fwd (fun tq' kq' => XS.iload X7.here hx rfl (hb hby at_83) rfl kq') ?_
    show OwnGo _ _ _ _ (T7.setTop (mkF m 85 #[.val (.int p0), .val (.int m0), .val (.int m1), .val (.int m2), .val (.int m3), .val (.int (0 : Int32)), .val (.int s0), .val (.int t0), .val (.int s1), .val (.int t1), .val (.ref b1), .val (.ref b6), .unset] [(.int (0 : Int32))]))
    refine OwnGo.fwd (fun tq' kq' => XS.iconst X7.here hx rfl (hb hby at_85) kq') ?_
    show OwnGo _ _ _ _ (T7.setTop (mkF m 86 #[.val (.int p0), .val (.int m0), .val (.int m1), .val (.int m2), .val (.int m3), .val (.int (0 : Int32)), .val (.int s0), .val (.int t0), .val (.int s1), .val (.int t1), .val (.ref b1), .val (.ref b6), .unset] [(.int (2 : Int32)), (.int (0 : Int32))]))
    have hc86_9 : (0 : Int) < (2 : Int) := by decide
    refine OwnGo.fwd (fun tq' kq' => XS.icmpYes X7.here hx rfl (pc0 := 86) (pc' := 98) rfl (hb hby at_86) rfl (own_blt (by decide) (by decide) hc86_9).1 (by decide) (by decide) kq') ?_
    show OwnGo _ _ _ _ (T7.setTop (mkF m 98 #[.val (.int p0), .val (.int m0), .val (.int m1), .val (.int m2), .val (.int m3), .val (.int (0 : Int32)), .val (.int s0), .val (.int t0), .val (.int s1), .val (.int t1), .val (.ref b1), .val (.ref b6), .unset] []))
    refine OwnGo.fwd (fun tq' kq' => XS.aload X7.here hx rfl (hb hby at_98) rfl rfl kq') ?_
    show OwnGo _ _ _ _ (T7.setTop (mkF m 100 #[.val (.int p0), .val (.int m0), .val (.int m1), .val (.int m2), .val (.int m3), .val (.int (0 : Int32)), .val (.int s0), .val (.int t0), .val (.int s1), .val (.int t1), .val (.ref b1), .val (.ref b6), .unset] [(.ref b6)]))
    refine OwnGo.fwd (fun tq' kq' => XS.aload X7.here hx rfl (hb hby at_100) rfl rfl kq') ?_
    show OwnGo _ _ _ _ (T7.setTop (mkF m 102 #[.val (.int p0), .val (.int m0), .val (.int m1), .val (.int m2), .val (.int m3), .val (.int (0 : Int32)), .val (.int s0), .val (.int t0), .val (.int s1), .val (.int t1), .val (.ref b1), .val (.ref b6), .unset] [(.ref b1), (.ref b6)]))
    obtain ⟨cq10, kq10, q10a, q10b, q10c⟩ := isOf hZ eh7.symm E_b6
    obtain ⟨_, _, ⟨T10, L10, k10, n10⟩, -, X10, ⟨Lc10, hQ10, l10, y10, z10⟩, st10⟩ := X7.virtualBack hx (y := (⟨"com/example/ctl_checker/ctlchecker/Arcs", "renumber", "([I)V"⟩ : MethodName)) (z := (⟨"com/example/ctl_checker/ctlchecker/Arcs", "renumber", "([I)V"⟩ : MethodName)) hown (mvT hZ (hw _ (List.mem_of_getElem? (i := 14) rfl))) (mvT hZ (hw _ (List.mem_of_getElem? (i := 15) rfl))) (notFace_of_selects (args := #[]) (mvT hZ (hw _ (List.mem_of_getElem? (i := 17) rfl)))) (mvT hZ (hw _ (List.mem_of_getElem? (i := 17) rfl))) (mvT hZ (hw _ (List.mem_of_getElem? (i := 16) rfl))) (by decide) (backOf (W := 0) (rm3c0 l Z a0 hw [] b6 sa ta (fun _ => 0) (fun _ => 0) b1 (own_mp m0 m1 m2 m3) h7 n0 Zs ⟨E_b6, F_sources_b6, F_targets_b6, F_count_b6, V_sa, V_ta, ne_b6_sa, ne_b6_ta, ne_sa_ta, g_b6, g_sa, g_ta⟩ V_b1 ne_b1_sa ne_b1_ta) hZ (hw _ (List.mem_of_getElem? (i := 18) rfl)) (hw _ (List.mem_of_getElem? (i := 3) rfl)) (by decide) (by decide)) q10a q10c (g := (mkF m 102 #[.val (.int p0), .val (.int m0), .val (.int m1), .val (.int m2), .val (.int m3), .val (.int (0 : Int32)), .val (.int s0), .val (.int t0), .val (.int s1), .val (.int t1), .val (.ref b1), .val (.ref b6), .unset] [(.ref b1), (.ref b6)])) rfl (by rw [hml]; rfl) (Steps.refl _) (argsL := [(.ref b1)]) (rest := []) (lenOf pd_1 rfl) rfl (by show 2 * 0 + _ ≤ _; exact Nat.le_of_eq rfl) (hb hby at_102) (fun _ _ => ⟨rfl, eh7.symm, (by decide : 4 + 0 ≤ _), (by decide : 39 + 0 ≤ _)⟩)
    dsimp only [Pt.U, Pt.locs, Pt.cells, Pt.slots] at X10 l10 y10 z10 st10 hQ10
    subst l10 y10 z10
    obtain ⟨h10, eh10⟩ : ∃ z, z = T10.heap := ⟨_, rfl⟩
    rw [← eh10] at hQ10
    obtain ⟨rfl, N10q, K10, E_b6, F_sources_b6, F_targets_b6, F_count_b6, V_sa, V_ta, ne_b6_sa, ne_b6_ta, ne_sa_ta, g_b6, g_sa, g_ta⟩ := hQ10
    have N := Fr.app N N10q
    have Zs := Nat.le_trans Zs K10.1
    have V_b1 := V_b1.keep K10 (ninS ne_b1_sa (ninS ne_b1_ta nin0))
    refine OwnGo.thru st10 ?_
    show OwnGo _ _ _ _ (T10.setTop (mkF m 105 #[.val (.int p0), .val (.int m0), .val (.int m1), .val (.int m2), .val (.int m3), .val (.int (0 : Int32)), .val (.int s0), .val (.int t0), .val (.int s1), .val (.int t1), .val (.ref b1), .val (.ref b6), .unset] []))
    refine OwnGo.fwd (fun tq' kq' => XS.aload X10.here hx rfl (hb hby at_105) rfl rfl kq') ?_
    show OwnGo _ _ _ _ (T10.setTop (mkF m 107 #[.val (.int p0), .val (.int m0), .val (.int m1), .val (.int m2), .val (.int m3), .val (.int (0 : Int32)), .val (.int s0), .val (.int t0), .val (.int s1), .val (.int t1), .val (.ref b1), .val (.ref b6), .unset] [(.ref b6)]))
    obtain ⟨cq11, kq11, q11a, q11b, q11c⟩ := isOf hZ eh10.symm E_b6
    obtain ⟨_, _, ⟨T11, L11, k11, n11⟩, -, X11, ⟨Lc11, hQ11, l11, y11, z11⟩, st11⟩ := X10.virtualBack hx (y := (⟨"com/example/ctl_checker/ctlchecker/Arcs", "size", "()I"⟩ : MethodName)) (z := (⟨"com/example/ctl_checker/ctlchecker/Arcs", "size", "()I"⟩ : MethodName)) hown (mvT hZ (hw _ (List.mem_of_getElem? (i := 21) rfl))) (mvT hZ (hw _ (List.mem_of_getElem? (i := 22) rfl))) (notFace_of_selects (args := #[]) (mvT hZ (hw _ (List.mem_of_getElem? (i := 24) rfl)))) (mvT hZ (hw _ (List.mem_of_getElem? (i := 24) rfl))) (mvT hZ (hw _ (List.mem_of_getElem? (i := 23) rfl))) (by decide) (backOf (W := 0) (rm4 l Z a0 hw [] b6 sa ta 0 (fun _ => 0) (fun _ => 0) h10 n0 Zs ⟨E_b6, F_sources_b6, F_targets_b6, F_count_b6, V_sa, V_ta, ne_b6_sa, ne_b6_ta, ne_sa_ta, g_b6, g_sa, g_ta⟩) hZ (hw _ (List.mem_of_getElem? (i := 25) rfl)) (hw _ (List.mem_of_getElem? (i := 3) rfl)) (by decide) (by decide)) q11a q11c (g := (mkF m 107 #[.val (.int p0), .val (.int m0), .val (.int m1), .val (.int m2), .val (.int m3), .val (.int (0 : Int32)), .val (.int s0), .val (.int t0), .val (.int s1), .val (.int t1), .val (.ref b1), .val (.ref b6), .unset] [(.ref b6)])) rfl (by rw [hml]; rfl) (Steps.refl _) (argsL := []) (rest := []) (lenOf pd_2 rfl) rfl (by show 2 * 0 + _ ≤ _; exact Nat.le_of_eq rfl) (hb hby at_107) (fun _ _ => ⟨rfl, eh10.symm, (by decide : 4 + 0 ≤ _), (by decide : 39 + 0 ≤ _)⟩)
    dsimp only [Pt.U, Pt.locs, Pt.cells, Pt.slots] at X11 l11 y11 z11 st11 hQ11
    subst l11 y11 z11
    obtain ⟨rfl, N11q, e11⟩ := hQ11
    have N := Fr.app N N11q
    refine OwnGo.thru st11 ?_
    show OwnGo _ _ _ _ (T11.setTop (mkF m 110 #[.val (.int p0), .val (.int m0), .val (.int m1), .val (.int m2), .val (.int m3), .val (.int (0 : Int32)), .val (.int s0), .val (.int t0), .val (.int s1), .val (.int t1), .val (.ref b1), .val (.ref b6), .unset] [(.int (Int32.ofNat 0))]))
    refine OwnGo.fwd (fun tq' kq' => XS.iload X11.here hx rfl (hb hby at_110) rfl kq') ?_
    show OwnGo _ _ _ _ (T11.setTop (mkF m 112 #[.val (.int p0), .val (.int m0), .val (.int m1), .val (.int m2), .val (.int m3), .val (.int (0 : Int32)), .val (.int s0), .val (.int t0), .val (.int s1), .val (.int t1), .val (.ref b1), .val (.ref b6), .unset] [(.int (0 : Int32)), (.int (Int32.ofNat 0))]))
    have hc112_12 : (0 : Int) = (0 : Int) := by decide
    refine OwnGo.fwd (fun tq' kq' => XS.icmpNo X11.here hx rfl (hb hby at_112) rfl (own_beq (by decide) (by decide) hc112_12).2 kq') ?_
    show OwnGo _ _ _ _ (T11.setTop (mkF m 115 #[.val (.int p0), .val (.int m0), .val (.int m1), .val (.int m2), .val (.int m3), .val (.int (0 : Int32)), .val (.int s0), .val (.int t0), .val (.int s1), .val (.int t1), .val (.ref b1), .val (.ref b6), .unset] []))
    refine OwnGo.fwd (fun tq' kq' => XS.iconst X11.here hx rfl (hb hby at_115) kq') ?_
    show OwnGo _ _ _ _ (T11.setTop (mkF m 116 #[.val (.int p0), .val (.int m0), .val (.int m1), .val (.int m2), .val (.int m3), .val (.int (0 : Int32)), .val (.int s0), .val (.int t0), .val (.int s1), .val (.int t1), .val (.ref b1), .val (.ref b6), .unset] [(.int (1 : Int32))]))
    refine OwnGo.fwd (fun tq' kq' => XS.goto X11.here hx rfl (pc0 := 116) (pc' := 120) rfl (hb hby at_116) (by decide) (by decide) kq') ?_
    show OwnGo _ _ _ _ (T11.setTop (mkF m 120 #[.val (.int p0), .val (.int m0), .val (.int m1), .val (.int m2), .val (.int m3), .val (.int (0 : Int32)), .val (.int s0), .val (.int t0), .val (.int s1), .val (.int t1), .val (.ref b1), .val (.ref b6), .unset] [(.int (1 : Int32))]))
    refine OwnGo.fwd (fun tq' kq' => XS.istore X11.here hx rfl (hb hby at_120) rfl (l' := #[.val (.int p0), .val (.int m0), .val (.int m1), .val (.int m2), .val (.int m3), .val (.int (0 : Int32)), .val (.int s0), .val (.int t0), .val (.int s1), .val (.int t1), .val (.ref b1), .val (.ref b6), .val (.int (1 : Int32))]) rfl kq') ?_
    show OwnGo _ _ _ _ (T11.setTop (mkF m 122 #[.val (.int p0), .val (.int m0), .val (.int m1), .val (.int m2), .val (.int m3), .val (.int (0 : Int32)), .val (.int s0), .val (.int t0), .val (.int s1), .val (.int t1), .val (.ref b1), .val (.ref b6), .val (.int (1 : Int32))] []))
    refine OwnGo.fwd (fun tq' kq' => XS.iload X11.here hx rfl (hb hby at_122) rfl kq') ?_
    show OwnGo _ _ _ _ (T11.setTop (mkF m 124 #[.val (.int p0), .val (.int m0), .val (.int m1), .val (.int m2), .val (.int m3), .val (.int (0 : Int32)), .val (.int s0), .val (.int t0), .val (.int s1), .val (.int t1), .val (.ref b1), .val (.ref b6), .val (.int (1 : Int32))] [(.int (1 : Int32))]))
    have hc124_13 : ¬ ((1 : Int) = (0 : Int)) := by decide
    refine OwnGo.fwd (fun tq' kq' => XS.ifNo X11.here hx rfl (hb hby at_124) rfl ((if0 _ _).trans (own_bneq (by decide) (by decide) hc124_13).1) kq') ?_
    show OwnGo _ _ _ _ (T11.setTop (mkF m 127 #[.val (.int p0), .val (.int m0), .val (.int m1), .val (.int m2), .val (.int m3), .val (.int (0 : Int32)), .val (.int s0), .val (.int t0), .val (.int s1), .val (.int t1), .val (.ref b1), .val (.ref b6), .val (.int (1 : Int32))] []))
    refine OwnGo.fwd (fun tq' kq' => XS.aload X11.here hx rfl (hb hby at_127) rfl rfl kq') ?_
    show OwnGo _ _ _ _ (T11.setTop (mkF m 129 #[.val (.int p0), .val (.int m0), .val (.int m1), .val (.int m2), .val (.int m3), .val (.int (0 : Int32)), .val (.int s0), .val (.int t0), .val (.int s1), .val (.int t1), .val (.ref b1), .val (.ref b6), .val (.int (1 : Int32))] [(.ref b1)]))
    refine OwnGo.fwd (fun tq' kq' => XS.iconst X11.here hx rfl (hb hby at_129) kq') ?_
    show OwnGo _ _ _ _ (T11.setTop (mkF m 130 #[.val (.int p0), .val (.int m0), .val (.int m1), .val (.int m2), .val (.int m3), .val (.int (0 : Int32)), .val (.int s0), .val (.int t0), .val (.int s1), .val (.int t1), .val (.ref b1), .val (.ref b6), .val (.int (1 : Int32))] [(.int (0 : Int32)), (.ref b1)]))
    refine OwnGo.fwd (fun tq' kq' => own_iaload X11 hx hZ e11 V_b1 (i := 0) (by decide) (by decide) (g := (mkF m 130 #[.val (.int p0), .val (.int m0), .val (.int m1), .val (.int m2), .val (.int m3), .val (.int (0 : Int32)), .val (.int s0), .val (.int t0), .val (.int s1), .val (.int t1), .val (.ref b1), .val (.ref b6), .val (.int (1 : Int32))] [(.int (0 : Int32)), (.ref b1)])) rfl rfl (hb hby at_130) tq' kq') ?_
    show OwnGo _ _ _ _ (T11.setTop (mkF m 131 #[.val (.int p0), .val (.int m0), .val (.int m1), .val (.int m2), .val (.int m3), .val (.int (0 : Int32)), .val (.int s0), .val (.int t0), .val (.int s1), .val (.int t1), .val (.ref b1), .val (.ref b6), .val (.int (1 : Int32))] [(.int ((own_mp m0 m1 m2 m3) 0))]))
    show OwnGo _ _ _ _ (T11.setTop (mkF m 131 #[.val (.int p0), .val (.int m0), .val (.int m1), .val (.int m2), .val (.int m3), .val (.int (0 : Int32)), .val (.int s0), .val (.int t0), .val (.int s1), .val (.int t1), .val (.ref b1), .val (.ref b6), .val (.int (1 : Int32))] [(.int m0)]))
    refine OwnGo.fwd (fun tq' kq' => XS.iloadN X11.here hx rfl (hb hby at_131) rfl kq') ?_
    show OwnGo _ _ _ _ (T11.setTop (mkF m 132 #[.val (.int p0), .val (.int m0), .val (.int m1), .val (.int m2), .val (.int m3), .val (.int (0 : Int32)), .val (.int s0), .val (.int t0), .val (.int s1), .val (.int t1), .val (.ref b1), .val (.ref b6), .val (.int (1 : Int32))] [(.int m0), (.int m0)]))
    have hc132_14 : m0.toInt = m0.toInt := rfl
    refine OwnGo.fwd (fun tq' kq' => XS.icmpNo X11.here hx rfl (hb hby at_132) rfl (own_beq rfl rfl hc132_14).2 kq') ?_
    show OwnGo _ _ _ _ (T11.setTop (mkF m 135 #[.val (.int p0), .val (.int m0), .val (.int m1), .val (.int m2), .val (.int m3), .val (.int (0 : Int32)), .val (.int s0), .val (.int t0), .val (.int s1), .val (.int t1), .val (.ref b1), .val (.ref b6), .val (.int (1 : Int32))] []))
    refine OwnGo.fwd (fun tq' kq' => XS.aload X11.here hx rfl (hb hby at_135) rfl rfl kq') ?_
    show OwnGo _ _ _ _ (T11.setTop (mkF m 137 #[.val (.int p0), .val (.int m0), .val (.int m1), .val (.int m2), .val (.int m3), .val (.int (0 : Int32)), .val (.int s0), .val (.int t0), .val (.int s1), .val (.int t1), .val (.ref b1), .val (.ref b6), .val (.int (1 : Int32))] [(.ref b1)]))
    refine OwnGo.fwd (fun tq' kq' => XS.iconst X11.here hx rfl (hb hby at_137) kq') ?_
    show OwnGo _ _ _ _ (T11.setTop (mkF m 138 #[.val (.int p0), .val (.int m0), .val (.int m1), .val (.int m2), .val (.int m3), .val (.int (0 : Int32)), .val (.int s0), .val (.int t0), .val (.int s1), .val (.int t1), .val (.ref b1), .val (.ref b6), .val (.int (1 : Int32))] [(.int (1 : Int32)), (.ref b1)]))
    refine OwnGo.fwd (fun tq' kq' => own_iaload X11 hx hZ e11 V_b1 (i := 1) (by decide) (by decide) (g := (mkF m 138 #[.val (.int p0), .val (.int m0), .val (.int m1), .val (.int m2), .val (.int m3), .val (.int (0 : Int32)), .val (.int s0), .val (.int t0), .val (.int s1), .val (.int t1), .val (.ref b1), .val (.ref b6), .val (.int (1 : Int32))] [(.int (1 : Int32)), (.ref b1)])) rfl rfl (hb hby at_138) tq' kq') ?_
    show OwnGo _ _ _ _ (T11.setTop (mkF m 139 #[.val (.int p0), .val (.int m0), .val (.int m1), .val (.int m2), .val (.int m3), .val (.int (0 : Int32)), .val (.int s0), .val (.int t0), .val (.int s1), .val (.int t1), .val (.ref b1), .val (.ref b6), .val (.int (1 : Int32))] [(.int ((own_mp m0 m1 m2 m3) 1))]))
    show OwnGo _ _ _ _ (T11.setTop (mkF m 139 #[.val (.int p0), .val (.int m0), .val (.int m1), .val (.int m2), .val (.int m3), .val (.int (0 : Int32)), .val (.int s0), .val (.int t0), .val (.int s1), .val (.int t1), .val (.ref b1), .val (.ref b6), .val (.int (1 : Int32))] [(.int m1)]))
    refine OwnGo.fwd (fun tq' kq' => XS.iloadN X11.here hx rfl (hb hby at_139) rfl kq') ?_
    show OwnGo _ _ _ _ (T11.setTop (mkF m 140 #[.val (.int p0), .val (.int m0), .val (.int m1), .val (.int m2), .val (.int m3), .val (.int (0 : Int32)), .val (.int s0), .val (.int t0), .val (.int s1), .val (.int t1), .val (.ref b1), .val (.ref b6), .val (.int (1 : Int32))] [(.int m1), (.int m1)]))
    have hc140_15 : m1.toInt = m1.toInt := rfl
    refine OwnGo.fwd (fun tq' kq' => XS.icmpNo X11.here hx rfl (hb hby at_140) rfl (own_beq rfl rfl hc140_15).2 kq') ?_
    show OwnGo _ _ _ _ (T11.setTop (mkF m 143 #[.val (.int p0), .val (.int m0), .val (.int m1), .val (.int m2), .val (.int m3), .val (.int (0 : Int32)), .val (.int s0), .val (.int t0), .val (.int s1), .val (.int t1), .val (.ref b1), .val (.ref b6), .val (.int (1 : Int32))] []))
    refine OwnGo.fwd (fun tq' kq' => XS.aload X11.here hx rfl (hb hby at_143) rfl rfl kq') ?_
    show OwnGo _ _ _ _ (T11.setTop (mkF m 145 #[.val (.int p0), .val (.int m0), .val (.int m1), .val (.int m2), .val (.int m3), .val (.int (0 : Int32)), .val (.int s0), .val (.int t0), .val (.int s1), .val (.int t1), .val (.ref b1), .val (.ref b6), .val (.int (1 : Int32))] [(.ref b1)]))
    refine OwnGo.fwd (fun tq' kq' => XS.iconst X11.here hx rfl (hb hby at_145) kq') ?_
    show OwnGo _ _ _ _ (T11.setTop (mkF m 146 #[.val (.int p0), .val (.int m0), .val (.int m1), .val (.int m2), .val (.int m3), .val (.int (0 : Int32)), .val (.int s0), .val (.int t0), .val (.int s1), .val (.int t1), .val (.ref b1), .val (.ref b6), .val (.int (1 : Int32))] [(.int (2 : Int32)), (.ref b1)]))
    refine OwnGo.fwd (fun tq' kq' => own_iaload X11 hx hZ e11 V_b1 (i := 2) (by decide) (by decide) (g := (mkF m 146 #[.val (.int p0), .val (.int m0), .val (.int m1), .val (.int m2), .val (.int m3), .val (.int (0 : Int32)), .val (.int s0), .val (.int t0), .val (.int s1), .val (.int t1), .val (.ref b1), .val (.ref b6), .val (.int (1 : Int32))] [(.int (2 : Int32)), (.ref b1)])) rfl rfl (hb hby at_146) tq' kq') ?_
    show OwnGo _ _ _ _ (T11.setTop (mkF m 147 #[.val (.int p0), .val (.int m0), .val (.int m1), .val (.int m2), .val (.int m3), .val (.int (0 : Int32)), .val (.int s0), .val (.int t0), .val (.int s1), .val (.int t1), .val (.ref b1), .val (.ref b6), .val (.int (1 : Int32))] [(.int ((own_mp m0 m1 m2 m3) 2))]))
    show OwnGo _ _ _ _ (T11.setTop (mkF m 147 #[.val (.int p0), .val (.int m0), .val (.int m1), .val (.int m2), .val (.int m3), .val (.int (0 : Int32)), .val (.int s0), .val (.int t0), .val (.int s1), .val (.int t1), .val (.ref b1), .val (.ref b6), .val (.int (1 : Int32))] [(.int m2)]))
    refine OwnGo.fwd (fun tq' kq' => XS.iloadN X11.here hx rfl (hb hby at_147) rfl kq') ?_
    show OwnGo _ _ _ _ (T11.setTop (mkF m 148 #[.val (.int p0), .val (.int m0), .val (.int m1), .val (.int m2), .val (.int m3), .val (.int (0 : Int32)), .val (.int s0), .val (.int t0), .val (.int s1), .val (.int t1), .val (.ref b1), .val (.ref b6), .val (.int (1 : Int32))] [(.int m2), (.int m2)]))
    have hc148_16 : m2.toInt = m2.toInt := rfl
    refine OwnGo.fwd (fun tq' kq' => XS.icmpNo X11.here hx rfl (hb hby at_148) rfl (own_beq rfl rfl hc148_16).2 kq') ?_
    show OwnGo _ _ _ _ (T11.setTop (mkF m 151 #[.val (.int p0), .val (.int m0), .val (.int m1), .val (.int m2), .val (.int m3), .val (.int (0 : Int32)), .val (.int s0), .val (.int t0), .val (.int s1), .val (.int t1), .val (.ref b1), .val (.ref b6), .val (.int (1 : Int32))] []))
    refine OwnGo.fwd (fun tq' kq' => XS.aload X11.here hx rfl (hb hby at_151) rfl rfl kq') ?_
    show OwnGo _ _ _ _ (T11.setTop (mkF m 153 #[.val (.int p0), .val (.int m0), .val (.int m1), .val (.int m2), .val (.int m3), .val (.int (0 : Int32)), .val (.int s0), .val (.int t0), .val (.int s1), .val (.int t1), .val (.ref b1), .val (.ref b6), .val (.int (1 : Int32))] [(.ref b1)]))
    refine OwnGo.fwd (fun tq' kq' => XS.iconst X11.here hx rfl (hb hby at_153) kq') ?_
    show OwnGo _ _ _ _ (T11.setTop (mkF m 154 #[.val (.int p0), .val (.int m0), .val (.int m1), .val (.int m2), .val (.int m3), .val (.int (0 : Int32)), .val (.int s0), .val (.int t0), .val (.int s1), .val (.int t1), .val (.ref b1), .val (.ref b6), .val (.int (1 : Int32))] [(.int (3 : Int32)), (.ref b1)]))
    refine OwnGo.fwd (fun tq' kq' => own_iaload X11 hx hZ e11 V_b1 (i := 3) (by decide) (by decide) (g := (mkF m 154 #[.val (.int p0), .val (.int m0), .val (.int m1), .val (.int m2), .val (.int m3), .val (.int (0 : Int32)), .val (.int s0), .val (.int t0), .val (.int s1), .val (.int t1), .val (.ref b1), .val (.ref b6), .val (.int (1 : Int32))] [(.int (3 : Int32)), (.ref b1)])) rfl rfl (hb hby at_154) tq' kq') ?_
    show OwnGo _ _ _ _ (T11.setTop (mkF m 155 #[.val (.int p0), .val (.int m0), .val (.int m1), .val (.int m2), .val (.int m3), .val (.int (0 : Int32)), .val (.int s0), .val (.int t0), .val (.int s1), .val (.int t1), .val (.ref b1), .val (.ref b6), .val (.int (1 : Int32))] [(.int ((own_mp m0 m1 m2 m3) 3))]))
    show OwnGo _ _ _ _ (T11.setTop (mkF m 155 #[.val (.int p0), .val (.int m0), .val (.int m1), .val (.int m2), .val (.int m3), .val (.int (0 : Int32)), .val (.int s0), .val (.int t0), .val (.int s1), .val (.int t1), .val (.ref b1), .val (.ref b6), .val (.int (1 : Int32))] [(.int m3)]))
    refine OwnGo.fwd (fun tq' kq' => XS.iload X11.here hx rfl (hb hby at_155) rfl kq') ?_
    show OwnGo _ _ _ _ (T11.setTop (mkF m 157 #[.val (.int p0), .val (.int m0), .val (.int m1), .val (.int m2), .val (.int m3), .val (.int (0 : Int32)), .val (.int s0), .val (.int t0), .val (.int s1), .val (.int t1), .val (.ref b1), .val (.ref b6), .val (.int (1 : Int32))] [(.int m3), (.int m3)]))
    have hc157_17 : m3.toInt = m3.toInt := rfl
    refine OwnGo.fwd (fun tq' kq' => XS.icmpNo X11.here hx rfl (hb hby at_157) rfl (own_beq rfl rfl hc157_17).2 kq') ?_
    show OwnGo _ _ _ _ (T11.setTop (mkF m 160 #[.val (.int p0), .val (.int m0), .val (.int m1), .val (.int m2), .val (.int m3), .val (.int (0 : Int32)), .val (.int s0), .val (.int t0), .val (.int s1), .val (.int t1), .val (.ref b1), .val (.ref b6), .val (.int (1 : Int32))] []))
    refine OwnGo.fwd (fun tq' kq' => XS.iconst X11.here hx rfl (hb hby at_160) kq') ?_
    show OwnGo _ _ _ _ (T11.setTop (mkF m 161 #[.val (.int p0), .val (.int m0), .val (.int m1), .val (.int m2), .val (.int m3), .val (.int (0 : Int32)), .val (.int s0), .val (.int t0), .val (.int s1), .val (.int t1), .val (.ref b1), .val (.ref b6), .val (.int (1 : Int32))] [(.int (1 : Int32))]))
    refine OwnGo.fwd (fun tq' kq' => XS.goto X11.here hx rfl (pc0 := 161) (pc' := 165) rfl (hb hby at_161) (by decide) (by decide) kq') ?_
    show OwnGo _ _ _ _ (T11.setTop (mkF m 165 #[.val (.int p0), .val (.int m0), .val (.int m1), .val (.int m2), .val (.int m3), .val (.int (0 : Int32)), .val (.int s0), .val (.int t0), .val (.int s1), .val (.int t1), .val (.ref b1), .val (.ref b6), .val (.int (1 : Int32))] [(.int (1 : Int32))]))
    refine OwnGo.fwd (fun tq' kq' => XS.istore X11.here hx rfl (hb hby at_165) rfl (l' := #[.val (.int p0), .val (.int m0), .val (.int m1), .val (.int m2), .val (.int m3), .val (.int (0 : Int32)), .val (.int s0), .val (.int t0), .val (.int s1), .val (.int t1), .val (.ref b1), .val (.ref b6), .val (.int (1 : Int32))]) rfl kq') ?_
    show OwnGo _ _ _ _ (T11.setTop (mkF m 167 #[.val (.int p0), .val (.int m0), .val (.int m1), .val (.int m2), .val (.int m3), .val (.int (0 : Int32)), .val (.int s0), .val (.int t0), .val (.int s1), .val (.int t1), .val (.ref b1), .val (.ref b6), .val (.int (1 : Int32))] []))
    refine OwnGo.fwd (fun tq' kq' => XS.iload X11.here hx rfl (hb hby at_167) rfl kq') ?_
    show OwnGo _ _ _ _ (T11.setTop (mkF m 169 #[.val (.int p0), .val (.int m0), .val (.int m1), .val (.int m2), .val (.int m3), .val (.int (0 : Int32)), .val (.int s0), .val (.int t0), .val (.int s1), .val (.int t1), .val (.ref b1), .val (.ref b6), .val (.int (1 : Int32))] [(.int (0 : Int32))]))
    refine OwnGo.fwd (fun tq' kq' => XS.iconst X11.here hx rfl (hb hby at_169) kq') ?_
    show OwnGo _ _ _ _ (T11.setTop (mkF m 170 #[.val (.int p0), .val (.int m0), .val (.int m1), .val (.int m2), .val (.int m3), .val (.int (0 : Int32)), .val (.int s0), .val (.int t0), .val (.int s1), .val (.int t1), .val (.ref b1), .val (.ref b6), .val (.int (1 : Int32))] [(.int (1 : Int32)), (.int (0 : Int32))]))
    have hc170_18 : (0 : Int) < (1 : Int) := by decide
    refine OwnGo.fwd (fun tq' kq' => XS.icmpYes X11.here hx rfl (pc0 := 170) (pc' := 235) rfl (hb hby at_170) rfl (own_blt (by decide) (by decide) hc170_18).1 (by decide) (by decide) kq') ?_
    show OwnGo _ _ _ _ (T11.setTop (mkF m 235 #[.val (.int p0), .val (.int m0), .val (.int m1), .val (.int m2), .val (.int m3), .val (.int (0 : Int32)), .val (.int s0), .val (.int t0), .val (.int s1), .val (.int t1), .val (.ref b1), .val (.ref b6), .val (.int (1 : Int32))] []))
    refine OwnGo.fwd (fun tq' kq' => XS.iload X11.here hx rfl (hb hby at_235) rfl kq') ?_
    show OwnGo _ _ _ _ (T11.setTop (mkF m 237 #[.val (.int p0), .val (.int m0), .val (.int m1), .val (.int m2), .val (.int m3), .val (.int (0 : Int32)), .val (.int s0), .val (.int t0), .val (.int s1), .val (.int t1), .val (.ref b1), .val (.ref b6), .val (.int (1 : Int32))] [(.int (0 : Int32))]))
    refine OwnGo.fwd (fun tq' kq' => XS.iconst X11.here hx rfl (hb hby at_237) kq') ?_
    show OwnGo _ _ _ _ (T11.setTop (mkF m 238 #[.val (.int p0), .val (.int m0), .val (.int m1), .val (.int m2), .val (.int m3), .val (.int (0 : Int32)), .val (.int s0), .val (.int t0), .val (.int s1), .val (.int t1), .val (.ref b1), .val (.ref b6), .val (.int (1 : Int32))] [(.int (2 : Int32)), (.int (0 : Int32))]))
    have hc238_19 : (0 : Int) < (2 : Int) := by decide
    refine OwnGo.fwd (fun tq' kq' => XS.icmpYes X11.here hx rfl (pc0 := 238) (pc' := 303) rfl (hb hby at_238) rfl (own_blt (by decide) (by decide) hc238_19).1 (by decide) (by decide) kq') ?_
    show OwnGo _ _ _ _ (T11.setTop (mkF m 303 #[.val (.int p0), .val (.int m0), .val (.int m1), .val (.int m2), .val (.int m3), .val (.int (0 : Int32)), .val (.int s0), .val (.int t0), .val (.int s1), .val (.int t1), .val (.ref b1), .val (.ref b6), .val (.int (1 : Int32))] []))
    refine OwnGo.fwd (fun tq' kq' => XS.iload X11.here hx rfl (hb hby at_303) rfl kq') ?_
    show OwnGo _ _ _ _ (T11.setTop (mkF m 305 #[.val (.int p0), .val (.int m0), .val (.int m1), .val (.int m2), .val (.int m3), .val (.int (0 : Int32)), .val (.int s0), .val (.int t0), .val (.int s1), .val (.int t1), .val (.ref b1), .val (.ref b6), .val (.int (1 : Int32))] [(.int (1 : Int32))]))
    exact own_retZ X11 hlk hx Bd.returns (hb hby at_305) (by decide) (by decide) e11 ⟨rfl, N⟩
  · show OwnGo _ _ _ _ (T7.setTop (mkF m 68 #[.val (.int p0), .val (.int m0), .val (.int m1), .val (.int m2), .val (.int m3), .val (.int (1 : Int32)), .val (.int s0), .val (.int t0), .val (.int s1), .val (.int t1), .val (.ref b1), .val (.ref b6), .unset] []))
    refine OwnGo.fwd (fun tq' kq' => XS.iload X7.here hx rfl (hb hby at_68) rfl kq') ?_
    show OwnGo _ _ _ _ (T7.setTop (mkF m 70 #[.val (.int p0), .val (.int m0), .val (.int m1), .val (.int m2), .val (.int m3), .val (.int (1 : Int32)), .val (.int s0), .val (.int t0), .val (.int s1), .val (.int t1), .val (.ref b1), .val (.ref b6), .unset] [(.int (1 : Int32))]))
    refine OwnGo.fwd (fun tq' kq' => XS.iconst X7.here hx rfl (hb hby at_70) kq') ?_
    show OwnGo _ _ _ _ (T7.setTop (mkF m 71 #[.val (.int p0), .val (.int m0), .val (.int m1), .val (.int m2), .val (.int m3), .val (.int (1 : Int32)), .val (.int s0), .val (.int t0), .val (.int s1), .val (.int t1), .val (.ref b1), .val (.ref b6), .unset] [(.int (1 : Int32)), (.int (1 : Int32))]))
    have hc71_20 : ¬ ((1 : Int) < (1 : Int)) := by decide
    refine OwnGo.fwd (fun tq' kq' => XS.icmpNo X7.here hx rfl (hb hby at_71) rfl (own_bnlt (by decide) (by decide) hc71_20).1 kq') ?_
    show OwnGo _ _ _ _ (T7.setTop (mkF m 74 #[.val (.int p0), .val (.int m0), .val (.int m1), .val (.int m2), .val (.int m3), .val (.int (1 : Int32)), .val (.int s0), .val (.int t0), .val (.int s1), .val (.int t1), .val (.ref b1), .val (.ref b6), .unset] []))
    refine OwnGo.fwd (fun tq' kq' => XS.aload X7.here hx rfl (hb hby at_74) rfl rfl kq') ?_
    show OwnGo _ _ _ _ (T7.setTop (mkF m 76 #[.val (.int p0), .val (.int m0), .val (.int m1), .val (.int m2), .val (.int m3), .val (.int (1 : Int32)), .val (.int s0), .val (.int t0), .val (.int s1), .val (.int t1), .val (.ref b1), .val (.ref b6), .unset] [(.ref b6)]))
    refine OwnGo.fwd (fun tq' kq' => XS.iload X7.here hx rfl (hb hby at_76) rfl kq') ?_
    show OwnGo _ _ _ _ (T7.setTop (mkF m 78 #[.val (.int p0), .val (.int m0), .val (.int m1), .val (.int m2), .val (.int m3), .val (.int (1 : Int32)), .val (.int s0), .val (.int t0), .val (.int s1), .val (.int t1), .val (.ref b1), .val (.ref b6), .unset] [(.int s0), (.ref b6)]))
    refine OwnGo.fwd (fun tq' kq' => XS.iload X7.here hx rfl (hb hby at_78) rfl kq') ?_
    show OwnGo _ _ _ _ (T7.setTop (mkF m 80 #[.val (.int p0), .val (.int m0), .val (.int m1), .val (.int m2), .val (.int m3), .val (.int (1 : Int32)), .val (.int s0), .val (.int t0), .val (.int s1), .val (.int t1), .val (.ref b1), .val (.ref b6), .unset] [(.int t0), (.int s0), (.ref b6)]))
    obtain ⟨cq21, kq21, q21a, q21b, q21c⟩ := isOf hZ eh7.symm E_b6
    obtain ⟨_, _, ⟨T21, L21, k21, n21⟩, -, X21, ⟨Lc21, hQ21, l21, y21, z21⟩, st21⟩ := X7.virtualBack hx (y := (⟨"com/example/ctl_checker/ctlchecker/Arcs", "add", "(II)V"⟩ : MethodName)) (z := (⟨"com/example/ctl_checker/ctlchecker/Arcs", "add", "(II)V"⟩ : MethodName)) hown (mvT hZ (hw _ (List.mem_of_getElem? (i := 26) rfl))) (mvT hZ (hw _ (List.mem_of_getElem? (i := 27) rfl))) (notFace_of_selects (args := #[]) (mvT hZ (hw _ (List.mem_of_getElem? (i := 29) rfl)))) (mvT hZ (hw _ (List.mem_of_getElem? (i := 29) rfl))) (mvT hZ (hw _ (List.mem_of_getElem? (i := 28) rfl))) (by decide) (backOf (W := 0) (rm5 l Z a0 hw [] b6 sa ta 0 (fun _ => 0) (fun _ => 0) s0 t0 h7 n0 Zs ⟨E_b6, F_sources_b6, F_targets_b6, F_count_b6, V_sa, V_ta, ne_b6_sa, ne_b6_ta, ne_sa_ta, g_b6, g_sa, g_ta⟩ (by decide)) hZ (hw _ (List.mem_of_getElem? (i := 30) rfl)) (hw _ (List.mem_of_getElem? (i := 3) rfl)) (by decide) (by decide)) q21a q21c (g := (mkF m 80 #[.val (.int p0), .val (.int m0), .val (.int m1), .val (.int m2), .val (.int m3), .val (.int (1 : Int32)), .val (.int s0), .val (.int t0), .val (.int s1), .val (.int t1), .val (.ref b1), .val (.ref b6), .unset] [(.int t0), (.int s0), (.ref b6)])) rfl (by rw [hml]; rfl) (Steps.refl _) (argsL := [(.int s0), (.int t0)]) (rest := []) (lenOf pd_3 rfl) rfl (by show 2 * 0 + _ ≤ _; exact Nat.le_of_eq rfl) (hb hby at_80) (fun _ _ => ⟨rfl, eh7.symm, (by decide : 4 + 0 ≤ _), (by decide : 39 + 0 ≤ _)⟩)
    dsimp only [Pt.U, Pt.locs, Pt.cells, Pt.slots] at X21 l21 y21 z21 st21 hQ21
    subst l21 y21 z21
    obtain ⟨h21, eh21⟩ : ∃ z, z = T21.heap := ⟨_, rfl⟩
    rw [← eh21] at hQ21
    obtain ⟨rfl, N21q, K21, E_b6, F_sources_b6, F_targets_b6, F_count_b6, V_sa, V_ta, ne_b6_sa, ne_b6_ta, ne_sa_ta, g_b6, g_sa, g_ta⟩ := hQ21
    have N := Fr.app N N21q
    have Zs := Nat.le_trans Zs K21.1
    have V_b1 := V_b1.keep K21 (ninS ne_b1_b6 (ninS ne_b1_sa (ninS ne_b1_ta nin0)))
    refine OwnGo.thru st21 ?_
    show OwnGo _ _ _ _ (T21.setTop (mkF m 83 #[.val (.int p0), .val (.int m0), .val (.int m1), .val (.int m2), .val (.int m3), .val (.int (1 : Int32)), .val (.int s0), .val (.int t0), .val (.int s1), .val (.int t1), .val (.ref b1), .val (.ref b6), .unset] []))
    refine OwnGo.fwd (fun tq' kq' => XS.iload X21.here hx rfl (hb hby at_83) rfl kq') ?_
    show OwnGo _ _ _ _ (T21.setTop (mkF m 85 #[.val (.int p0), .val (.int m0), .val (.int m1), .val (.int m2), .val (.int m3), .val (.int (1 : Int32)), .val (.int s0), .val (.int t0), .val (.int s1), .val (.int t1), .val (.ref b1), .val (.ref b6), .unset] [(.int (1 : Int32))]))
    refine OwnGo.fwd (fun tq' kq' => XS.iconst X21.here hx rfl (hb hby at_85) kq') ?_
    show OwnGo _ _ _ _ (T21.setTop (mkF m 86 #[.val (.int p0), .val (.int m0), .val (.int m1), .val (.int m2), .val (.int m3), .val (.int (1 : Int32)), .val (.int s0), .val (.int t0), .val (.int s1), .val (.int t1), .val (.ref b1), .val (.ref b6), .unset] [(.int (2 : Int32)), (.int (1 : Int32))]))
    have hc86_22 : (1 : Int) < (2 : Int) := by decide
    refine OwnGo.fwd (fun tq' kq' => XS.icmpYes X21.here hx rfl (pc0 := 86) (pc' := 98) rfl (hb hby at_86) rfl (own_blt (by decide) (by decide) hc86_22).1 (by decide) (by decide) kq') ?_
    show OwnGo _ _ _ _ (T21.setTop (mkF m 98 #[.val (.int p0), .val (.int m0), .val (.int m1), .val (.int m2), .val (.int m3), .val (.int (1 : Int32)), .val (.int s0), .val (.int t0), .val (.int s1), .val (.int t1), .val (.ref b1), .val (.ref b6), .unset] []))
    refine OwnGo.fwd (fun tq' kq' => XS.aload X21.here hx rfl (hb hby at_98) rfl rfl kq') ?_
    show OwnGo _ _ _ _ (T21.setTop (mkF m 100 #[.val (.int p0), .val (.int m0), .val (.int m1), .val (.int m2), .val (.int m3), .val (.int (1 : Int32)), .val (.int s0), .val (.int t0), .val (.int s1), .val (.int t1), .val (.ref b1), .val (.ref b6), .unset] [(.ref b6)]))
    refine OwnGo.fwd (fun tq' kq' => XS.aload X21.here hx rfl (hb hby at_100) rfl rfl kq') ?_
    show OwnGo _ _ _ _ (T21.setTop (mkF m 102 #[.val (.int p0), .val (.int m0), .val (.int m1), .val (.int m2), .val (.int m3), .val (.int (1 : Int32)), .val (.int s0), .val (.int t0), .val (.int s1), .val (.int t1), .val (.ref b1), .val (.ref b6), .unset] [(.ref b1), (.ref b6)]))
    obtain ⟨cq23, kq23, q23a, q23b, q23c⟩ := isOf hZ eh21.symm E_b6
    obtain ⟨_, _, ⟨T23, L23, k23, n23⟩, -, X23, ⟨Lc23, hQ23, l23, y23, z23⟩, st23⟩ := X21.virtualBack hx (y := (⟨"com/example/ctl_checker/ctlchecker/Arcs", "renumber", "([I)V"⟩ : MethodName)) (z := (⟨"com/example/ctl_checker/ctlchecker/Arcs", "renumber", "([I)V"⟩ : MethodName)) hown (mvT hZ (hw _ (List.mem_of_getElem? (i := 14) rfl))) (mvT hZ (hw _ (List.mem_of_getElem? (i := 15) rfl))) (notFace_of_selects (args := #[]) (mvT hZ (hw _ (List.mem_of_getElem? (i := 17) rfl)))) (mvT hZ (hw _ (List.mem_of_getElem? (i := 17) rfl))) (mvT hZ (hw _ (List.mem_of_getElem? (i := 16) rfl))) (by decide) (backOf (W := 0) (rm3c1 l Z a0 hw [] b6 sa ta (fun k => if k = 0 then s0 else (fun _ => 0) k) (fun k => if k = 0 then t0 else (fun _ => 0) k) b1 (own_mp m0 m1 m2 m3) x0 x1 h21 n0 Zs ⟨E_b6, F_sources_b6, F_targets_b6, F_count_b6, V_sa, V_ta, ne_b6_sa, ne_b6_ta, ne_sa_ta, g_b6, g_sa, g_ta⟩ V_b1 ne_b1_sa ne_b1_ta hx0 lx0 hx1 lx1) hZ (hw _ (List.mem_of_getElem? (i := 18) rfl)) (hw _ (List.mem_of_getElem? (i := 3) rfl)) (by decide) (by decide)) q23a q23c (g := (mkF m 102 #[.val (.int p0), .val (.int m0), .val (.int m1), .val (.int m2), .val (.int m3), .val (.int (1 : Int32)), .val (.int s0), .val (.int t0), .val (.int s1), .val (.int t1), .val (.ref b1), .val (.ref b6), .unset] [(.ref b1), (.ref b6)])) rfl (by rw [hml]; rfl) (Steps.refl _) (argsL := [(.ref b1)]) (rest := []) (lenOf pd_1 rfl) rfl (by show 2 * 0 + _ ≤ _; exact Nat.le_of_eq rfl) (hb hby at_102) (fun _ _ => ⟨rfl, eh21.symm, (by decide : 4 + 0 ≤ _), (by decide : 39 + 0 ≤ _)⟩)
    dsimp only [Pt.U, Pt.locs, Pt.cells, Pt.slots] at X23 l23 y23 z23 st23 hQ23
    subst l23 y23 z23
    obtain ⟨h23, eh23⟩ : ∃ z, z = T23.heap := ⟨_, rfl⟩
    rw [← eh23] at hQ23
    obtain ⟨rfl, N23q, K23, E_b6, F_sources_b6, F_targets_b6, F_count_b6, V_sa, V_ta, ne_b6_sa, ne_b6_ta, ne_sa_ta, g_b6, g_sa, g_ta⟩ := hQ23
    have N := Fr.app N N23q
    have Zs := Nat.le_trans Zs K23.1
    have V_b1 := V_b1.keep K23 (ninS ne_b1_sa (ninS ne_b1_ta nin0))
    refine OwnGo.thru st23 ?_
    show OwnGo _ _ _ _ (T23.setTop (mkF m 105 #[.val (.int p0), .val (.int m0), .val (.int m1), .val (.int m2), .val (.int m3), .val (.int (1 : Int32)), .val (.int s0), .val (.int t0), .val (.int s1), .val (.int t1), .val (.ref b1), .val (.ref b6), .unset] []))
    refine OwnGo.fwd (fun tq' kq' => XS.aload X23.here hx rfl (hb hby at_105) rfl rfl kq') ?_
    show OwnGo _ _ _ _ (T23.setTop (mkF m 107 #[.val (.int p0), .val (.int m0), .val (.int m1), .val (.int m2), .val (.int m3), .val (.int (1 : Int32)), .val (.int s0), .val (.int t0), .val (.int s1), .val (.int t1), .val (.ref b1), .val (.ref b6), .unset] [(.ref b6)]))
    obtain ⟨cq24, kq24, q24a, q24b, q24c⟩ := isOf hZ eh23.symm E_b6
    obtain ⟨_, _, ⟨T24, L24, k24, n24⟩, -, X24, ⟨Lc24, hQ24, l24, y24, z24⟩, st24⟩ := X23.virtualBack hx (y := (⟨"com/example/ctl_checker/ctlchecker/Arcs", "size", "()I"⟩ : MethodName)) (z := (⟨"com/example/ctl_checker/ctlchecker/Arcs", "size", "()I"⟩ : MethodName)) hown (mvT hZ (hw _ (List.mem_of_getElem? (i := 21) rfl))) (mvT hZ (hw _ (List.mem_of_getElem? (i := 22) rfl))) (notFace_of_selects (args := #[]) (mvT hZ (hw _ (List.mem_of_getElem? (i := 24) rfl)))) (mvT hZ (hw _ (List.mem_of_getElem? (i := 24) rfl))) (mvT hZ (hw _ (List.mem_of_getElem? (i := 23) rfl))) (by decide) (backOf (W := 0) (rm4 l Z a0 hw [] b6 sa ta 1 (fun k => if k = 0 then ((own_mp m0 m1 m2 m3) x0) else (fun k => if k = 0 then s0 else (fun _ => 0) k) k) (fun k => if k = 0 then ((own_mp m0 m1 m2 m3) x1) else (fun k => if k = 0 then t0 else (fun _ => 0) k) k) h23 n0 Zs ⟨E_b6, F_sources_b6, F_targets_b6, F_count_b6, V_sa, V_ta, ne_b6_sa, ne_b6_ta, ne_sa_ta, g_b6, g_sa, g_ta⟩) hZ (hw _ (List.mem_of_getElem? (i := 25) rfl)) (hw _ (List.mem_of_getElem? (i := 3) rfl)) (by decide) (by decide)) q24a q24c (g := (mkF m 107 #[.val (.int p0), .val (.int m0), .val (.int m1), .val (.int m2), .val (.int m3), .val (.int (1 : Int32)), .val (.int s0), .val (.int t0), .val (.int s1), .val (.int t1), .val (.ref b1), .val (.ref b6), .unset] [(.ref b6)])) rfl (by rw [hml]; rfl) (Steps.refl _) (argsL := []) (rest := []) (lenOf pd_2 rfl) rfl (by show 2 * 0 + _ ≤ _; exact Nat.le_of_eq rfl) (hb hby at_107) (fun _ _ => ⟨rfl, eh23.symm, (by decide : 4 + 0 ≤ _), (by decide : 39 + 0 ≤ _)⟩)
    dsimp only [Pt.U, Pt.locs, Pt.cells, Pt.slots] at X24 l24 y24 z24 st24 hQ24
    subst l24 y24 z24
    obtain ⟨rfl, N24q, e24⟩ := hQ24
    have N := Fr.app N N24q
    refine OwnGo.thru st24 ?_
    show OwnGo _ _ _ _ (T24.setTop (mkF m 110 #[.val (.int p0), .val (.int m0), .val (.int m1), .val (.int m2), .val (.int m3), .val (.int (1 : Int32)), .val (.int s0), .val (.int t0), .val (.int s1), .val (.int t1), .val (.ref b1), .val (.ref b6), .unset] [(.int (Int32.ofNat 1))]))
    refine OwnGo.fwd (fun tq' kq' => XS.iload X24.here hx rfl (hb hby at_110) rfl kq') ?_
    show OwnGo _ _ _ _ (T24.setTop (mkF m 112 #[.val (.int p0), .val (.int m0), .val (.int m1), .val (.int m2), .val (.int m3), .val (.int (1 : Int32)), .val (.int s0), .val (.int t0), .val (.int s1), .val (.int t1), .val (.ref b1), .val (.ref b6), .unset] [(.int (1 : Int32)), (.int (Int32.ofNat 1))]))
    have hc112_25 : (1 : Int) = (1 : Int) := by decide
    refine OwnGo.fwd (fun tq' kq' => XS.icmpNo X24.here hx rfl (hb hby at_112) rfl (own_beq (by decide) (by decide) hc112_25).2 kq') ?_
    show OwnGo _ _ _ _ (T24.setTop (mkF m 115 #[.val (.int p0), .val (.int m0), .val (.int m1), .val (.int m2), .val (.int m3), .val (.int (1 : Int32)), .val (.int s0), .val (.int t0), .val (.int s1), .val (.int t1), .val (.ref b1), .val (.ref b6), .unset] []))
    refine OwnGo.fwd (fun tq' kq' => XS.iconst X24.here hx rfl (hb hby at_115) kq') ?_
    show OwnGo _ _ _ _ (T24.setTop (mkF m 116 #[.val (.int p0), .val (.int m0), .val (.int m1), .val (.int m2), .val (.int m3), .val (.int (1 : Int32)), .val (.int s0), .val (.int t0), .val (.int s1), .val (.int t1), .val (.ref b1), .val (.ref b6), .unset] [(.int (1 : Int32))]))
    refine OwnGo.fwd (fun tq' kq' => XS.goto X24.here hx rfl (pc0 := 116) (pc' := 120) rfl (hb hby at_116) (by decide) (by decide) kq') ?_
    show OwnGo _ _ _ _ (T24.setTop (mkF m 120 #[.val (.int p0), .val (.int m0), .val (.int m1), .val (.int m2), .val (.int m3), .val (.int (1 : Int32)), .val (.int s0), .val (.int t0), .val (.int s1), .val (.int t1), .val (.ref b1), .val (.ref b6), .unset] [(.int (1 : Int32))]))
    refine OwnGo.fwd (fun tq' kq' => XS.istore X24.here hx rfl (hb hby at_120) rfl (l' := #[.val (.int p0), .val (.int m0), .val (.int m1), .val (.int m2), .val (.int m3), .val (.int (1 : Int32)), .val (.int s0), .val (.int t0), .val (.int s1), .val (.int t1), .val (.ref b1), .val (.ref b6), .val (.int (1 : Int32))]) rfl kq') ?_
    show OwnGo _ _ _ _ (T24.setTop (mkF m 122 #[.val (.int p0), .val (.int m0), .val (.int m1), .val (.int m2), .val (.int m3), .val (.int (1 : Int32)), .val (.int s0), .val (.int t0), .val (.int s1), .val (.int t1), .val (.ref b1), .val (.ref b6), .val (.int (1 : Int32))] []))
    refine OwnGo.fwd (fun tq' kq' => XS.iload X24.here hx rfl (hb hby at_122) rfl kq') ?_
    show OwnGo _ _ _ _ (T24.setTop (mkF m 124 #[.val (.int p0), .val (.int m0), .val (.int m1), .val (.int m2), .val (.int m3), .val (.int (1 : Int32)), .val (.int s0), .val (.int t0), .val (.int s1), .val (.int t1), .val (.ref b1), .val (.ref b6), .val (.int (1 : Int32))] [(.int (1 : Int32))]))
    have hc124_26 : ¬ ((1 : Int) = (0 : Int)) := by decide
    refine OwnGo.fwd (fun tq' kq' => XS.ifNo X24.here hx rfl (hb hby at_124) rfl ((if0 _ _).trans (own_bneq (by decide) (by decide) hc124_26).1) kq') ?_
    show OwnGo _ _ _ _ (T24.setTop (mkF m 127 #[.val (.int p0), .val (.int m0), .val (.int m1), .val (.int m2), .val (.int m3), .val (.int (1 : Int32)), .val (.int s0), .val (.int t0), .val (.int s1), .val (.int t1), .val (.ref b1), .val (.ref b6), .val (.int (1 : Int32))] []))
    refine OwnGo.fwd (fun tq' kq' => XS.aload X24.here hx rfl (hb hby at_127) rfl rfl kq') ?_
    show OwnGo _ _ _ _ (T24.setTop (mkF m 129 #[.val (.int p0), .val (.int m0), .val (.int m1), .val (.int m2), .val (.int m3), .val (.int (1 : Int32)), .val (.int s0), .val (.int t0), .val (.int s1), .val (.int t1), .val (.ref b1), .val (.ref b6), .val (.int (1 : Int32))] [(.ref b1)]))
    refine OwnGo.fwd (fun tq' kq' => XS.iconst X24.here hx rfl (hb hby at_129) kq') ?_
    show OwnGo _ _ _ _ (T24.setTop (mkF m 130 #[.val (.int p0), .val (.int m0), .val (.int m1), .val (.int m2), .val (.int m3), .val (.int (1 : Int32)), .val (.int s0), .val (.int t0), .val (.int s1), .val (.int t1), .val (.ref b1), .val (.ref b6), .val (.int (1 : Int32))] [(.int (0 : Int32)), (.ref b1)]))
    refine OwnGo.fwd (fun tq' kq' => own_iaload X24 hx hZ e24 V_b1 (i := 0) (by decide) (by decide) (g := (mkF m 130 #[.val (.int p0), .val (.int m0), .val (.int m1), .val (.int m2), .val (.int m3), .val (.int (1 : Int32)), .val (.int s0), .val (.int t0), .val (.int s1), .val (.int t1), .val (.ref b1), .val (.ref b6), .val (.int (1 : Int32))] [(.int (0 : Int32)), (.ref b1)])) rfl rfl (hb hby at_130) tq' kq') ?_
    show OwnGo _ _ _ _ (T24.setTop (mkF m 131 #[.val (.int p0), .val (.int m0), .val (.int m1), .val (.int m2), .val (.int m3), .val (.int (1 : Int32)), .val (.int s0), .val (.int t0), .val (.int s1), .val (.int t1), .val (.ref b1), .val (.ref b6), .val (.int (1 : Int32))] [(.int ((own_mp m0 m1 m2 m3) 0))]))
    show OwnGo _ _ _ _ (T24.setTop (mkF m 131 #[.val (.int p0), .val (.int m0), .val (.int m1), .val (.int m2), .val (.int m3), .val (.int (1 : Int32)), .val (.int s0), .val (.int t0), .val (.int s1), .val (.int t1), .val (.ref b1), .val (.ref b6), .val (.int (1 : Int32))] [(.int m0)]))
    refine OwnGo.fwd (fun tq' kq' => XS.iloadN X24.here hx rfl (hb hby at_131) rfl kq') ?_
    show OwnGo _ _ _ _ (T24.setTop (mkF m 132 #[.val (.int p0), .val (.int m0), .val (.int m1), .val (.int m2), .val (.int m3), .val (.int (1 : Int32)), .val (.int s0), .val (.int t0), .val (.int s1), .val (.int t1), .val (.ref b1), .val (.ref b6), .val (.int (1 : Int32))] [(.int m0), (.int m0)]))
    have hc132_27 : m0.toInt = m0.toInt := rfl
    refine OwnGo.fwd (fun tq' kq' => XS.icmpNo X24.here hx rfl (hb hby at_132) rfl (own_beq rfl rfl hc132_27).2 kq') ?_
    show OwnGo _ _ _ _ (T24.setTop (mkF m 135 #[.val (.int p0), .val (.int m0), .val (.int m1), .val (.int m2), .val (.int m3), .val (.int (1 : Int32)), .val (.int s0), .val (.int t0), .val (.int s1), .val (.int t1), .val (.ref b1), .val (.ref b6), .val (.int (1 : Int32))] []))
    refine OwnGo.fwd (fun tq' kq' => XS.aload X24.here hx rfl (hb hby at_135) rfl rfl kq') ?_
    show OwnGo _ _ _ _ (T24.setTop (mkF m 137 #[.val (.int p0), .val (.int m0), .val (.int m1), .val (.int m2), .val (.int m3), .val (.int (1 : Int32)), .val (.int s0), .val (.int t0), .val (.int s1), .val (.int t1), .val (.ref b1), .val (.ref b6), .val (.int (1 : Int32))] [(.ref b1)]))
    refine OwnGo.fwd (fun tq' kq' => XS.iconst X24.here hx rfl (hb hby at_137) kq') ?_
    show OwnGo _ _ _ _ (T24.setTop (mkF m 138 #[.val (.int p0), .val (.int m0), .val (.int m1), .val (.int m2), .val (.int m3), .val (.int (1 : Int32)), .val (.int s0), .val (.int t0), .val (.int s1), .val (.int t1), .val (.ref b1), .val (.ref b6), .val (.int (1 : Int32))] [(.int (1 : Int32)), (.ref b1)]))
    refine OwnGo.fwd (fun tq' kq' => own_iaload X24 hx hZ e24 V_b1 (i := 1) (by decide) (by decide) (g := (mkF m 138 #[.val (.int p0), .val (.int m0), .val (.int m1), .val (.int m2), .val (.int m3), .val (.int (1 : Int32)), .val (.int s0), .val (.int t0), .val (.int s1), .val (.int t1), .val (.ref b1), .val (.ref b6), .val (.int (1 : Int32))] [(.int (1 : Int32)), (.ref b1)])) rfl rfl (hb hby at_138) tq' kq') ?_
    show OwnGo _ _ _ _ (T24.setTop (mkF m 139 #[.val (.int p0), .val (.int m0), .val (.int m1), .val (.int m2), .val (.int m3), .val (.int (1 : Int32)), .val (.int s0), .val (.int t0), .val (.int s1), .val (.int t1), .val (.ref b1), .val (.ref b6), .val (.int (1 : Int32))] [(.int ((own_mp m0 m1 m2 m3) 1))]))
    show OwnGo _ _ _ _ (T24.setTop (mkF m 139 #[.val (.int p0), .val (.int m0), .val (.int m1), .val (.int m2), .val (.int m3), .val (.int (1 : Int32)), .val (.int s0), .val (.int t0), .val (.int s1), .val (.int t1), .val (.ref b1), .val (.ref b6), .val (.int (1 : Int32))] [(.int m1)]))
    refine OwnGo.fwd (fun tq' kq' => XS.iloadN X24.here hx rfl (hb hby at_139) rfl kq') ?_
    show OwnGo _ _ _ _ (T24.setTop (mkF m 140 #[.val (.int p0), .val (.int m0), .val (.int m1), .val (.int m2), .val (.int m3), .val (.int (1 : Int32)), .val (.int s0), .val (.int t0), .val (.int s1), .val (.int t1), .val (.ref b1), .val (.ref b6), .val (.int (1 : Int32))] [(.int m1), (.int m1)]))
    have hc140_28 : m1.toInt = m1.toInt := rfl
    refine OwnGo.fwd (fun tq' kq' => XS.icmpNo X24.here hx rfl (hb hby at_140) rfl (own_beq rfl rfl hc140_28).2 kq') ?_
    show OwnGo _ _ _ _ (T24.setTop (mkF m 143 #[.val (.int p0), .val (.int m0), .val (.int m1), .val (.int m2), .val (.int m3), .val (.int (1 : Int32)), .val (.int s0), .val (.int t0), .val (.int s1), .val (.int t1), .val (.ref b1), .val (.ref b6), .val (.int (1 : Int32))] []))
    refine OwnGo.fwd (fun tq' kq' => XS.aload X24.here hx rfl (hb hby at_143) rfl rfl kq') ?_
    show OwnGo _ _ _ _ (T24.setTop (mkF m 145 #[.val (.int p0), .val (.int m0), .val (.int m1), .val (.int m2), .val (.int m3), .val (.int (1 : Int32)), .val (.int s0), .val (.int t0), .val (.int s1), .val (.int t1), .val (.ref b1), .val (.ref b6), .val (.int (1 : Int32))] [(.ref b1)]))
    refine OwnGo.fwd (fun tq' kq' => XS.iconst X24.here hx rfl (hb hby at_145) kq') ?_
    show OwnGo _ _ _ _ (T24.setTop (mkF m 146 #[.val (.int p0), .val (.int m0), .val (.int m1), .val (.int m2), .val (.int m3), .val (.int (1 : Int32)), .val (.int s0), .val (.int t0), .val (.int s1), .val (.int t1), .val (.ref b1), .val (.ref b6), .val (.int (1 : Int32))] [(.int (2 : Int32)), (.ref b1)]))
    refine OwnGo.fwd (fun tq' kq' => own_iaload X24 hx hZ e24 V_b1 (i := 2) (by decide) (by decide) (g := (mkF m 146 #[.val (.int p0), .val (.int m0), .val (.int m1), .val (.int m2), .val (.int m3), .val (.int (1 : Int32)), .val (.int s0), .val (.int t0), .val (.int s1), .val (.int t1), .val (.ref b1), .val (.ref b6), .val (.int (1 : Int32))] [(.int (2 : Int32)), (.ref b1)])) rfl rfl (hb hby at_146) tq' kq') ?_
    show OwnGo _ _ _ _ (T24.setTop (mkF m 147 #[.val (.int p0), .val (.int m0), .val (.int m1), .val (.int m2), .val (.int m3), .val (.int (1 : Int32)), .val (.int s0), .val (.int t0), .val (.int s1), .val (.int t1), .val (.ref b1), .val (.ref b6), .val (.int (1 : Int32))] [(.int ((own_mp m0 m1 m2 m3) 2))]))
    show OwnGo _ _ _ _ (T24.setTop (mkF m 147 #[.val (.int p0), .val (.int m0), .val (.int m1), .val (.int m2), .val (.int m3), .val (.int (1 : Int32)), .val (.int s0), .val (.int t0), .val (.int s1), .val (.int t1), .val (.ref b1), .val (.ref b6), .val (.int (1 : Int32))] [(.int m2)]))
    refine OwnGo.fwd (fun tq' kq' => XS.iloadN X24.here hx rfl (hb hby at_147) rfl kq') ?_
    show OwnGo _ _ _ _ (T24.setTop (mkF m 148 #[.val (.int p0), .val (.int m0), .val (.int m1), .val (.int m2), .val (.int m3), .val (.int (1 : Int32)), .val (.int s0), .val (.int t0), .val (.int s1), .val (.int t1), .val (.ref b1), .val (.ref b6), .val (.int (1 : Int32))] [(.int m2), (.int m2)]))
    have hc148_29 : m2.toInt = m2.toInt := rfl
    refine OwnGo.fwd (fun tq' kq' => XS.icmpNo X24.here hx rfl (hb hby at_148) rfl (own_beq rfl rfl hc148_29).2 kq') ?_
    show OwnGo _ _ _ _ (T24.setTop (mkF m 151 #[.val (.int p0), .val (.int m0), .val (.int m1), .val (.int m2), .val (.int m3), .val (.int (1 : Int32)), .val (.int s0), .val (.int t0), .val (.int s1), .val (.int t1), .val (.ref b1), .val (.ref b6), .val (.int (1 : Int32))] []))
    refine OwnGo.fwd (fun tq' kq' => XS.aload X24.here hx rfl (hb hby at_151) rfl rfl kq') ?_
    show OwnGo _ _ _ _ (T24.setTop (mkF m 153 #[.val (.int p0), .val (.int m0), .val (.int m1), .val (.int m2), .val (.int m3), .val (.int (1 : Int32)), .val (.int s0), .val (.int t0), .val (.int s1), .val (.int t1), .val (.ref b1), .val (.ref b6), .val (.int (1 : Int32))] [(.ref b1)]))
    refine OwnGo.fwd (fun tq' kq' => XS.iconst X24.here hx rfl (hb hby at_153) kq') ?_
    show OwnGo _ _ _ _ (T24.setTop (mkF m 154 #[.val (.int p0), .val (.int m0), .val (.int m1), .val (.int m2), .val (.int m3), .val (.int (1 : Int32)), .val (.int s0), .val (.int t0), .val (.int s1), .val (.int t1), .val (.ref b1), .val (.ref b6), .val (.int (1 : Int32))] [(.int (3 : Int32)), (.ref b1)]))
    refine OwnGo.fwd (fun tq' kq' => own_iaload X24 hx hZ e24 V_b1 (i := 3) (by decide) (by decide) (g := (mkF m 154 #[.val (.int p0), .val (.int m0), .val (.int m1), .val (.int m2), .val (.int m3), .val (.int (1 : Int32)), .val (.int s0), .val (.int t0), .val (.int s1), .val (.int t1), .val (.ref b1), .val (.ref b6), .val (.int (1 : Int32))] [(.int (3 : Int32)), (.ref b1)])) rfl rfl (hb hby at_154) tq' kq') ?_
    show OwnGo _ _ _ _ (T24.setTop (mkF m 155 #[.val (.int p0), .val (.int m0), .val (.int m1), .val (.int m2), .val (.int m3), .val (.int (1 : Int32)), .val (.int s0), .val (.int t0), .val (.int s1), .val (.int t1), .val (.ref b1), .val (.ref b6), .val (.int (1 : Int32))] [(.int ((own_mp m0 m1 m2 m3) 3))]))
    show OwnGo _ _ _ _ (T24.setTop (mkF m 155 #[.val (.int p0), .val (.int m0), .val (.int m1), .val (.int m2), .val (.int m3), .val (.int (1 : Int32)), .val (.int s0), .val (.int t0), .val (.int s1), .val (.int t1), .val (.ref b1), .val (.ref b6), .val (.int (1 : Int32))] [(.int m3)]))
    refine OwnGo.fwd (fun tq' kq' => XS.iload X24.here hx rfl (hb hby at_155) rfl kq') ?_
    show OwnGo _ _ _ _ (T24.setTop (mkF m 157 #[.val (.int p0), .val (.int m0), .val (.int m1), .val (.int m2), .val (.int m3), .val (.int (1 : Int32)), .val (.int s0), .val (.int t0), .val (.int s1), .val (.int t1), .val (.ref b1), .val (.ref b6), .val (.int (1 : Int32))] [(.int m3), (.int m3)]))
    have hc157_30 : m3.toInt = m3.toInt := rfl
    refine OwnGo.fwd (fun tq' kq' => XS.icmpNo X24.here hx rfl (hb hby at_157) rfl (own_beq rfl rfl hc157_30).2 kq') ?_
    show OwnGo _ _ _ _ (T24.setTop (mkF m 160 #[.val (.int p0), .val (.int m0), .val (.int m1), .val (.int m2), .val (.int m3), .val (.int (1 : Int32)), .val (.int s0), .val (.int t0), .val (.int s1), .val (.int t1), .val (.ref b1), .val (.ref b6), .val (.int (1 : Int32))] []))
    refine OwnGo.fwd (fun tq' kq' => XS.iconst X24.here hx rfl (hb hby at_160) kq') ?_
    show OwnGo _ _ _ _ (T24.setTop (mkF m 161 #[.val (.int p0), .val (.int m0), .val (.int m1), .val (.int m2), .val (.int m3), .val (.int (1 : Int32)), .val (.int s0), .val (.int t0), .val (.int s1), .val (.int t1), .val (.ref b1), .val (.ref b6), .val (.int (1 : Int32))] [(.int (1 : Int32))]))
    refine OwnGo.fwd (fun tq' kq' => XS.goto X24.here hx rfl (pc0 := 161) (pc' := 165) rfl (hb hby at_161) (by decide) (by decide) kq') ?_
    show OwnGo _ _ _ _ (T24.setTop (mkF m 165 #[.val (.int p0), .val (.int m0), .val (.int m1), .val (.int m2), .val (.int m3), .val (.int (1 : Int32)), .val (.int s0), .val (.int t0), .val (.int s1), .val (.int t1), .val (.ref b1), .val (.ref b6), .val (.int (1 : Int32))] [(.int (1 : Int32))]))
    refine OwnGo.fwd (fun tq' kq' => XS.istore X24.here hx rfl (hb hby at_165) rfl (l' := #[.val (.int p0), .val (.int m0), .val (.int m1), .val (.int m2), .val (.int m3), .val (.int (1 : Int32)), .val (.int s0), .val (.int t0), .val (.int s1), .val (.int t1), .val (.ref b1), .val (.ref b6), .val (.int (1 : Int32))]) rfl kq') ?_
    show OwnGo _ _ _ _ (T24.setTop (mkF m 167 #[.val (.int p0), .val (.int m0), .val (.int m1), .val (.int m2), .val (.int m3), .val (.int (1 : Int32)), .val (.int s0), .val (.int t0), .val (.int s1), .val (.int t1), .val (.ref b1), .val (.ref b6), .val (.int (1 : Int32))] []))
    refine OwnGo.fwd (fun tq' kq' => XS.iload X24.here hx rfl (hb hby at_167) rfl kq') ?_
    show OwnGo _ _ _ _ (T24.setTop (mkF m 169 #[.val (.int p0), .val (.int m0), .val (.int m1), .val (.int m2), .val (.int m3), .val (.int (1 : Int32)), .val (.int s0), .val (.int t0), .val (.int s1), .val (.int t1), .val (.ref b1), .val (.ref b6), .val (.int (1 : Int32))] [(.int (1 : Int32))]))
    refine OwnGo.fwd (fun tq' kq' => XS.iconst X24.here hx rfl (hb hby at_169) kq') ?_
    show OwnGo _ _ _ _ (T24.setTop (mkF m 170 #[.val (.int p0), .val (.int m0), .val (.int m1), .val (.int m2), .val (.int m3), .val (.int (1 : Int32)), .val (.int s0), .val (.int t0), .val (.int s1), .val (.int t1), .val (.ref b1), .val (.ref b6), .val (.int (1 : Int32))] [(.int (1 : Int32)), (.int (1 : Int32))]))
    have hc170_31 : ¬ ((1 : Int) < (1 : Int)) := by decide
    refine OwnGo.fwd (fun tq' kq' => XS.icmpNo X24.here hx rfl (hb hby at_170) rfl (own_bnlt (by decide) (by decide) hc170_31).1 kq') ?_
    show OwnGo _ _ _ _ (T24.setTop (mkF m 173 #[.val (.int p0), .val (.int m0), .val (.int m1), .val (.int m2), .val (.int m3), .val (.int (1 : Int32)), .val (.int s0), .val (.int t0), .val (.int s1), .val (.int t1), .val (.ref b1), .val (.ref b6), .val (.int (1 : Int32))] []))
    refine OwnGo.fwd (fun tq' kq' => XS.iload X24.here hx rfl (hb hby at_173) rfl kq') ?_
    show OwnGo _ _ _ _ (T24.setTop (mkF m 175 #[.val (.int p0), .val (.int m0), .val (.int m1), .val (.int m2), .val (.int m3), .val (.int (1 : Int32)), .val (.int s0), .val (.int t0), .val (.int s1), .val (.int t1), .val (.ref b1), .val (.ref b6), .val (.int (1 : Int32))] [(.int (1 : Int32))]))
    have hc175_32 : ¬ ((1 : Int) = (0 : Int)) := by decide
    refine OwnGo.fwd (fun tq' kq' => XS.ifNo X24.here hx rfl (hb hby at_175) rfl ((if0 _ _).trans (own_bneq (by decide) (by decide) hc175_32).1) kq') ?_
    show OwnGo _ _ _ _ (T24.setTop (mkF m 178 #[.val (.int p0), .val (.int m0), .val (.int m1), .val (.int m2), .val (.int m3), .val (.int (1 : Int32)), .val (.int s0), .val (.int t0), .val (.int s1), .val (.int t1), .val (.ref b1), .val (.ref b6), .val (.int (1 : Int32))] []))
    refine OwnGo.fwd (fun tq' kq' => XS.aload X24.here hx rfl (hb hby at_178) rfl rfl kq') ?_
    show OwnGo _ _ _ _ (T24.setTop (mkF m 180 #[.val (.int p0), .val (.int m0), .val (.int m1), .val (.int m2), .val (.int m3), .val (.int (1 : Int32)), .val (.int s0), .val (.int t0), .val (.int s1), .val (.int t1), .val (.ref b1), .val (.ref b6), .val (.int (1 : Int32))] [(.ref b6)]))
    refine OwnGo.fwd (fun tq' kq' => XS.iconst X24.here hx rfl (hb hby at_180) kq') ?_
    show OwnGo _ _ _ _ (T24.setTop (mkF m 181 #[.val (.int p0), .val (.int m0), .val (.int m1), .val (.int m2), .val (.int m3), .val (.int (1 : Int32)), .val (.int s0), .val (.int t0), .val (.int s1), .val (.int t1), .val (.ref b1), .val (.ref b6), .val (.int (1 : Int32))] [(.int (0 : Int32)), (.ref b6)]))
    obtain ⟨cq33, kq33, q33a, q33b, q33c⟩ := isOf hZ e24 E_b6
    obtain ⟨_, _, ⟨T33, L33, k33, n33⟩, -, X33, ⟨Lc33, hQ33, l33, y33, z33⟩, st33⟩ := X24.virtualBack hx (y := (⟨"com/example/ctl_checker/ctlchecker/Arcs", "getSource", "(I)I"⟩ : MethodName)) (z := (⟨"com/example/ctl_checker/ctlchecker/Arcs", "getSource", "(I)I"⟩ : MethodName)) hown (mvT hZ (hw _ (List.mem_of_getElem? (i := 31) rfl))) (mvT hZ (hw _ (List.mem_of_getElem? (i := 32) rfl))) (notFace_of_selects (args := #[]) (mvT hZ (hw _ (List.mem_of_getElem? (i := 34) rfl)))) (mvT hZ (hw _ (List.mem_of_getElem? (i := 34) rfl))) (mvT hZ (hw _ (List.mem_of_getElem? (i := 33) rfl))) (by decide) (backOf (W := 0) (rm6 l Z a0 hw [] b6 sa ta 1 (fun k => if k = 0 then ((own_mp m0 m1 m2 m3) x0) else (fun k => if k = 0 then s0 else (fun _ => 0) k) k) (fun k => if k = 0 then ((own_mp m0 m1 m2 m3) x1) else (fun k => if k = 0 then t0 else (fun _ => 0) k) k) (0 : Int32) 0 h23 n0 Zs ⟨E_b6, F_sources_b6, F_targets_b6, F_count_b6, V_sa, V_ta, ne_b6_sa, ne_b6_ta, ne_sa_ta, g_b6, g_sa, g_ta⟩ (by decide) (by decide)) hZ (hw _ (List.mem_of_getElem? (i := 35) rfl)) (hw _ (List.mem_of_getElem? (i := 3) rfl)) (by decide) (by decide)) q33a q33c (g := (mkF m 181 #[.val (.int p0), .val (.int m0), .val (.int m1), .val (.int m2), .val (.int m3), .val (.int (1 : Int32)), .val (.int s0), .val (.int t0), .val (.int s1), .val (.int t1), .val (.ref b1), .val (.ref b6), .val (.int (1 : Int32))] [(.int (0 : Int32)), (.ref b6)])) rfl (by rw [hml]; rfl) (Steps.refl _) (argsL := [(.int (0 : Int32))]) (rest := []) (lenOf pd_4 rfl) rfl (by show 2 * 0 + _ ≤ _; exact Nat.le_of_eq rfl) (hb hby at_181) (fun _ _ => ⟨rfl, e24, (by decide : 4 + 0 ≤ _), (by decide : 39 + 0 ≤ _)⟩)
    dsimp only [Pt.U, Pt.locs, Pt.cells, Pt.slots] at X33 l33 y33 z33 st33 hQ33
    subst l33 y33 z33
    obtain ⟨rfl, N33q, e33⟩ := hQ33
    have N := Fr.app N N33q
    refine OwnGo.thru st33 ?_
    show OwnGo _ _ _ _ (T33.setTop (mkF m 184 #[.val (.int p0), .val (.int m0), .val (.int m1), .val (.int m2), .val (.int m3), .val (.int (1 : Int32)), .val (.int s0), .val (.int t0), .val (.int s1), .val (.int t1), .val (.ref b1), .val (.ref b6), .val (.int (1 : Int32))] [(.int ((fun k => if k = 0 then ((own_mp m0 m1 m2 m3) x0) else (fun k => if k = 0 then s0 else (fun _ => 0) k) k) 0))]))
    refine OwnGo.fwd (fun tq' kq' => XS.iload X33.here hx rfl (hb hby at_184) rfl kq') ?_
    show OwnGo _ _ _ _ (T33.setTop (mkF m 186 #[.val (.int p0), .val (.int m0), .val (.int m1), .val (.int m2), .val (.int m3), .val (.int (1 : Int32)), .val (.int s0), .val (.int t0), .val (.int s1), .val (.int t1), .val (.ref b1), .val (.ref b6), .val (.int (1 : Int32))] [(.int s0), (.int ((fun k => if k = 0 then ((own_mp m0 m1 m2 m3) x0) else (fun k => if k = 0 then s0 else (fun _ => 0) k) k) 0))]))
    refine OwnGo.fwd (fun tq' kq' => XS.iloadN X33.here hx rfl (hb hby at_186) rfl kq') ?_
    show OwnGo _ _ _ _ (T33.setTop (mkF m 187 #[.val (.int p0), .val (.int m0), .val (.int m1), .val (.int m2), .val (.int m3), .val (.int (1 : Int32)), .val (.int s0), .val (.int t0), .val (.int s1), .val (.int t1), .val (.ref b1), .val (.ref b6), .val (.int (1 : Int32))] [(.int m0), (.int s0), (.int ((fun k => if k = 0 then ((own_mp m0 m1 m2 m3) x0) else (fun k => if k = 0 then s0 else (fun _ => 0) k) k) 0))]))
    refine OwnGo.fwd (fun tq' kq' => XS.iloadN X33.here hx rfl (hb hby at_187) rfl kq') ?_
    show OwnGo _ _ _ _ (T33.setTop (mkF m 188 #[.val (.int p0), .val (.int m0), .val (.int m1), .val (.int m2), .val (.int m3), .val (.int (1 : Int32)), .val (.int s0), .val (.int t0), .val (.int s1), .val (.int t1), .val (.ref b1), .val (.ref b6), .val (.int (1 : Int32))] [(.int m1), (.int m0), (.int s0), (.int ((fun k => if k = 0 then ((own_mp m0 m1 m2 m3) x0) else (fun k => if k = 0 then s0 else (fun _ => 0) k) k) 0))]))
    refine OwnGo.fwd (fun tq' kq' => XS.iloadN X33.here hx rfl (hb hby at_188) rfl kq') ?_
    show OwnGo _ _ _ _ (T33.setTop (mkF m 189 #[.val (.int p0), .val (.int m0), .val (.int m1), .val (.int m2), .val (.int m3), .val (.int (1 : Int32)), .val (.int s0), .val (.int t0), .val (.int s1), .val (.int t1), .val (.ref b1), .val (.ref b6), .val (.int (1 : Int32))] [(.int m2), (.int m1), (.int m0), (.int s0), (.int ((fun k => if k = 0 then ((own_mp m0 m1 m2 m3) x0) else (fun k => if k = 0 then s0 else (fun _ => 0) k) k) 0))]))
    refine OwnGo.fwd (fun tq' kq' => XS.iload X33.here hx rfl (hb hby at_189) rfl kq') ?_
    show OwnGo _ _ _ _ (T33.setTop (mkF m 191 #[.val (.int p0), .val (.int m0), .val (.int m1), .val (.int m2), .val (.int m3), .val (.int (1 : Int32)), .val (.int s0), .val (.int t0), .val (.int s1), .val (.int t1), .val (.ref b1), .val (.ref b6), .val (.int (1 : Int32))] [(.int m3), (.int m2), (.int m1), (.int m0), (.int s0), (.int ((fun k => if k = 0 then ((own_mp m0 m1 m2 m3) x0) else (fun k => if k = 0 then s0 else (fun _ => 0) k) k) 0))]))
    obtain ⟨_, _, ⟨T34, L34, k34, n34⟩, -, X34, ⟨Lc34, hQ34, l34, y34, z34⟩, st34⟩ := Jvm.LawKit.callS X33 hx (y := (⟨"com/example/ctl_checker/ctlchecker/ArcsRenumberPinLaw", "ref", "(IIIII)I"⟩ : MethodName)) hown (mvT hZ (hw _ (List.mem_of_getElem? (i := 36) rfl))) (mvT hZ (hw _ (List.mem_of_getElem? (i := 37) rfl))) (mvT hZ (hw _ (List.mem_of_getElem? (i := 38) rfl))) (mvT hZ (hw _ (List.mem_of_getElem? (i := 39) rfl))) (by decide) (backOf (W := 1) (rm7 l Z a0 hw [] s0 m0 m1 m2 m3 h23 n0 Zs) hZ (hw _ (List.mem_of_getElem? (i := 39) rfl)) (hw _ (List.mem_of_getElem? (i := 38) rfl)) (by decide) (by decide)) (g := (mkF m 191 #[.val (.int p0), .val (.int m0), .val (.int m1), .val (.int m2), .val (.int m3), .val (.int (1 : Int32)), .val (.int s0), .val (.int t0), .val (.int s1), .val (.int t1), .val (.ref b1), .val (.ref b6), .val (.int (1 : Int32))] [(.int m3), (.int m2), (.int m1), (.int m0), (.int s0), (.int ((fun k => if k = 0 then ((own_mp m0 m1 m2 m3) x0) else (fun k => if k = 0 then s0 else (fun _ => 0) k) k) 0))])) rfl (by rw [hml]; rfl) (argsL := [(.int s0), (.int m0), (.int m1), (.int m2), (.int m3)]) (rest := [(.int ((fun k => if k = 0 then ((own_mp m0 m1 m2 m3) x0) else (fun k => if k = 0 then s0 else (fun _ => 0) k) k) 0))]) (lenOf pd_5 rfl) rfl (by show 2 * 0 + _ ≤ _; exact Nat.le_of_eq rfl) (hb hby at_191) (fun _ _ => ⟨rfl, e33, (by decide : 4 + 0 ≤ _), (by decide : 39 + 0 ≤ _)⟩)
    dsimp only [Pt.U, Pt.locs, Pt.cells, Pt.slots] at X34 l34 y34 z34 st34 hQ34
    subst l34 y34 z34
    obtain ⟨rfl, N34q, e34⟩ := hQ34
    have N := Fr.app N N34q
    refine OwnGo.fwd st34 ?_
    show OwnGo _ _ _ _ (T34.setTop (mkF m 194 #[.val (.int p0), .val (.int m0), .val (.int m1), .val (.int m2), .val (.int m3), .val (.int (1 : Int32)), .val (.int s0), .val (.int t0), .val (.int s1), .val (.int t1), .val (.ref b1), .val (.ref b6), .val (.int (1 : Int32))] [(.int (own_rf s0 m0 m1 m2 m3)), (.int ((fun k => if k = 0 then ((own_mp m0 m1 m2 m3) x0) else (fun k => if k = 0 then s0 else (fun _ => 0) k) k) 0))]))
    show OwnGo _ _ _ _ (T34.setTop (mkF m 194 #[.val (.int p0), .val (.int m0), .val (.int m1), .val (.int m2), .val (.int m3), .val (.int (1 : Int32)), .val (.int s0), .val (.int t0), .val (.int s1), .val (.int t1), .val (.ref b1), .val (.ref b6), .val (.int (1 : Int32))] [(.int (own_rf s0 m0 m1 m2 m3)), (.int (own_mp m0 m1 m2 m3 x0))]))
    have hc194_35 : (own_mp m0 m1 m2 m3 x0).toInt = (own_rf s0 m0 m1 m2 m3).toInt := congrArg Int32.toInt (own_mrf hx0 lx0)
    refine OwnGo.fwd (fun tq' kq' => XS.icmpNo X34.here hx rfl (hb hby at_194) rfl (own_beq rfl rfl hc194_35).2 kq') ?_
    show OwnGo _ _ _ _ (T34.setTop (mkF m 197 #[.val (.int p0), .val (.int m0), .val (.int m1), .val (.int m2), .val (.int m3), .val (.int (1 : Int32)), .val (.int s0), .val (.int t0), .val (.int s1), .val (.int t1), .val (.ref b1), .val (.ref b6), .val (.int (1 : Int32))] []))
    refine OwnGo.fwd (fun tq' kq' => XS.iconst X34.here hx rfl (hb hby at_197) kq') ?_
    show OwnGo _ _ _ _ (T34.setTop (mkF m 198 #[.val (.int p0), .val (.int m0), .val (.int m1), .val (.int m2), .val (.int m3), .val (.int (1 : Int32)), .val (.int s0), .val (.int t0), .val (.int s1), .val (.int t1), .val (.ref b1), .val (.ref b6), .val (.int (1 : Int32))] [(.int (1 : Int32))]))
    refine OwnGo.fwd (fun tq' kq' => XS.goto X34.here hx rfl (pc0 := 198) (pc' := 202) rfl (hb hby at_198) (by decide) (by decide) kq') ?_
    show OwnGo _ _ _ _ (T34.setTop (mkF m 202 #[.val (.int p0), .val (.int m0), .val (.int m1), .val (.int m2), .val (.int m3), .val (.int (1 : Int32)), .val (.int s0), .val (.int t0), .val (.int s1), .val (.int t1), .val (.ref b1), .val (.ref b6), .val (.int (1 : Int32))] [(.int (1 : Int32))]))
    refine OwnGo.fwd (fun tq' kq' => XS.istore X34.here hx rfl (hb hby at_202) rfl (l' := #[.val (.int p0), .val (.int m0), .val (.int m1), .val (.int m2), .val (.int m3), .val (.int (1 : Int32)), .val (.int s0), .val (.int t0), .val (.int s1), .val (.int t1), .val (.ref b1), .val (.ref b6), .val (.int (1 : Int32))]) rfl kq') ?_
    show OwnGo _ _ _ _ (T34.setTop (mkF m 204 #[.val (.int p0), .val (.int m0), .val (.int m1), .val (.int m2), .val (.int m3), .val (.int (1 : Int32)), .val (.int s0), .val (.int t0), .val (.int s1), .val (.int t1), .val (.ref b1), .val (.ref b6), .val (.int (1 : Int32))] []))
    refine OwnGo.fwd (fun tq' kq' => XS.iload X34.here hx rfl (hb hby at_204) rfl kq') ?_
    show OwnGo _ _ _ _ (T34.setTop (mkF m 206 #[.val (.int p0), .val (.int m0), .val (.int m1), .val (.int m2), .val (.int m3), .val (.int (1 : Int32)), .val (.int s0), .val (.int t0), .val (.int s1), .val (.int t1), .val (.ref b1), .val (.ref b6), .val (.int (1 : Int32))] [(.int (1 : Int32))]))
    have hc206_36 : ¬ ((1 : Int) = (0 : Int)) := by decide
    refine OwnGo.fwd (fun tq' kq' => XS.ifNo X34.here hx rfl (hb hby at_206) rfl ((if0 _ _).trans (own_bneq (by decide) (by decide) hc206_36).1) kq') ?_
    show OwnGo _ _ _ _ (T34.setTop (mkF m 209 #[.val (.int p0), .val (.int m0), .val (.int m1), .val (.int m2), .val (.int m3), .val (.int (1 : Int32)), .val (.int s0), .val (.int t0), .val (.int s1), .val (.int t1), .val (.ref b1), .val (.ref b6), .val (.int (1 : Int32))] []))
    refine OwnGo.fwd (fun tq' kq' => XS.aload X34.here hx rfl (hb hby at_209) rfl rfl kq') ?_
    show OwnGo _ _ _ _ (T34.setTop (mkF m 211 #[.val (.int p0), .val (.int m0), .val (.int m1), .val (.int m2), .val (.int m3), .val (.int (1 : Int32)), .val (.int s0), .val (.int t0), .val (.int s1), .val (.int t1), .val (.ref b1), .val (.ref b6), .val (.int (1 : Int32))] [(.ref b6)]))
    refine OwnGo.fwd (fun tq' kq' => XS.iconst X34.here hx rfl (hb hby at_211) kq') ?_
    show OwnGo _ _ _ _ (T34.setTop (mkF m 212 #[.val (.int p0), .val (.int m0), .val (.int m1), .val (.int m2), .val (.int m3), .val (.int (1 : Int32)), .val (.int s0), .val (.int t0), .val (.int s1), .val (.int t1), .val (.ref b1), .val (.ref b6), .val (.int (1 : Int32))] [(.int (0 : Int32)), (.ref b6)]))
    obtain ⟨cq37, kq37, q37a, q37b, q37c⟩ := isOf hZ e34 E_b6
    obtain ⟨_, _, ⟨T37, L37, k37, n37⟩, -, X37, ⟨Lc37, hQ37, l37, y37, z37⟩, st37⟩ := X34.virtualBack hx (y := (⟨"com/example/ctl_checker/ctlchecker/Arcs", "getTarget", "(I)I"⟩ : MethodName)) (z := (⟨"com/example/ctl_checker/ctlchecker/Arcs", "getTarget", "(I)I"⟩ : MethodName)) hown (mvT hZ (hw _ (List.mem_of_getElem? (i := 40) rfl))) (mvT hZ (hw _ (List.mem_of_getElem? (i := 41) rfl))) (notFace_of_selects (args := #[]) (mvT hZ (hw _ (List.mem_of_getElem? (i := 43) rfl)))) (mvT hZ (hw _ (List.mem_of_getElem? (i := 43) rfl))) (mvT hZ (hw _ (List.mem_of_getElem? (i := 42) rfl))) (by decide) (backOf (W := 0) (rm8 l Z a0 hw [] b6 sa ta 1 (fun k => if k = 0 then ((own_mp m0 m1 m2 m3) x0) else (fun k => if k = 0 then s0 else (fun _ => 0) k) k) (fun k => if k = 0 then ((own_mp m0 m1 m2 m3) x1) else (fun k => if k = 0 then t0 else (fun _ => 0) k) k) (0 : Int32) 0 h23 n0 Zs ⟨E_b6, F_sources_b6, F_targets_b6, F_count_b6, V_sa, V_ta, ne_b6_sa, ne_b6_ta, ne_sa_ta, g_b6, g_sa, g_ta⟩ (by decide) (by decide)) hZ (hw _ (List.mem_of_getElem? (i := 44) rfl)) (hw _ (List.mem_of_getElem? (i := 3) rfl)) (by decide) (by decide)) q37a q37c (g := (mkF m 212 #[.val (.int p0), .val (.int m0), .val (.int m1), .val (.int m2), .val (.int m3), .val (.int (1 : Int32)), .val (.int s0), .val (.int t0), .val (.int s1), .val (.int t1), .val (.ref b1), .val (.ref b6), .val (.int (1 : Int32))] [(.int (0 : Int32)), (.ref b6)])) rfl (by rw [hml]; rfl) (Steps.refl _) (argsL := [(.int (0 : Int32))]) (rest := []) (lenOf pd_4 rfl) rfl (by show 2 * 0 + _ ≤ _; exact Nat.le_of_eq rfl) (hb hby at_212) (fun _ _ => ⟨rfl, e34, (by decide : 4 + 0 ≤ _), (by decide : 39 + 0 ≤ _)⟩)
    dsimp only [Pt.U, Pt.locs, Pt.cells, Pt.slots] at X37 l37 y37 z37 st37 hQ37
    subst l37 y37 z37
    obtain ⟨rfl, N37q, e37⟩ := hQ37
    have N := Fr.app N N37q
    refine OwnGo.thru st37 ?_
    show OwnGo _ _ _ _ (T37.setTop (mkF m 215 #[.val (.int p0), .val (.int m0), .val (.int m1), .val (.int m2), .val (.int m3), .val (.int (1 : Int32)), .val (.int s0), .val (.int t0), .val (.int s1), .val (.int t1), .val (.ref b1), .val (.ref b6), .val (.int (1 : Int32))] [(.int ((fun k => if k = 0 then ((own_mp m0 m1 m2 m3) x1) else (fun k => if k = 0 then t0 else (fun _ => 0) k) k) 0))]))
    refine OwnGo.fwd (fun tq' kq' => XS.iload X37.here hx rfl (hb hby at_215) rfl kq') ?_
    show OwnGo _ _ _ _ (T37.setTop (mkF m 217 #[.val (.int p0), .val (.int m0), .val (.int m1), .val (.int m2), .val (.int m3), .val (.int (1 : Int32)), .val (.int s0), .val (.int t0), .val (.int s1), .val (.int t1), .val (.ref b1), .val (.ref b6), .val (.int (1 : Int32))] [(.int t0), (.int ((fun k => if k = 0 then ((own_mp m0 m1 m2 m3) x1) else (fun k => if k = 0 then t0 else (fun _ => 0) k) k) 0))]))
    refine OwnGo.fwd (fun tq' kq' => XS.iloadN X37.here hx rfl (hb hby at_217) rfl kq') ?_
    show OwnGo _ _ _ _ (T37.setTop (mkF m 218 #[.val (.int p0), .val (.int m0), .val (.int m1), .val (.int m2), .val (.int m3), .val (.int (1 : Int32)), .val (.int s0), .val (.int t0), .val (.int s1), .val (.int t1), .val (.ref b1), .val (.ref b6), .val (.int (1 : Int32))] [(.int m0), (.int t0), (.int ((fun k => if k = 0 then ((own_mp m0 m1 m2 m3) x1) else (fun k => if k = 0 then t0 else (fun _ => 0) k) k) 0))]))
    refine OwnGo.fwd (fun tq' kq' => XS.iloadN X37.here hx rfl (hb hby at_218) rfl kq') ?_
    show OwnGo _ _ _ _ (T37.setTop (mkF m 219 #[.val (.int p0), .val (.int m0), .val (.int m1), .val (.int m2), .val (.int m3), .val (.int (1 : Int32)), .val (.int s0), .val (.int t0), .val (.int s1), .val (.int t1), .val (.ref b1), .val (.ref b6), .val (.int (1 : Int32))] [(.int m1), (.int m0), (.int t0), (.int ((fun k => if k = 0 then ((own_mp m0 m1 m2 m3) x1) else (fun k => if k = 0 then t0 else (fun _ => 0) k) k) 0))]))
    refine OwnGo.fwd (fun tq' kq' => XS.iloadN X37.here hx rfl (hb hby at_219) rfl kq') ?_
    show OwnGo _ _ _ _ (T37.setTop (mkF m 220 #[.val (.int p0), .val (.int m0), .val (.int m1), .val (.int m2), .val (.int m3), .val (.int (1 : Int32)), .val (.int s0), .val (.int t0), .val (.int s1), .val (.int t1), .val (.ref b1), .val (.ref b6), .val (.int (1 : Int32))] [(.int m2), (.int m1), (.int m0), (.int t0), (.int ((fun k => if k = 0 then ((own_mp m0 m1 m2 m3) x1) else (fun k => if k = 0 then t0 else (fun _ => 0) k) k) 0))]))
    refine OwnGo.fwd (fun tq' kq' => XS.iload X37.here hx rfl (hb hby at_220) rfl kq') ?_
    show OwnGo _ _ _ _ (T37.setTop (mkF m 222 #[.val (.int p0), .val (.int m0), .val (.int m1), .val (.int m2), .val (.int m3), .val (.int (1 : Int32)), .val (.int s0), .val (.int t0), .val (.int s1), .val (.int t1), .val (.ref b1), .val (.ref b6), .val (.int (1 : Int32))] [(.int m3), (.int m2), (.int m1), (.int m0), (.int t0), (.int ((fun k => if k = 0 then ((own_mp m0 m1 m2 m3) x1) else (fun k => if k = 0 then t0 else (fun _ => 0) k) k) 0))]))
    obtain ⟨_, _, ⟨T38, L38, k38, n38⟩, -, X38, ⟨Lc38, hQ38, l38, y38, z38⟩, st38⟩ := Jvm.LawKit.callS X37 hx (y := (⟨"com/example/ctl_checker/ctlchecker/ArcsRenumberPinLaw", "ref", "(IIIII)I"⟩ : MethodName)) hown (mvT hZ (hw _ (List.mem_of_getElem? (i := 36) rfl))) (mvT hZ (hw _ (List.mem_of_getElem? (i := 37) rfl))) (mvT hZ (hw _ (List.mem_of_getElem? (i := 38) rfl))) (mvT hZ (hw _ (List.mem_of_getElem? (i := 39) rfl))) (by decide) (backOf (W := 1) (rm7 l Z a0 hw [] t0 m0 m1 m2 m3 h23 n0 Zs) hZ (hw _ (List.mem_of_getElem? (i := 39) rfl)) (hw _ (List.mem_of_getElem? (i := 38) rfl)) (by decide) (by decide)) (g := (mkF m 222 #[.val (.int p0), .val (.int m0), .val (.int m1), .val (.int m2), .val (.int m3), .val (.int (1 : Int32)), .val (.int s0), .val (.int t0), .val (.int s1), .val (.int t1), .val (.ref b1), .val (.ref b6), .val (.int (1 : Int32))] [(.int m3), (.int m2), (.int m1), (.int m0), (.int t0), (.int ((fun k => if k = 0 then ((own_mp m0 m1 m2 m3) x1) else (fun k => if k = 0 then t0 else (fun _ => 0) k) k) 0))])) rfl (by rw [hml]; rfl) (argsL := [(.int t0), (.int m0), (.int m1), (.int m2), (.int m3)]) (rest := [(.int ((fun k => if k = 0 then ((own_mp m0 m1 m2 m3) x1) else (fun k => if k = 0 then t0 else (fun _ => 0) k) k) 0))]) (lenOf pd_5 rfl) rfl (by show 2 * 0 + _ ≤ _; exact Nat.le_of_eq rfl) (hb hby at_222) (fun _ _ => ⟨rfl, e37, (by decide : 4 + 0 ≤ _), (by decide : 39 + 0 ≤ _)⟩)
    dsimp only [Pt.U, Pt.locs, Pt.cells, Pt.slots] at X38 l38 y38 z38 st38 hQ38
    subst l38 y38 z38
    obtain ⟨rfl, N38q, e38⟩ := hQ38
    have N := Fr.app N N38q
    refine OwnGo.fwd st38 ?_
    show OwnGo _ _ _ _ (T38.setTop (mkF m 225 #[.val (.int p0), .val (.int m0), .val (.int m1), .val (.int m2), .val (.int m3), .val (.int (1 : Int32)), .val (.int s0), .val (.int t0), .val (.int s1), .val (.int t1), .val (.ref b1), .val (.ref b6), .val (.int (1 : Int32))] [(.int (own_rf t0 m0 m1 m2 m3)), (.int ((fun k => if k = 0 then ((own_mp m0 m1 m2 m3) x1) else (fun k => if k = 0 then t0 else (fun _ => 0) k) k) 0))]))
    show OwnGo _ _ _ _ (T38.setTop (mkF m 225 #[.val (.int p0), .val (.int m0), .val (.int m1), .val (.int m2), .val (.int m3), .val (.int (1 : Int32)), .val (.int s0), .val (.int t0), .val (.int s1), .val (.int t1), .val (.ref b1), .val (.ref b6), .val (.int (1 : Int32))] [(.int (own_rf t0 m0 m1 m2 m3)), (.int (own_mp m0 m1 m2 m3 x1))]))
    have hc225_39 : (own_mp m0 m1 m2 m3 x1).toInt = (own_rf t0 m0 m1 m2 m3).toInt := congrArg Int32.toInt (own_mrf hx1 lx1)
    refine OwnGo.fwd (fun tq' kq' => XS.icmpNo X38.here hx rfl (hb hby at_225) rfl (own_beq rfl rfl hc225_39).2 kq') ?_
    show OwnGo _ _ _ _ (T38.setTop (mkF m 228 #[.val (.int p0), .val (.int m0), .val (.int m1), .val (.int m2), .val (.int m3), .val (.int (1 : Int32)), .val (.int s0), .val (.int t0), .val (.int s1), .val (.int t1), .val (.ref b1), .val (.ref b6), .val (.int (1 : Int32))] []))
    refine OwnGo.fwd (fun tq' kq' => XS.iconst X38.here hx rfl (hb hby at_228) kq') ?_
    show OwnGo _ _ _ _ (T38.setTop (mkF m 229 #[.val (.int p0), .val (.int m0), .val (.int m1), .val (.int m2), .val (.int m3), .val (.int (1 : Int32)), .val (.int s0), .val (.int t0), .val (.int s1), .val (.int t1), .val (.ref b1), .val (.ref b6), .val (.int (1 : Int32))] [(.int (1 : Int32))]))
    refine OwnGo.fwd (fun tq' kq' => XS.goto X38.here hx rfl (pc0 := 229) (pc' := 233) rfl (hb hby at_229) (by decide) (by decide) kq') ?_
    show OwnGo _ _ _ _ (T38.setTop (mkF m 233 #[.val (.int p0), .val (.int m0), .val (.int m1), .val (.int m2), .val (.int m3), .val (.int (1 : Int32)), .val (.int s0), .val (.int t0), .val (.int s1), .val (.int t1), .val (.ref b1), .val (.ref b6), .val (.int (1 : Int32))] [(.int (1 : Int32))]))
    refine OwnGo.fwd (fun tq' kq' => XS.istore X38.here hx rfl (hb hby at_233) rfl (l' := #[.val (.int p0), .val (.int m0), .val (.int m1), .val (.int m2), .val (.int m3), .val (.int (1 : Int32)), .val (.int s0), .val (.int t0), .val (.int s1), .val (.int t1), .val (.ref b1), .val (.ref b6), .val (.int (1 : Int32))]) rfl kq') ?_
    show OwnGo _ _ _ _ (T38.setTop (mkF m 235 #[.val (.int p0), .val (.int m0), .val (.int m1), .val (.int m2), .val (.int m3), .val (.int (1 : Int32)), .val (.int s0), .val (.int t0), .val (.int s1), .val (.int t1), .val (.ref b1), .val (.ref b6), .val (.int (1 : Int32))] []))
    refine OwnGo.fwd (fun tq' kq' => XS.iload X38.here hx rfl (hb hby at_235) rfl kq') ?_
    show OwnGo _ _ _ _ (T38.setTop (mkF m 237 #[.val (.int p0), .val (.int m0), .val (.int m1), .val (.int m2), .val (.int m3), .val (.int (1 : Int32)), .val (.int s0), .val (.int t0), .val (.int s1), .val (.int t1), .val (.ref b1), .val (.ref b6), .val (.int (1 : Int32))] [(.int (1 : Int32))]))
    refine OwnGo.fwd (fun tq' kq' => XS.iconst X38.here hx rfl (hb hby at_237) kq') ?_
    show OwnGo _ _ _ _ (T38.setTop (mkF m 238 #[.val (.int p0), .val (.int m0), .val (.int m1), .val (.int m2), .val (.int m3), .val (.int (1 : Int32)), .val (.int s0), .val (.int t0), .val (.int s1), .val (.int t1), .val (.ref b1), .val (.ref b6), .val (.int (1 : Int32))] [(.int (2 : Int32)), (.int (1 : Int32))]))
    have hc238_40 : (1 : Int) < (2 : Int) := by decide
    refine OwnGo.fwd (fun tq' kq' => XS.icmpYes X38.here hx rfl (pc0 := 238) (pc' := 303) rfl (hb hby at_238) rfl (own_blt (by decide) (by decide) hc238_40).1 (by decide) (by decide) kq') ?_
    show OwnGo _ _ _ _ (T38.setTop (mkF m 303 #[.val (.int p0), .val (.int m0), .val (.int m1), .val (.int m2), .val (.int m3), .val (.int (1 : Int32)), .val (.int s0), .val (.int t0), .val (.int s1), .val (.int t1), .val (.ref b1), .val (.ref b6), .val (.int (1 : Int32))] []))
    refine OwnGo.fwd (fun tq' kq' => XS.iload X38.here hx rfl (hb hby at_303) rfl kq') ?_
    show OwnGo _ _ _ _ (T38.setTop (mkF m 305 #[.val (.int p0), .val (.int m0), .val (.int m1), .val (.int m2), .val (.int m3), .val (.int (1 : Int32)), .val (.int s0), .val (.int t0), .val (.int s1), .val (.int t1), .val (.ref b1), .val (.ref b6), .val (.int (1 : Int32))] [(.int (1 : Int32))]))
    exact own_retZ X38 hlk hx Bd.returns (hb hby at_305) (by decide) (by decide) e38 ⟨rfl, N⟩
  · show OwnGo _ _ _ _ (T7.setTop (mkF m 68 #[.val (.int p0), .val (.int m0), .val (.int m1), .val (.int m2), .val (.int m3), .val (.int (2 : Int32)), .val (.int s0), .val (.int t0), .val (.int s1), .val (.int t1), .val (.ref b1), .val (.ref b6), .unset] []))
    refine OwnGo.fwd (fun tq' kq' => XS.iload X7.here hx rfl (hb hby at_68) rfl kq') ?_
    show OwnGo _ _ _ _ (T7.setTop (mkF m 70 #[.val (.int p0), .val (.int m0), .val (.int m1), .val (.int m2), .val (.int m3), .val (.int (2 : Int32)), .val (.int s0), .val (.int t0), .val (.int s1), .val (.int t1), .val (.ref b1), .val (.ref b6), .unset] [(.int (2 : Int32))]))
    refine OwnGo.fwd (fun tq' kq' => XS.iconst X7.here hx rfl (hb hby at_70) kq') ?_
    show OwnGo _ _ _ _ (T7.setTop (mkF m 71 #[.val (.int p0), .val (.int m0), .val (.int m1), .val (.int m2), .val (.int m3), .val (.int (2 : Int32)), .val (.int s0), .val (.int t0), .val (.int s1), .val (.int t1), .val (.ref b1), .val (.ref b6), .unset] [(.int (1 : Int32)), (.int (2 : Int32))]))
    have hc71_41 : ¬ ((2 : Int) < (1 : Int)) := by decide
    refine OwnGo.fwd (fun tq' kq' => XS.icmpNo X7.here hx rfl (hb hby at_71) rfl (own_bnlt (by decide) (by decide) hc71_41).1 kq') ?_
    show OwnGo _ _ _ _ (T7.setTop (mkF m 74 #[.val (.int p0), .val (.int m0), .val (.int m1), .val (.int m2), .val (.int m3), .val (.int (2 : Int32)), .val (.int s0), .val (.int t0), .val (.int s1), .val (.int t1), .val (.ref b1), .val (.ref b6), .unset] []))
    refine OwnGo.fwd (fun tq' kq' => XS.aload X7.here hx rfl (hb hby at_74) rfl rfl kq') ?_
    show OwnGo _ _ _ _ (T7.setTop (mkF m 76 #[.val (.int p0), .val (.int m0), .val (.int m1), .val (.int m2), .val (.int m3), .val (.int (2 : Int32)), .val (.int s0), .val (.int t0), .val (.int s1), .val (.int t1), .val (.ref b1), .val (.ref b6), .unset] [(.ref b6)]))
    refine OwnGo.fwd (fun tq' kq' => XS.iload X7.here hx rfl (hb hby at_76) rfl kq') ?_
    show OwnGo _ _ _ _ (T7.setTop (mkF m 78 #[.val (.int p0), .val (.int m0), .val (.int m1), .val (.int m2), .val (.int m3), .val (.int (2 : Int32)), .val (.int s0), .val (.int t0), .val (.int s1), .val (.int t1), .val (.ref b1), .val (.ref b6), .unset] [(.int s0), (.ref b6)]))
    refine OwnGo.fwd (fun tq' kq' => XS.iload X7.here hx rfl (hb hby at_78) rfl kq') ?_
    show OwnGo _ _ _ _ (T7.setTop (mkF m 80 #[.val (.int p0), .val (.int m0), .val (.int m1), .val (.int m2), .val (.int m3), .val (.int (2 : Int32)), .val (.int s0), .val (.int t0), .val (.int s1), .val (.int t1), .val (.ref b1), .val (.ref b6), .unset] [(.int t0), (.int s0), (.ref b6)]))
    obtain ⟨cq42, kq42, q42a, q42b, q42c⟩ := isOf hZ eh7.symm E_b6
    obtain ⟨_, _, ⟨T42, L42, k42, n42⟩, -, X42, ⟨Lc42, hQ42, l42, y42, z42⟩, st42⟩ := X7.virtualBack hx (y := (⟨"com/example/ctl_checker/ctlchecker/Arcs", "add", "(II)V"⟩ : MethodName)) (z := (⟨"com/example/ctl_checker/ctlchecker/Arcs", "add", "(II)V"⟩ : MethodName)) hown (mvT hZ (hw _ (List.mem_of_getElem? (i := 26) rfl))) (mvT hZ (hw _ (List.mem_of_getElem? (i := 27) rfl))) (notFace_of_selects (args := #[]) (mvT hZ (hw _ (List.mem_of_getElem? (i := 29) rfl)))) (mvT hZ (hw _ (List.mem_of_getElem? (i := 29) rfl))) (mvT hZ (hw _ (List.mem_of_getElem? (i := 28) rfl))) (by decide) (backOf (W := 0) (rm5 l Z a0 hw [] b6 sa ta 0 (fun _ => 0) (fun _ => 0) s0 t0 h7 n0 Zs ⟨E_b6, F_sources_b6, F_targets_b6, F_count_b6, V_sa, V_ta, ne_b6_sa, ne_b6_ta, ne_sa_ta, g_b6, g_sa, g_ta⟩ (by decide)) hZ (hw _ (List.mem_of_getElem? (i := 30) rfl)) (hw _ (List.mem_of_getElem? (i := 3) rfl)) (by decide) (by decide)) q42a q42c (g := (mkF m 80 #[.val (.int p0), .val (.int m0), .val (.int m1), .val (.int m2), .val (.int m3), .val (.int (2 : Int32)), .val (.int s0), .val (.int t0), .val (.int s1), .val (.int t1), .val (.ref b1), .val (.ref b6), .unset] [(.int t0), (.int s0), (.ref b6)])) rfl (by rw [hml]; rfl) (Steps.refl _) (argsL := [(.int s0), (.int t0)]) (rest := []) (lenOf pd_3 rfl) rfl (by show 2 * 0 + _ ≤ _; exact Nat.le_of_eq rfl) (hb hby at_80) (fun _ _ => ⟨rfl, eh7.symm, (by decide : 4 + 0 ≤ _), (by decide : 39 + 0 ≤ _)⟩)
    dsimp only [Pt.U, Pt.locs, Pt.cells, Pt.slots] at X42 l42 y42 z42 st42 hQ42
    subst l42 y42 z42
    obtain ⟨h42, eh42⟩ : ∃ z, z = T42.heap := ⟨_, rfl⟩
    rw [← eh42] at hQ42
    obtain ⟨rfl, N42q, K42, E_b6, F_sources_b6, F_targets_b6, F_count_b6, V_sa, V_ta, ne_b6_sa, ne_b6_ta, ne_sa_ta, g_b6, g_sa, g_ta⟩ := hQ42
    have N := Fr.app N N42q
    have Zs := Nat.le_trans Zs K42.1
    have V_b1 := V_b1.keep K42 (ninS ne_b1_b6 (ninS ne_b1_sa (ninS ne_b1_ta nin0)))
    refine OwnGo.thru st42 ?_
    show OwnGo _ _ _ _ (T42.setTop (mkF m 83 #[.val (.int p0), .val (.int m0), .val (.int m1), .val (.int m2), .val (.int m3), .val (.int (2 : Int32)), .val (.int s0), .val (.int t0), .val (.int s1), .val (.int t1), .val (.ref b1), .val (.ref b6), .unset] []))
    refine OwnGo.fwd (fun tq' kq' => XS.iload X42.here hx rfl (hb hby at_83) rfl kq') ?_
    show OwnGo _ _ _ _ (T42.setTop (mkF m 85 #[.val (.int p0), .val (.int m0), .val (.int m1), .val (.int m2), .val (.int m3), .val (.int (2 : Int32)), .val (.int s0), .val (.int t0), .val (.int s1), .val (.int t1), .val (.ref b1), .val (.ref b6), .unset] [(.int (2 : Int32))]))
    refine OwnGo.fwd (fun tq' kq' => XS.iconst X42.here hx rfl (hb hby at_85) kq') ?_
    show OwnGo _ _ _ _ (T42.setTop (mkF m 86 #[.val (.int p0), .val (.int m0), .val (.int m1), .val (.int m2), .val (.int m3), .val (.int (2 : Int32)), .val (.int s0), .val (.int t0), .val (.int s1), .val (.int t1), .val (.ref b1), .val (.ref b6), .unset] [(.int (2 : Int32)), (.int (2 : Int32))]))
    have hc86_43 : ¬ ((2 : Int) < (2 : Int)) := by decide
    refine OwnGo.fwd (fun tq' kq' => XS.icmpNo X42.here hx rfl (hb hby at_86) rfl (own_bnlt (by decide) (by decide) hc86_43).1 kq') ?_
    show OwnGo _ _ _ _ (T42.setTop (mkF m 89 #[.val (.int p0), .val (.int m0), .val (.int m1), .val (.int m2), .val (.int m3), .val (.int (2 : Int32)), .val (.int s0), .val (.int t0), .val (.int s1), .val (.int t1), .val (.ref b1), .val (.ref b6), .unset] []))
    refine OwnGo.fwd (fun tq' kq' => XS.aload X42.here hx rfl (hb hby at_89) rfl rfl kq') ?_
    show OwnGo _ _ _ _ (T42.setTop (mkF m 91 #[.val (.int p0), .val (.int m0), .val (.int m1), .val (.int m2), .val (.int m3), .val (.int (2 : Int32)), .val (.int s0), .val (.int t0), .val (.int s1), .val (.int t1), .val (.ref b1), .val (.ref b6), .unset] [(.ref b6)]))
    refine OwnGo.fwd (fun tq' kq' => XS.iload X42.here hx rfl (hb hby at_91) rfl kq') ?_
    show OwnGo _ _ _ _ (T42.setTop (mkF m 93 #[.val (.int p0), .val (.int m0), .val (.int m1), .val (.int m2), .val (.int m3), .val (.int (2 : Int32)), .val (.int s0), .val (.int t0), .val (.int s1), .val (.int t1), .val (.ref b1), .val (.ref b6), .unset] [(.int s1), (.ref b6)]))
    refine OwnGo.fwd (fun tq' kq' => XS.iload X42.here hx rfl (hb hby at_93) rfl kq') ?_
    show OwnGo _ _ _ _ (T42.setTop (mkF m 95 #[.val (.int p0), .val (.int m0), .val (.int m1), .val (.int m2), .val (.int m3), .val (.int (2 : Int32)), .val (.int s0), .val (.int t0), .val (.int s1), .val (.int t1), .val (.ref b1), .val (.ref b6), .unset] [(.int t1), (.int s1), (.ref b6)]))
    obtain ⟨cq44, kq44, q44a, q44b, q44c⟩ := isOf hZ eh42.symm E_b6
    obtain ⟨_, _, ⟨T44, L44, k44, n44⟩, -, X44, ⟨Lc44, hQ44, l44, y44, z44⟩, st44⟩ := X42.virtualBack hx (y := (⟨"com/example/ctl_checker/ctlchecker/Arcs", "add", "(II)V"⟩ : MethodName)) (z := (⟨"com/example/ctl_checker/ctlchecker/Arcs", "add", "(II)V"⟩ : MethodName)) hown (mvT hZ (hw _ (List.mem_of_getElem? (i := 26) rfl))) (mvT hZ (hw _ (List.mem_of_getElem? (i := 27) rfl))) (notFace_of_selects (args := #[]) (mvT hZ (hw _ (List.mem_of_getElem? (i := 29) rfl)))) (mvT hZ (hw _ (List.mem_of_getElem? (i := 29) rfl))) (mvT hZ (hw _ (List.mem_of_getElem? (i := 28) rfl))) (by decide) (backOf (W := 0) (rm5 l Z a0 hw [] b6 sa ta 1 (fun k => if k = 0 then s0 else (fun _ => 0) k) (fun k => if k = 0 then t0 else (fun _ => 0) k) s1 t1 h42 n0 Zs ⟨E_b6, F_sources_b6, F_targets_b6, F_count_b6, V_sa, V_ta, ne_b6_sa, ne_b6_ta, ne_sa_ta, g_b6, g_sa, g_ta⟩ (by decide)) hZ (hw _ (List.mem_of_getElem? (i := 30) rfl)) (hw _ (List.mem_of_getElem? (i := 3) rfl)) (by decide) (by decide)) q44a q44c (g := (mkF m 95 #[.val (.int p0), .val (.int m0), .val (.int m1), .val (.int m2), .val (.int m3), .val (.int (2 : Int32)), .val (.int s0), .val (.int t0), .val (.int s1), .val (.int t1), .val (.ref b1), .val (.ref b6), .unset] [(.int t1), (.int s1), (.ref b6)])) rfl (by rw [hml]; rfl) (Steps.refl _) (argsL := [(.int s1), (.int t1)]) (rest := []) (lenOf pd_3 rfl) rfl (by show 2 * 0 + _ ≤ _; exact Nat.le_of_eq rfl) (hb hby at_95) (fun _ _ => ⟨rfl, eh42.symm, (by decide : 4 + 0 ≤ _), (by decide : 39 + 0 ≤ _)⟩)
    dsimp only [Pt.U, Pt.locs, Pt.cells, Pt.slots] at X44 l44 y44 z44 st44 hQ44
    subst l44 y44 z44
    obtain ⟨h44, eh44⟩ : ∃ z, z = T44.heap := ⟨_, rfl⟩
    rw [← eh44] at hQ44
    obtain ⟨rfl, N44q, K44, E_b6, F_sources_b6, F_targets_b6, F_count_b6, V_sa, V_ta, ne_b6_sa, ne_b6_ta, ne_sa_ta, g_b6, g_sa, g_ta⟩ := hQ44
    have N := Fr.app N N44q
    have Zs := Nat.le_trans Zs K44.1
    have V_b1 := V_b1.keep K44 (ninS ne_b1_b6 (ninS ne_b1_sa (ninS ne_b1_ta nin0)))
    refine OwnGo.thru st44 ?_
    show OwnGo _ _ _ _ (T44.setTop (mkF m 98 #[.val (.int p0), .val (.int m0), .val (.int m1), .val (.int m2), .val (.int m3), .val (.int (2 : Int32)), .val (.int s0), .val (.int t0), .val (.int s1), .val (.int t1), .val (.ref b1), .val (.ref b6), .unset] []))
    refine OwnGo.fwd (fun tq' kq' => XS.aload X44.here hx rfl (hb hby at_98) rfl rfl kq') ?_
    show OwnGo _ _ _ _ (T44.setTop (mkF m 100 #[.val (.int p0), .val (.int m0), .val (.int m1), .val (.int m2), .val (.int m3), .val (.int (2 : Int32)), .val (.int s0), .val (.int t0), .val (.int s1), .val (.int t1), .val (.ref b1), .val (.ref b6), .unset] [(.ref b6)]))
    refine OwnGo.fwd (fun tq' kq' => XS.aload X44.here hx rfl (hb hby at_100) rfl rfl kq') ?_
    show OwnGo _ _ _ _ (T44.setTop (mkF m 102 #[.val (.int p0), .val (.int m0), .val (.int m1), .val (.int m2), .val (.int m3), .val (.int (2 : Int32)), .val (.int s0), .val (.int t0), .val (.int s1), .val (.int t1), .val (.ref b1), .val (.ref b6), .unset] [(.ref b1), (.ref b6)]))
    obtain ⟨cq45, kq45, q45a, q45b, q45c⟩ := isOf hZ eh44.symm E_b6
    obtain ⟨_, _, ⟨T45, L45, k45, n45⟩, -, X45, ⟨Lc45, hQ45, l45, y45, z45⟩, st45⟩ := X44.virtualBack hx (y := (⟨"com/example/ctl_checker/ctlchecker/Arcs", "renumber", "([I)V"⟩ : MethodName)) (z := (⟨"com/example/ctl_checker/ctlchecker/Arcs", "renumber", "([I)V"⟩ : MethodName)) hown (mvT hZ (hw _ (List.mem_of_getElem? (i := 14) rfl))) (mvT hZ (hw _ (List.mem_of_getElem? (i := 15) rfl))) (notFace_of_selects (args := #[]) (mvT hZ (hw _ (List.mem_of_getElem? (i := 17) rfl)))) (mvT hZ (hw _ (List.mem_of_getElem? (i := 17) rfl))) (mvT hZ (hw _ (List.mem_of_getElem? (i := 16) rfl))) (by decide) (backOf (W := 0) (rm3c2 l Z a0 hw [] b6 sa ta (fun k => if k = 1 then s1 else (fun k => if k = 0 then s0 else (fun _ => 0) k) k) (fun k => if k = 1 then t1 else (fun k => if k = 0 then t0 else (fun _ => 0) k) k) b1 (own_mp m0 m1 m2 m3) x0 x2 x1 x3 h44 n0 Zs ⟨E_b6, F_sources_b6, F_targets_b6, F_count_b6, V_sa, V_ta, ne_b6_sa, ne_b6_ta, ne_sa_ta, g_b6, g_sa, g_ta⟩ V_b1 ne_b1_sa ne_b1_ta hx0 lx0 hx1 lx1 hx2 lx2 hx3 lx3) hZ (hw _ (List.mem_of_getElem? (i := 18) rfl)) (hw _ (List.mem_of_getElem? (i := 3) rfl)) (by decide) (by decide)) q45a q45c (g := (mkF m 102 #[.val (.int p0), .val (.int m0), .val (.int m1), .val (.int m2), .val (.int m3), .val (.int (2 : Int32)), .val (.int s0), .val (.int t0), .val (.int s1), .val (.int t1), .val (.ref b1), .val (.ref b6), .unset] [(.ref b1), (.ref b6)])) rfl (by rw [hml]; rfl) (Steps.refl _) (argsL := [(.ref b1)]) (rest := []) (lenOf pd_1 rfl) rfl (by show 2 * 0 + _ ≤ _; exact Nat.le_of_eq rfl) (hb hby at_102) (fun _ _ => ⟨rfl, eh44.symm, (by decide : 4 + 0 ≤ _), (by decide : 39 + 0 ≤ _)⟩)
    dsimp only [Pt.U, Pt.locs, Pt.cells, Pt.slots] at X45 l45 y45 z45 st45 hQ45
    subst l45 y45 z45
    obtain ⟨h45, eh45⟩ : ∃ z, z = T45.heap := ⟨_, rfl⟩
    rw [← eh45] at hQ45
    obtain ⟨rfl, N45q, K45, E_b6, F_sources_b6, F_targets_b6, F_count_b6, V_sa, V_ta, ne_b6_sa, ne_b6_ta, ne_sa_ta, g_b6, g_sa, g_ta⟩ := hQ45
    have N := Fr.app N N45q
    have Zs := Nat.le_trans Zs K45.1
    have V_b1 := V_b1.keep K45 (ninS ne_b1_sa (ninS ne_b1_ta nin0))
    refine OwnGo.thru st45 ?_
    show OwnGo _ _ _ _ (T45.setTop (mkF m 105 #[.val (.int p0), .val (.int m0), .val (.int m1), .val (.int m2), .val (.int m3), .val (.int (2 : Int32)), .val (.int s0), .val (.int t0), .val (.int s1), .val (.int t1), .val (.ref b1), .val (.ref b6), .unset] []))
    refine OwnGo.fwd (fun tq' kq' => XS.aload X45.here hx rfl (hb hby at_105) rfl rfl kq') ?_
    show OwnGo _ _ _ _ (T45.setTop (mkF m 107 #[.val (.int p0), .val (.int m0), .val (.int m1), .val (.int m2), .val (.int m3), .val (.int (2 : Int32)), .val (.int s0), .val (.int t0), .val (.int s1), .val (.int t1), .val (.ref b1), .val (.ref b6), .unset] [(.ref b6)]))
    obtain ⟨cq46, kq46, q46a, q46b, q46c⟩ := isOf hZ eh45.symm E_b6
    obtain ⟨_, _, ⟨T46, L46, k46, n46⟩, -, X46, ⟨Lc46, hQ46, l46, y46, z46⟩, st46⟩ := X45.virtualBack hx (y := (⟨"com/example/ctl_checker/ctlchecker/Arcs", "size", "()I"⟩ : MethodName)) (z := (⟨"com/example/ctl_checker/ctlchecker/Arcs", "size", "()I"⟩ : MethodName)) hown (mvT hZ (hw _ (List.mem_of_getElem? (i := 21) rfl))) (mvT hZ (hw _ (List.mem_of_getElem? (i := 22) rfl))) (notFace_of_selects (args := #[]) (mvT hZ (hw _ (List.mem_of_getElem? (i := 24) rfl)))) (mvT hZ (hw _ (List.mem_of_getElem? (i := 24) rfl))) (mvT hZ (hw _ (List.mem_of_getElem? (i := 23) rfl))) (by decide) (backOf (W := 0) (rm4 l Z a0 hw [] b6 sa ta 2 (fun k => if k = 1 then ((own_mp m0 m1 m2 m3) x2) else (fun k => if k = 0 then ((own_mp m0 m1 m2 m3) x0) else (fun k => if k = 1 then s1 else (fun k => if k = 0 then s0 else (fun _ => 0) k) k) k) k) (fun k => if k = 1 then ((own_mp m0 m1 m2 m3) x3) else (fun k => if k = 0 then ((own_mp m0 m1 m2 m3) x1) else (fun k => if k = 1 then t1 else (fun k => if k = 0 then t0 else (fun _ => 0) k) k) k) k) h45 n0 Zs ⟨E_b6, F_sources_b6, F_targets_b6, F_count_b6, V_sa, V_ta, ne_b6_sa, ne_b6_ta, ne_sa_ta, g_b6, g_sa, g_ta⟩) hZ (hw _ (List.mem_of_getElem? (i := 25) rfl)) (hw _ (List.mem_of_getElem? (i := 3) rfl)) (by decide) (by decide)) q46a q46c (g := (mkF m 107 #[.val (.int p0), .val (.int m0), .val (.int m1), .val (.int m2), .val (.int m3), .val (.int (2 : Int32)), .val (.int s0), .val (.int t0), .val (.int s1), .val (.int t1), .val (.ref b1), .val (.ref b6), .unset] [(.ref b6)])) rfl (by rw [hml]; rfl) (Steps.refl _) (argsL := []) (rest := []) (lenOf pd_2 rfl) rfl (by show 2 * 0 + _ ≤ _; exact Nat.le_of_eq rfl) (hb hby at_107) (fun _ _ => ⟨rfl, eh45.symm, (by decide : 4 + 0 ≤ _), (by decide : 39 + 0 ≤ _)⟩)
    dsimp only [Pt.U, Pt.locs, Pt.cells, Pt.slots] at X46 l46 y46 z46 st46 hQ46
    subst l46 y46 z46
    obtain ⟨rfl, N46q, e46⟩ := hQ46
    have N := Fr.app N N46q
    refine OwnGo.thru st46 ?_
    show OwnGo _ _ _ _ (T46.setTop (mkF m 110 #[.val (.int p0), .val (.int m0), .val (.int m1), .val (.int m2), .val (.int m3), .val (.int (2 : Int32)), .val (.int s0), .val (.int t0), .val (.int s1), .val (.int t1), .val (.ref b1), .val (.ref b6), .unset] [(.int (Int32.ofNat 2))]))
    refine OwnGo.fwd (fun tq' kq' => XS.iload X46.here hx rfl (hb hby at_110) rfl kq') ?_
    show OwnGo _ _ _ _ (T46.setTop (mkF m 112 #[.val (.int p0), .val (.int m0), .val (.int m1), .val (.int m2), .val (.int m3), .val (.int (2 : Int32)), .val (.int s0), .val (.int t0), .val (.int s1), .val (.int t1), .val (.ref b1), .val (.ref b6), .unset] [(.int (2 : Int32)), (.int (Int32.ofNat 2))]))
    have hc112_47 : (2 : Int) = (2 : Int) := by decide
    refine OwnGo.fwd (fun tq' kq' => XS.icmpNo X46.here hx rfl (hb hby at_112) rfl (own_beq (by decide) (by decide) hc112_47).2 kq') ?_
    show OwnGo _ _ _ _ (T46.setTop (mkF m 115 #[.val (.int p0), .val (.int m0), .val (.int m1), .val (.int m2), .val (.int m3), .val (.int (2 : Int32)), .val (.int s0), .val (.int t0), .val (.int s1), .val (.int t1), .val (.ref b1), .val (.ref b6), .unset] []))
    refine OwnGo.fwd (fun tq' kq' => XS.iconst X46.here hx rfl (hb hby at_115) kq') ?_
    show OwnGo _ _ _ _ (T46.setTop (mkF m 116 #[.val (.int p0), .val (.int m0), .val (.int m1), .val (.int m2), .val (.int m3), .val (.int (2 : Int32)), .val (.int s0), .val (.int t0), .val (.int s1), .val (.int t1), .val (.ref b1), .val (.ref b6), .unset] [(.int (1 : Int32))]))
    refine OwnGo.fwd (fun tq' kq' => XS.goto X46.here hx rfl (pc0 := 116) (pc' := 120) rfl (hb hby at_116) (by decide) (by decide) kq') ?_
    show OwnGo _ _ _ _ (T46.setTop (mkF m 120 #[.val (.int p0), .val (.int m0), .val (.int m1), .val (.int m2), .val (.int m3), .val (.int (2 : Int32)), .val (.int s0), .val (.int t0), .val (.int s1), .val (.int t1), .val (.ref b1), .val (.ref b6), .unset] [(.int (1 : Int32))]))
    refine OwnGo.fwd (fun tq' kq' => XS.istore X46.here hx rfl (hb hby at_120) rfl (l' := #[.val (.int p0), .val (.int m0), .val (.int m1), .val (.int m2), .val (.int m3), .val (.int (2 : Int32)), .val (.int s0), .val (.int t0), .val (.int s1), .val (.int t1), .val (.ref b1), .val (.ref b6), .val (.int (1 : Int32))]) rfl kq') ?_
    show OwnGo _ _ _ _ (T46.setTop (mkF m 122 #[.val (.int p0), .val (.int m0), .val (.int m1), .val (.int m2), .val (.int m3), .val (.int (2 : Int32)), .val (.int s0), .val (.int t0), .val (.int s1), .val (.int t1), .val (.ref b1), .val (.ref b6), .val (.int (1 : Int32))] []))
    refine OwnGo.fwd (fun tq' kq' => XS.iload X46.here hx rfl (hb hby at_122) rfl kq') ?_
    show OwnGo _ _ _ _ (T46.setTop (mkF m 124 #[.val (.int p0), .val (.int m0), .val (.int m1), .val (.int m2), .val (.int m3), .val (.int (2 : Int32)), .val (.int s0), .val (.int t0), .val (.int s1), .val (.int t1), .val (.ref b1), .val (.ref b6), .val (.int (1 : Int32))] [(.int (1 : Int32))]))
    have hc124_48 : ¬ ((1 : Int) = (0 : Int)) := by decide
    refine OwnGo.fwd (fun tq' kq' => XS.ifNo X46.here hx rfl (hb hby at_124) rfl ((if0 _ _).trans (own_bneq (by decide) (by decide) hc124_48).1) kq') ?_
    show OwnGo _ _ _ _ (T46.setTop (mkF m 127 #[.val (.int p0), .val (.int m0), .val (.int m1), .val (.int m2), .val (.int m3), .val (.int (2 : Int32)), .val (.int s0), .val (.int t0), .val (.int s1), .val (.int t1), .val (.ref b1), .val (.ref b6), .val (.int (1 : Int32))] []))
    refine OwnGo.fwd (fun tq' kq' => XS.aload X46.here hx rfl (hb hby at_127) rfl rfl kq') ?_
    show OwnGo _ _ _ _ (T46.setTop (mkF m 129 #[.val (.int p0), .val (.int m0), .val (.int m1), .val (.int m2), .val (.int m3), .val (.int (2 : Int32)), .val (.int s0), .val (.int t0), .val (.int s1), .val (.int t1), .val (.ref b1), .val (.ref b6), .val (.int (1 : Int32))] [(.ref b1)]))
    refine OwnGo.fwd (fun tq' kq' => XS.iconst X46.here hx rfl (hb hby at_129) kq') ?_
    show OwnGo _ _ _ _ (T46.setTop (mkF m 130 #[.val (.int p0), .val (.int m0), .val (.int m1), .val (.int m2), .val (.int m3), .val (.int (2 : Int32)), .val (.int s0), .val (.int t0), .val (.int s1), .val (.int t1), .val (.ref b1), .val (.ref b6), .val (.int (1 : Int32))] [(.int (0 : Int32)), (.ref b1)]))
    refine OwnGo.fwd (fun tq' kq' => own_iaload X46 hx hZ e46 V_b1 (i := 0) (by decide) (by decide) (g := (mkF m 130 #[.val (.int p0), .val (.int m0), .val (.int m1), .val (.int m2), .val (.int m3), .val (.int (2 : Int32)), .val (.int s0), .val (.int t0), .val (.int s1), .val (.int t1), .val (.ref b1), .val (.ref b6), .val (.int (1 : Int32))] [(.int (0 : Int32)), (.ref b1)])) rfl rfl (hb hby at_130) tq' kq') ?_
    show OwnGo _ _ _ _ (T46.setTop (mkF m 131 #[.val (.int p0), .val (.int m0), .val (.int m1), .val (.int m2), .val (.int m3), .val (.int (2 : Int32)), .val (.int s0), .val (.int t0), .val (.int s1), .val (.int t1), .val (.ref b1), .val (.ref b6), .val (.int (1 : Int32))] [(.int ((own_mp m0 m1 m2 m3) 0))]))
    show OwnGo _ _ _ _ (T46.setTop (mkF m 131 #[.val (.int p0), .val (.int m0), .val (.int m1), .val (.int m2), .val (.int m3), .val (.int (2 : Int32)), .val (.int s0), .val (.int t0), .val (.int s1), .val (.int t1), .val (.ref b1), .val (.ref b6), .val (.int (1 : Int32))] [(.int m0)]))
    refine OwnGo.fwd (fun tq' kq' => XS.iloadN X46.here hx rfl (hb hby at_131) rfl kq') ?_
    show OwnGo _ _ _ _ (T46.setTop (mkF m 132 #[.val (.int p0), .val (.int m0), .val (.int m1), .val (.int m2), .val (.int m3), .val (.int (2 : Int32)), .val (.int s0), .val (.int t0), .val (.int s1), .val (.int t1), .val (.ref b1), .val (.ref b6), .val (.int (1 : Int32))] [(.int m0), (.int m0)]))
    have hc132_49 : m0.toInt = m0.toInt := rfl
    refine OwnGo.fwd (fun tq' kq' => XS.icmpNo X46.here hx rfl (hb hby at_132) rfl (own_beq rfl rfl hc132_49).2 kq') ?_
    show OwnGo _ _ _ _ (T46.setTop (mkF m 135 #[.val (.int p0), .val (.int m0), .val (.int m1), .val (.int m2), .val (.int m3), .val (.int (2 : Int32)), .val (.int s0), .val (.int t0), .val (.int s1), .val (.int t1), .val (.ref b1), .val (.ref b6), .val (.int (1 : Int32))] []))
    refine OwnGo.fwd (fun tq' kq' => XS.aload X46.here hx rfl (hb hby at_135) rfl rfl kq') ?_
    show OwnGo _ _ _ _ (T46.setTop (mkF m 137 #[.val (.int p0), .val (.int m0), .val (.int m1), .val (.int m2), .val (.int m3), .val (.int (2 : Int32)), .val (.int s0), .val (.int t0), .val (.int s1), .val (.int t1), .val (.ref b1), .val (.ref b6), .val (.int (1 : Int32))] [(.ref b1)]))
    refine OwnGo.fwd (fun tq' kq' => XS.iconst X46.here hx rfl (hb hby at_137) kq') ?_
    show OwnGo _ _ _ _ (T46.setTop (mkF m 138 #[.val (.int p0), .val (.int m0), .val (.int m1), .val (.int m2), .val (.int m3), .val (.int (2 : Int32)), .val (.int s0), .val (.int t0), .val (.int s1), .val (.int t1), .val (.ref b1), .val (.ref b6), .val (.int (1 : Int32))] [(.int (1 : Int32)), (.ref b1)]))
    refine OwnGo.fwd (fun tq' kq' => own_iaload X46 hx hZ e46 V_b1 (i := 1) (by decide) (by decide) (g := (mkF m 138 #[.val (.int p0), .val (.int m0), .val (.int m1), .val (.int m2), .val (.int m3), .val (.int (2 : Int32)), .val (.int s0), .val (.int t0), .val (.int s1), .val (.int t1), .val (.ref b1), .val (.ref b6), .val (.int (1 : Int32))] [(.int (1 : Int32)), (.ref b1)])) rfl rfl (hb hby at_138) tq' kq') ?_
    show OwnGo _ _ _ _ (T46.setTop (mkF m 139 #[.val (.int p0), .val (.int m0), .val (.int m1), .val (.int m2), .val (.int m3), .val (.int (2 : Int32)), .val (.int s0), .val (.int t0), .val (.int s1), .val (.int t1), .val (.ref b1), .val (.ref b6), .val (.int (1 : Int32))] [(.int ((own_mp m0 m1 m2 m3) 1))]))
    show OwnGo _ _ _ _ (T46.setTop (mkF m 139 #[.val (.int p0), .val (.int m0), .val (.int m1), .val (.int m2), .val (.int m3), .val (.int (2 : Int32)), .val (.int s0), .val (.int t0), .val (.int s1), .val (.int t1), .val (.ref b1), .val (.ref b6), .val (.int (1 : Int32))] [(.int m1)]))
    refine OwnGo.fwd (fun tq' kq' => XS.iloadN X46.here hx rfl (hb hby at_139) rfl kq') ?_
    show OwnGo _ _ _ _ (T46.setTop (mkF m 140 #[.val (.int p0), .val (.int m0), .val (.int m1), .val (.int m2), .val (.int m3), .val (.int (2 : Int32)), .val (.int s0), .val (.int t0), .val (.int s1), .val (.int t1), .val (.ref b1), .val (.ref b6), .val (.int (1 : Int32))] [(.int m1), (.int m1)]))
    have hc140_50 : m1.toInt = m1.toInt := rfl
    refine OwnGo.fwd (fun tq' kq' => XS.icmpNo X46.here hx rfl (hb hby at_140) rfl (own_beq rfl rfl hc140_50).2 kq') ?_
    show OwnGo _ _ _ _ (T46.setTop (mkF m 143 #[.val (.int p0), .val (.int m0), .val (.int m1), .val (.int m2), .val (.int m3), .val (.int (2 : Int32)), .val (.int s0), .val (.int t0), .val (.int s1), .val (.int t1), .val (.ref b1), .val (.ref b6), .val (.int (1 : Int32))] []))
    refine OwnGo.fwd (fun tq' kq' => XS.aload X46.here hx rfl (hb hby at_143) rfl rfl kq') ?_
    show OwnGo _ _ _ _ (T46.setTop (mkF m 145 #[.val (.int p0), .val (.int m0), .val (.int m1), .val (.int m2), .val (.int m3), .val (.int (2 : Int32)), .val (.int s0), .val (.int t0), .val (.int s1), .val (.int t1), .val (.ref b1), .val (.ref b6), .val (.int (1 : Int32))] [(.ref b1)]))
    refine OwnGo.fwd (fun tq' kq' => XS.iconst X46.here hx rfl (hb hby at_145) kq') ?_
    show OwnGo _ _ _ _ (T46.setTop (mkF m 146 #[.val (.int p0), .val (.int m0), .val (.int m1), .val (.int m2), .val (.int m3), .val (.int (2 : Int32)), .val (.int s0), .val (.int t0), .val (.int s1), .val (.int t1), .val (.ref b1), .val (.ref b6), .val (.int (1 : Int32))] [(.int (2 : Int32)), (.ref b1)]))
    refine OwnGo.fwd (fun tq' kq' => own_iaload X46 hx hZ e46 V_b1 (i := 2) (by decide) (by decide) (g := (mkF m 146 #[.val (.int p0), .val (.int m0), .val (.int m1), .val (.int m2), .val (.int m3), .val (.int (2 : Int32)), .val (.int s0), .val (.int t0), .val (.int s1), .val (.int t1), .val (.ref b1), .val (.ref b6), .val (.int (1 : Int32))] [(.int (2 : Int32)), (.ref b1)])) rfl rfl (hb hby at_146) tq' kq') ?_
    show OwnGo _ _ _ _ (T46.setTop (mkF m 147 #[.val (.int p0), .val (.int m0), .val (.int m1), .val (.int m2), .val (.int m3), .val (.int (2 : Int32)), .val (.int s0), .val (.int t0), .val (.int s1), .val (.int t1), .val (.ref b1), .val (.ref b6), .val (.int (1 : Int32))] [(.int ((own_mp m0 m1 m2 m3) 2))]))
    show OwnGo _ _ _ _ (T46.setTop (mkF m 147 #[.val (.int p0), .val (.int m0), .val (.int m1), .val (.int m2), .val (.int m3), .val (.int (2 : Int32)), .val (.int s0), .val (.int t0), .val (.int s1), .val (.int t1), .val (.ref b1), .val (.ref b6), .val (.int (1 : Int32))] [(.int m2)]))
    refine OwnGo.fwd (fun tq' kq' => XS.iloadN X46.here hx rfl (hb hby at_147) rfl kq') ?_
    show OwnGo _ _ _ _ (T46.setTop (mkF m 148 #[.val (.int p0), .val (.int m0), .val (.int m1), .val (.int m2), .val (.int m3), .val (.int (2 : Int32)), .val (.int s0), .val (.int t0), .val (.int s1), .val (.int t1), .val (.ref b1), .val (.ref b6), .val (.int (1 : Int32))] [(.int m2), (.int m2)]))
    have hc148_51 : m2.toInt = m2.toInt := rfl
    refine OwnGo.fwd (fun tq' kq' => XS.icmpNo X46.here hx rfl (hb hby at_148) rfl (own_beq rfl rfl hc148_51).2 kq') ?_
    show OwnGo _ _ _ _ (T46.setTop (mkF m 151 #[.val (.int p0), .val (.int m0), .val (.int m1), .val (.int m2), .val (.int m3), .val (.int (2 : Int32)), .val (.int s0), .val (.int t0), .val (.int s1), .val (.int t1), .val (.ref b1), .val (.ref b6), .val (.int (1 : Int32))] []))
    refine OwnGo.fwd (fun tq' kq' => XS.aload X46.here hx rfl (hb hby at_151) rfl rfl kq') ?_
    show OwnGo _ _ _ _ (T46.setTop (mkF m 153 #[.val (.int p0), .val (.int m0), .val (.int m1), .val (.int m2), .val (.int m3), .val (.int (2 : Int32)), .val (.int s0), .val (.int t0), .val (.int s1), .val (.int t1), .val (.ref b1), .val (.ref b6), .val (.int (1 : Int32))] [(.ref b1)]))
    refine OwnGo.fwd (fun tq' kq' => XS.iconst X46.here hx rfl (hb hby at_153) kq') ?_
    show OwnGo _ _ _ _ (T46.setTop (mkF m 154 #[.val (.int p0), .val (.int m0), .val (.int m1), .val (.int m2), .val (.int m3), .val (.int (2 : Int32)), .val (.int s0), .val (.int t0), .val (.int s1), .val (.int t1), .val (.ref b1), .val (.ref b6), .val (.int (1 : Int32))] [(.int (3 : Int32)), (.ref b1)]))
    refine OwnGo.fwd (fun tq' kq' => own_iaload X46 hx hZ e46 V_b1 (i := 3) (by decide) (by decide) (g := (mkF m 154 #[.val (.int p0), .val (.int m0), .val (.int m1), .val (.int m2), .val (.int m3), .val (.int (2 : Int32)), .val (.int s0), .val (.int t0), .val (.int s1), .val (.int t1), .val (.ref b1), .val (.ref b6), .val (.int (1 : Int32))] [(.int (3 : Int32)), (.ref b1)])) rfl rfl (hb hby at_154) tq' kq') ?_
    show OwnGo _ _ _ _ (T46.setTop (mkF m 155 #[.val (.int p0), .val (.int m0), .val (.int m1), .val (.int m2), .val (.int m3), .val (.int (2 : Int32)), .val (.int s0), .val (.int t0), .val (.int s1), .val (.int t1), .val (.ref b1), .val (.ref b6), .val (.int (1 : Int32))] [(.int ((own_mp m0 m1 m2 m3) 3))]))
    show OwnGo _ _ _ _ (T46.setTop (mkF m 155 #[.val (.int p0), .val (.int m0), .val (.int m1), .val (.int m2), .val (.int m3), .val (.int (2 : Int32)), .val (.int s0), .val (.int t0), .val (.int s1), .val (.int t1), .val (.ref b1), .val (.ref b6), .val (.int (1 : Int32))] [(.int m3)]))
    refine OwnGo.fwd (fun tq' kq' => XS.iload X46.here hx rfl (hb hby at_155) rfl kq') ?_
    show OwnGo _ _ _ _ (T46.setTop (mkF m 157 #[.val (.int p0), .val (.int m0), .val (.int m1), .val (.int m2), .val (.int m3), .val (.int (2 : Int32)), .val (.int s0), .val (.int t0), .val (.int s1), .val (.int t1), .val (.ref b1), .val (.ref b6), .val (.int (1 : Int32))] [(.int m3), (.int m3)]))
    have hc157_52 : m3.toInt = m3.toInt := rfl
    refine OwnGo.fwd (fun tq' kq' => XS.icmpNo X46.here hx rfl (hb hby at_157) rfl (own_beq rfl rfl hc157_52).2 kq') ?_
    show OwnGo _ _ _ _ (T46.setTop (mkF m 160 #[.val (.int p0), .val (.int m0), .val (.int m1), .val (.int m2), .val (.int m3), .val (.int (2 : Int32)), .val (.int s0), .val (.int t0), .val (.int s1), .val (.int t1), .val (.ref b1), .val (.ref b6), .val (.int (1 : Int32))] []))
    refine OwnGo.fwd (fun tq' kq' => XS.iconst X46.here hx rfl (hb hby at_160) kq') ?_
    show OwnGo _ _ _ _ (T46.setTop (mkF m 161 #[.val (.int p0), .val (.int m0), .val (.int m1), .val (.int m2), .val (.int m3), .val (.int (2 : Int32)), .val (.int s0), .val (.int t0), .val (.int s1), .val (.int t1), .val (.ref b1), .val (.ref b6), .val (.int (1 : Int32))] [(.int (1 : Int32))]))
    refine OwnGo.fwd (fun tq' kq' => XS.goto X46.here hx rfl (pc0 := 161) (pc' := 165) rfl (hb hby at_161) (by decide) (by decide) kq') ?_
    show OwnGo _ _ _ _ (T46.setTop (mkF m 165 #[.val (.int p0), .val (.int m0), .val (.int m1), .val (.int m2), .val (.int m3), .val (.int (2 : Int32)), .val (.int s0), .val (.int t0), .val (.int s1), .val (.int t1), .val (.ref b1), .val (.ref b6), .val (.int (1 : Int32))] [(.int (1 : Int32))]))
    refine OwnGo.fwd (fun tq' kq' => XS.istore X46.here hx rfl (hb hby at_165) rfl (l' := #[.val (.int p0), .val (.int m0), .val (.int m1), .val (.int m2), .val (.int m3), .val (.int (2 : Int32)), .val (.int s0), .val (.int t0), .val (.int s1), .val (.int t1), .val (.ref b1), .val (.ref b6), .val (.int (1 : Int32))]) rfl kq') ?_
    show OwnGo _ _ _ _ (T46.setTop (mkF m 167 #[.val (.int p0), .val (.int m0), .val (.int m1), .val (.int m2), .val (.int m3), .val (.int (2 : Int32)), .val (.int s0), .val (.int t0), .val (.int s1), .val (.int t1), .val (.ref b1), .val (.ref b6), .val (.int (1 : Int32))] []))
    refine OwnGo.fwd (fun tq' kq' => XS.iload X46.here hx rfl (hb hby at_167) rfl kq') ?_
    show OwnGo _ _ _ _ (T46.setTop (mkF m 169 #[.val (.int p0), .val (.int m0), .val (.int m1), .val (.int m2), .val (.int m3), .val (.int (2 : Int32)), .val (.int s0), .val (.int t0), .val (.int s1), .val (.int t1), .val (.ref b1), .val (.ref b6), .val (.int (1 : Int32))] [(.int (2 : Int32))]))
    refine OwnGo.fwd (fun tq' kq' => XS.iconst X46.here hx rfl (hb hby at_169) kq') ?_
    show OwnGo _ _ _ _ (T46.setTop (mkF m 170 #[.val (.int p0), .val (.int m0), .val (.int m1), .val (.int m2), .val (.int m3), .val (.int (2 : Int32)), .val (.int s0), .val (.int t0), .val (.int s1), .val (.int t1), .val (.ref b1), .val (.ref b6), .val (.int (1 : Int32))] [(.int (1 : Int32)), (.int (2 : Int32))]))
    have hc170_53 : ¬ ((2 : Int) < (1 : Int)) := by decide
    refine OwnGo.fwd (fun tq' kq' => XS.icmpNo X46.here hx rfl (hb hby at_170) rfl (own_bnlt (by decide) (by decide) hc170_53).1 kq') ?_
    show OwnGo _ _ _ _ (T46.setTop (mkF m 173 #[.val (.int p0), .val (.int m0), .val (.int m1), .val (.int m2), .val (.int m3), .val (.int (2 : Int32)), .val (.int s0), .val (.int t0), .val (.int s1), .val (.int t1), .val (.ref b1), .val (.ref b6), .val (.int (1 : Int32))] []))
    refine OwnGo.fwd (fun tq' kq' => XS.iload X46.here hx rfl (hb hby at_173) rfl kq') ?_
    show OwnGo _ _ _ _ (T46.setTop (mkF m 175 #[.val (.int p0), .val (.int m0), .val (.int m1), .val (.int m2), .val (.int m3), .val (.int (2 : Int32)), .val (.int s0), .val (.int t0), .val (.int s1), .val (.int t1), .val (.ref b1), .val (.ref b6), .val (.int (1 : Int32))] [(.int (1 : Int32))]))
    have hc175_54 : ¬ ((1 : Int) = (0 : Int)) := by decide
    refine OwnGo.fwd (fun tq' kq' => XS.ifNo X46.here hx rfl (hb hby at_175) rfl ((if0 _ _).trans (own_bneq (by decide) (by decide) hc175_54).1) kq') ?_
    show OwnGo _ _ _ _ (T46.setTop (mkF m 178 #[.val (.int p0), .val (.int m0), .val (.int m1), .val (.int m2), .val (.int m3), .val (.int (2 : Int32)), .val (.int s0), .val (.int t0), .val (.int s1), .val (.int t1), .val (.ref b1), .val (.ref b6), .val (.int (1 : Int32))] []))
    refine OwnGo.fwd (fun tq' kq' => XS.aload X46.here hx rfl (hb hby at_178) rfl rfl kq') ?_
    show OwnGo _ _ _ _ (T46.setTop (mkF m 180 #[.val (.int p0), .val (.int m0), .val (.int m1), .val (.int m2), .val (.int m3), .val (.int (2 : Int32)), .val (.int s0), .val (.int t0), .val (.int s1), .val (.int t1), .val (.ref b1), .val (.ref b6), .val (.int (1 : Int32))] [(.ref b6)]))
    refine OwnGo.fwd (fun tq' kq' => XS.iconst X46.here hx rfl (hb hby at_180) kq') ?_
    show OwnGo _ _ _ _ (T46.setTop (mkF m 181 #[.val (.int p0), .val (.int m0), .val (.int m1), .val (.int m2), .val (.int m3), .val (.int (2 : Int32)), .val (.int s0), .val (.int t0), .val (.int s1), .val (.int t1), .val (.ref b1), .val (.ref b6), .val (.int (1 : Int32))] [(.int (0 : Int32)), (.ref b6)]))
    obtain ⟨cq55, kq55, q55a, q55b, q55c⟩ := isOf hZ e46 E_b6
    obtain ⟨_, _, ⟨T55, L55, k55, n55⟩, -, X55, ⟨Lc55, hQ55, l55, y55, z55⟩, st55⟩ := X46.virtualBack hx (y := (⟨"com/example/ctl_checker/ctlchecker/Arcs", "getSource", "(I)I"⟩ : MethodName)) (z := (⟨"com/example/ctl_checker/ctlchecker/Arcs", "getSource", "(I)I"⟩ : MethodName)) hown (mvT hZ (hw _ (List.mem_of_getElem? (i := 31) rfl))) (mvT hZ (hw _ (List.mem_of_getElem? (i := 32) rfl))) (notFace_of_selects (args := #[]) (mvT hZ (hw _ (List.mem_of_getElem? (i := 34) rfl)))) (mvT hZ (hw _ (List.mem_of_getElem? (i := 34) rfl))) (mvT hZ (hw _ (List.mem_of_getElem? (i := 33) rfl))) (by decide) (backOf (W := 0) (rm6 l Z a0 hw [] b6 sa ta 2 (fun k => if k = 1 then ((own_mp m0 m1 m2 m3) x2) else (fun k => if k = 0 then ((own_mp m0 m1 m2 m3) x0) else (fun k => if k = 1 then s1 else (fun k => if k = 0 then s0 else (fun _ => 0) k) k) k) k) (fun k => if k = 1 then ((own_mp m0 m1 m2 m3) x3) else (fun k => if k = 0 then ((own_mp m0 m1 m2 m3) x1) else (fun k => if k = 1 then t1 else (fun k => if k = 0 then t0 else (fun _ => 0) k) k) k) k) (0 : Int32) 0 h45 n0 Zs ⟨E_b6, F_sources_b6, F_targets_b6, F_count_b6, V_sa, V_ta, ne_b6_sa, ne_b6_ta, ne_sa_ta, g_b6, g_sa, g_ta⟩ (by decide) (by decide)) hZ (hw _ (List.mem_of_getElem? (i := 35) rfl)) (hw _ (List.mem_of_getElem? (i := 3) rfl)) (by decide) (by decide)) q55a q55c (g := (mkF m 181 #[.val (.int p0), .val (.int m0), .val (.int m1), .val (.int m2), .val (.int m3), .val (.int (2 : Int32)), .val (.int s0), .val (.int t0), .val (.int s1), .val (.int t1), .val (.ref b1), .val (.ref b6), .val (.int (1 : Int32))] [(.int (0 : Int32)), (.ref b6)])) rfl (by rw [hml]; rfl) (Steps.refl _) (argsL := [(.int (0 : Int32))]) (rest := []) (lenOf pd_4 rfl) rfl (by show 2 * 0 + _ ≤ _; exact Nat.le_of_eq rfl) (hb hby at_181) (fun _ _ => ⟨rfl, e46, (by decide : 4 + 0 ≤ _), (by decide : 39 + 0 ≤ _)⟩)
    dsimp only [Pt.U, Pt.locs, Pt.cells, Pt.slots] at X55 l55 y55 z55 st55 hQ55
    subst l55 y55 z55
    obtain ⟨rfl, N55q, e55⟩ := hQ55
    have N := Fr.app N N55q
    refine OwnGo.thru st55 ?_
    show OwnGo _ _ _ _ (T55.setTop (mkF m 184 #[.val (.int p0), .val (.int m0), .val (.int m1), .val (.int m2), .val (.int m3), .val (.int (2 : Int32)), .val (.int s0), .val (.int t0), .val (.int s1), .val (.int t1), .val (.ref b1), .val (.ref b6), .val (.int (1 : Int32))] [(.int ((fun k => if k = 1 then ((own_mp m0 m1 m2 m3) x2) else (fun k => if k = 0 then ((own_mp m0 m1 m2 m3) x0) else (fun k => if k = 1 then s1 else (fun k => if k = 0 then s0 else (fun _ => 0) k) k) k) k) 0))]))
    refine OwnGo.fwd (fun tq' kq' => XS.iload X55.here hx rfl (hb hby at_184) rfl kq') ?_
    show OwnGo _ _ _ _ (T55.setTop (mkF m 186 #[.val (.int p0), .val (.int m0), .val (.int m1), .val (.int m2), .val (.int m3), .val (.int (2 : Int32)), .val (.int s0), .val (.int t0), .val (.int s1), .val (.int t1), .val (.ref b1), .val (.ref b6), .val (.int (1 : Int32))] [(.int s0), (.int ((fun k => if k = 1 then ((own_mp m0 m1 m2 m3) x2) else (fun k => if k = 0 then ((own_mp m0 m1 m2 m3) x0) else (fun k => if k = 1 then s1 else (fun k => if k = 0 then s0 else (fun _ => 0) k) k) k) k) 0))]))
    refine OwnGo.fwd (fun tq' kq' => XS.iloadN X55.here hx rfl (hb hby at_186) rfl kq') ?_
    show OwnGo _ _ _ _ (T55.setTop (mkF m 187 #[.val (.int p0), .val (.int m0), .val (.int m1), .val (.int m2), .val (.int m3), .val (.int (2 : Int32)), .val (.int s0), .val (.int t0), .val (.int s1), .val (.int t1), .val (.ref b1), .val (.ref b6), .val (.int (1 : Int32))] [(.int m0), (.int s0), (.int ((fun k => if k = 1 then ((own_mp m0 m1 m2 m3) x2) else (fun k => if k = 0 then ((own_mp m0 m1 m2 m3) x0) else (fun k => if k = 1 then s1 else (fun k => if k = 0 then s0 else (fun _ => 0) k) k) k) k) 0))]))
    refine OwnGo.fwd (fun tq' kq' => XS.iloadN X55.here hx rfl (hb hby at_187) rfl kq') ?_
    show OwnGo _ _ _ _ (T55.setTop (mkF m 188 #[.val (.int p0), .val (.int m0), .val (.int m1), .val (.int m2), .val (.int m3), .val (.int (2 : Int32)), .val (.int s0), .val (.int t0), .val (.int s1), .val (.int t1), .val (.ref b1), .val (.ref b6), .val (.int (1 : Int32))] [(.int m1), (.int m0), (.int s0), (.int ((fun k => if k = 1 then ((own_mp m0 m1 m2 m3) x2) else (fun k => if k = 0 then ((own_mp m0 m1 m2 m3) x0) else (fun k => if k = 1 then s1 else (fun k => if k = 0 then s0 else (fun _ => 0) k) k) k) k) 0))]))
    refine OwnGo.fwd (fun tq' kq' => XS.iloadN X55.here hx rfl (hb hby at_188) rfl kq') ?_
    show OwnGo _ _ _ _ (T55.setTop (mkF m 189 #[.val (.int p0), .val (.int m0), .val (.int m1), .val (.int m2), .val (.int m3), .val (.int (2 : Int32)), .val (.int s0), .val (.int t0), .val (.int s1), .val (.int t1), .val (.ref b1), .val (.ref b6), .val (.int (1 : Int32))] [(.int m2), (.int m1), (.int m0), (.int s0), (.int ((fun k => if k = 1 then ((own_mp m0 m1 m2 m3) x2) else (fun k => if k = 0 then ((own_mp m0 m1 m2 m3) x0) else (fun k => if k = 1 then s1 else (fun k => if k = 0 then s0 else (fun _ => 0) k) k) k) k) 0))]))
    refine OwnGo.fwd (fun tq' kq' => XS.iload X55.here hx rfl (hb hby at_189) rfl kq') ?_
    show OwnGo _ _ _ _ (T55.setTop (mkF m 191 #[.val (.int p0), .val (.int m0), .val (.int m1), .val (.int m2), .val (.int m3), .val (.int (2 : Int32)), .val (.int s0), .val (.int t0), .val (.int s1), .val (.int t1), .val (.ref b1), .val (.ref b6), .val (.int (1 : Int32))] [(.int m3), (.int m2), (.int m1), (.int m0), (.int s0), (.int ((fun k => if k = 1 then ((own_mp m0 m1 m2 m3) x2) else (fun k => if k = 0 then ((own_mp m0 m1 m2 m3) x0) else (fun k => if k = 1 then s1 else (fun k => if k = 0 then s0 else (fun _ => 0) k) k) k) k) 0))]))
    obtain ⟨_, _, ⟨T56, L56, k56, n56⟩, -, X56, ⟨Lc56, hQ56, l56, y56, z56⟩, st56⟩ := Jvm.LawKit.callS X55 hx (y := (⟨"com/example/ctl_checker/ctlchecker/ArcsRenumberPinLaw", "ref", "(IIIII)I"⟩ : MethodName)) hown (mvT hZ (hw _ (List.mem_of_getElem? (i := 36) rfl))) (mvT hZ (hw _ (List.mem_of_getElem? (i := 37) rfl))) (mvT hZ (hw _ (List.mem_of_getElem? (i := 38) rfl))) (mvT hZ (hw _ (List.mem_of_getElem? (i := 39) rfl))) (by decide) (backOf (W := 1) (rm7 l Z a0 hw [] s0 m0 m1 m2 m3 h45 n0 Zs) hZ (hw _ (List.mem_of_getElem? (i := 39) rfl)) (hw _ (List.mem_of_getElem? (i := 38) rfl)) (by decide) (by decide)) (g := (mkF m 191 #[.val (.int p0), .val (.int m0), .val (.int m1), .val (.int m2), .val (.int m3), .val (.int (2 : Int32)), .val (.int s0), .val (.int t0), .val (.int s1), .val (.int t1), .val (.ref b1), .val (.ref b6), .val (.int (1 : Int32))] [(.int m3), (.int m2), (.int m1), (.int m0), (.int s0), (.int ((fun k => if k = 1 then ((own_mp m0 m1 m2 m3) x2) else (fun k => if k = 0 then ((own_mp m0 m1 m2 m3) x0) else (fun k => if k = 1 then s1 else (fun k => if k = 0 then s0 else (fun _ => 0) k) k) k) k) 0))])) rfl (by rw [hml]; rfl) (argsL := [(.int s0), (.int m0), (.int m1), (.int m2), (.int m3)]) (rest := [(.int ((fun k => if k = 1 then ((own_mp m0 m1 m2 m3) x2) else (fun k => if k = 0 then ((own_mp m0 m1 m2 m3) x0) else (fun k => if k = 1 then s1 else (fun k => if k = 0 then s0 else (fun _ => 0) k) k) k) k) 0))]) (lenOf pd_5 rfl) rfl (by show 2 * 0 + _ ≤ _; exact Nat.le_of_eq rfl) (hb hby at_191) (fun _ _ => ⟨rfl, e55, (by decide : 4 + 0 ≤ _), (by decide : 39 + 0 ≤ _)⟩)
    dsimp only [Pt.U, Pt.locs, Pt.cells, Pt.slots] at X56 l56 y56 z56 st56 hQ56
    subst l56 y56 z56
    obtain ⟨rfl, N56q, e56⟩ := hQ56
    have N := Fr.app N N56q
    refine OwnGo.fwd st56 ?_
    show OwnGo _ _ _ _ (T56.setTop (mkF m 194 #[.val (.int p0), .val (.int m0), .val (.int m1), .val (.int m2), .val (.int m3), .val (.int (2 : Int32)), .val (.int s0), .val (.int t0), .val (.int s1), .val (.int t1), .val (.ref b1), .val (.ref b6), .val (.int (1 : Int32))] [(.int (own_rf s0 m0 m1 m2 m3)), (.int ((fun k => if k = 1 then ((own_mp m0 m1 m2 m3) x2) else (fun k => if k = 0 then ((own_mp m0 m1 m2 m3) x0) else (fun k => if k = 1 then s1 else (fun k => if k = 0 then s0 else (fun _ => 0) k) k) k) k) 0))]))
    show OwnGo _ _ _ _ (T56.setTop (mkF m 194 #[.val (.int p0), .val (.int m0), .val (.int m1), .val (.int m2), .val (.int m3), .val (.int (2 : Int32)), .val (.int s0), .val (.int t0), .val (.int s1), .val (.int t1), .val (.ref b1), .val (.ref b6), .val (.int (1 : Int32))] [(.int (own_rf s0 m0 m1 m2 m3)), (.int (own_mp m0 m1 m2 m3 x0))]))
    have hc194_57 : (own_mp m0 m1 m2 m3 x0).toInt = (own_rf s0 m0 m1 m2 m3).toInt := congrArg Int32.toInt (own_mrf hx0 lx0)
    refine OwnGo.fwd (fun tq' kq' => XS.icmpNo X56.here hx rfl (hb hby at_194) rfl (own_beq rfl rfl hc194_57).2 kq') ?_
    show OwnGo _ _ _ _ (T56.setTop (mkF m 197 #[.val (.int p0), .val (.int m0), .val (.int m1), .val (.int m2), .val (.int m3), .val (.int (2 : Int32)), .val (.int s0), .val (.int t0), .val (.int s1), .val (.int t1), .val (.ref b1), .val (.ref b6), .val (.int (1 : Int32))] []))
    refine OwnGo.fwd (fun tq' kq' => XS.iconst X56.here hx rfl (hb hby at_197) kq') ?_
    show OwnGo _ _ _ _ (T56.setTop (mkF m 198 #[.val (.int p0), .val (.int m0), .val (.int m1), .val (.int m2), .val (.int m3), .val (.int (2 : Int32)), .val (.int s0), .val (.int t0), .val (.int s1), .val (.int t1), .val (.ref b1), .val (.ref b6), .val (.int (1 : Int32))] [(.int (1 : Int32))]))
    refine OwnGo.fwd (fun tq' kq' => XS.goto X56.here hx rfl (pc0 := 198) (pc' := 202) rfl (hb hby at_198) (by decide) (by decide) kq') ?_
    show OwnGo _ _ _ _ (T56.setTop (mkF m 202 #[.val (.int p0), .val (.int m0), .val (.int m1), .val (.int m2), .val (.int m3), .val (.int (2 : Int32)), .val (.int s0), .val (.int t0), .val (.int s1), .val (.int t1), .val (.ref b1), .val (.ref b6), .val (.int (1 : Int32))] [(.int (1 : Int32))]))
    refine OwnGo.fwd (fun tq' kq' => XS.istore X56.here hx rfl (hb hby at_202) rfl (l' := #[.val (.int p0), .val (.int m0), .val (.int m1), .val (.int m2), .val (.int m3), .val (.int (2 : Int32)), .val (.int s0), .val (.int t0), .val (.int s1), .val (.int t1), .val (.ref b1), .val (.ref b6), .val (.int (1 : Int32))]) rfl kq') ?_
    show OwnGo _ _ _ _ (T56.setTop (mkF m 204 #[.val (.int p0), .val (.int m0), .val (.int m1), .val (.int m2), .val (.int m3), .val (.int (2 : Int32)), .val (.int s0), .val (.int t0), .val (.int s1), .val (.int t1), .val (.ref b1), .val (.ref b6), .val (.int (1 : Int32))] []))
    refine OwnGo.fwd (fun tq' kq' => XS.iload X56.here hx rfl (hb hby at_204) rfl kq') ?_
    show OwnGo _ _ _ _ (T56.setTop (mkF m 206 #[.val (.int p0), .val (.int m0), .val (.int m1), .val (.int m2), .val (.int m3), .val (.int (2 : Int32)), .val (.int s0), .val (.int t0), .val (.int s1), .val (.int t1), .val (.ref b1), .val (.ref b6), .val (.int (1 : Int32))] [(.int (1 : Int32))]))
    have hc206_58 : ¬ ((1 : Int) = (0 : Int)) := by decide
    refine OwnGo.fwd (fun tq' kq' => XS.ifNo X56.here hx rfl (hb hby at_206) rfl ((if0 _ _).trans (own_bneq (by decide) (by decide) hc206_58).1) kq') ?_
    show OwnGo _ _ _ _ (T56.setTop (mkF m 209 #[.val (.int p0), .val (.int m0), .val (.int m1), .val (.int m2), .val (.int m3), .val (.int (2 : Int32)), .val (.int s0), .val (.int t0), .val (.int s1), .val (.int t1), .val (.ref b1), .val (.ref b6), .val (.int (1 : Int32))] []))
    refine OwnGo.fwd (fun tq' kq' => XS.aload X56.here hx rfl (hb hby at_209) rfl rfl kq') ?_
    show OwnGo _ _ _ _ (T56.setTop (mkF m 211 #[.val (.int p0), .val (.int m0), .val (.int m1), .val (.int m2), .val (.int m3), .val (.int (2 : Int32)), .val (.int s0), .val (.int t0), .val (.int s1), .val (.int t1), .val (.ref b1), .val (.ref b6), .val (.int (1 : Int32))] [(.ref b6)]))
    refine OwnGo.fwd (fun tq' kq' => XS.iconst X56.here hx rfl (hb hby at_211) kq') ?_
    show OwnGo _ _ _ _ (T56.setTop (mkF m 212 #[.val (.int p0), .val (.int m0), .val (.int m1), .val (.int m2), .val (.int m3), .val (.int (2 : Int32)), .val (.int s0), .val (.int t0), .val (.int s1), .val (.int t1), .val (.ref b1), .val (.ref b6), .val (.int (1 : Int32))] [(.int (0 : Int32)), (.ref b6)]))
    obtain ⟨cq59, kq59, q59a, q59b, q59c⟩ := isOf hZ e56 E_b6
    obtain ⟨_, _, ⟨T59, L59, k59, n59⟩, -, X59, ⟨Lc59, hQ59, l59, y59, z59⟩, st59⟩ := X56.virtualBack hx (y := (⟨"com/example/ctl_checker/ctlchecker/Arcs", "getTarget", "(I)I"⟩ : MethodName)) (z := (⟨"com/example/ctl_checker/ctlchecker/Arcs", "getTarget", "(I)I"⟩ : MethodName)) hown (mvT hZ (hw _ (List.mem_of_getElem? (i := 40) rfl))) (mvT hZ (hw _ (List.mem_of_getElem? (i := 41) rfl))) (notFace_of_selects (args := #[]) (mvT hZ (hw _ (List.mem_of_getElem? (i := 43) rfl)))) (mvT hZ (hw _ (List.mem_of_getElem? (i := 43) rfl))) (mvT hZ (hw _ (List.mem_of_getElem? (i := 42) rfl))) (by decide) (backOf (W := 0) (rm8 l Z a0 hw [] b6 sa ta 2 (fun k => if k = 1 then ((own_mp m0 m1 m2 m3) x2) else (fun k => if k = 0 then ((own_mp m0 m1 m2 m3) x0) else (fun k => if k = 1 then s1 else (fun k => if k = 0 then s0 else (fun _ => 0) k) k) k) k) (fun k => if k = 1 then ((own_mp m0 m1 m2 m3) x3) else (fun k => if k = 0 then ((own_mp m0 m1 m2 m3) x1) else (fun k => if k = 1 then t1 else (fun k => if k = 0 then t0 else (fun _ => 0) k) k) k) k) (0 : Int32) 0 h45 n0 Zs ⟨E_b6, F_sources_b6, F_targets_b6, F_count_b6, V_sa, V_ta, ne_b6_sa, ne_b6_ta, ne_sa_ta, g_b6, g_sa, g_ta⟩ (by decide) (by decide)) hZ (hw _ (List.mem_of_getElem? (i := 44) rfl)) (hw _ (List.mem_of_getElem? (i := 3) rfl)) (by decide) (by decide)) q59a q59c (g := (mkF m 212 #[.val (.int p0), .val (.int m0), .val (.int m1), .val (.int m2), .val (.int m3), .val (.int (2 : Int32)), .val (.int s0), .val (.int t0), .val (.int s1), .val (.int t1), .val (.ref b1), .val (.ref b6), .val (.int (1 : Int32))] [(.int (0 : Int32)), (.ref b6)])) rfl (by rw [hml]; rfl) (Steps.refl _) (argsL := [(.int (0 : Int32))]) (rest := []) (lenOf pd_4 rfl) rfl (by show 2 * 0 + _ ≤ _; exact Nat.le_of_eq rfl) (hb hby at_212) (fun _ _ => ⟨rfl, e56, (by decide : 4 + 0 ≤ _), (by decide : 39 + 0 ≤ _)⟩)
    dsimp only [Pt.U, Pt.locs, Pt.cells, Pt.slots] at X59 l59 y59 z59 st59 hQ59
    subst l59 y59 z59
    obtain ⟨rfl, N59q, e59⟩ := hQ59
    have N := Fr.app N N59q
    refine OwnGo.thru st59 ?_
    show OwnGo _ _ _ _ (T59.setTop (mkF m 215 #[.val (.int p0), .val (.int m0), .val (.int m1), .val (.int m2), .val (.int m3), .val (.int (2 : Int32)), .val (.int s0), .val (.int t0), .val (.int s1), .val (.int t1), .val (.ref b1), .val (.ref b6), .val (.int (1 : Int32))] [(.int ((fun k => if k = 1 then ((own_mp m0 m1 m2 m3) x3) else (fun k => if k = 0 then ((own_mp m0 m1 m2 m3) x1) else (fun k => if k = 1 then t1 else (fun k => if k = 0 then t0 else (fun _ => 0) k) k) k) k) 0))]))
    refine OwnGo.fwd (fun tq' kq' => XS.iload X59.here hx rfl (hb hby at_215) rfl kq') ?_
    show OwnGo _ _ _ _ (T59.setTop (mkF m 217 #[.val (.int p0), .val (.int m0), .val (.int m1), .val (.int m2), .val (.int m3), .val (.int (2 : Int32)), .val (.int s0), .val (.int t0), .val (.int s1), .val (.int t1), .val (.ref b1), .val (.ref b6), .val (.int (1 : Int32))] [(.int t0), (.int ((fun k => if k = 1 then ((own_mp m0 m1 m2 m3) x3) else (fun k => if k = 0 then ((own_mp m0 m1 m2 m3) x1) else (fun k => if k = 1 then t1 else (fun k => if k = 0 then t0 else (fun _ => 0) k) k) k) k) 0))]))
    refine OwnGo.fwd (fun tq' kq' => XS.iloadN X59.here hx rfl (hb hby at_217) rfl kq') ?_
    show OwnGo _ _ _ _ (T59.setTop (mkF m 218 #[.val (.int p0), .val (.int m0), .val (.int m1), .val (.int m2), .val (.int m3), .val (.int (2 : Int32)), .val (.int s0), .val (.int t0), .val (.int s1), .val (.int t1), .val (.ref b1), .val (.ref b6), .val (.int (1 : Int32))] [(.int m0), (.int t0), (.int ((fun k => if k = 1 then ((own_mp m0 m1 m2 m3) x3) else (fun k => if k = 0 then ((own_mp m0 m1 m2 m3) x1) else (fun k => if k = 1 then t1 else (fun k => if k = 0 then t0 else (fun _ => 0) k) k) k) k) 0))]))
    refine OwnGo.fwd (fun tq' kq' => XS.iloadN X59.here hx rfl (hb hby at_218) rfl kq') ?_
    show OwnGo _ _ _ _ (T59.setTop (mkF m 219 #[.val (.int p0), .val (.int m0), .val (.int m1), .val (.int m2), .val (.int m3), .val (.int (2 : Int32)), .val (.int s0), .val (.int t0), .val (.int s1), .val (.int t1), .val (.ref b1), .val (.ref b6), .val (.int (1 : Int32))] [(.int m1), (.int m0), (.int t0), (.int ((fun k => if k = 1 then ((own_mp m0 m1 m2 m3) x3) else (fun k => if k = 0 then ((own_mp m0 m1 m2 m3) x1) else (fun k => if k = 1 then t1 else (fun k => if k = 0 then t0 else (fun _ => 0) k) k) k) k) 0))]))
    refine OwnGo.fwd (fun tq' kq' => XS.iloadN X59.here hx rfl (hb hby at_219) rfl kq') ?_
    show OwnGo _ _ _ _ (T59.setTop (mkF m 220 #[.val (.int p0), .val (.int m0), .val (.int m1), .val (.int m2), .val (.int m3), .val (.int (2 : Int32)), .val (.int s0), .val (.int t0), .val (.int s1), .val (.int t1), .val (.ref b1), .val (.ref b6), .val (.int (1 : Int32))] [(.int m2), (.int m1), (.int m0), (.int t0), (.int ((fun k => if k = 1 then ((own_mp m0 m1 m2 m3) x3) else (fun k => if k = 0 then ((own_mp m0 m1 m2 m3) x1) else (fun k => if k = 1 then t1 else (fun k => if k = 0 then t0 else (fun _ => 0) k) k) k) k) 0))]))
    refine OwnGo.fwd (fun tq' kq' => XS.iload X59.here hx rfl (hb hby at_220) rfl kq') ?_
    show OwnGo _ _ _ _ (T59.setTop (mkF m 222 #[.val (.int p0), .val (.int m0), .val (.int m1), .val (.int m2), .val (.int m3), .val (.int (2 : Int32)), .val (.int s0), .val (.int t0), .val (.int s1), .val (.int t1), .val (.ref b1), .val (.ref b6), .val (.int (1 : Int32))] [(.int m3), (.int m2), (.int m1), (.int m0), (.int t0), (.int ((fun k => if k = 1 then ((own_mp m0 m1 m2 m3) x3) else (fun k => if k = 0 then ((own_mp m0 m1 m2 m3) x1) else (fun k => if k = 1 then t1 else (fun k => if k = 0 then t0 else (fun _ => 0) k) k) k) k) 0))]))
    obtain ⟨_, _, ⟨T60, L60, k60, n60⟩, -, X60, ⟨Lc60, hQ60, l60, y60, z60⟩, st60⟩ := Jvm.LawKit.callS X59 hx (y := (⟨"com/example/ctl_checker/ctlchecker/ArcsRenumberPinLaw", "ref", "(IIIII)I"⟩ : MethodName)) hown (mvT hZ (hw _ (List.mem_of_getElem? (i := 36) rfl))) (mvT hZ (hw _ (List.mem_of_getElem? (i := 37) rfl))) (mvT hZ (hw _ (List.mem_of_getElem? (i := 38) rfl))) (mvT hZ (hw _ (List.mem_of_getElem? (i := 39) rfl))) (by decide) (backOf (W := 1) (rm7 l Z a0 hw [] t0 m0 m1 m2 m3 h45 n0 Zs) hZ (hw _ (List.mem_of_getElem? (i := 39) rfl)) (hw _ (List.mem_of_getElem? (i := 38) rfl)) (by decide) (by decide)) (g := (mkF m 222 #[.val (.int p0), .val (.int m0), .val (.int m1), .val (.int m2), .val (.int m3), .val (.int (2 : Int32)), .val (.int s0), .val (.int t0), .val (.int s1), .val (.int t1), .val (.ref b1), .val (.ref b6), .val (.int (1 : Int32))] [(.int m3), (.int m2), (.int m1), (.int m0), (.int t0), (.int ((fun k => if k = 1 then ((own_mp m0 m1 m2 m3) x3) else (fun k => if k = 0 then ((own_mp m0 m1 m2 m3) x1) else (fun k => if k = 1 then t1 else (fun k => if k = 0 then t0 else (fun _ => 0) k) k) k) k) 0))])) rfl (by rw [hml]; rfl) (argsL := [(.int t0), (.int m0), (.int m1), (.int m2), (.int m3)]) (rest := [(.int ((fun k => if k = 1 then ((own_mp m0 m1 m2 m3) x3) else (fun k => if k = 0 then ((own_mp m0 m1 m2 m3) x1) else (fun k => if k = 1 then t1 else (fun k => if k = 0 then t0 else (fun _ => 0) k) k) k) k) 0))]) (lenOf pd_5 rfl) rfl (by show 2 * 0 + _ ≤ _; exact Nat.le_of_eq rfl) (hb hby at_222) (fun _ _ => ⟨rfl, e59, (by decide : 4 + 0 ≤ _), (by decide : 39 + 0 ≤ _)⟩)
    dsimp only [Pt.U, Pt.locs, Pt.cells, Pt.slots] at X60 l60 y60 z60 st60 hQ60
    subst l60 y60 z60
    obtain ⟨rfl, N60q, e60⟩ := hQ60
    have N := Fr.app N N60q
    refine OwnGo.fwd st60 ?_
    show OwnGo _ _ _ _ (T60.setTop (mkF m 225 #[.val (.int p0), .val (.int m0), .val (.int m1), .val (.int m2), .val (.int m3), .val (.int (2 : Int32)), .val (.int s0), .val (.int t0), .val (.int s1), .val (.int t1), .val (.ref b1), .val (.ref b6), .val (.int (1 : Int32))] [(.int (own_rf t0 m0 m1 m2 m3)), (.int ((fun k => if k = 1 then ((own_mp m0 m1 m2 m3) x3) else (fun k => if k = 0 then ((own_mp m0 m1 m2 m3) x1) else (fun k => if k = 1 then t1 else (fun k => if k = 0 then t0 else (fun _ => 0) k) k) k) k) 0))]))
    show OwnGo _ _ _ _ (T60.setTop (mkF m 225 #[.val (.int p0), .val (.int m0), .val (.int m1), .val (.int m2), .val (.int m3), .val (.int (2 : Int32)), .val (.int s0), .val (.int t0), .val (.int s1), .val (.int t1), .val (.ref b1), .val (.ref b6), .val (.int (1 : Int32))] [(.int (own_rf t0 m0 m1 m2 m3)), (.int (own_mp m0 m1 m2 m3 x1))]))
    have hc225_61 : (own_mp m0 m1 m2 m3 x1).toInt = (own_rf t0 m0 m1 m2 m3).toInt := congrArg Int32.toInt (own_mrf hx1 lx1)
    refine OwnGo.fwd (fun tq' kq' => XS.icmpNo X60.here hx rfl (hb hby at_225) rfl (own_beq rfl rfl hc225_61).2 kq') ?_
    show OwnGo _ _ _ _ (T60.setTop (mkF m 228 #[.val (.int p0), .val (.int m0), .val (.int m1), .val (.int m2), .val (.int m3), .val (.int (2 : Int32)), .val (.int s0), .val (.int t0), .val (.int s1), .val (.int t1), .val (.ref b1), .val (.ref b6), .val (.int (1 : Int32))] []))
    refine OwnGo.fwd (fun tq' kq' => XS.iconst X60.here hx rfl (hb hby at_228) kq') ?_
    show OwnGo _ _ _ _ (T60.setTop (mkF m 229 #[.val (.int p0), .val (.int m0), .val (.int m1), .val (.int m2), .val (.int m3), .val (.int (2 : Int32)), .val (.int s0), .val (.int t0), .val (.int s1), .val (.int t1), .val (.ref b1), .val (.ref b6), .val (.int (1 : Int32))] [(.int (1 : Int32))]))
    refine OwnGo.fwd (fun tq' kq' => XS.goto X60.here hx rfl (pc0 := 229) (pc' := 233) rfl (hb hby at_229) (by decide) (by decide) kq') ?_
    show OwnGo _ _ _ _ (T60.setTop (mkF m 233 #[.val (.int p0), .val (.int m0), .val (.int m1), .val (.int m2), .val (.int m3), .val (.int (2 : Int32)), .val (.int s0), .val (.int t0), .val (.int s1), .val (.int t1), .val (.ref b1), .val (.ref b6), .val (.int (1 : Int32))] [(.int (1 : Int32))]))
    refine OwnGo.fwd (fun tq' kq' => XS.istore X60.here hx rfl (hb hby at_233) rfl (l' := #[.val (.int p0), .val (.int m0), .val (.int m1), .val (.int m2), .val (.int m3), .val (.int (2 : Int32)), .val (.int s0), .val (.int t0), .val (.int s1), .val (.int t1), .val (.ref b1), .val (.ref b6), .val (.int (1 : Int32))]) rfl kq') ?_
    show OwnGo _ _ _ _ (T60.setTop (mkF m 235 #[.val (.int p0), .val (.int m0), .val (.int m1), .val (.int m2), .val (.int m3), .val (.int (2 : Int32)), .val (.int s0), .val (.int t0), .val (.int s1), .val (.int t1), .val (.ref b1), .val (.ref b6), .val (.int (1 : Int32))] []))
    refine OwnGo.fwd (fun tq' kq' => XS.iload X60.here hx rfl (hb hby at_235) rfl kq') ?_
    show OwnGo _ _ _ _ (T60.setTop (mkF m 237 #[.val (.int p0), .val (.int m0), .val (.int m1), .val (.int m2), .val (.int m3), .val (.int (2 : Int32)), .val (.int s0), .val (.int t0), .val (.int s1), .val (.int t1), .val (.ref b1), .val (.ref b6), .val (.int (1 : Int32))] [(.int (2 : Int32))]))
    refine OwnGo.fwd (fun tq' kq' => XS.iconst X60.here hx rfl (hb hby at_237) kq') ?_
    show OwnGo _ _ _ _ (T60.setTop (mkF m 238 #[.val (.int p0), .val (.int m0), .val (.int m1), .val (.int m2), .val (.int m3), .val (.int (2 : Int32)), .val (.int s0), .val (.int t0), .val (.int s1), .val (.int t1), .val (.ref b1), .val (.ref b6), .val (.int (1 : Int32))] [(.int (2 : Int32)), (.int (2 : Int32))]))
    have hc238_62 : ¬ ((2 : Int) < (2 : Int)) := by decide
    refine OwnGo.fwd (fun tq' kq' => XS.icmpNo X60.here hx rfl (hb hby at_238) rfl (own_bnlt (by decide) (by decide) hc238_62).1 kq') ?_
    show OwnGo _ _ _ _ (T60.setTop (mkF m 241 #[.val (.int p0), .val (.int m0), .val (.int m1), .val (.int m2), .val (.int m3), .val (.int (2 : Int32)), .val (.int s0), .val (.int t0), .val (.int s1), .val (.int t1), .val (.ref b1), .val (.ref b6), .val (.int (1 : Int32))] []))
    refine OwnGo.fwd (fun tq' kq' => XS.iload X60.here hx rfl (hb hby at_241) rfl kq') ?_
    show OwnGo _ _ _ _ (T60.setTop (mkF m 243 #[.val (.int p0), .val (.int m0), .val (.int m1), .val (.int m2), .val (.int m3), .val (.int (2 : Int32)), .val (.int s0), .val (.int t0), .val (.int s1), .val (.int t1), .val (.ref b1), .val (.ref b6), .val (.int (1 : Int32))] [(.int (1 : Int32))]))
    have hc243_63 : ¬ ((1 : Int) = (0 : Int)) := by decide
    refine OwnGo.fwd (fun tq' kq' => XS.ifNo X60.here hx rfl (hb hby at_243) rfl ((if0 _ _).trans (own_bneq (by decide) (by decide) hc243_63).1) kq') ?_
    show OwnGo _ _ _ _ (T60.setTop (mkF m 246 #[.val (.int p0), .val (.int m0), .val (.int m1), .val (.int m2), .val (.int m3), .val (.int (2 : Int32)), .val (.int s0), .val (.int t0), .val (.int s1), .val (.int t1), .val (.ref b1), .val (.ref b6), .val (.int (1 : Int32))] []))
    refine OwnGo.fwd (fun tq' kq' => XS.aload X60.here hx rfl (hb hby at_246) rfl rfl kq') ?_
    show OwnGo _ _ _ _ (T60.setTop (mkF m 248 #[.val (.int p0), .val (.int m0), .val (.int m1), .val (.int m2), .val (.int m3), .val (.int (2 : Int32)), .val (.int s0), .val (.int t0), .val (.int s1), .val (.int t1), .val (.ref b1), .val (.ref b6), .val (.int (1 : Int32))] [(.ref b6)]))
    refine OwnGo.fwd (fun tq' kq' => XS.iconst X60.here hx rfl (hb hby at_248) kq') ?_
    show OwnGo _ _ _ _ (T60.setTop (mkF m 249 #[.val (.int p0), .val (.int m0), .val (.int m1), .val (.int m2), .val (.int m3), .val (.int (2 : Int32)), .val (.int s0), .val (.int t0), .val (.int s1), .val (.int t1), .val (.ref b1), .val (.ref b6), .val (.int (1 : Int32))] [(.int (1 : Int32)), (.ref b6)]))
    obtain ⟨cq64, kq64, q64a, q64b, q64c⟩ := isOf hZ e60 E_b6
    obtain ⟨_, _, ⟨T64, L64, k64, n64⟩, -, X64, ⟨Lc64, hQ64, l64, y64, z64⟩, st64⟩ := X60.virtualBack hx (y := (⟨"com/example/ctl_checker/ctlchecker/Arcs", "getSource", "(I)I"⟩ : MethodName)) (z := (⟨"com/example/ctl_checker/ctlchecker/Arcs", "getSource", "(I)I"⟩ : MethodName)) hown (mvT hZ (hw _ (List.mem_of_getElem? (i := 31) rfl))) (mvT hZ (hw _ (List.mem_of_getElem? (i := 32) rfl))) (notFace_of_selects (args := #[]) (mvT hZ (hw _ (List.mem_of_getElem? (i := 34) rfl)))) (mvT hZ (hw _ (List.mem_of_getElem? (i := 34) rfl))) (mvT hZ (hw _ (List.mem_of_getElem? (i := 33) rfl))) (by decide) (backOf (W := 0) (rm6 l Z a0 hw [] b6 sa ta 2 (fun k => if k = 1 then ((own_mp m0 m1 m2 m3) x2) else (fun k => if k = 0 then ((own_mp m0 m1 m2 m3) x0) else (fun k => if k = 1 then s1 else (fun k => if k = 0 then s0 else (fun _ => 0) k) k) k) k) (fun k => if k = 1 then ((own_mp m0 m1 m2 m3) x3) else (fun k => if k = 0 then ((own_mp m0 m1 m2 m3) x1) else (fun k => if k = 1 then t1 else (fun k => if k = 0 then t0 else (fun _ => 0) k) k) k) k) (1 : Int32) 1 h45 n0 Zs ⟨E_b6, F_sources_b6, F_targets_b6, F_count_b6, V_sa, V_ta, ne_b6_sa, ne_b6_ta, ne_sa_ta, g_b6, g_sa, g_ta⟩ (by decide) (by decide)) hZ (hw _ (List.mem_of_getElem? (i := 35) rfl)) (hw _ (List.mem_of_getElem? (i := 3) rfl)) (by decide) (by decide)) q64a q64c (g := (mkF m 249 #[.val (.int p0), .val (.int m0), .val (.int m1), .val (.int m2), .val (.int m3), .val (.int (2 : Int32)), .val (.int s0), .val (.int t0), .val (.int s1), .val (.int t1), .val (.ref b1), .val (.ref b6), .val (.int (1 : Int32))] [(.int (1 : Int32)), (.ref b6)])) rfl (by rw [hml]; rfl) (Steps.refl _) (argsL := [(.int (1 : Int32))]) (rest := []) (lenOf pd_4 rfl) rfl (by show 2 * 0 + _ ≤ _; exact Nat.le_of_eq rfl) (hb hby at_249) (fun _ _ => ⟨rfl, e60, (by decide : 4 + 0 ≤ _), (by decide : 39 + 0 ≤ _)⟩)
    dsimp only [Pt.U, Pt.locs, Pt.cells, Pt.slots] at X64 l64 y64 z64 st64 hQ64
    subst l64 y64 z64
    obtain ⟨rfl, N64q, e64⟩ := hQ64
    have N := Fr.app N N64q
    refine OwnGo.thru st64 ?_
    show OwnGo _ _ _ _ (T64.setTop (mkF m 252 #[.val (.int p0), .val (.int m0), .val (.int m1), .val (.int m2), .val (.int m3), .val (.int (2 : Int32)), .val (.int s0), .val (.int t0), .val (.int s1), .val (.int t1), .val (.ref b1), .val (.ref b6), .val (.int (1 : Int32))] [(.int ((fun k => if k = 1 then ((own_mp m0 m1 m2 m3) x2) else (fun k => if k = 0 then ((own_mp m0 m1 m2 m3) x0) else (fun k => if k = 1 then s1 else (fun k => if k = 0 then s0 else (fun _ => 0) k) k) k) k) 1))]))
    refine OwnGo.fwd (fun tq' kq' => XS.iload X64.here hx rfl (hb hby at_252) rfl kq') ?_
    show OwnGo _ _ _ _ (T64.setTop (mkF m 254 #[.val (.int p0), .val (.int m0), .val (.int m1), .val (.int m2), .val (.int m3), .val (.int (2 : Int32)), .val (.int s0), .val (.int t0), .val (.int s1), .val (.int t1), .val (.ref b1), .val (.ref b6), .val (.int (1 : Int32))] [(.int s1), (.int ((fun k => if k = 1 then ((own_mp m0 m1 m2 m3) x2) else (fun k => if k = 0 then ((own_mp m0 m1 m2 m3) x0) else (fun k => if k = 1 then s1 else (fun k => if k = 0 then s0 else (fun _ => 0) k) k) k) k) 1))]))
    refine OwnGo.fwd (fun tq' kq' => XS.iloadN X64.here hx rfl (hb hby at_254) rfl kq') ?_
    show OwnGo _ _ _ _ (T64.setTop (mkF m 255 #[.val (.int p0), .val (.int m0), .val (.int m1), .val (.int m2), .val (.int m3), .val (.int (2 : Int32)), .val (.int s0), .val (.int t0), .val (.int s1), .val (.int t1), .val (.ref b1), .val (.ref b6), .val (.int (1 : Int32))] [(.int m0), (.int s1), (.int ((fun k => if k = 1 then ((own_mp m0 m1 m2 m3) x2) else (fun k => if k = 0 then ((own_mp m0 m1 m2 m3) x0) else (fun k => if k = 1 then s1 else (fun k => if k = 0 then s0 else (fun _ => 0) k) k) k) k) 1))]))
    refine OwnGo.fwd (fun tq' kq' => XS.iloadN X64.here hx rfl (hb hby at_255) rfl kq') ?_
    show OwnGo _ _ _ _ (T64.setTop (mkF m 256 #[.val (.int p0), .val (.int m0), .val (.int m1), .val (.int m2), .val (.int m3), .val (.int (2 : Int32)), .val (.int s0), .val (.int t0), .val (.int s1), .val (.int t1), .val (.ref b1), .val (.ref b6), .val (.int (1 : Int32))] [(.int m1), (.int m0), (.int s1), (.int ((fun k => if k = 1 then ((own_mp m0 m1 m2 m3) x2) else (fun k => if k = 0 then ((own_mp m0 m1 m2 m3) x0) else (fun k => if k = 1 then s1 else (fun k => if k = 0 then s0 else (fun _ => 0) k) k) k) k) 1))]))
    refine OwnGo.fwd (fun tq' kq' => XS.iloadN X64.here hx rfl (hb hby at_256) rfl kq') ?_
    show OwnGo _ _ _ _ (T64.setTop (mkF m 257 #[.val (.int p0), .val (.int m0), .val (.int m1), .val (.int m2), .val (.int m3), .val (.int (2 : Int32)), .val (.int s0), .val (.int t0), .val (.int s1), .val (.int t1), .val (.ref b1), .val (.ref b6), .val (.int (1 : Int32))] [(.int m2), (.int m1), (.int m0), (.int s1), (.int ((fun k => if k = 1 then ((own_mp m0 m1 m2 m3) x2) else (fun k => if k = 0 then ((own_mp m0 m1 m2 m3) x0) else (fun k => if k = 1 then s1 else (fun k => if k = 0 then s0 else (fun _ => 0) k) k) k) k) 1))]))
    refine OwnGo.fwd (fun tq' kq' => XS.iload X64.here hx rfl (hb hby at_257) rfl kq') ?_
    show OwnGo _ _ _ _ (T64.setTop (mkF m 259 #[.val (.int p0), .val (.int m0), .val (.int m1), .val (.int m2), .val (.int m3), .val (.int (2 : Int32)), .val (.int s0), .val (.int t0), .val (.int s1), .val (.int t1), .val (.ref b1), .val (.ref b6), .val (.int (1 : Int32))] [(.int m3), (.int m2), (.int m1), (.int m0), (.int s1), (.int ((fun k => if k = 1 then ((own_mp m0 m1 m2 m3) x2) else (fun k => if k = 0 then ((own_mp m0 m1 m2 m3) x0) else (fun k => if k = 1 then s1 else (fun k => if k = 0 then s0 else (fun _ => 0) k) k) k) k) 1))]))
    obtain ⟨_, _, ⟨T65, L65, k65, n65⟩, -, X65, ⟨Lc65, hQ65, l65, y65, z65⟩, st65⟩ := Jvm.LawKit.callS X64 hx (y := (⟨"com/example/ctl_checker/ctlchecker/ArcsRenumberPinLaw", "ref", "(IIIII)I"⟩ : MethodName)) hown (mvT hZ (hw _ (List.mem_of_getElem? (i := 36) rfl))) (mvT hZ (hw _ (List.mem_of_getElem? (i := 37) rfl))) (mvT hZ (hw _ (List.mem_of_getElem? (i := 38) rfl))) (mvT hZ (hw _ (List.mem_of_getElem? (i := 39) rfl))) (by decide) (backOf (W := 1) (rm7 l Z a0 hw [] s1 m0 m1 m2 m3 h45 n0 Zs) hZ (hw _ (List.mem_of_getElem? (i := 39) rfl)) (hw _ (List.mem_of_getElem? (i := 38) rfl)) (by decide) (by decide)) (g := (mkF m 259 #[.val (.int p0), .val (.int m0), .val (.int m1), .val (.int m2), .val (.int m3), .val (.int (2 : Int32)), .val (.int s0), .val (.int t0), .val (.int s1), .val (.int t1), .val (.ref b1), .val (.ref b6), .val (.int (1 : Int32))] [(.int m3), (.int m2), (.int m1), (.int m0), (.int s1), (.int ((fun k => if k = 1 then ((own_mp m0 m1 m2 m3) x2) else (fun k => if k = 0 then ((own_mp m0 m1 m2 m3) x0) else (fun k => if k = 1 then s1 else (fun k => if k = 0 then s0 else (fun _ => 0) k) k) k) k) 1))])) rfl (by rw [hml]; rfl) (argsL := [(.int s1), (.int m0), (.int m1), (.int m2), (.int m3)]) (rest := [(.int ((fun k => if k = 1 then ((own_mp m0 m1 m2 m3) x2) else (fun k => if k = 0 then ((own_mp m0 m1 m2 m3) x0) else (fun k => if k = 1 then s1 else (fun k => if k = 0 then s0 else (fun _ => 0) k) k) k) k) 1))]) (lenOf pd_5 rfl) rfl (by show 2 * 0 + _ ≤ _; exact Nat.le_of_eq rfl) (hb hby at_259) (fun _ _ => ⟨rfl, e64, (by decide : 4 + 0 ≤ _), (by decide : 39 + 0 ≤ _)⟩)
    dsimp only [Pt.U, Pt.locs, Pt.cells, Pt.slots] at X65 l65 y65 z65 st65 hQ65
    subst l65 y65 z65
    obtain ⟨rfl, N65q, e65⟩ := hQ65
    have N := Fr.app N N65q
    refine OwnGo.fwd st65 ?_
    show OwnGo _ _ _ _ (T65.setTop (mkF m 262 #[.val (.int p0), .val (.int m0), .val (.int m1), .val (.int m2), .val (.int m3), .val (.int (2 : Int32)), .val (.int s0), .val (.int t0), .val (.int s1), .val (.int t1), .val (.ref b1), .val (.ref b6), .val (.int (1 : Int32))] [(.int (own_rf s1 m0 m1 m2 m3)), (.int ((fun k => if k = 1 then ((own_mp m0 m1 m2 m3) x2) else (fun k => if k = 0 then ((own_mp m0 m1 m2 m3) x0) else (fun k => if k = 1 then s1 else (fun k => if k = 0 then s0 else (fun _ => 0) k) k) k) k) 1))]))
    show OwnGo _ _ _ _ (T65.setTop (mkF m 262 #[.val (.int p0), .val (.int m0), .val (.int m1), .val (.int m2), .val (.int m3), .val (.int (2 : Int32)), .val (.int s0), .val (.int t0), .val (.int s1), .val (.int t1), .val (.ref b1), .val (.ref b6), .val (.int (1 : Int32))] [(.int (own_rf s1 m0 m1 m2 m3)), (.int (own_mp m0 m1 m2 m3 x2))]))
    have hc262_66 : (own_mp m0 m1 m2 m3 x2).toInt = (own_rf s1 m0 m1 m2 m3).toInt := congrArg Int32.toInt (own_mrf hx2 lx2)
    refine OwnGo.fwd (fun tq' kq' => XS.icmpNo X65.here hx rfl (hb hby at_262) rfl (own_beq rfl rfl hc262_66).2 kq') ?_
    show OwnGo _ _ _ _ (T65.setTop (mkF m 265 #[.val (.int p0), .val (.int m0), .val (.int m1), .val (.int m2), .val (.int m3), .val (.int (2 : Int32)), .val (.int s0), .val (.int t0), .val (.int s1), .val (.int t1), .val (.ref b1), .val (.ref b6), .val (.int (1 : Int32))] []))
    refine OwnGo.fwd (fun tq' kq' => XS.iconst X65.here hx rfl (hb hby at_265) kq') ?_
    show OwnGo _ _ _ _ (T65.setTop (mkF m 266 #[.val (.int p0), .val (.int m0), .val (.int m1), .val (.int m2), .val (.int m3), .val (.int (2 : Int32)), .val (.int s0), .val (.int t0), .val (.int s1), .val (.int t1), .val (.ref b1), .val (.ref b6), .val (.int (1 : Int32))] [(.int (1 : Int32))]))
    refine OwnGo.fwd (fun tq' kq' => XS.goto X65.here hx rfl (pc0 := 266) (pc' := 270) rfl (hb hby at_266) (by decide) (by decide) kq') ?_
    show OwnGo _ _ _ _ (T65.setTop (mkF m 270 #[.val (.int p0), .val (.int m0), .val (.int m1), .val (.int m2), .val (.int m3), .val (.int (2 : Int32)), .val (.int s0), .val (.int t0), .val (.int s1), .val (.int t1), .val (.ref b1), .val (.ref b6), .val (.int (1 : Int32))] [(.int (1 : Int32))]))
    refine OwnGo.fwd (fun tq' kq' => XS.istore X65.here hx rfl (hb hby at_270) rfl (l' := #[.val (.int p0), .val (.int m0), .val (.int m1), .val (.int m2), .val (.int m3), .val (.int (2 : Int32)), .val (.int s0), .val (.int t0), .val (.int s1), .val (.int t1), .val (.ref b1), .val (.ref b6), .val (.int (1 : Int32))]) rfl kq') ?_
    show OwnGo _ _ _ _ (T65.setTop (mkF m 272 #[.val (.int p0), .val (.int m0), .val (.int m1), .val (.int m2), .val (.int m3), .val (.int (2 : Int32)), .val (.int s0), .val (.int t0), .val (.int s1), .val (.int t1), .val (.ref b1), .val (.ref b6), .val (.int (1 : Int32))] []))
    refine OwnGo.fwd (fun tq' kq' => XS.iload X65.here hx rfl (hb hby at_272) rfl kq') ?_
    show OwnGo _ _ _ _ (T65.setTop (mkF m 274 #[.val (.int p0), .val (.int m0), .val (.int m1), .val (.int m2), .val (.int m3), .val (.int (2 : Int32)), .val (.int s0), .val (.int t0), .val (.int s1), .val (.int t1), .val (.ref b1), .val (.ref b6), .val (.int (1 : Int32))] [(.int (1 : Int32))]))
    have hc274_67 : ¬ ((1 : Int) = (0 : Int)) := by decide
    refine OwnGo.fwd (fun tq' kq' => XS.ifNo X65.here hx rfl (hb hby at_274) rfl ((if0 _ _).trans (own_bneq (by decide) (by decide) hc274_67).1) kq') ?_
    show OwnGo _ _ _ _ (T65.setTop (mkF m 277 #[.val (.int p0), .val (.int m0), .val (.int m1), .val (.int m2), .val (.int m3), .val (.int (2 : Int32)), .val (.int s0), .val (.int t0), .val (.int s1), .val (.int t1), .val (.ref b1), .val (.ref b6), .val (.int (1 : Int32))] []))
    refine OwnGo.fwd (fun tq' kq' => XS.aload X65.here hx rfl (hb hby at_277) rfl rfl kq') ?_
    show OwnGo _ _ _ _ (T65.setTop (mkF m 279 #[.val (.int p0), .val (.int m0), .val (.int m1), .val (.int m2), .val (.int m3), .val (.int (2 : Int32)), .val (.int s0), .val (.int t0), .val (.int s1), .val (.int t1), .val (.ref b1), .val (.ref b6), .val (.int (1 : Int32))] [(.ref b6)]))
    refine OwnGo.fwd (fun tq' kq' => XS.iconst X65.here hx rfl (hb hby at_279) kq') ?_
    show OwnGo _ _ _ _ (T65.setTop (mkF m 280 #[.val (.int p0), .val (.int m0), .val (.int m1), .val (.int m2), .val (.int m3), .val (.int (2 : Int32)), .val (.int s0), .val (.int t0), .val (.int s1), .val (.int t1), .val (.ref b1), .val (.ref b6), .val (.int (1 : Int32))] [(.int (1 : Int32)), (.ref b6)]))
    obtain ⟨cq68, kq68, q68a, q68b, q68c⟩ := isOf hZ e65 E_b6
    obtain ⟨_, _, ⟨T68, L68, k68, n68⟩, -, X68, ⟨Lc68, hQ68, l68, y68, z68⟩, st68⟩ := X65.virtualBack hx (y := (⟨"com/example/ctl_checker/ctlchecker/Arcs", "getTarget", "(I)I"⟩ : MethodName)) (z := (⟨"com/example/ctl_checker/ctlchecker/Arcs", "getTarget", "(I)I"⟩ : MethodName)) hown (mvT hZ (hw _ (List.mem_of_getElem? (i := 40) rfl))) (mvT hZ (hw _ (List.mem_of_getElem? (i := 41) rfl))) (notFace_of_selects (args := #[]) (mvT hZ (hw _ (List.mem_of_getElem? (i := 43) rfl)))) (mvT hZ (hw _ (List.mem_of_getElem? (i := 43) rfl))) (mvT hZ (hw _ (List.mem_of_getElem? (i := 42) rfl))) (by decide) (backOf (W := 0) (rm8 l Z a0 hw [] b6 sa ta 2 (fun k => if k = 1 then ((own_mp m0 m1 m2 m3) x2) else (fun k => if k = 0 then ((own_mp m0 m1 m2 m3) x0) else (fun k => if k = 1 then s1 else (fun k => if k = 0 then s0 else (fun _ => 0) k) k) k) k) (fun k => if k = 1 then ((own_mp m0 m1 m2 m3) x3) else (fun k => if k = 0 then ((own_mp m0 m1 m2 m3) x1) else (fun k => if k = 1 then t1 else (fun k => if k = 0 then t0 else (fun _ => 0) k) k) k) k) (1 : Int32) 1 h45 n0 Zs ⟨E_b6, F_sources_b6, F_targets_b6, F_count_b6, V_sa, V_ta, ne_b6_sa, ne_b6_ta, ne_sa_ta, g_b6, g_sa, g_ta⟩ (by decide) (by decide)) hZ (hw _ (List.mem_of_getElem? (i := 44) rfl)) (hw _ (List.mem_of_getElem? (i := 3) rfl)) (by decide) (by decide)) q68a q68c (g := (mkF m 280 #[.val (.int p0), .val (.int m0), .val (.int m1), .val (.int m2), .val (.int m3), .val (.int (2 : Int32)), .val (.int s0), .val (.int t0), .val (.int s1), .val (.int t1), .val (.ref b1), .val (.ref b6), .val (.int (1 : Int32))] [(.int (1 : Int32)), (.ref b6)])) rfl (by rw [hml]; rfl) (Steps.refl _) (argsL := [(.int (1 : Int32))]) (rest := []) (lenOf pd_4 rfl) rfl (by show 2 * 0 + _ ≤ _; exact Nat.le_of_eq rfl) (hb hby at_280) (fun _ _ => ⟨rfl, e65, (by decide : 4 + 0 ≤ _), (by decide : 39 + 0 ≤ _)⟩)
    dsimp only [Pt.U, Pt.locs, Pt.cells, Pt.slots] at X68 l68 y68 z68 st68 hQ68
    subst l68 y68 z68
    obtain ⟨rfl, N68q, e68⟩ := hQ68
    have N := Fr.app N N68q
    refine OwnGo.thru st68 ?_
    show OwnGo _ _ _ _ (T68.setTop (mkF m 283 #[.val (.int p0), .val (.int m0), .val (.int m1), .val (.int m2), .val (.int m3), .val (.int (2 : Int32)), .val (.int s0), .val (.int t0), .val (.int s1), .val (.int t1), .val (.ref b1), .val (.ref b6), .val (.int (1 : Int32))] [(.int ((fun k => if k = 1 then ((own_mp m0 m1 m2 m3) x3) else (fun k => if k = 0 then ((own_mp m0 m1 m2 m3) x1) else (fun k => if k = 1 then t1 else (fun k => if k = 0 then t0 else (fun _ => 0) k) k) k) k) 1))]))
    refine OwnGo.fwd (fun tq' kq' => XS.iload X68.here hx rfl (hb hby at_283) rfl kq') ?_
    show OwnGo _ _ _ _ (T68.setTop (mkF m 285 #[.val (.int p0), .val (.int m0), .val (.int m1), .val (.int m2), .val (.int m3), .val (.int (2 : Int32)), .val (.int s0), .val (.int t0), .val (.int s1), .val (.int t1), .val (.ref b1), .val (.ref b6), .val (.int (1 : Int32))] [(.int t1), (.int ((fun k => if k = 1 then ((own_mp m0 m1 m2 m3) x3) else (fun k => if k = 0 then ((own_mp m0 m1 m2 m3) x1) else (fun k => if k = 1 then t1 else (fun k => if k = 0 then t0 else (fun _ => 0) k) k) k) k) 1))]))
    refine OwnGo.fwd (fun tq' kq' => XS.iloadN X68.here hx rfl (hb hby at_285) rfl kq') ?_
    show OwnGo _ _ _ _ (T68.setTop (mkF m 286 #[.val (.int p0), .val (.int m0), .val (.int m1), .val (.int m2), .val (.int m3), .val (.int (2 : Int32)), .val (.int s0), .val (.int t0), .val (.int s1), .val (.int t1), .val (.ref b1), .val (.ref b6), .val (.int (1 : Int32))] [(.int m0), (.int t1), (.int ((fun k => if k = 1 then ((own_mp m0 m1 m2 m3) x3) else (fun k => if k = 0 then ((own_mp m0 m1 m2 m3) x1) else (fun k => if k = 1 then t1 else (fun k => if k = 0 then t0 else (fun _ => 0) k) k) k) k) 1))]))
    refine OwnGo.fwd (fun tq' kq' => XS.iloadN X68.here hx rfl (hb hby at_286) rfl kq') ?_
    show OwnGo _ _ _ _ (T68.setTop (mkF m 287 #[.val (.int p0), .val (.int m0), .val (.int m1), .val (.int m2), .val (.int m3), .val (.int (2 : Int32)), .val (.int s0), .val (.int t0), .val (.int s1), .val (.int t1), .val (.ref b1), .val (.ref b6), .val (.int (1 : Int32))] [(.int m1), (.int m0), (.int t1), (.int ((fun k => if k = 1 then ((own_mp m0 m1 m2 m3) x3) else (fun k => if k = 0 then ((own_mp m0 m1 m2 m3) x1) else (fun k => if k = 1 then t1 else (fun k => if k = 0 then t0 else (fun _ => 0) k) k) k) k) 1))]))
    refine OwnGo.fwd (fun tq' kq' => XS.iloadN X68.here hx rfl (hb hby at_287) rfl kq') ?_
    show OwnGo _ _ _ _ (T68.setTop (mkF m 288 #[.val (.int p0), .val (.int m0), .val (.int m1), .val (.int m2), .val (.int m3), .val (.int (2 : Int32)), .val (.int s0), .val (.int t0), .val (.int s1), .val (.int t1), .val (.ref b1), .val (.ref b6), .val (.int (1 : Int32))] [(.int m2), (.int m1), (.int m0), (.int t1), (.int ((fun k => if k = 1 then ((own_mp m0 m1 m2 m3) x3) else (fun k => if k = 0 then ((own_mp m0 m1 m2 m3) x1) else (fun k => if k = 1 then t1 else (fun k => if k = 0 then t0 else (fun _ => 0) k) k) k) k) 1))]))
    refine OwnGo.fwd (fun tq' kq' => XS.iload X68.here hx rfl (hb hby at_288) rfl kq') ?_
    show OwnGo _ _ _ _ (T68.setTop (mkF m 290 #[.val (.int p0), .val (.int m0), .val (.int m1), .val (.int m2), .val (.int m3), .val (.int (2 : Int32)), .val (.int s0), .val (.int t0), .val (.int s1), .val (.int t1), .val (.ref b1), .val (.ref b6), .val (.int (1 : Int32))] [(.int m3), (.int m2), (.int m1), (.int m0), (.int t1), (.int ((fun k => if k = 1 then ((own_mp m0 m1 m2 m3) x3) else (fun k => if k = 0 then ((own_mp m0 m1 m2 m3) x1) else (fun k => if k = 1 then t1 else (fun k => if k = 0 then t0 else (fun _ => 0) k) k) k) k) 1))]))
    obtain ⟨_, _, ⟨T69, L69, k69, n69⟩, -, X69, ⟨Lc69, hQ69, l69, y69, z69⟩, st69⟩ := Jvm.LawKit.callS X68 hx (y := (⟨"com/example/ctl_checker/ctlchecker/ArcsRenumberPinLaw", "ref", "(IIIII)I"⟩ : MethodName)) hown (mvT hZ (hw _ (List.mem_of_getElem? (i := 36) rfl))) (mvT hZ (hw _ (List.mem_of_getElem? (i := 37) rfl))) (mvT hZ (hw _ (List.mem_of_getElem? (i := 38) rfl))) (mvT hZ (hw _ (List.mem_of_getElem? (i := 39) rfl))) (by decide) (backOf (W := 1) (rm7 l Z a0 hw [] t1 m0 m1 m2 m3 h45 n0 Zs) hZ (hw _ (List.mem_of_getElem? (i := 39) rfl)) (hw _ (List.mem_of_getElem? (i := 38) rfl)) (by decide) (by decide)) (g := (mkF m 290 #[.val (.int p0), .val (.int m0), .val (.int m1), .val (.int m2), .val (.int m3), .val (.int (2 : Int32)), .val (.int s0), .val (.int t0), .val (.int s1), .val (.int t1), .val (.ref b1), .val (.ref b6), .val (.int (1 : Int32))] [(.int m3), (.int m2), (.int m1), (.int m0), (.int t1), (.int ((fun k => if k = 1 then ((own_mp m0 m1 m2 m3) x3) else (fun k => if k = 0 then ((own_mp m0 m1 m2 m3) x1) else (fun k => if k = 1 then t1 else (fun k => if k = 0 then t0 else (fun _ => 0) k) k) k) k) 1))])) rfl (by rw [hml]; rfl) (argsL := [(.int t1), (.int m0), (.int m1), (.int m2), (.int m3)]) (rest := [(.int ((fun k => if k = 1 then ((own_mp m0 m1 m2 m3) x3) else (fun k => if k = 0 then ((own_mp m0 m1 m2 m3) x1) else (fun k => if k = 1 then t1 else (fun k => if k = 0 then t0 else (fun _ => 0) k) k) k) k) 1))]) (lenOf pd_5 rfl) rfl (by show 2 * 0 + _ ≤ _; exact Nat.le_of_eq rfl) (hb hby at_290) (fun _ _ => ⟨rfl, e68, (by decide : 4 + 0 ≤ _), (by decide : 39 + 0 ≤ _)⟩)
    dsimp only [Pt.U, Pt.locs, Pt.cells, Pt.slots] at X69 l69 y69 z69 st69 hQ69
    subst l69 y69 z69
    obtain ⟨rfl, N69q, e69⟩ := hQ69
    have N := Fr.app N N69q
    refine OwnGo.fwd st69 ?_
    show OwnGo _ _ _ _ (T69.setTop (mkF m 293 #[.val (.int p0), .val (.int m0), .val (.int m1), .val (.int m2), .val (.int m3), .val (.int (2 : Int32)), .val (.int s0), .val (.int t0), .val (.int s1), .val (.int t1), .val (.ref b1), .val (.ref b6), .val (.int (1 : Int32))] [(.int (own_rf t1 m0 m1 m2 m3)), (.int ((fun k => if k = 1 then ((own_mp m0 m1 m2 m3) x3) else (fun k => if k = 0 then ((own_mp m0 m1 m2 m3) x1) else (fun k => if k = 1 then t1 else (fun k => if k = 0 then t0 else (fun _ => 0) k) k) k) k) 1))]))
    show OwnGo _ _ _ _ (T69.setTop (mkF m 293 #[.val (.int p0), .val (.int m0), .val (.int m1), .val (.int m2), .val (.int m3), .val (.int (2 : Int32)), .val (.int s0), .val (.int t0), .val (.int s1), .val (.int t1), .val (.ref b1), .val (.ref b6), .val (.int (1 : Int32))] [(.int (own_rf t1 m0 m1 m2 m3)), (.int (own_mp m0 m1 m2 m3 x3))]))
    have hc293_70 : (own_mp m0 m1 m2 m3 x3).toInt = (own_rf t1 m0 m1 m2 m3).toInt := congrArg Int32.toInt (own_mrf hx3 lx3)
    refine OwnGo.fwd (fun tq' kq' => XS.icmpNo X69.here hx rfl (hb hby at_293) rfl (own_beq rfl rfl hc293_70).2 kq') ?_
    show OwnGo _ _ _ _ (T69.setTop (mkF m 296 #[.val (.int p0), .val (.int m0), .val (.int m1), .val (.int m2), .val (.int m3), .val (.int (2 : Int32)), .val (.int s0), .val (.int t0), .val (.int s1), .val (.int t1), .val (.ref b1), .val (.ref b6), .val (.int (1 : Int32))] []))
    refine OwnGo.fwd (fun tq' kq' => XS.iconst X69.here hx rfl (hb hby at_296) kq') ?_
    show OwnGo _ _ _ _ (T69.setTop (mkF m 297 #[.val (.int p0), .val (.int m0), .val (.int m1), .val (.int m2), .val (.int m3), .val (.int (2 : Int32)), .val (.int s0), .val (.int t0), .val (.int s1), .val (.int t1), .val (.ref b1), .val (.ref b6), .val (.int (1 : Int32))] [(.int (1 : Int32))]))
    refine OwnGo.fwd (fun tq' kq' => XS.goto X69.here hx rfl (pc0 := 297) (pc' := 301) rfl (hb hby at_297) (by decide) (by decide) kq') ?_
    show OwnGo _ _ _ _ (T69.setTop (mkF m 301 #[.val (.int p0), .val (.int m0), .val (.int m1), .val (.int m2), .val (.int m3), .val (.int (2 : Int32)), .val (.int s0), .val (.int t0), .val (.int s1), .val (.int t1), .val (.ref b1), .val (.ref b6), .val (.int (1 : Int32))] [(.int (1 : Int32))]))
    refine OwnGo.fwd (fun tq' kq' => XS.istore X69.here hx rfl (hb hby at_301) rfl (l' := #[.val (.int p0), .val (.int m0), .val (.int m1), .val (.int m2), .val (.int m3), .val (.int (2 : Int32)), .val (.int s0), .val (.int t0), .val (.int s1), .val (.int t1), .val (.ref b1), .val (.ref b6), .val (.int (1 : Int32))]) rfl kq') ?_
    show OwnGo _ _ _ _ (T69.setTop (mkF m 303 #[.val (.int p0), .val (.int m0), .val (.int m1), .val (.int m2), .val (.int m3), .val (.int (2 : Int32)), .val (.int s0), .val (.int t0), .val (.int s1), .val (.int t1), .val (.ref b1), .val (.ref b6), .val (.int (1 : Int32))] []))
    refine OwnGo.fwd (fun tq' kq' => XS.iload X69.here hx rfl (hb hby at_303) rfl kq') ?_
    show OwnGo _ _ _ _ (T69.setTop (mkF m 305 #[.val (.int p0), .val (.int m0), .val (.int m1), .val (.int m2), .val (.int m3), .val (.int (2 : Int32)), .val (.int s0), .val (.int t0), .val (.int s1), .val (.int t1), .val (.ref b1), .val (.ref b6), .val (.int (1 : Int32))] [(.int (1 : Int32))]))
    exact own_retZ X69 hlk hx Bd.returns (hb hby at_305) (by decide) (by decide) e69 ⟨rfl, N⟩
set_option maxRecDepth 65536 in
set_option maxHeartbeats 40000000 in
theorem comes_1 {Post : Tables → Env → Array Value → State → Outcome → State → Prop} (hpost : ∀ tb e args s v u, (limb_1_1.after args s (.returned v) u = true ∧ limb_1_2.after args s (.returned v) u = true ∧ True) → FrameEnd s (.returned v) u (Jvm.fieldLocs frame_1_writes args s ++ Jvm.arrayLocs frame_1_arrays args s ++ Jvm.staticLocs frame_1_statics s) 16 192 → Post tb e args s (.returned v) u) :
    ArmFor flags0 classFile x code maxLocals ret World_1 tables_1 room_1 Calls_1 rest_1 Pre_1 Post := by
  intro l hfl _ _ p e ha hc hk s m args below hf hA hF happ hP
  obtain ⟨hcalls, hrest, hpre⟩ := hP
  obtain ⟨-, -, -, hnamed, -, -, -, hat⟩ := (Spec.applies_iff hf).mp happ
  obtain ⟨hg, hn⟩ := and_e (Cond.before_iff.mp (show (Jvm.Cond.and given_1 narrow_1).before args s = true from hpre))
  obtain ⟨gc, gr0⟩ := and_e hg
  obtain ⟨ga0, gr1⟩ := and_e gr0
  obtain ⟨ga1, gr2⟩ := and_e gr1
  obtain ⟨ga2, gr3⟩ := and_e gr2
  obtain ⟨ga3, gr4⟩ := and_e gr3
  obtain ⟨w0, w1, w2, w3, w4, rfl⟩ : ∃ w0 w1 w2 w3 w4 : Value, args = #[w0, w1, w2, w3, w4] := by
    have hs : args.size = 5 := by simpa [Cond.value, given_1] using gc
    obtain ⟨L⟩ := args
    match L, hs with
    | [w0, w1, w2, w3, w4], _ => exact ⟨w0, w1, w2, w3, w4, rfl⟩
  have hw := fun d (hd : d ∈ tables_1) => atoms_spec (ws := Jvm.Cond.code x code maxLocals ret :: tables_1) hat d (List.mem_cons_of_mem _ hd)
  have hfit : Fit s := fun {y c} hc i hi => by
    obtain ⟨ha, rfl⟩ := Array.getElem?_eq_some_iff.mp hc
    have q := List.all_eq_true.mp ((Array.all_eq_true_iff_forall_mem.mp hF) _ (Array.getElem_mem ha)) i (List.mem_range.mpr hi)
    simpa [Array.getElem?_eq_getElem hi] using q
  obtain ⟨i0, ei0⟩ := is_v ga0
  obtain rfl : w0 = (.int i0) := Option.some.inj ei0
  obtain ⟨i1, ei1⟩ := is_v ga1
  obtain rfl : w1 = (.int i1) := Option.some.inj ei1
  obtain ⟨i2, ei2⟩ := is_v ga2
  obtain rfl : w2 = (.int i2) := Option.some.inj ei2
  obtain ⟨i3, ei3⟩ := is_v ga3
  obtain rfl : w3 = (.int i3) := Option.some.inj ei3
  obtain ⟨i4, ei4⟩ := is_v gr4
  obtain rfl : w4 = (.int i4) := Option.some.inj ei4
  obtain ⟨n, o, h1, h2, h3, _, L, rfl, ⟨rfl, N⟩, hq⟩ := rm0 l s _ hw tables_1 i0 i1 i2 i3 i4 s.heap s.heap.size (Nat.le_refl _) p e ha hc hk s m _ below hf ((Spec.applies_iff_loose hf).mp happ).1 ⟨rfl, State.Warmed39.refl s, rfl⟩ trivial
  refine ⟨n, _, h1, h2, h3, hpost _ _ _ _ _ _ ⟨Cond.after_iff.mpr rfl, Cond.after_iff.mpr (eq_i res_at (Term.int_eval (1)) rfl), trivial⟩ ⟨hq.1, hq.2.1, (hq.2.2.sift fun y hy => Or.inr (N y hy)).mono (by decide) (by decide)⟩⟩
theorem main_1_1 : Claimed_1_1 := comes_1 fun _ _ _ _ _ _ h hF => ⟨h.1, hF⟩
theorem main_1_2 : Claimed_1_2 := comes_1 fun _ _ _ _ _ _ h hF => ⟨h.2.1, hF⟩
end Jvm.Pilot.@@N@@
namespace Jvm.Pilot.@@N@@
open Jvm Jvm.ClassFile Sem Op Lib Jvm.Free Jvm.Stand Jvm.Pilot.@@N@@.Jvm.D
/-! MADE BY PROGRAM (witnessworld.py) out of the Statement's table words and the real class files: 9 classes; the members and pool entries that the words name. The judged class is class 1, her method 2. -/
namespace start1
open Jvm.ClassFile
def u (s : String) : CpInfo := .utf8 (stringToUtf16 s)
/-- a pool by its gaps: so many unusable entries, then the entry; so many at the end -/
def gap : Nat → List CpInfo → List CpInfo
  | 0, r => r
  | n + 1, r => .unusable :: gap n r
def poolList (es : List (Nat × CpInfo)) (last : Nat) : List CpInfo := es.foldr (fun e r => gap e.1 (e.2 :: r)) (gap last [])
def pool (es : List (Nat × CpInfo)) (last : Nat) : Array CpInfo := ⟨poolList es last⟩
def fileOf (pool : Array CpInfo) (this : Nat) (attrs : Array Attribute := #[]) (ms : Array MethodInfo := #[]) (fl : Nat := 33) (sup : Nat := 0) (ifs : Array Nat := #[]) (fds : Array FieldInfo := #[]) : ClassFile where
  minorVersion := 0
  majorVersion := 65
  constantPool := pool
  accessFlags := fl
  thisClass := this
  superClass := sup
  interfaces := ifs
  fields := fds
  methods := ms
  attributes := attrs
def plain (name : String) (sup : Option ClassId) : Class where
  name := name
  kind := .ordinary
  loader := none
  accessFlags := 33
  super := sup
  interfaces := #[]
  cf := none
  fields := #[]
  methods := #[]
  instanceTypes := #[]
  staticTypes := #[]
  resolved := #[]
  callSites := []
  init := .initialized
  statics := none
  mirror := none

def pool0 : Array CpInfo := pool [(5, u "<init>"), (0, u "()V"), (1, .class_ 10), (1, u "java/lang/Object")] 113

def k0c0 : Code := { maxStack := 0, maxLocals := 1, code := object_method_1_code, exceptionTable := #[], attributes := #[] }
def k0m0 : Method := { name := "<init>", desc := "()V", sig := { parameters := [], returnType := none }, accessFlags := 1, code := some k0c0 }
/-- java/lang/Object -/
def k0 : Class := { plain "java/lang/Object" none with
  accessFlags := 33
  interfaces := #[]
  cf := some (fileOf pool0 8 #[] #[{ accessFlags := 1, nameIndex := 5, descriptorIndex := 6, attributes := #[] }] 33 0 #[] #[])
  fields := #[]
  methods := #[k0m0]
  instanceTypes := #[]
  staticTypes := #[]
  resolved := Array.replicate 124 none
  statics := none }

def pool1 : Array CpInfo := pool [(2, .class_ 4), (0, .nameAndType 5 6), (0, u "java/lang/Object"), (0, u "<init>"), (0, u "()V"), (0, .class_ 8), (0, u "com/example/ctl_checker/ctlchecker/Arcs"), (0, .methodref 7 3), (0, .methodref 7 11), (0, .nameAndType 12 13), (0, u "add"), (0, u "(II)V"), (0, .methodref 7 15), (0, .nameAndType 16 17), (0, u "renumber"), (0, u "([I)V"), (0, .methodref 7 19), (0, .nameAndType 20 21), (0, u "size"), (0, u "()I"), (0, .methodref 7 23), (0, .nameAndType 24 25), (0, u "getSource"), (0, u "(I)I"), (0, .methodref 27 28), (0, .class_ 29), (0, .nameAndType 30 31), (0, u "com/example/ctl_checker/ctlchecker/ArcsRenumberPinLaw"), (0, u "ref"), (0, u "(IIIII)I"), (0, .methodref 7 33), (0, .nameAndType 34 25), (0, u "getTarget"), (3, u "law"), (0, u "(IIIII)Z")] 4

def k1m0 : Method := { name := "<init>", desc := "()V", sig := { parameters := [], returnType := none }, accessFlags := 1, code := none }
def k1c1 : Code := { maxStack := 2, maxLocals := 5, code := method_2_code, exceptionTable := #[], attributes := #[] }
def k1m1 : Method := { name := "ref", desc := "(IIIII)I", sig := { parameters := [.int, .int, .int, .int, .int], returnType := some .int }, accessFlags := 10, code := some k1c1 }
def k1c2 : Code := { maxStack := 6, maxLocals := 13, code := code, exceptionTable := #[], attributes := #[] }
def k1m2 : Method := { name := "law", desc := "(IIIII)Z", sig := { parameters := [.int, .int, .int, .int, .int], returnType := some .boolean }, accessFlags := 9, code := some k1c2 }
/-- com/example/ctl_checker/ctlchecker/ArcsRenumberPinLaw -/
def k1 : Class := { plain "com/example/ctl_checker/ctlchecker/ArcsRenumberPinLaw" (some 0) with
  accessFlags := 49
  interfaces := #[]
  cf := some (fileOf pool1 27 #[] #[{ accessFlags := 1, nameIndex := 5, descriptorIndex := 6, attributes := #[] }, { accessFlags := 10, nameIndex := 30, descriptorIndex := 31, attributes := #[] }, { accessFlags := 9, nameIndex := 38, descriptorIndex := 39, attributes := #[] }] 49 2 #[] #[])
  fields := #[]
  methods := #[k1m0, k1m1, k1m2]
  instanceTypes := #[]
  staticTypes := #[]
  resolved := Array.replicate 44 none
  statics := none }

def pool2 : Array CpInfo := pool [(1, .methodref 2 3), (0, .class_ 4), (0, .nameAndType 5 6), (0, u "java/lang/Object"), (0, u "<init>"), (0, u "()V"), (0, .fieldref 8 9), (0, .class_ 10), (0, .nameAndType 11 12), (0, u "com/example/ctl_checker/ctlchecker/Arcs"), (0, u "sources"), (0, u "[I"), (0, .fieldref 8 14), (0, .nameAndType 15 12), (0, u "targets"), (0, .fieldref 8 17), (0, .nameAndType 18 19), (0, u "count"), (0, u "I"), (0, .long 2), (3, .long 2147483639), (22, u "add"), (0, u "(II)V"), (1, u "size"), (0, u "()I"), (0, u "getSource"), (0, u "(I)I"), (0, u "getTarget"), (0, u "renumber"), (0, u "([I)V")] 2

def k2c0 : Code := { maxStack := 2, maxLocals := 1, code := prog_1_method_1_code, exceptionTable := #[], attributes := #[] }
def k2m0 : Method := { name := "<init>", desc := "()V", sig := { parameters := [], returnType := none }, accessFlags := 0, code := some k2c0 }
def k2c1 : Code := { maxStack := 4, maxLocals := 4, code := prog_1_method_2_code, exceptionTable := #[], attributes := #[] }
def k2m1 : Method := { name := "add", desc := "(II)V", sig := { parameters := [.int, .int], returnType := none }, accessFlags := 0, code := some k2c1 }
def k2c2 : Code := { maxStack := 1, maxLocals := 1, code := prog_1_method_3_code, exceptionTable := #[], attributes := #[] }
def k2m2 : Method := { name := "size", desc := "()I", sig := { parameters := [], returnType := some .int }, accessFlags := 0, code := some k2c2 }
def k2c3 : Code := { maxStack := 2, maxLocals := 2, code := prog_1_method_4_code, exceptionTable := #[], attributes := #[] }
def k2m3 : Method := { name := "getSource", desc := "(I)I", sig := { parameters := [.int], returnType := some .int }, accessFlags := 0, code := some k2c3 }
def k2c4 : Code := { maxStack := 2, maxLocals := 2, code := prog_1_method_5_code, exceptionTable := #[], attributes := #[] }
def k2m4 : Method := { name := "getTarget", desc := "(I)I", sig := { parameters := [.int], returnType := some .int }, accessFlags := 0, code := some k2c4 }
def k2c5 : Code := { maxStack := 5, maxLocals := 3, code := prog_1_method_6_code, exceptionTable := #[], attributes := #[] }
def k2m5 : Method := { name := "renumber", desc := "([I)V", sig := { parameters := [(.array .int)], returnType := none }, accessFlags := 0, code := some k2c5 }
/-- com/example/ctl_checker/ctlchecker/Arcs -/
def k2 : Class := { plain "com/example/ctl_checker/ctlchecker/Arcs" (some 0) with
  accessFlags := 32
  interfaces := #[]
  cf := some (fileOf pool2 8 #[] #[{ accessFlags := 0, nameIndex := 5, descriptorIndex := 6, attributes := #[] }, { accessFlags := 0, nameIndex := 47, descriptorIndex := 48, attributes := #[] }, { accessFlags := 0, nameIndex := 50, descriptorIndex := 51, attributes := #[] }, { accessFlags := 0, nameIndex := 52, descriptorIndex := 53, attributes := #[] }, { accessFlags := 0, nameIndex := 54, descriptorIndex := 53, attributes := #[] }, { accessFlags := 0, nameIndex := 55, descriptorIndex := 56, attributes := #[] }] 32 2 #[] #[{ accessFlags := 2, nameIndex := 11, descriptorIndex := 12, attributes := #[] }, { accessFlags := 2, nameIndex := 15, descriptorIndex := 12, attributes := #[] }, { accessFlags := 2, nameIndex := 18, descriptorIndex := 19, attributes := #[] }])
  fields := #[{ name := "sources", type := (.array .int), accessFlags := 2, slot := 0, constantValue := 0 }, { name := "targets", type := (.array .int), accessFlags := 2, slot := 1, constantValue := 0 }, { name := "count", type := .int, accessFlags := 2, slot := 2, constantValue := 0 }]
  methods := #[k2m0, k2m1, k2m2, k2m3, k2m4, k2m5]
  instanceTypes := #[(.array .int), (.array .int), .int]
  staticTypes := #[]
  resolved := Array.replicate 59 none
  statics := none }

def pool3 : Array CpInfo := pool [(1, u "java/lang/Cloneable"), (0, .class_ 1), (0, u "java/lang/Object"), (0, .class_ 3)] 3

/-- java/lang/Cloneable -/
def k3 : Class := { plain "java/lang/Cloneable" (some 0) with
  accessFlags := 1537
  interfaces := #[]
  cf := some (fileOf pool3 2 #[] #[] 1537 4 #[] #[])
  fields := #[]
  methods := #[]
  instanceTypes := #[]
  staticTypes := #[]
  resolved := Array.replicate 8 none
  statics := none }

def pool4 : Array CpInfo := pool [(1, u "java/io/Serializable"), (0, .class_ 1), (0, u "java/lang/Object"), (0, .class_ 3)] 3

/-- java/io/Serializable -/
def k4 : Class := { plain "java/io/Serializable" (some 0) with
  accessFlags := 1537
  interfaces := #[]
  cf := some (fileOf pool4 2 #[] #[] 1537 4 #[] #[])
  fields := #[]
  methods := #[]
  instanceTypes := #[]
  staticTypes := #[]
  resolved := Array.replicate 8 none
  statics := none }

/-- the primitive byte -/
def k5 : Class := { plain "byte" none with kind := .primitive 'B', accessFlags := 0x411 }
/-- [B -/
def k6 : Class := { plain "[B" (some 0) with kind := .array 5 .byte, interfaces := #[3, 4], accessFlags := 1041 }

/-- the primitive int -/
def k7 : Class := { plain "int" none with kind := .primitive 'I', accessFlags := 0x411 }
/-- [I -/
def k8 : Class := { plain "[I" (some 0) with kind := .array 7 .int, interfaces := #[3, 4], accessFlags := 1041 }

def heap : Heap := #[]
def classes : Array Class := #[k0, k1, k2, k3, k4, k5, k6, k7, k8]
def interned : List (Array UInt16 × Addr) := []
def slotsUsed : Nat := 0
def theMethod : MethodId := ⟨1, 2⟩
def args0 : Array Value := #[.int 6, .int 1, .int 2, .int 3, .int 4]
def aboutOver (below : List Frame) : State where
  vm := { classes := classes, interned := interned.toArray }
  heap := heap
  slotsUsed := slotsUsed
  threads := #[{ frames := .invoking theMethod args0 :: below }]
def below0 : List Frame := [.native { method := ⟨0, 0⟩, args := #[] }]
def about1 : State := aboutOver below0
def p0 : Program := .bare "" "" ""
def e0 : Env := launch0.env 0 0 0
theorem w_frames : about1.frames = Frame.invoking theMethod args0 :: below0 := rfl
set_option maxRecDepth 65536 in
theorem w_args : argsFit about1.vm theMethod args0 = true := by decide +kernel
set_option maxRecDepth 65536 in
theorem w_heap : heapFits about1 = true := by decide +kernel
set_option maxRecDepth 65536 in
theorem w_runnable : about1.curStatus? = some .runnable := by decide +kernel
set_option maxRecDepth 65536 in
theorem w_alone : about1.alone = true := by decide +kernel
set_option maxRecDepth 65536 in
theorem w_named : about1.methodNamed? x = some theMethod := by decide +kernel
set_option maxRecDepth 65536 in
theorem w_hears : about1.hears theMethod below0 = true := by decide +kernel
set_option maxRecDepth 65536 in
theorem w_ripe : about1.ripe theMethod args0 below0 = true := by decide +kernel
theorem w_running : about1.status = .running := rfl
set_option maxRecDepth 65536 in
theorem w_room : about1.hasRoom e0.platform room_1 = true :=
  launch0.hasRoom_least _ room_1 (by decide +kernel) (by decide +kernel) (by decide +kernel) (by decide +kernel) (by decide +kernel) (by decide +kernel)
theorem allAtoms_all (ts : List Jvm.Cond) (a : Array Jvm.Value) (st : Jvm.State) : (allAtoms ts).before a st = ts.all (fun c => c.before a st) := by
  induction ts with
  | nil => rfl
  | cons c t ih =>
    show (Jvm.Cond.and c (allAtoms t)).before a st = _
    rw [Jvm.Cond.before_and, ih, List.all_cons]
def words1 : List Jvm.Cond := Jvm.Cond.code x code maxLocals ret :: tables_1
/-- a 'code' word, met by the world's own term for the bytes: nothing is compared byte by byte -/
theorem code_word {y : MethodName} {bytes : ByteArray} {mx : Nat} {rt : Option FieldType} {a : Array Value} {s : State} {m : MethodId} {meth : Method} {c : Code} (h1 : s.methodNamed? y = some m) (h2 : s.vm.method? m = some meth) (h3 : meth.code = some c) (h4 : c.code = bytes)
    (h5 : (c.maxLocals == mx && c.exceptionTable.isEmpty && decide (c.maxStack ≤ mostOperands) && decide (meth.sig.returnType = rt) && !meth.locks && decide (parseMethodDescriptor y.desc = some meth.sig)) = true) : (Jvm.Cond.code y bytes mx rt).before a s = true := by
  simp only [Bool.and_eq_true, beq_iff_eq, Bool.not_eq_true', decide_eq_true_eq] at h5
  obtain ⟨⟨⟨⟨⟨g1, g2⟩, g3⟩, g4⟩, g5⟩, g6⟩ := h5
  simp [Cond.before, Cond.holds, Cond.value, h1, h2, h3, h4, g1, g2, g3, g4, g5, g6]
def isCode : Jvm.Cond → Bool
  | .code _ _ _ _ => true
  | _ => false
theorem all_split {L : List Jvm.Cond} {P : Jvm.Cond → Bool} (h1 : L.all (fun c => isCode c || P c) = true) (h2 : ∀ c ∈ L.filter isCode, P c = true) : L.all P = true := by
  refine List.all_eq_true.mpr fun c hc => ?_
  have h := List.all_eq_true.mp h1 c hc
  rcases Bool.eq_false_or_eq_true (isCode c) with hi | hi
  · exact h2 c (List.mem_filter.mpr ⟨hc, hi⟩)
  · simpa [hi] using h
set_option maxRecDepth 65536 in
theorem w_c0 : (Jvm.Cond.code x code maxLocals ret).before args0 about1 = true := code_word (m := ⟨1, 2⟩) (meth := k1m2) (c := k1c2) (by decide +kernel) rfl rfl rfl (by decide +kernel)
set_option maxRecDepth 65536 in
theorem w_c1 : (Jvm.Cond.code ({ cls := "com/example/ctl_checker/ctlchecker/Arcs", name := "<init>", desc := "()V" } : Jvm.MethodName) prog_1_method_1_code (1 : Nat) (Option.none : Option Jvm.ClassFile.FieldType)).before args0 about1 = true := code_word (m := ⟨2, 0⟩) (meth := k2m0) (c := k2c0) (by decide +kernel) rfl rfl rfl (by decide +kernel)
set_option maxRecDepth 65536 in
theorem w_c2 : (Jvm.Cond.code ({ cls := "java/lang/Object", name := "<init>", desc := "()V" } : Jvm.MethodName) object_method_1_code (1 : Nat) (Option.none : Option Jvm.ClassFile.FieldType)).before args0 about1 = true := code_word (m := ⟨0, 0⟩) (meth := k0m0) (c := k0c0) (by decide +kernel) rfl rfl rfl (by decide +kernel)
set_option maxRecDepth 65536 in
theorem w_c3 : (Jvm.Cond.code ({ cls := "com/example/ctl_checker/ctlchecker/Arcs", name := "renumber", desc := "([I)V" } : Jvm.MethodName) prog_1_method_6_code (3 : Nat) (Option.none : Option Jvm.ClassFile.FieldType)).before args0 about1 = true := code_word (m := ⟨2, 5⟩) (meth := k2m5) (c := k2c5) (by decide +kernel) rfl rfl rfl (by decide +kernel)
set_option maxRecDepth 65536 in
theorem w_c4 : (Jvm.Cond.code ({ cls := "com/example/ctl_checker/ctlchecker/Arcs", name := "size", desc := "()I" } : Jvm.MethodName) prog_1_method_3_code (1 : Nat) (Option.some Jvm.ClassFile.FieldType.int)).before args0 about1 = true := code_word (m := ⟨2, 2⟩) (meth := k2m2) (c := k2c2) (by decide +kernel) rfl rfl rfl (by decide +kernel)
set_option maxRecDepth 65536 in
theorem w_c5 : (Jvm.Cond.code ({ cls := "com/example/ctl_checker/ctlchecker/Arcs", name := "add", desc := "(II)V" } : Jvm.MethodName) prog_1_method_2_code (4 : Nat) (Option.none : Option Jvm.ClassFile.FieldType)).before args0 about1 = true := code_word (m := ⟨2, 1⟩) (meth := k2m1) (c := k2c1) (by decide +kernel) rfl rfl rfl (by decide +kernel)
set_option maxRecDepth 65536 in
theorem w_c6 : (Jvm.Cond.code ({ cls := "com/example/ctl_checker/ctlchecker/Arcs", name := "getSource", desc := "(I)I" } : Jvm.MethodName) prog_1_method_4_code (2 : Nat) (Option.some Jvm.ClassFile.FieldType.int)).before args0 about1 = true := code_word (m := ⟨2, 3⟩) (meth := k2m3) (c := k2c3) (by decide +kernel) rfl rfl rfl (by decide +kernel)
set_option maxRecDepth 65536 in
theorem w_c7 : (Jvm.Cond.code ({ cls := "com/example/ctl_checker/ctlchecker/ArcsRenumberPinLaw", name := "ref", desc := "(IIIII)I" } : Jvm.MethodName) method_2_code (5 : Nat) (Option.some Jvm.ClassFile.FieldType.int)).before args0 about1 = true := code_word (m := ⟨1, 1⟩) (meth := k1m1) (c := k1c1) (by decide +kernel) rfl rfl rfl (by decide +kernel)
set_option maxRecDepth 65536 in
theorem w_c8 : (Jvm.Cond.code ({ cls := "com/example/ctl_checker/ctlchecker/Arcs", name := "getTarget", desc := "(I)I" } : Jvm.MethodName) prog_1_method_5_code (2 : Nat) (Option.some Jvm.ClassFile.FieldType.int)).before args0 about1 = true := code_word (m := ⟨2, 4⟩) (meth := k2m4) (c := k2c4) (by decide +kernel) rfl rfl rfl (by decide +kernel)
def codes1 : List Jvm.Cond := [Jvm.Cond.code x code maxLocals ret, Jvm.Cond.code ({ cls := "com/example/ctl_checker/ctlchecker/Arcs", name := "<init>", desc := "()V" } : Jvm.MethodName) prog_1_method_1_code (1 : Nat) (Option.none : Option Jvm.ClassFile.FieldType), Jvm.Cond.code ({ cls := "java/lang/Object", name := "<init>", desc := "()V" } : Jvm.MethodName) object_method_1_code (1 : Nat) (Option.none : Option Jvm.ClassFile.FieldType), Jvm.Cond.code ({ cls := "com/example/ctl_checker/ctlchecker/Arcs", name := "renumber", desc := "([I)V" } : Jvm.MethodName) prog_1_method_6_code (3 : Nat) (Option.none : Option Jvm.ClassFile.FieldType), Jvm.Cond.code ({ cls := "com/example/ctl_checker/ctlchecker/Arcs", name := "size", desc := "()I" } : Jvm.MethodName) prog_1_method_3_code (1 : Nat) (Option.some Jvm.ClassFile.FieldType.int), Jvm.Cond.code ({ cls := "com/example/ctl_checker/ctlchecker/Arcs", name := "add", desc := "(II)V" } : Jvm.MethodName) prog_1_method_2_code (4 : Nat) (Option.none : Option Jvm.ClassFile.FieldType), Jvm.Cond.code ({ cls := "com/example/ctl_checker/ctlchecker/Arcs", name := "getSource", desc := "(I)I" } : Jvm.MethodName) prog_1_method_4_code (2 : Nat) (Option.some Jvm.ClassFile.FieldType.int), Jvm.Cond.code ({ cls := "com/example/ctl_checker/ctlchecker/ArcsRenumberPinLaw", name := "ref", desc := "(IIIII)I" } : Jvm.MethodName) method_2_code (5 : Nat) (Option.some Jvm.ClassFile.FieldType.int), Jvm.Cond.code ({ cls := "com/example/ctl_checker/ctlchecker/Arcs", name := "getTarget", desc := "(I)I" } : Jvm.MethodName) prog_1_method_5_code (2 : Nat) (Option.some Jvm.ClassFile.FieldType.int)]
set_option maxRecDepth 65536 in
theorem codes_eq : words1.filter isCode = codes1 := rfl
theorem w_codes : ∀ c ∈ words1.filter isCode, c.before args0 about1 = true := by
  rw [codes_eq]
  intro c hc
  simp only [codes1, List.mem_cons, List.not_mem_nil, or_false] at hc
  rcases hc with rfl | rfl | rfl | rfl | rfl | rfl | rfl | rfl | rfl
  · exact w_c0
  · exact w_c1
  · exact w_c2
  · exact w_c3
  · exact w_c4
  · exact w_c5
  · exact w_c6
  · exact w_c7
  · exact w_c8
set_option maxRecDepth 65536 in
theorem w_t1 : (words1.take 24).all (fun c => isCode c || c.before args0 about1) = true := by decide +kernel
set_option maxRecDepth 65536 in
theorem w_t2 : (words1.drop 24).all (fun c => isCode c || c.before args0 about1) = true := by decide +kernel
theorem w_tables : (allAtoms (Jvm.Cond.code x code maxLocals ret :: tables_1)).before args0 about1 = true := by
  rw [allAtoms_all]
  show words1.all (fun c => c.before args0 about1) = true
  refine all_split ?_ w_codes
  rw [← List.take_append_drop 24 words1, List.all_append, w_t1, w_t2]
  rfl
set_option maxRecDepth 65536 in
theorem w_case : (Jvm.Cond.and given_1 narrow_1).before args0 about1 = true := by decide +kernel
theorem w_applies : (headSpec (Jvm.Cond.code x code maxLocals ret :: tables_1) room_1).applies x e0.platform about1 = true :=
  (Spec.applies_iff w_frames).mpr ⟨w_running, w_runnable, w_alone, w_named, w_hears, w_ripe, w_room, w_tables⟩
theorem atStart : AtStart classFile x code maxLocals ret World_1 tables_1 room_1 Calls_1 rest_1 Pre_1 launch0 p0 e0 about1 theMethod args0 below0 :=
  ⟨lists_1, trivial, launch0.admits_env _ _ _, launch0.least_env, fairChoices_fair.cas, fairChoices_fair.clock, w_frames, w_args, w_heap, w_applies, trivial, trivial, w_case⟩
end start1
theorem witness_1 : WitnessClaimed_1 := ⟨start1.p0, start1.e0, start1.about1, start1.theMethod, start1.args0, start1.below0, start1.atStart⟩
end Jvm.Pilot.@@N@@

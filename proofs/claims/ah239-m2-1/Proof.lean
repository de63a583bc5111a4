import JvmDerived
import JvmDerived.Pilot.@@N@@Statement
import JvmDerived.Pilot.@@N@@Code
set_option linter.unusedVariables false
set_option linter.unusedSimpArgs false
namespace Jvm.RoadKit
open Sem ClassFile Op Lib Jvm.Stand Jvm.Free Jvm.LawKit
/-- own: from A the walk comes to its end, and there R holds -/
def OwnGo (tb : Tables) (e : Env) (below : List Frame) (R : State → Outcome → Prop) (A : State) : Prop := ∃ s₂ o, Steps tb e below A s₂ ∧ s₂.status = .running ∧ Ended s₂ below o ∧ R s₂ o
theorem OwnGo.fwd {tb : Tables} {e : Env} {below : List Frame} {R : State → Outcome → Prop} {A B : State} (h : ∀ t, Steps tb e below B t → Steps tb e below A t) (k : OwnGo tb e below R B) : OwnGo tb e below R A := by
  obtain ⟨s, o, h1, h2⟩ := k
  exact ⟨s, o, h s h1, h2⟩
theorem OwnGo.thru {tb : Tables} {e : Env} {below : List Frame} {R : State → Outcome → Prop} {A B : State} (h : Steps tb e below A B) (k : OwnGo tb e below R B) : OwnGo tb e below R A := k.fwd fun _ q => h.trans q
/-- own: what a body leaves -/
def OwnEnd (s : State) (Q : Option Value → Heap → List Loc → Prop) (k n : Nat) : State → Outcome → Prop := fun U o => ∃ v L, o = .returned v ∧ Q v U.heap L ∧ FrameEnd s o U L k n
section OwnLeaf
variable {p : Program} {l : Launch} {e : Env} {R : Room} {s : State} {m : MethodId} {args : Array Value} {below : List Frame} {meth : Method} {c : Code} {T : State} {locs : List Loc} {cells slots : Nat} {Z : State} {a0 : Array Value} {h : Heap} {Q : Option Value → Heap → List Loc → Prop} {k n : Nat}
theorem own_leaf (X : Stand p l e R s m args below meth c T locs cells slots) (hlk : meth.locks = false) {v : Option Value} (hv : meth.sig.returnType = none → v = none) {g : JFrame} (hc : cells ≤ k) (hs : slots ≤ n) (eT : T.heap = h) (hQ : Q v h locs)
    (hl : ∀ fs, (∀ (f : JFrame) (acts : List Action), f.method = m → f.locked = none → f.entered = [] → (doReturn e (T.setTop f) acts v).1 = T.setFrames fs) → Steps p.tables e below (T.setTop g) (T.setFrames fs)) :
    OwnGo p.tables e below (OwnEnd s Q k n) (T.setTop g) := by
  obtain ⟨fs, hr, hrun, hended, hW, hsame⟩ := X.leave (v := v) hv hlk
  refine ⟨_, _, hl fs hr, hrun, hended, _, _, rfl, ?_, ⟨_, rfl⟩, hW, hsame.mono hc hs⟩
  show Q v T.heap locs
  rw [eT]; exact hQ
theorem own_retI (X : Stand p l e R s m args below meth c T locs cells slots) (hlk : meth.locks = false) (hx : p.tables.exec = Jvm.exec) {pc : Nat} {Ls : Array Slot} {z : Int32} {rest : List Value} (hret : meth.sig.returnType = some .int) (hd : decode c.code pc = .ok (.ireturn, 1)) (hc : cells ≤ k) (hs : slots ≤ n) (eT : T.heap = h) (hQ : Q (some (.int z)) h locs) :
    OwnGo p.tables e below (OwnEnd s Q k n) (T.setTop (mkF m pc Ls (.int z :: rest))) := by
  refine own_leaf X hlk (fun q => by rw [hret] at q; cases q) hc hs eT hQ fun fs hl => ?_
  have hm' : T.vm.method? m = some meth := X.method'
  have hn : narrow .int (.int z) = .int z := rfl
  show Steps p.tables e below (T.setTop { method := m, pc := pc, locals := Ls, stack := _ :: rest, locked := none }) _
  jvm_step X.here [X.here.top, hx, hd, hm', hret, hn]
  first | (intro acts; rw [hl _ acts rfl rfl rfl]) | rw [hl _ _ rfl rfl rfl]
  exact Steps.refl _
theorem own_retZ (X : Stand p l e R s m args below meth c T locs cells slots) (hlk : meth.locks = false) (hx : p.tables.exec = Jvm.exec) {pc : Nat} {Ls : Array Slot} {z : Int32} {rest : List Value} (hret : meth.sig.returnType = some .boolean) (hd : decode c.code pc = .ok (.ireturn, 1)) (hc : cells ≤ k) (hs : slots ≤ n) (eT : T.heap = h) (hQ : Q (some (.int (nar .boolean z))) h locs) :
    OwnGo p.tables e below (OwnEnd s Q k n) (T.setTop (mkF m pc Ls (.int z :: rest))) :=
  own_leaf X hlk (fun q => by rw [hret] at q; cases q) hc hs eT hQ fun fs hl => retN X hx (t := .boolean) hret (by simp) hd hl
theorem own_retJ (X : Stand p l e R s m args below meth c T locs cells slots) (hlk : meth.locks = false) (hx : p.tables.exec = Jvm.exec) {pc : Nat} {Ls : Array Slot} {z : Int64} (hret : meth.sig.returnType = some .long) (hd : decode c.code pc = .ok (.lreturn, 1)) (hc : cells ≤ k) (hs : slots ≤ n) (eT : T.heap = h) (hQ : Q (some (.long z)) h locs) :
    OwnGo p.tables e below (OwnEnd s Q k n) (T.setTop (mkF m pc Ls [.long z])) :=
  own_leaf X hlk (fun q => by rw [hret] at q; cases q) hc hs eT hQ fun fs hl => X.lreturnOut hx hret hd hl
theorem own_retV (X : Stand p l e R s m args below meth c T locs cells slots) (hlk : meth.locks = false) (hx : p.tables.exec = Jvm.exec) {pc : Nat} {Ls : Array Slot} (hret : meth.sig.returnType = none) (hd : decode c.code pc = .ok (.return_, 1)) (hc : cells ≤ k) (hs : slots ≤ n) (eT : T.heap = h) (hQ : Q none h locs) :
    OwnGo p.tables e below (OwnEnd s Q k n) (T.setTop (mkF m pc Ls [])) :=
  own_leaf X hlk (fun _ => rfl) hc hs eT hQ fun fs hl => X.returnOut hx hret hd hl
theorem own_retA (X : Stand p l e R s m args below meth c T locs cells slots) (hlk : meth.locks = false) (hx : p.tables.exec = Jvm.exec) {pc : Nat} {Ls : Array Slot} {w : Value} {rest : List Value} {t : FieldType} (hret : meth.sig.returnType = some t) (ht : t.isReference = true) (hw : w.isRef = true) (hd : decode c.code pc = .ok (.areturn, 1)) (hc : cells ≤ k) (hs : slots ≤ n) (eT : T.heap = h) (hQ : Q (some w) h locs) :
    OwnGo p.tables e below (OwnEnd s Q k n) (T.setTop (mkF m pc Ls (w :: rest))) :=
  own_leaf X hlk (fun q => by rw [hret] at q; cases q) hc hs eT hQ fun fs hl => retOut X hx hret (by cases t <;> first | (cases ht; done) | rfl) (Or.inr (Or.inr (Or.inr (Or.inr ⟨rfl, ht, hw⟩)))) hd hl
/-! own: int arrays, by a function of the place -/
def OwnIA (Z : State) (h : Heap) (a : Addr) (n : Nat) (f : Nat → Int32) : Prop := ∃ c : Cell, Arr Z h a c .int ∧ c.slots.size = n ∧ n < 2147483648 ∧ ∀ i, i < n → c.slots[i]? = some (.int (f i))
theorem OwnIA.lt {a : Addr} {n : Nat} {f : Nat → Int32} (F : OwnIA Z h a n f) : a < h.size := by obtain ⟨c, A, -⟩ := F; exact A.lt
theorem OwnIA.ext {h' : Heap} {a : Addr} {n : Nat} {f : Nat → Int32} (F : OwnIA Z h a n f) (E : Ext h h') : OwnIA Z h' a n f := by obtain ⟨c, A, r⟩ := F; exact ⟨c, A.ext E, r⟩
theorem OwnIA.other {h' : Heap} {a b : Addr} {n sl : Nat} {v : Value} {f : Nat → Int32} (F : OwnIA Z h b n f) (W : Wr h h' a sl v) (q : b ≠ a) : OwnIA Z h' b n f := by obtain ⟨c, A, r⟩ := F; exact ⟨c, A.other W q, r⟩
theorem OwnIA.keep {h' : Heap} {ws : List Addr} {a : Addr} {n : Nat} {f : Nat → Int32} (F : OwnIA Z h a n f) (K : Keep h h' ws) (q : a ∉ ws) : OwnIA Z h' a n f := by obtain ⟨c, A, r⟩ := F; exact ⟨c, ⟨K.2.1 a c A.1 q, A.2⟩, r⟩
theorem OwnIA.eqv {a : Addr} {n : Nat} {f f' : Nat → Int32} (F : OwnIA Z h a n f) (q : ∀ i, i < n → f i = f' i) : OwnIA Z h a n f' := by obtain ⟨c, A, r1, r2, r3⟩ := F; exact ⟨c, A, r1, r2, fun i hi => by rw [r3 i hi, q i hi]⟩
theorem own_clamp {j : Int32} {i : Nat} (hj : j.toInt = i) : j.toNatClampNeg = i := by simp only [Int32.toNatClampNeg]; omega
theorem own_inb {c : Cell} {j : Int32} {i n : Nat} (S : c.slots.size = n) (hj : j.toInt = i) (hi : i < n) : ¬ (j < 0 ∨ c.slots.size ≤ j.toNatClampNeg) := by
  rw [own_clamp hj, S]; simp only [Int32.lt_iff_toInt_lt, Int32.reduceToInt]; omega
theorem OwnIA.new {a : Addr} {k : ClassId} {z : Int32} {i : Nat} (A : Arr Z h a (newA k .int z) .int) (hz : z.toInt = i) : OwnIA Z h a i (fun _ => 0) := by
  have q := own_clamp hz
  have r := rng32 z
  exact ⟨_, A, by rw [sz_new]; exact q, by omega, fun j hj => by simp [newA, q, hj, defaultValue]⟩
theorem own_len (X : Stand p l e R s m args below meth c T locs cells slots) (hx : p.tables.exec = Jvm.exec) (hZ : Z.Warmed39 s.vm) (eT : T.heap = h) {a : Addr} {n : Nat} {f : Nat → Int32} (V : OwnIA Z h a n f) {g : JFrame} (hg : g.method = m) {rest : List Value} (hs : g.stack = .ref a :: rest) (hd : decode c.code g.pc = .ok (.arraylength, 1)) :
    ∀ target, Steps p.tables e below (T.setTop { g with pc := g.pc + 1, stack := .int (Int32.ofNat n) :: rest }) target → Steps p.tables e below (T.setTop g) target := by
  obtain ⟨cl, A, S, -⟩ := V
  subst S
  exact X.arraylength hx (by rw [eT]; exact A.1) (State.isArrayOf_alike hZ.alike A.2.1) hg hs hd
theorem own_iaload (X : Stand p l e R s m args below meth c T locs cells slots) (hx : p.tables.exec = Jvm.exec) (hZ : Z.Warmed39 s.vm) (eT : T.heap = h) {a : Addr} {n : Nat} {f : Nat → Int32} (V : OwnIA Z h a n f) {j : Int32} {i : Nat} (hj : j.toInt = i) (hi : i < n) {g : JFrame} (hg : g.method = m) {rest : List Value} (hs : g.stack = .int j :: .ref a :: rest) (hd : decode c.code g.pc = .ok (.iaload, 1)) :
    ∀ target, Steps p.tables e below (T.setTop { g with pc := g.pc + 1, stack := .int (f i) :: rest }) target → Steps p.tables e below (T.setTop g) target := by
  obtain ⟨cl, A, S, -, H⟩ := V
  exact X.iaload hx (by rw [eT]; exact A.1) (State.isArrayOf_alike hZ.alike A.2.1) A.2.2 (own_inb S hj hi) (by rw [own_clamp hj]; exact H i hi) hg hs hd
theorem own_iastore (X : Stand p l e R s m args below meth c T locs cells slots) (hx : p.tables.exec = Jvm.exec) (hZ : Z.Warmed39 s.vm) (eT : T.heap = h) {a : Addr} {n : Nat} {f : Nat → Int32} (V : OwnIA Z h a n f) {j x : Int32} {i : Nat} (hj : j.toInt = i) (hi : i < n) {g : JFrame} (hg : g.method = m) {rest : List Value} (hs : g.stack = .int x :: .int j :: .ref a :: rest) (hd : decode c.code g.pc = .ok (.iastore, 1)) :
    ∃ T' h', Stand p l e R s m args below meth c T' (locs ++ [⟨a, i⟩]) cells slots ∧ T'.heap = h' ∧ Wr h h' a i (.int x) ∧ OwnIA Z h' a n (fun k => if k = i then x else f k) ∧ ∀ target, Steps p.tables e below (T'.setTop { g with pc := g.pc + 1, stack := rest }) target → Steps p.tables e below (T.setTop g) target := by
  obtain ⟨cl, A, S, N, H⟩ := V
  obtain ⟨T', h', X', e', W, st⟩ := stI X hx hZ eT A (own_inb S hj hi) hg hs hd
  rw [own_clamp hj] at X' W
  refine ⟨T', h', X', e', W, ⟨_, A.same W, by rw [sz_set]; exact S, N, fun k hk => ?_⟩, st⟩
  by_cases q : k = i
  · subst q; simp [Cell.setSlot, S, hk]
  · simp only [Cell.setSlot, if_neg q]; rw [Array.getElem?_setIfInBounds_ne (Ne.symm q)]; exact H k hk
theorem own_newI (X : Stand p l e R s m args below meth c T locs cells slots) (hx : p.tables.exec = Jvm.exec) (hZ : Z.Warmed39 s.vm) (w : (Cond.arrayClass .int).before a0 Z = true) (eT : T.heap = h) {g : JFrame} (hg : g.method = m) (hd : decode c.code g.pc = .ok (.newarray .int, 2)) {z : Int32} {i : Nat} {rest : List Value} (hs : g.stack = .int z :: rest)
    (hz : z.toInt = i) {cap : Nat} (hcap : i ≤ cap) (hb : cap * 8 ≤ 536870912) (hc : cells + 1 ≤ R.cells) (hl : slots + cap ≤ R.slots) :
    ∃ T' h' a, Stand p l e R s m args below meth c T' locs (cells + 1) (slots + cap) ∧ T'.heap = h' ∧ Ext h h' ∧ a = h.size ∧ OwnIA Z h' a i (fun _ => 0) ∧ ∀ target, Steps p.tables e below (T'.setTop { g with pc := g.pc + 2, stack := .ref a :: rest }) target → Steps p.tables e below (T.setTop g) target := by
  have q := own_clamp hz
  obtain ⟨T', h', cA, X', e', E, A, st⟩ := newP X hx hZ (aty := .int) w eT hg hd hs (by simp only [Int32.lt_iff_toInt_lt, Int32.reduceToInt]; omega) (cap := cap) (by omega) hb hc hl
  exact ⟨T', h', _, X', e', E, rfl, OwnIA.new A hz, st⟩
end OwnLeaf
/-! own: branches, by the ints' own numbers -/
theorem own_blt {x y : Int32} {a b : Int} (hx : x.toInt = a) (hy : y.toInt = b) (h : a < b) : if_icmp.holds .lt x y = true ∧ if_icmp.holds .ge x y = false ∧ if_icmp.holds .gt y x = true ∧ if_icmp.holds .le y x = false := tlt (by rw [Int32.lt_iff_toInt_lt]; omega)
theorem own_bnlt {x y : Int32} {a b : Int} (hx : x.toInt = a) (hy : y.toInt = b) (h : ¬ a < b) : if_icmp.holds .lt x y = false ∧ if_icmp.holds .ge x y = true ∧ if_icmp.holds .gt y x = false ∧ if_icmp.holds .le y x = true := flt (by rw [Int32.lt_iff_toInt_lt]; omega)
theorem own_beq {x y : Int32} {a b : Int} (hx : x.toInt = a) (hy : y.toInt = b) (h : a = b) : if_icmp.holds .eq x y = true ∧ if_icmp.holds .ne x y = false := teq (Int32.toInt_inj.mp (by omega))
theorem own_bneq {x y : Int32} {a b : Int} (hx : x.toInt = a) (hy : y.toInt = b) (h : ¬ a = b) : if_icmp.holds .eq x y = false ∧ if_icmp.holds .ne x y = true := feq fun q => h (by rw [← hx, ← hy, q])
theorem own_Llt {x y : Int64} {a b : Int} (hx : x.toInt = a) (hy : y.toInt = b) (h : a < b) : ifCond.holds .lt (lcmpW x y) = true ∧ ifCond.holds .ge (lcmpW x y) = false := by
  have q : x < y := by rw [Int64.lt_iff_toInt_lt]; omega
  rw [if0, if0]; exact ⟨(tlt ((lw_lt x y).mpr q)).1, (tlt ((lw_lt x y).mpr q)).2.1⟩
theorem own_Lnlt {x y : Int64} {a b : Int} (hx : x.toInt = a) (hy : y.toInt = b) (h : ¬ a < b) : ifCond.holds .lt (lcmpW x y) = false ∧ ifCond.holds .ge (lcmpW x y) = true := by
  have q : ¬ x < y := by rw [Int64.lt_iff_toInt_lt]; omega
  rw [if0, if0]; exact ⟨(flt (fun r => q ((lw_lt x y).mp r))).1, (flt (fun r => q ((lw_lt x y).mp r))).2.1⟩
theorem own_Lgt {x y : Int64} {a b : Int} (hx : x.toInt = a) (hy : y.toInt = b) (h : b < a) : ifCond.holds .gt (lcmpW x y) = true ∧ ifCond.holds .le (lcmpW x y) = false := by
  have q : y < x := by rw [Int64.lt_iff_toInt_lt]; omega
  rw [if0, if0]; exact ⟨(tlt ((lw_gt x y).mpr q)).2.2.1, (tlt ((lw_gt x y).mpr q)).2.2.2⟩
theorem own_Lngt {x y : Int64} {a b : Int} (hx : x.toInt = a) (hy : y.toInt = b) (h : ¬ b < a) : ifCond.holds .gt (lcmpW x y) = false ∧ ifCond.holds .le (lcmpW x y) = true := by
  have q : ¬ y < x := by rw [Int64.lt_iff_toInt_lt]; omega
  rw [if0, if0]; exact ⟨(flt (fun r => q ((lw_gt x y).mp r))).2.2.1, (flt (fun r => q ((lw_gt x y).mp r))).2.2.2⟩
theorem own_Leq {x y : Int64} {a b : Int} (hx : x.toInt = a) (hy : y.toInt = b) (h : a = b) : ifCond.holds .eq (lcmpW x y) = true ∧ ifCond.holds .ne (lcmpW x y) = false := by
  have q : x = y := Int64.toInt_inj.mp (by omega)
  rw [if0, if0]; exact teq ((lw_eq x y).mpr q)
theorem own_Lneq {x y : Int64} {a b : Int} (hx : x.toInt = a) (hy : y.toInt = b) (h : ¬ a = b) : ifCond.holds .eq (lcmpW x y) = false ∧ ifCond.holds .ne (lcmpW x y) = true := by
  have q : ¬ x = y := fun r => h (by rw [← hx, ← hy, r])
  rw [if0, if0]; exact feq fun r => q ((lw_eq x y).mp r)
theorem own_ofNat {i : Nat} (h : i < 2147483648) : (Int32.ofNat i).toInt = (i : Int) := Int32.toInt_ofNat_small h
theorem own_ofNatS (i : Nat) : Int32.ofNat i + 1 = Int32.ofNat (i + 1) := (Int32.ofNat_add i 1).symm
theorem own_fieldInt {args : Array Value} {s : State} {t : Term} {C n d : String} {k : Int32} {w : Addr} (ht : t.eval args s none [] s = some (.ref w)) (h : (Jvm.Cond.eq (.field t C n d) (.int k)).value args s none s [] = some true) : Fld s s.heap w C n d (.int k) := by
  apply Fld.start
  obtain ⟨x, y, hx, hy, -, k2⟩ := cmp_v (Or.inl h)
  have hy' : y = .int k := Option.some.inj (hy.symm.trans (Term.int_eval k))
  subst hy'
  obtain ⟨z, rfl⟩ : ∃ z, x = .int z := k2
  have q := gotT (Cond.eq_ints hx hy) h
  subst q
  rw [← fld_at ht]; exact hx
end Jvm.RoadKit
namespace Jvm.RoadKit
open Sem ClassFile Op Lib Jvm.Stand Jvm.Free Jvm.LawKit
section OwnCopy
variable {p : Program} {l : Launch} {e : Env} {R : Room} {s : State} {m : MethodId} {args : Array Value} {below : List Frame} {meth : Method} {c : Code} {T : State} {locs : List Loc} {cells slots : Nat} {Z : State} {a0 : Array Value} {h : Heap}
theorem own_getD (n : Nat) (f : Nat → Int32) (i : Nat) (hi : i < n) : ((List.range n).map fun i => Value.int (f i)).getD i (.int 0) = .int (f i) := by
  rw [List.getD_eq_getElem?_getD, List.getElem?_map, List.getElem?_range hi]; rfl
theorem OwnIA.arv {a : Addr} {n : Nat} {f : Nat → Int32} (F : OwnIA Z h a n f) : ∃ k, Arv Z h a k .int (Int32.ofNat n) ((List.range n).map fun i => Value.int (f i)) (.int 0) := by
  obtain ⟨c, A, S, N, H⟩ := F
  have e := own_ofNat N
  refine ⟨c.cls, c, A, rfl, by rw [S, own_clamp e], by simp only [Int32.lt_iff_toInt_lt, Int32.reduceToInt]; omega, fun k hk => ?_, fun i hi => ?_⟩
  · rw [own_getD n f k (by omega)]; exact H k (by omega)
  · rw [own_getD n f i (by omega)]; rfl
theorem OwnIA.ofArv {a : Addr} {k : ClassId} {z : Int32} {vs : List Value} {dv : Value} {n : Nat} {f : Nat → Int32} (F : Arv Z h a k .int z vs dv) (hz : z.toInt = n) (q : ∀ i, i < n → vs.getD i dv = .int (f i)) : OwnIA Z h a n f := by
  obtain ⟨c, A, -, S, -, H, -⟩ := F
  have r := rng32 z
  rw [own_clamp hz] at S
  exact ⟨c, A, S, by omega, fun i hi => by rw [← q i hi]; exact H i (by omega)⟩
theorem own_cpI (X : Stand p l e R s m args below meth c T locs cells slots) (hx : p.tables.exec = Jvm.exec) (hZ : Z.Warmed39 s.vm) {own : String} {index : Nat} (hown : s.vm.findClass own = some m.cls)
    (w1 : (Cond.methodLink own index Jvm.Stand.acN).before a0 Z = true) (w2 : (Cond.native Jvm.Stand.acN).before a0 Z = true) (w3 : (Cond.static Jvm.Stand.acN).before a0 Z = true) (w4 : (Cond.initialized "java/lang/System").before a0 Z = true) (eT : T.heap = h)
    {a b : Addr} {n k : Nat} {f u : Nat → Int32} (A : OwnIA Z h a n f) (B : OwnIA Z h b k u) {nn : Int32} {q : Nat} (hq : nn.toInt = q) (h4 : q ≤ n) (h5 : q ≤ k) {n0 : Nat} (N : Fr n0 locs) (ge : n0 ≤ b)
    {g : JFrame} (hg : g.method = m) (hsize : g.locals.size = c.maxLocals) {rest : List Value} (hs : g.stack = .int nn :: .int 0 :: .ref b :: .int 0 :: .ref a :: rest) (hd : decode c.code g.pc = .ok (.invokestatic index, 3))
    (hf : 1 ≤ R.frames) {W : Nat} (hW : 2 * g.monitorRoom + (rest.map fun v => v.category).sum ≤ W) (hlo : W + (nativeFrameWords "java/lang/System" "arraycopy" 5 + 11) ≤ R.locals) :
    ∃ T' h' L, Stand p l e R s m args below meth c T' L cells slots ∧ T'.heap = h' ∧ Fr n0 L ∧ Keep h h' [b] ∧ OwnIA Z h' b k (fun i => if i < q then f i else u i) ∧
      ∀ target, Steps p.tables e below (T'.setTop { g with pc := g.pc + 3, stack := rest }) target → Steps p.tables e below (T.setTop g) target := by
  have hn : n < 2147483648 := by obtain ⟨_, _, _, r, _⟩ := A; exact r
  have hk : k < 2147483648 := by obtain ⟨_, _, _, r, _⟩ := B; exact r
  obtain ⟨ka, A⟩ := A.arv
  obtain ⟨kb, B⟩ := B.arv
  have c0 : (0 : Int32).toNatClampNeg = 0 := by decide
  have cq := own_clamp hq
  obtain ⟨T', h', L, X', e', N', K, V, st⟩ := cpA X hx hZ hown w1 w2 w3 w4 eT (sp := 0) (dp := 0) (nn := nn) A B (Or.inl ⟨rfl, rfl⟩) (by decide) (by decide) (by simp only [Int32.lt_iff_toInt_lt, Int32.reduceToInt]; omega) (by rw [c0, cq, own_clamp (own_ofNat hn)]; omega) (by rw [c0, cq, own_clamp (own_ofNat hk)]; omega) rfl (by rw [c0, cq]; simp; exact h5) N ge hg hsize hs hd hf hW hlo
  refine ⟨T', h', L, X', e', N', K, OwnIA.ofArv V (own_ofNat hk) fun i hi => ?_, st⟩
  rw [c0, cq, List.take_zero, List.nil_append, Nat.zero_add, List.getD_eq_getElem?_getD]
  by_cases r : i < q
  · rw [List.getElem?_append_left (by simpa using r), List.getElem?_map, List.getElem?_range r, if_pos r]
    simp only [Option.map_some, Option.getD_some, Nat.zero_add]
    exact own_getD n f i (by omega)
  · rw [List.getElem?_append_right (by simpa using r), List.getElem?_drop, List.length_map, List.length_range, show q + (i - q) = i by omega, List.getElem?_map, List.getElem?_range hi, if_neg r]
    rfl
end OwnCopy
end Jvm.RoadKit
namespace Jvm.Pilot.@@N@@
open Jvm Jvm.ClassFile Sem Op Lib Jvm.Free Jvm.Stand Jvm.LawKit Jvm.RoadKit Bundle Jvm.Pilot.@@N@@.Jvm.D
theorem own_0123 (x : Int32) : x &&& (3 : Int32) = 0 ∨ x &&& (3 : Int32) = 1 ∨ x &&& (3 : Int32) = 2 ∨ x &&& (3 : Int32) = 3 := by
  have q := c_and x (3 : Int32) (by decide)
  have e : (3 : Int32).toInt = 3 := by decide
  simp only [← Int32.toInt_inj, Int32.reduceToInt]
  omega
theorem own_le3 (x : Int32) : (x &&& (3 : Int32)).toInt ≤ 4 := by
  have q := c_and x (3 : Int32) (by decide)
  have e : (3 : Int32).toInt = 3 := by decide
  omega
/-- own: a Postings with its two int arrays -/
def own_P (Z : State) (h : Heap) (n0 : Nat) (a da fa : Addr) (n : Nat) (t : Int64) (cp : Nat) (f g : Nat → Int32) : Prop :=
  Exa Z h a "com/example/inverse_frequency/inversefrequency/Postings" ∧ Fld Z h a "com/example/inverse_frequency/inversefrequency/Postings" "documents" "[I" (.ref da) ∧ Fld Z h a "com/example/inverse_frequency/inversefrequency/Postings" "frequencies" "[I" (.ref fa) ∧ Fld Z h a "com/example/inverse_frequency/inversefrequency/Postings" "size" "I" (.int (Int32.ofNat n)) ∧ Fld Z h a "com/example/inverse_frequency/inversefrequency/Postings" "totalFrequency" "J" (.long t) ∧ OwnIA Z h da cp f ∧ OwnIA Z h fa cp g ∧ a ≠ da ∧ a ≠ fa ∧ da ≠ fa ∧ n0 ≤ a ∧ n0 ≤ da ∧ n0 ≤ fa
def own_max (x y : Int32) : Int32 := if x.toInt < y.toInt then y else x
def own_min (x y : Int32) : Int32 := if y.toInt < x.toInt then y else x
theorem own_dbl {n : Nat} (h : n < 1000) : (2 * Int32.ofNat n : Int32).toInt = ((2 * n : Nat) : Int) := by
  have q := c_imul 2 (Int32.ofNat n)
  have e : (2 : Int32).toInt = 2 := by decide
  have r := rng32 (2 * Int32.ofNat n)
  rw [e, own_ofNat (show n < 2147483648 by omega)] at q
  omega
theorem pd_0 : parseMethodDescriptor "(I)V" = some ⟨[.int], none⟩ := by decide +kernel
theorem pd_1 : parseMethodDescriptor "()V" = some ⟨[], none⟩ := by decide +kernel
theorem pd_2 : parseMethodDescriptor "(II)I" = some ⟨[.int, .int], some .int⟩ := by decide +kernel
theorem pd_3 : parseMethodDescriptor "()I" = some ⟨[], some .int⟩ := by decide +kernel
theorem pd_4 : parseMethodDescriptor "()J" = some ⟨[], some .long⟩ := by decide +kernel
theorem pd_5 : parseMethodDescriptor "(II)V" = some ⟨[.int, .int], none⟩ := by decide +kernel
theorem pd_6 : parseMethodDescriptor "(I)I" = some ⟨[.int], some .int⟩ := by decide +kernel
theorem pd_7 : parseMethodDescriptor "([II)[I" = some ⟨[(.array .int), .int], some (.array .int)⟩ := by decide +kernel
theorem d3_0 : decode jdk_29_method_65_code 0 = .ok (.iload_n 0, 1) := by decide +kernel
theorem d3_1 : decode jdk_29_method_65_code 1 = .ok (.iload_n 1, 1) := by decide +kernel
theorem d3_2 : decode jdk_29_method_65_code 2 = .ok (.if_icmp .lt 7, 3) := by decide +kernel
theorem d3_5 : decode jdk_29_method_65_code 5 = .ok (.iload_n 0, 1) := by decide +kernel
theorem d3_6 : decode jdk_29_method_65_code 6 = .ok (.goto 4, 3) := by decide +kernel
theorem d3_9 : decode jdk_29_method_65_code 9 = .ok (.iload_n 1, 1) := by decide +kernel
theorem d3_10 : decode jdk_29_method_65_code 10 = .ok (.ireturn, 1) := by decide +kernel
theorem pn_3 : plainFor (⟨"java/lang/Math", "max", "(II)I"⟩ : MethodName) = true := by decide +kernel
theorem ef_3 (m : MethodId) (x0 : Int32) (x1 : Int32) : entryFrame m #[(.int x0), (.int x1)] 2 = mkF m 0 #[.val (.int x0), .val (.int x1)] [] := by first | (simp [entryFrame, mkF, argsToLocals, Value.category, maxLocals]; done) | rfl
def Q3 (Z : State) (x : Int32) (y : Int32) (h0 : Heap) (n0 : Nat) (v : Option Value) (h : Heap) (L : List Loc) : Prop := v = some (.int (own_max x y)) ∧ Fr n0 L ∧ h = h0
set_option maxRecDepth 65536 in
set_option maxHeartbeats 40000000 in
theorem rm3 (l : Launch) (Z : State) (a0 : Array Value) (hw : ∀ d ∈ tables_1, d.before a0 Z = true) (ws : List Jvm.Cond) (x : Int32) (y : Int32) (h0 : Heap) (n0 : Nat) (Z0 : n0 ≤ h0.size) :
    MetFree l (⟨"java/lang/Math", "max", "(II)I"⟩ : MethodName) (head1 (Jvm.Cond.code (⟨"java/lang/Math", "max", "(II)I"⟩ : MethodName) jdk_29_method_65_code 2 (some .int) :: ws) ({ frames := 0, cells := 0, slots := 0, locals := 0 } : Room)) (fun arr' U => arr' = #[(.int x), (.int y)] ∧ Z.Warmed39 U.vm ∧ U.heap = h0) (fun _ _ _ _ _ => True) (fun _ U o U' => ∃ v L, o = .returned v ∧ (Q3 Z x y h0 n0) v U'.heap L ∧ FrameEnd U o U' L ({ frames := 0, cells := 0, slots := 0, locals := 0 } : Room).cells ({ frames := 0, cells := 0, slots := 0, locals := 0 } : Room).slots) := by
  refine MetFree.of_bodySF pn_3 hisR ?_
  intro p e s m args below meth c s₁ Bd hml0 hP hK
  obtain ⟨rfl, hZ, hh⟩ := hP
  have hx := Bd.exec
  have hby := Bd.bytes
  have hlk : meth.locks = false := BodyLoose.notSynchronized Bd
  have hml : c.maxLocals = 2 := hml0
  have hown : s.vm.findClass "java/lang/Math" = some m.cls := findClass_of_methodNamed Bd.named
  have hnm := (name_of_methodNamed Bd.named Bd.method).1
  have X0 : Stand p l e ({ frames := 0, cells := 0, slots := 0, locals := 0 } : Room) s m #[(.int x), (.int y)] below meth c s₁ [] 0 0 := Stand.of_body Bd
  have e0 : s₁.heap = h0 := by rw [← hh, Bd.state]; rfl
  have N := Fr.nil n0
  have Zs := Z0
  change OwnGo p.tables e below (OwnEnd s (Q3 Z x y h0 n0) ({ frames := 0, cells := 0, slots := 0, locals := 0 } : Room).cells ({ frames := 0, cells := 0, slots := 0, locals := 0 } : Room).slots) _
  refine OwnGo.fwd (fun tq' kq' => castTop (ef_3 m x y) kq') ?_
  show OwnGo _ _ _ _ (s₁.setTop (mkF m 0 #[.val (.int x), .val (.int y)] []))
  refine OwnGo.fwd (fun tq' kq' => XS.iloadN X0.here hx rfl (hb hby d3_0) rfl kq') ?_
  show OwnGo _ _ _ _ (s₁.setTop (mkF m 1 #[.val (.int x), .val (.int y)] [(.int x)]))
  refine OwnGo.fwd (fun tq' kq' => XS.iloadN X0.here hx rfl (hb hby d3_1) rfl kq') ?_
  show OwnGo _ _ _ _ (s₁.setTop (mkF m 2 #[.val (.int x), .val (.int y)] [(.int y), (.int x)]))
  by_cases hc2_1 : x.toInt < y.toInt
  · refine OwnGo.fwd (fun tq' kq' => XS.icmpYes X0.here hx rfl (pc0 := 2) (pc' := 9) rfl (hb hby d3_2) rfl (own_blt rfl rfl hc2_1).1 (by decide) (by decide) kq') ?_
    show OwnGo _ _ _ _ (s₁.setTop (mkF m 9 #[.val (.int x), .val (.int y)] []))
    refine OwnGo.fwd (fun tq' kq' => XS.iloadN X0.here hx rfl (hb hby d3_9) rfl kq') ?_
    show OwnGo _ _ _ _ (s₁.setTop (mkF m 10 #[.val (.int x), .val (.int y)] [(.int y)]))
    exact own_retI X0 hlk hx Bd.returns (hb hby d3_10) (by decide) (by decide) e0 ⟨by simp only [own_max, hc2_1, if_true, if_false], N, rfl⟩
  · refine OwnGo.fwd (fun tq' kq' => XS.icmpNo X0.here hx rfl (hb hby d3_2) rfl (own_bnlt rfl rfl hc2_1).1 kq') ?_
    show OwnGo _ _ _ _ (s₁.setTop (mkF m 5 #[.val (.int x), .val (.int y)] []))
    refine OwnGo.fwd (fun tq' kq' => XS.iloadN X0.here hx rfl (hb hby d3_5) rfl kq') ?_
    show OwnGo _ _ _ _ (s₁.setTop (mkF m 6 #[.val (.int x), .val (.int y)] [(.int x)]))
    refine OwnGo.fwd (fun tq' kq' => XS.goto X0.here hx rfl (pc0 := 6) (pc' := 10) rfl (hb hby d3_6) (by decide) (by decide) kq') ?_
    show OwnGo _ _ _ _ (s₁.setTop (mkF m 10 #[.val (.int x), .val (.int y)] [(.int x)]))
    exact own_retI X0 hlk hx Bd.returns (hb hby d3_10) (by decide) (by decide) e0 ⟨by simp only [own_max, hc2_1, if_true, if_false], N, rfl⟩
theorem d10_0 : decode jdk_29_method_69_code 0 = .ok (.iload_n 0, 1) := by decide +kernel
theorem d10_1 : decode jdk_29_method_69_code 1 = .ok (.iload_n 1, 1) := by decide +kernel
theorem d10_2 : decode jdk_29_method_69_code 2 = .ok (.if_icmp .gt 7, 3) := by decide +kernel
theorem d10_5 : decode jdk_29_method_69_code 5 = .ok (.iload_n 0, 1) := by decide +kernel
theorem d10_6 : decode jdk_29_method_69_code 6 = .ok (.goto 4, 3) := by decide +kernel
theorem d10_9 : decode jdk_29_method_69_code 9 = .ok (.iload_n 1, 1) := by decide +kernel
theorem d10_10 : decode jdk_29_method_69_code 10 = .ok (.ireturn, 1) := by decide +kernel
theorem pn_10 : plainFor (⟨"java/lang/Math", "min", "(II)I"⟩ : MethodName) = true := by decide +kernel
theorem ef_10 (m : MethodId) (x0 : Int32) (x1 : Int32) : entryFrame m #[(.int x0), (.int x1)] 2 = mkF m 0 #[.val (.int x0), .val (.int x1)] [] := by first | (simp [entryFrame, mkF, argsToLocals, Value.category, maxLocals]; done) | rfl
def Q10 (Z : State) (x : Int32) (y : Int32) (h0 : Heap) (n0 : Nat) (v : Option Value) (h : Heap) (L : List Loc) : Prop := v = some (.int (own_min x y)) ∧ Fr n0 L ∧ h = h0
set_option maxRecDepth 65536 in
set_option maxHeartbeats 40000000 in
theorem rm10 (l : Launch) (Z : State) (a0 : Array Value) (hw : ∀ d ∈ tables_1, d.before a0 Z = true) (ws : List Jvm.Cond) (x : Int32) (y : Int32) (h0 : Heap) (n0 : Nat) (Z0 : n0 ≤ h0.size) :
    MetFree l (⟨"java/lang/Math", "min", "(II)I"⟩ : MethodName) (head1 (Jvm.Cond.code (⟨"java/lang/Math", "min", "(II)I"⟩ : MethodName) jdk_29_method_69_code 2 (some .int) :: ws) ({ frames := 0, cells := 0, slots := 0, locals := 0 } : Room)) (fun arr' U => arr' = #[(.int x), (.int y)] ∧ Z.Warmed39 U.vm ∧ U.heap = h0) (fun _ _ _ _ _ => True) (fun _ U o U' => ∃ v L, o = .returned v ∧ (Q10 Z x y h0 n0) v U'.heap L ∧ FrameEnd U o U' L ({ frames := 0, cells := 0, slots := 0, locals := 0 } : Room).cells ({ frames := 0, cells := 0, slots := 0, locals := 0 } : Room).slots) := by
  refine MetFree.of_bodySF pn_10 hisR ?_
  intro p e s m args below meth c s₁ Bd hml0 hP hK
  obtain ⟨rfl, hZ, hh⟩ := hP
  have hx := Bd.exec
  have hby := Bd.bytes
  have hlk : meth.locks = false := BodyLoose.notSynchronized Bd
  have hml : c.maxLocals = 2 := hml0
  have hown : s.vm.findClass "java/lang/Math" = some m.cls := findClass_of_methodNamed Bd.named
  have hnm := (name_of_methodNamed Bd.named Bd.method).1
  have X0 : Stand p l e ({ frames := 0, cells := 0, slots := 0, locals := 0 } : Room) s m #[(.int x), (.int y)] below meth c s₁ [] 0 0 := Stand.of_body Bd
  have e0 : s₁.heap = h0 := by rw [← hh, Bd.state]; rfl
  have N := Fr.nil n0
  have Zs := Z0
  change OwnGo p.tables e below (OwnEnd s (Q10 Z x y h0 n0) ({ frames := 0, cells := 0, slots := 0, locals := 0 } : Room).cells ({ frames := 0, cells := 0, slots := 0, locals := 0 } : Room).slots) _
  refine OwnGo.fwd (fun tq' kq' => castTop (ef_10 m x y) kq') ?_
  show OwnGo _ _ _ _ (s₁.setTop (mkF m 0 #[.val (.int x), .val (.int y)] []))
  refine OwnGo.fwd (fun tq' kq' => XS.iloadN X0.here hx rfl (hb hby d10_0) rfl kq') ?_
  show OwnGo _ _ _ _ (s₁.setTop (mkF m 1 #[.val (.int x), .val (.int y)] [(.int x)]))
  refine OwnGo.fwd (fun tq' kq' => XS.iloadN X0.here hx rfl (hb hby d10_1) rfl kq') ?_
  show OwnGo _ _ _ _ (s₁.setTop (mkF m 2 #[.val (.int x), .val (.int y)] [(.int y), (.int x)]))
  by_cases hc2_1 : y.toInt < x.toInt
  · refine OwnGo.fwd (fun tq' kq' => XS.icmpYes X0.here hx rfl (pc0 := 2) (pc' := 9) rfl (hb hby d10_2) rfl (own_blt rfl rfl hc2_1).2.2.1 (by decide) (by decide) kq') ?_
    show OwnGo _ _ _ _ (s₁.setTop (mkF m 9 #[.val (.int x), .val (.int y)] []))
    refine OwnGo.fwd (fun tq' kq' => XS.iloadN X0.here hx rfl (hb hby d10_9) rfl kq') ?_
    show OwnGo _ _ _ _ (s₁.setTop (mkF m 10 #[.val (.int x), .val (.int y)] [(.int y)]))
    exact own_retI X0 hlk hx Bd.returns (hb hby d10_10) (by decide) (by decide) e0 ⟨by simp only [own_min, hc2_1, if_true, if_false], N, rfl⟩
  · refine OwnGo.fwd (fun tq' kq' => XS.icmpNo X0.here hx rfl (hb hby d10_2) rfl (own_bnlt rfl rfl hc2_1).2.2.1 kq') ?_
    show OwnGo _ _ _ _ (s₁.setTop (mkF m 5 #[.val (.int x), .val (.int y)] []))
    refine OwnGo.fwd (fun tq' kq' => XS.iloadN X0.here hx rfl (hb hby d10_5) rfl kq') ?_
    show OwnGo _ _ _ _ (s₁.setTop (mkF m 6 #[.val (.int x), .val (.int y)] [(.int x)]))
    refine OwnGo.fwd (fun tq' kq' => XS.goto X0.here hx rfl (pc0 := 6) (pc' := 10) rfl (hb hby d10_6) (by decide) (by decide) kq') ?_
    show OwnGo _ _ _ _ (s₁.setTop (mkF m 10 #[.val (.int x), .val (.int y)] [(.int x)]))
    exact own_retI X0 hlk hx Bd.returns (hb hby d10_10) (by decide) (by decide) e0 ⟨by simp only [own_min, hc2_1, if_true, if_false], N, rfl⟩
theorem d9_0 : decode jdk_65_method_123_code 0 = .ok (.iload_n 1, 1) := by decide +kernel
theorem d9_1 : decode jdk_65_method_123_code 1 = .ok (.aload_n 0, 1) := by decide +kernel
theorem d9_2 : decode jdk_65_method_123_code 2 = .ok (.arraylength, 1) := by decide +kernel
theorem d9_3 : decode jdk_65_method_123_code 3 = .ok (.if_icmp .ne 11, 3) := by decide +kernel
theorem d9_6 : decode jdk_65_method_123_code 6 = .ok (.aload_n 0, 1) := by decide +kernel
theorem d9_7 : decode jdk_65_method_123_code 7 = .ok (.invokevirtual 316, 3) := by decide +kernel
theorem d9_10 : decode jdk_65_method_123_code 10 = .ok (.checkcast 317, 3) := by decide +kernel
theorem d9_13 : decode jdk_65_method_123_code 13 = .ok (.areturn, 1) := by decide +kernel
theorem d9_14 : decode jdk_65_method_123_code 14 = .ok (.iload_n 1, 1) := by decide +kernel
theorem d9_15 : decode jdk_65_method_123_code 15 = .ok (.newarray .int, 2) := by decide +kernel
theorem d9_17 : decode jdk_65_method_123_code 17 = .ok (.astore_n 2, 1) := by decide +kernel
theorem d9_18 : decode jdk_65_method_123_code 18 = .ok (.aload_n 0, 1) := by decide +kernel
theorem d9_19 : decode jdk_65_method_123_code 19 = .ok (.iconst 0, 1) := by decide +kernel
theorem d9_20 : decode jdk_65_method_123_code 20 = .ok (.aload_n 2, 1) := by decide +kernel
theorem d9_21 : decode jdk_65_method_123_code 21 = .ok (.iconst 0, 1) := by decide +kernel
theorem d9_22 : decode jdk_65_method_123_code 22 = .ok (.aload_n 0, 1) := by decide +kernel
theorem d9_23 : decode jdk_65_method_123_code 23 = .ok (.arraylength, 1) := by decide +kernel
theorem d9_24 : decode jdk_65_method_123_code 24 = .ok (.iload_n 1, 1) := by decide +kernel
theorem d9_25 : decode jdk_65_method_123_code 25 = .ok (.invokestatic 304, 3) := by decide +kernel
theorem d9_28 : decode jdk_65_method_123_code 28 = .ok (.invokestatic 150, 3) := by decide +kernel
theorem d9_31 : decode jdk_65_method_123_code 31 = .ok (.aload_n 2, 1) := by decide +kernel
theorem d9_32 : decode jdk_65_method_123_code 32 = .ok (.areturn, 1) := by decide +kernel
theorem pn_9 : plainFor (⟨"java/util/Arrays", "copyOf", "([II)[I"⟩ : MethodName) = true := plainFor_of_name (by first | (simp [plainName, overriddenIn]; done) | decide +kernel)
theorem ef_9 (m : MethodId) (x0 : Addr) (x1 : Int32) : entryFrame m #[(.ref x0), (.int x1)] 3 = mkF m 0 #[.val (.ref x0), .val (.int x1), .unset] [] := by first | (simp [entryFrame, mkF, argsToLocals, Value.category, maxLocals]; done) | rfl
def Q9 (Z : State) (d : Addr) (x : Int32) (cp : Nat) (m2 : Nat) (f : Nat → Int32) (h0 : Heap) (n0 : Nat) (v : Option Value) (h : Heap) (L : List Loc) : Prop := v = some (.ref h0.size) ∧ Fr n0 L ∧ Keep h0 h [] ∧ OwnIA Z h h0.size m2 (fun i => if i < cp then f i else 0)
set_option maxRecDepth 65536 in
set_option maxHeartbeats 40000000 in
theorem rm9 (l : Launch) (Z : State) (a0 : Array Value) (hw : ∀ d ∈ tables_1, d.before a0 Z = true) (ws : List Jvm.Cond) (d : Addr) (x : Int32) (cp : Nat) (m2 : Nat) (f : Nat → Int32) (h0 : Heap) (n0 : Nat) (Z0 : n0 ≤ h0.size) (V_d : OwnIA Z h0 d cp f) (hx2 : x.toInt = (m2 : Int)) (hl : cp < m2) (h4 : m2 ≤ 4) :
    MetFree l (⟨"java/util/Arrays", "copyOf", "([II)[I"⟩ : MethodName) (head1 (Jvm.Cond.code (⟨"java/util/Arrays", "copyOf", "([II)[I"⟩ : MethodName) jdk_65_method_123_code 3 (some (.array .int)) :: ws) ({ frames := 1, cells := 1, slots := 4, locals := 60 } : Room)) (fun arr' U => arr' = #[(.ref d), (.int x)] ∧ Z.Warmed39 U.vm ∧ U.heap = h0) (fun _ _ _ _ _ => True) (fun _ U o U' => ∃ v L, o = .returned v ∧ (Q9 Z d x cp m2 f h0 n0) v U'.heap L ∧ FrameEnd U o U' L ({ frames := 1, cells := 1, slots := 4, locals := 60 } : Room).cells ({ frames := 1, cells := 1, slots := 4, locals := 60 } : Room).slots) := by
  refine MetFree.of_bodySF pn_9 hisR ?_
  intro p e s m args below meth c s₁ Bd hml0 hP hK
  obtain ⟨rfl, hZ, hh⟩ := hP
  have hx := Bd.exec
  have hby := Bd.bytes
  have hlk : meth.locks = false := BodyLoose.notSynchronized Bd
  have hml : c.maxLocals = 3 := hml0
  have hown : s.vm.findClass "java/util/Arrays" = some m.cls := findClass_of_methodNamed Bd.named
  have hnm := (name_of_methodNamed Bd.named Bd.method).1
  have X0 : Stand p l e ({ frames := 1, cells := 1, slots := 4, locals := 60 } : Room) s m #[(.ref d), (.int x)] below meth c s₁ [] 0 0 := Stand.of_body Bd
  have e0 : s₁.heap = h0 := by rw [← hh, Bd.state]; rfl
  have N := Fr.nil n0
  have Zs := Z0
  change OwnGo p.tables e below (OwnEnd s (Q9 Z d x cp m2 f h0 n0) ({ frames := 1, cells := 1, slots := 4, locals := 60 } : Room).cells ({ frames := 1, cells := 1, slots := 4, locals := 60 } : Room).slots) _
  refine OwnGo.fwd (fun tq' kq' => castTop (ef_9 m d x) kq') ?_
  show OwnGo _ _ _ _ (s₁.setTop (mkF m 0 #[.val (.ref d), .val (.int x), .unset] []))
  have hc_cp : (Int32.ofNat cp).toInt = (cp : Int) := own_ofNat (by omega)
  have K : Keep h0 h0 [] := Keep.refl _ _
  refine OwnGo.fwd (fun tq' kq' => XS.iloadN X0.here hx rfl (hb hby d9_0) rfl kq') ?_
  show OwnGo _ _ _ _ (s₁.setTop (mkF m 1 #[.val (.ref d), .val (.int x), .unset] [(.int x)]))
  refine OwnGo.fwd (fun tq' kq' => XS.aloadN X0.here hx rfl (hb hby d9_1) rfl rfl kq') ?_
  show OwnGo _ _ _ _ (s₁.setTop (mkF m 2 #[.val (.ref d), .val (.int x), .unset] [(.ref d), (.int x)]))
  refine OwnGo.fwd (fun tq' kq' => own_len X0 hx hZ e0 V_d (g := (mkF m 2 #[.val (.ref d), .val (.int x), .unset] [(.ref d), (.int x)])) rfl rfl (hb hby d9_2) tq' kq') ?_
  show OwnGo _ _ _ _ (s₁.setTop (mkF m 3 #[.val (.ref d), .val (.int x), .unset] [(.int (Int32.ofNat cp)), (.int x)]))
  have hc3_1 : ¬ ((m2 : Int) = (cp : Int)) := by omega
  refine OwnGo.fwd (fun tq' kq' => XS.icmpYes X0.here hx rfl (pc0 := 3) (pc' := 14) rfl (hb hby d9_3) rfl (own_bneq hx2 hc_cp hc3_1).2 (by decide) (by decide) kq') ?_
  show OwnGo _ _ _ _ (s₁.setTop (mkF m 14 #[.val (.ref d), .val (.int x), .unset] []))
  refine OwnGo.fwd (fun tq' kq' => XS.iloadN X0.here hx rfl (hb hby d9_14) rfl kq') ?_
  show OwnGo _ _ _ _ (s₁.setTop (mkF m 15 #[.val (.ref d), .val (.int x), .unset] [(.int x)]))
  obtain ⟨T2, h2, b2, X2, e2, E2, g2, V2, st2⟩ := own_newI X0 hx hZ (hw _ (List.mem_of_getElem? (i := 13) rfl)) e0 (g := (mkF m 15 #[.val (.ref d), .val (.int x), .unset] [(.int x)])) rfl (hb hby d9_15) rfl (i := m2) hx2 (cap := 4) h4 (by decide) (by decide) (by decide)
  have ne_d_b2 : d ≠ b2 := Nat.ne_of_lt (Nat.lt_of_lt_of_le V_d.lt (Nat.le_of_eq g2.symm))
  have g_b2 : n0 ≤ b2 := Nat.le_trans Zs (Nat.le_of_eq g2.symm)
  have sz_b2 : h0.size ≤ b2 := Nat.le_trans K.1 (Nat.le_of_eq g2.symm)
  have K := K.ext E2
  have Zs := Nat.le_trans Zs E2.1
  have V_d := V_d.ext E2
  have V_b2 := V2
  refine OwnGo.fwd st2 ?_
  show OwnGo _ _ _ _ (T2.setTop (mkF m 17 #[.val (.ref d), .val (.int x), .unset] [(.ref b2)]))
  refine OwnGo.fwd (fun tq' kq' => XS.astoreN X2.here hx rfl (hb hby d9_17) rfl rfl (l' := #[.val (.ref d), .val (.int x), .val (.ref b2)]) rfl kq') ?_
  show OwnGo _ _ _ _ (T2.setTop (mkF m 18 #[.val (.ref d), .val (.int x), .val (.ref b2)] []))
  refine OwnGo.fwd (fun tq' kq' => XS.aloadN X2.here hx rfl (hb hby d9_18) rfl rfl kq') ?_
  show OwnGo _ _ _ _ (T2.setTop (mkF m 19 #[.val (.ref d), .val (.int x), .val (.ref b2)] [(.ref d)]))
  refine OwnGo.fwd (fun tq' kq' => XS.iconst X2.here hx rfl (hb hby d9_19) kq') ?_
  show OwnGo _ _ _ _ (T2.setTop (mkF m 20 #[.val (.ref d), .val (.int x), .val (.ref b2)] [(.int (0 : Int32)), (.ref d)]))
  refine OwnGo.fwd (fun tq' kq' => XS.aloadN X2.here hx rfl (hb hby d9_20) rfl rfl kq') ?_
  show OwnGo _ _ _ _ (T2.setTop (mkF m 21 #[.val (.ref d), .val (.int x), .val (.ref b2)] [(.ref b2), (.int (0 : Int32)), (.ref d)]))
  refine OwnGo.fwd (fun tq' kq' => XS.iconst X2.here hx rfl (hb hby d9_21) kq') ?_
  show OwnGo _ _ _ _ (T2.setTop (mkF m 22 #[.val (.ref d), .val (.int x), .val (.ref b2)] [(.int (0 : Int32)), (.ref b2), (.int (0 : Int32)), (.ref d)]))
  refine OwnGo.fwd (fun tq' kq' => XS.aloadN X2.here hx rfl (hb hby d9_22) rfl rfl kq') ?_
  show OwnGo _ _ _ _ (T2.setTop (mkF m 23 #[.val (.ref d), .val (.int x), .val (.ref b2)] [(.ref d), (.int (0 : Int32)), (.ref b2), (.int (0 : Int32)), (.ref d)]))
  refine OwnGo.fwd (fun tq' kq' => own_len X2 hx hZ e2 V_d (g := (mkF m 23 #[.val (.ref d), .val (.int x), .val (.ref b2)] [(.ref d), (.int (0 : Int32)), (.ref b2), (.int (0 : Int32)), (.ref d)])) rfl rfl (hb hby d9_23) tq' kq') ?_
  show OwnGo _ _ _ _ (T2.setTop (mkF m 24 #[.val (.ref d), .val (.int x), .val (.ref b2)] [(.int (Int32.ofNat cp)), (.int (0 : Int32)), (.ref b2), (.int (0 : Int32)), (.ref d)]))
  refine OwnGo.fwd (fun tq' kq' => XS.iloadN X2.here hx rfl (hb hby d9_24) rfl kq') ?_
  show OwnGo _ _ _ _ (T2.setTop (mkF m 25 #[.val (.ref d), .val (.int x), .val (.ref b2)] [(.int x), (.int (Int32.ofNat cp)), (.int (0 : Int32)), (.ref b2), (.int (0 : Int32)), (.ref d)]))
  obtain ⟨_, _, ⟨T3, L3, k3, n3⟩, -, X3, ⟨Lc3, hQ3, l3, y3, z3⟩, st3⟩ := Jvm.LawKit.callS X2 hx (y := (⟨"java/lang/Math", "min", "(II)I"⟩ : MethodName)) hown (mvT hZ (hw _ (List.mem_of_getElem? (i := 51) rfl))) (mvT hZ (hw _ (List.mem_of_getElem? (i := 52) rfl))) (mvT hZ (hw _ (List.mem_of_getElem? (i := 11) rfl))) (mvT hZ (hw _ (List.mem_of_getElem? (i := 53) rfl))) (by decide) (backOf (W := 4) (rm10 l Z a0 hw [] (Int32.ofNat cp) x h2 n0 Zs) hZ (hw _ (List.mem_of_getElem? (i := 53) rfl)) (hw _ (List.mem_of_getElem? (i := 11) rfl)) (by decide) (by decide)) (g := (mkF m 25 #[.val (.ref d), .val (.int x), .val (.ref b2)] [(.int x), (.int (Int32.ofNat cp)), (.int (0 : Int32)), (.ref b2), (.int (0 : Int32)), (.ref d)])) rfl (by rw [hml]; rfl) (argsL := [(.int (Int32.ofNat cp)), (.int x)]) (rest := [(.int (0 : Int32)), (.ref b2), (.int (0 : Int32)), (.ref d)]) (lenOf pd_2 rfl) rfl (by show 2 * 0 + _ ≤ _; exact Nat.le_of_eq rfl) (hb hby d9_25) (fun _ _ => ⟨rfl, e2, (by decide : 1 + 0 ≤ _), (by decide : 4 + 0 ≤ _)⟩)
  dsimp only [Pt.U, Pt.locs, Pt.cells, Pt.slots] at X3 l3 y3 z3 st3 hQ3
  subst l3 y3 z3
  obtain ⟨rfl, N3q, e3⟩ := hQ3
  have N := Fr.app N N3q
  refine OwnGo.fwd st3 ?_
  show OwnGo _ _ _ _ (T3.setTop (mkF m 28 #[.val (.ref d), .val (.int x), .val (.ref b2)] [(.int (own_min (Int32.ofNat cp) x)), (.int (0 : Int32)), (.ref b2), (.int (0 : Int32)), (.ref d)]))
  obtain ⟨mi, hv_mi⟩ : ∃ q : Int32, q = (own_min (Int32.ofNat cp) x) := ⟨_, rfl⟩
  rw [← hv_mi]
  show OwnGo _ _ _ _ (T3.setTop (mkF m 28 #[.val (.ref d), .val (.int x), .val (.ref b2)] [(.int mi), (.int (0 : Int32)), (.ref b2), (.int (0 : Int32)), (.ref d)]))
  have hmin : mi.toInt = (cp : Int) := by rw [hv_mi]; unfold own_min; rw [if_neg (by rw [hx2, hc_cp]; omega)]; exact hc_cp
  obtain ⟨T4, h4, L4, X4, e4, N4, K4, V4, st4⟩ := own_cpI X3 hx hZ hown (hw _ (List.mem_of_getElem? (i := 54) rfl)) (hw _ (List.mem_of_getElem? (i := 57) rfl)) (hw _ (List.mem_of_getElem? (i := 55) rfl)) (hw _ (List.mem_of_getElem? (i := 56) rfl)) e3 V_d V_b2 (q := cp) hmin (Nat.le_refl _) (by omega) N g_b2 (g := (mkF m 28 #[.val (.ref d), .val (.int x), .val (.ref b2)] [(.int mi), (.int (0 : Int32)), (.ref b2), (.int (0 : Int32)), (.ref d)])) rfl (by rw [hml]; rfl) rfl (hb hby d9_28) (by decide) (W := 0) (by show 2 * 0 + _ ≤ _; exact Nat.le_of_eq rfl) (by decide)
  have N := N4
  have Zs := Nat.le_trans Zs K4.1
  have V_d := V_d.keep K4 (ninS ne_d_b2 nin0)
  have K := K.trans K4 (allS (Or.inr sz_b2) all0)
  have V_b2 := V4
  refine OwnGo.fwd st4 ?_
  show OwnGo _ _ _ _ (T4.setTop (mkF m 31 #[.val (.ref d), .val (.int x), .val (.ref b2)] []))
  refine OwnGo.fwd (fun tq' kq' => XS.aloadN X4.here hx rfl (hb hby d9_31) rfl rfl kq') ?_
  show OwnGo _ _ _ _ (T4.setTop (mkF m 32 #[.val (.ref d), .val (.int x), .val (.ref b2)] [(.ref b2)]))
  exact own_retA X4 hlk hx Bd.returns rfl rfl (hb hby d9_32) (by decide) (by decide) e4 ⟨by rw [g2], N, K, g2 ▸ V_b2⟩
theorem d1_0 : decode prog_33_method_2_code 0 = .ok (.aload_n 0, 1) := by decide +kernel
theorem d1_1 : decode prog_33_method_2_code 1 = .ok (.invokespecial 7, 3) := by decide +kernel
theorem d1_4 : decode prog_33_method_2_code 4 = .ok (.aload_n 0, 1) := by decide +kernel
theorem d1_5 : decode prog_33_method_2_code 5 = .ok (.iload_n 1, 1) := by decide +kernel
theorem d1_6 : decode prog_33_method_2_code 6 = .ok (.iconst 1, 1) := by decide +kernel
theorem d1_7 : decode prog_33_method_2_code 7 = .ok (.invokestatic 12, 3) := by decide +kernel
theorem d1_10 : decode prog_33_method_2_code 10 = .ok (.newarray .int, 2) := by decide +kernel
theorem d1_12 : decode prog_33_method_2_code 12 = .ok (.putfield 18, 3) := by decide +kernel
theorem d1_15 : decode prog_33_method_2_code 15 = .ok (.aload_n 0, 1) := by decide +kernel
theorem d1_16 : decode prog_33_method_2_code 16 = .ok (.aload_n 0, 1) := by decide +kernel
theorem d1_17 : decode prog_33_method_2_code 17 = .ok (.getfield 18, 3) := by decide +kernel
theorem d1_20 : decode prog_33_method_2_code 20 = .ok (.arraylength, 1) := by decide +kernel
theorem d1_21 : decode prog_33_method_2_code 21 = .ok (.newarray .int, 2) := by decide +kernel
theorem d1_23 : decode prog_33_method_2_code 23 = .ok (.putfield 22, 3) := by decide +kernel
theorem d1_26 : decode prog_33_method_2_code 26 = .ok (.return_, 1) := by decide +kernel
theorem pn_1 : plainFor (⟨"com/example/inverse_frequency/inversefrequency/Postings", "<init>", "(I)V"⟩ : MethodName) = true := plainFor_of_name (by first | (simp [plainName, overriddenIn]; done) | decide +kernel)
theorem ef_1 (m : MethodId) (x0 : Addr) (x1 : Int32) : entryFrame m #[(.ref x0), (.int x1)] 2 = mkF m 0 #[.val (.ref x0), .val (.int x1)] [] := by first | (simp [entryFrame, mkF, argsToLocals, Value.category, maxLocals]; done) | rfl
def Q1 (Z : State) (a : Addr) (x : Int32) (h0 : Heap) (n0 : Nat) (v : Option Value) (h : Heap) (L : List Loc) : Prop := v = none ∧ Fr n0 L ∧ Keep h0 h [a] ∧ ∃ da fa cp, 1 ≤ cp ∧ cp ≤ 4 ∧ h0.size ≤ da ∧ h0.size ≤ fa ∧ own_P Z h n0 a da fa 0 0 cp (fun _ => 0) (fun _ => 0)
set_option maxRecDepth 65536 in
set_option maxHeartbeats 40000000 in
theorem rm1 (l : Launch) (Z : State) (a0 : Array Value) (hw : ∀ d ∈ tables_1, d.before a0 Z = true) (ws : List Jvm.Cond) (a : Addr) (x : Int32) (h0 : Heap) (n0 : Nat) (Z0 : n0 ≤ h0.size) (E_a : Exa Z h0 a "com/example/inverse_frequency/inversefrequency/Postings") (F_documents_a : Fld Z h0 a "com/example/inverse_frequency/inversefrequency/Postings" "documents" "[I" .null) (F_frequencies_a : Fld Z h0 a "com/example/inverse_frequency/inversefrequency/Postings" "frequencies" "[I" .null) (F_size_a : Fld Z h0 a "com/example/inverse_frequency/inversefrequency/Postings" "size" "I" (.int 0)) (F_totalFrequency_a : Fld Z h0 a "com/example/inverse_frequency/inversefrequency/Postings" "totalFrequency" "J" (.long 0)) (g_a : n0 ≤ a) (hx4 : x.toInt ≤ 4) :
    MetFree l (⟨"com/example/inverse_frequency/inversefrequency/Postings", "<init>", "(I)V"⟩ : MethodName) (head1 (Jvm.Cond.code (⟨"com/example/inverse_frequency/inversefrequency/Postings", "<init>", "(I)V"⟩ : MethodName) prog_33_method_2_code 2 none :: ws) ({ frames := 1, cells := 2, slots := 8, locals := 20 } : Room)) (fun arr' U => arr' = #[(.ref a), (.int x)] ∧ Z.Warmed39 U.vm ∧ U.heap = h0) (fun _ _ _ _ _ => True) (fun _ U o U' => ∃ v L, o = .returned v ∧ (Q1 Z a x h0 n0) v U'.heap L ∧ FrameEnd U o U' L ({ frames := 1, cells := 2, slots := 8, locals := 20 } : Room).cells ({ frames := 1, cells := 2, slots := 8, locals := 20 } : Room).slots) := by
  refine MetFree.of_bodySF pn_1 hisR ?_
  intro p e s m args below meth c s₁ Bd hml0 hP hK
  obtain ⟨rfl, hZ, hh⟩ := hP
  have hx := Bd.exec
  have hby := Bd.bytes
  have hlk : meth.locks = false := BodyLoose.notSynchronized Bd
  have hml : c.maxLocals = 2 := hml0
  have hown : s.vm.findClass "com/example/inverse_frequency/inversefrequency/Postings" = some m.cls := findClass_of_methodNamed Bd.named
  have hnm := (name_of_methodNamed Bd.named Bd.method).1
  have X0 : Stand p l e ({ frames := 1, cells := 2, slots := 8, locals := 20 } : Room) s m #[(.ref a), (.int x)] below meth c s₁ [] 0 0 := Stand.of_body Bd
  have e0 : s₁.heap = h0 := by rw [← hh, Bd.state]; rfl
  have N := Fr.nil n0
  have Zs := Z0
  change OwnGo p.tables e below (OwnEnd s (Q1 Z a x h0 n0) ({ frames := 1, cells := 2, slots := 8, locals := 20 } : Room).cells ({ frames := 1, cells := 2, slots := 8, locals := 20 } : Room).slots) _
  refine OwnGo.fwd (fun tq' kq' => castTop (ef_1 m a x) kq') ?_
  show OwnGo _ _ _ _ (s₁.setTop (mkF m 0 #[.val (.ref a), .val (.int x)] []))
  have K : Keep h0 h0 [a] := Keep.refl _ _
  refine OwnGo.fwd (fun tq' kq' => XS.aloadN X0.here hx rfl (hb hby d1_0) rfl rfl kq') ?_
  show OwnGo _ _ _ _ (s₁.setTop (mkF m 1 #[.val (.ref a), .val (.int x)] [(.ref a)]))
  obtain ⟨T1, X1, e1, st1⟩ := initO X0 hx hZ hown (hw _ (List.mem_of_getElem? (i := 6) rfl)) (hw _ (List.mem_of_getElem? (i := 7) rfl)) (hw _ (List.mem_of_getElem? (i := 8) rfl)) e0 (g := (mkF m 1 #[.val (.ref a), .val (.int x)] [(.ref a)])) rfl (by rw [hml]; rfl) rfl (hb hby d1_1) (by decide) (W := 0) (by show 2 * 0 + _ ≤ _; exact Nat.le_of_eq rfl) (by decide)
  refine OwnGo.fwd st1 ?_
  show OwnGo _ _ _ _ (T1.setTop (mkF m 4 #[.val (.ref a), .val (.int x)] []))
  refine OwnGo.fwd (fun tq' kq' => XS.aloadN X1.here hx rfl (hb hby d1_4) rfl rfl kq') ?_
  show OwnGo _ _ _ _ (T1.setTop (mkF m 5 #[.val (.ref a), .val (.int x)] [(.ref a)]))
  refine OwnGo.fwd (fun tq' kq' => XS.iloadN X1.here hx rfl (hb hby d1_5) rfl kq') ?_
  show OwnGo _ _ _ _ (T1.setTop (mkF m 6 #[.val (.ref a), .val (.int x)] [(.int x), (.ref a)]))
  refine OwnGo.fwd (fun tq' kq' => XS.iconst X1.here hx rfl (hb hby d1_6) kq') ?_
  show OwnGo _ _ _ _ (T1.setTop (mkF m 7 #[.val (.ref a), .val (.int x)] [(.int (1 : Int32)), (.int x), (.ref a)]))
  obtain ⟨_, _, ⟨T2, L2, k2, n2⟩, -, X2, ⟨Lc2, hQ2, l2, y2, z2⟩, st2⟩ := Jvm.LawKit.callS X1 hx (y := (⟨"java/lang/Math", "max", "(II)I"⟩ : MethodName)) hown (mvT hZ (hw _ (List.mem_of_getElem? (i := 9) rfl))) (mvT hZ (hw _ (List.mem_of_getElem? (i := 10) rfl))) (mvT hZ (hw _ (List.mem_of_getElem? (i := 11) rfl))) (mvT hZ (hw _ (List.mem_of_getElem? (i := 12) rfl))) (by decide) (backOf (W := 1) (rm3 l Z a0 hw [] x (1 : Int32) h0 n0 Zs) hZ (hw _ (List.mem_of_getElem? (i := 12) rfl)) (hw _ (List.mem_of_getElem? (i := 11) rfl)) (by decide) (by decide)) (g := (mkF m 7 #[.val (.ref a), .val (.int x)] [(.int (1 : Int32)), (.int x), (.ref a)])) rfl (by rw [hml]; rfl) (argsL := [(.int x), (.int (1 : Int32))]) (rest := [(.ref a)]) (lenOf pd_2 rfl) rfl (by show 2 * 0 + _ ≤ _; exact Nat.le_of_eq rfl) (hb hby d1_7) (fun _ _ => ⟨rfl, e1, (by decide : 0 + 0 ≤ _), (by decide : 0 + 0 ≤ _)⟩)
  dsimp only [Pt.U, Pt.locs, Pt.cells, Pt.slots] at X2 l2 y2 z2 st2 hQ2
  subst l2 y2 z2
  obtain ⟨rfl, N2q, e2⟩ := hQ2
  have N := Fr.app N N2q
  refine OwnGo.fwd st2 ?_
  show OwnGo _ _ _ _ (T2.setTop (mkF m 10 #[.val (.ref a), .val (.int x)] [(.int (own_max x (1 : Int32))), (.ref a)]))
  obtain ⟨mx, hv_mx⟩ : ∃ q : Int32, q = (own_max x (1 : Int32)) := ⟨_, rfl⟩
  rw [← hv_mx]
  show OwnGo _ _ _ _ (T2.setTop (mkF m 10 #[.val (.ref a), .val (.int x)] [(.int mx), (.ref a)]))
  have hmx : 1 ≤ mx.toInt ∧ mx.toInt ≤ 4 := by
    have e1 : (1 : Int32).toInt = 1 := by decide
    rw [hv_mx]; unfold own_max; split <;> omega
  obtain ⟨cp, hcp⟩ : ∃ i : Nat, mx.toInt = i := ⟨mx.toInt.toNat, by omega⟩
  have hc_cp : (Int32.ofNat cp).toInt = (cp : Int) := own_ofNat (by omega)
  obtain ⟨T3, h3, b3, X3, e3, E3, g3, V3, st3⟩ := own_newI X2 hx hZ (hw _ (List.mem_of_getElem? (i := 13) rfl)) e2 (g := (mkF m 10 #[.val (.ref a), .val (.int x)] [(.int mx), (.ref a)])) rfl (hb hby d1_10) rfl (i := cp) hcp (cap := 4) (by omega) (by decide) (by decide) (by decide)
  have ne_a_b3 : a ≠ b3 := Nat.ne_of_lt (Nat.lt_of_lt_of_le E_a.lt (Nat.le_of_eq g3.symm))
  have g_b3 : n0 ≤ b3 := Nat.le_trans Zs (Nat.le_of_eq g3.symm)
  have sz_b3 : h0.size ≤ b3 := Nat.le_trans K.1 (Nat.le_of_eq g3.symm)
  have K := K.ext E3
  have Zs := Nat.le_trans Zs E3.1
  have E_a := E_a.ext E3
  have F_documents_a := F_documents_a.ext E3
  have F_frequencies_a := F_frequencies_a.ext E3
  have F_size_a := F_size_a.ext E3
  have F_totalFrequency_a := F_totalFrequency_a.ext E3
  have V_b3 := V3
  refine OwnGo.fwd st3 ?_
  show OwnGo _ _ _ _ (T3.setTop (mkF m 12 #[.val (.ref a), .val (.int x)] [(.ref b3), (.ref a)]))
  obtain ⟨T4, h4, X4, e4, W4, st4⟩ := putF X3 hx hZ hown (host := "") (Or.inl (hw _ (List.mem_of_getElem? (i := 14) rfl))) Via.refl e3 F_documents_a E_a (Or.inl (hw _ (List.mem_of_getElem? (i := 15) rfl))) (hw _ (List.mem_of_getElem? (i := 1) rfl)) (ty := (.array .int)) (by decide) rfl rfl (g := (mkF m 12 #[.val (.ref a), .val (.int x)] [(.ref b3), (.ref a)])) rfl rfl (hb hby d1_12)
  have E_a := E_a.wr W4
  have F_documents_a := F_documents_a.same W4
  have F_frequencies_a := F_frequencies_a.other W4 (Or.inr (slot_ne (Or.inl (hw _ (List.mem_of_getElem? (i := 17) rfl))) (Or.inl (hw _ (List.mem_of_getElem? (i := 15) rfl))) (by decide) (t := (.array .int)) (t' := (.array .int)) (by decide) (by decide)))
  have F_size_a := F_size_a.other W4 (Or.inr (slot_ne (Or.inl (hw _ (List.mem_of_getElem? (i := 24) rfl))) (Or.inl (hw _ (List.mem_of_getElem? (i := 15) rfl))) (by decide) (t := .int) (t' := (.array .int)) (by decide) (by decide)))
  have F_totalFrequency_a := F_totalFrequency_a.other W4 (Or.inr (slot_ne (Or.inl (hw _ (List.mem_of_getElem? (i := 31) rfl))) (Or.inl (hw _ (List.mem_of_getElem? (i := 15) rfl))) (by decide) (t := .long) (t' := (.array .int)) (by decide) (by decide)))
  have V_b3 := V_b3.other W4 (Ne.symm ne_a_b3)
  have K := K.wr W4 (Or.inl (List.mem_of_getElem? (i := 0) rfl))
  have Zs := Nat.le_trans Zs (Keep.of_wr W4).1
  have N := Fr.snoc X4 N g_a
  refine OwnGo.fwd st4 ?_
  show OwnGo _ _ _ _ (T4.setTop (mkF m 15 #[.val (.ref a), .val (.int x)] []))
  refine OwnGo.fwd (fun tq' kq' => XS.aloadN X4.here hx rfl (hb hby d1_15) rfl rfl kq') ?_
  show OwnGo _ _ _ _ (T4.setTop (mkF m 16 #[.val (.ref a), .val (.int x)] [(.ref a)]))
  refine OwnGo.fwd (fun tq' kq' => XS.aloadN X4.here hx rfl (hb hby d1_16) rfl rfl kq') ?_
  show OwnGo _ _ _ _ (T4.setTop (mkF m 17 #[.val (.ref a), .val (.int x)] [(.ref a), (.ref a)]))
  obtain ⟨T5, X5, e5, st5⟩ := getF X4 hx hZ hown (host := "") (Or.inl (hw _ (List.mem_of_getElem? (i := 14) rfl))) Via.refl e4 F_documents_a (g := (mkF m 17 #[.val (.ref a), .val (.int x)] [(.ref a), (.ref a)])) rfl rfl (hb hby d1_17)
  refine OwnGo.fwd st5 ?_
  show OwnGo _ _ _ _ (T5.setTop (mkF m 20 #[.val (.ref a), .val (.int x)] [(.ref b3), (.ref a)]))
  refine OwnGo.fwd (fun tq' kq' => own_len X5 hx hZ e5 V_b3 (g := (mkF m 20 #[.val (.ref a), .val (.int x)] [(.ref b3), (.ref a)])) rfl rfl (hb hby d1_20) tq' kq') ?_
  show OwnGo _ _ _ _ (T5.setTop (mkF m 21 #[.val (.ref a), .val (.int x)] [(.int (Int32.ofNat cp)), (.ref a)]))
  obtain ⟨T6, h6, b6, X6, e6, E6, g6, V6, st6⟩ := own_newI X5 hx hZ (hw _ (List.mem_of_getElem? (i := 13) rfl)) e5 (g := (mkF m 21 #[.val (.ref a), .val (.int x)] [(.int (Int32.ofNat cp)), (.ref a)])) rfl (hb hby d1_21) rfl (i := cp) hc_cp (cap := 4) (by omega) (by decide) (by decide) (by decide)
  have ne_a_b6 : a ≠ b6 := Nat.ne_of_lt (Nat.lt_of_lt_of_le E_a.lt (Nat.le_of_eq g6.symm))
  have ne_b3_b6 : b3 ≠ b6 := Nat.ne_of_lt (Nat.lt_of_lt_of_le V_b3.lt (Nat.le_of_eq g6.symm))
  have g_b6 : n0 ≤ b6 := Nat.le_trans Zs (Nat.le_of_eq g6.symm)
  have sz_b6 : h0.size ≤ b6 := Nat.le_trans K.1 (Nat.le_of_eq g6.symm)
  have K := K.ext E6
  have Zs := Nat.le_trans Zs E6.1
  have E_a := E_a.ext E6
  have F_documents_a := F_documents_a.ext E6
  have F_frequencies_a := F_frequencies_a.ext E6
  have F_size_a := F_size_a.ext E6
  have F_totalFrequency_a := F_totalFrequency_a.ext E6
  have V_b3 := V_b3.ext E6
  have V_b6 := V6
  refine OwnGo.fwd st6 ?_
  show OwnGo _ _ _ _ (T6.setTop (mkF m 23 #[.val (.ref a), .val (.int x)] [(.ref b6), (.ref a)]))
  obtain ⟨T7, h7, X7, e7, W7, st7⟩ := putF X6 hx hZ hown (host := "") (Or.inl (hw _ (List.mem_of_getElem? (i := 16) rfl))) Via.refl e6 F_frequencies_a E_a (Or.inl (hw _ (List.mem_of_getElem? (i := 17) rfl))) (hw _ (List.mem_of_getElem? (i := 1) rfl)) (ty := (.array .int)) (by decide) rfl rfl (g := (mkF m 23 #[.val (.ref a), .val (.int x)] [(.ref b6), (.ref a)])) rfl rfl (hb hby d1_23)
  have E_a := E_a.wr W7
  have F_documents_a := F_documents_a.other W7 (Or.inr (slot_ne (Or.inl (hw _ (List.mem_of_getElem? (i := 15) rfl))) (Or.inl (hw _ (List.mem_of_getElem? (i := 17) rfl))) (by decide) (t := (.array .int)) (t' := (.array .int)) (by decide) (by decide)))
  have F_frequencies_a := F_frequencies_a.same W7
  have F_size_a := F_size_a.other W7 (Or.inr (slot_ne (Or.inl (hw _ (List.mem_of_getElem? (i := 24) rfl))) (Or.inl (hw _ (List.mem_of_getElem? (i := 17) rfl))) (by decide) (t := .int) (t' := (.array .int)) (by decide) (by decide)))
  have F_totalFrequency_a := F_totalFrequency_a.other W7 (Or.inr (slot_ne (Or.inl (hw _ (List.mem_of_getElem? (i := 31) rfl))) (Or.inl (hw _ (List.mem_of_getElem? (i := 17) rfl))) (by decide) (t := .long) (t' := (.array .int)) (by decide) (by decide)))
  have V_b3 := V_b3.other W7 (Ne.symm ne_a_b3)
  have V_b6 := V_b6.other W7 (Ne.symm ne_a_b6)
  have K := K.wr W7 (Or.inl (List.mem_of_getElem? (i := 0) rfl))
  have Zs := Nat.le_trans Zs (Keep.of_wr W7).1
  have N := Fr.snoc X7 N g_a
  refine OwnGo.fwd st7 ?_
  show OwnGo _ _ _ _ (T7.setTop (mkF m 26 #[.val (.ref a), .val (.int x)] []))
  exact own_retV X7 hlk hx Bd.returns (hb hby d1_26) (by decide) (by decide) e7 ⟨rfl, N, K, b3, b6, cp, by omega, by omega, sz_b3, sz_b6, E_a, F_documents_a, F_frequencies_a, F_size_a, F_totalFrequency_a, V_b3, V_b6, ne_a_b3, ne_a_b6, ne_b3_b6, g_a, g_b3, g_b6⟩
theorem d4_0 : decode prog_33_method_4_code 0 = .ok (.aload_n 0, 1) := by decide +kernel
theorem d4_1 : decode prog_33_method_4_code 1 = .ok (.getfield 25, 3) := by decide +kernel
theorem d4_4 : decode prog_33_method_4_code 4 = .ok (.ireturn, 1) := by decide +kernel
theorem pn_4 : plainFor (⟨"com/example/inverse_frequency/inversefrequency/Postings", "size", "()I"⟩ : MethodName) = true := plainFor_of_name (by first | (simp [plainName, overriddenIn]; done) | decide +kernel)
theorem ef_4 (m : MethodId) (x0 : Addr) : entryFrame m #[(.ref x0)] 1 = mkF m 0 #[.val (.ref x0)] [] := by first | (simp [entryFrame, mkF, argsToLocals, Value.category, maxLocals]; done) | rfl
def Q4 (Z : State) (a : Addr) (da : Addr) (fa : Addr) (n : Nat) (t : Int64) (cp : Nat) (f : Nat → Int32) (g : Nat → Int32) (h0 : Heap) (n0 : Nat) (v : Option Value) (h : Heap) (L : List Loc) : Prop := v = some (.int (Int32.ofNat n)) ∧ Fr n0 L ∧ h = h0
set_option maxRecDepth 65536 in
set_option maxHeartbeats 40000000 in
theorem rm4 (l : Launch) (Z : State) (a0 : Array Value) (hw : ∀ d ∈ tables_1, d.before a0 Z = true) (ws : List Jvm.Cond) (a : Addr) (da : Addr) (fa : Addr) (n : Nat) (t : Int64) (cp : Nat) (f : Nat → Int32) (g : Nat → Int32) (h0 : Heap) (n0 : Nat) (Z0 : n0 ≤ h0.size) (HA : own_P Z h0 n0 a da fa n t cp f g) :
    MetFree l (⟨"com/example/inverse_frequency/inversefrequency/Postings", "size", "()I"⟩ : MethodName) (head1 (Jvm.Cond.code (⟨"com/example/inverse_frequency/inversefrequency/Postings", "size", "()I"⟩ : MethodName) prog_33_method_4_code 1 (some .int) :: ws) ({ frames := 0, cells := 0, slots := 0, locals := 0 } : Room)) (fun arr' U => arr' = #[(.ref a)] ∧ Z.Warmed39 U.vm ∧ U.heap = h0) (fun _ _ _ _ _ => True) (fun _ U o U' => ∃ v L, o = .returned v ∧ (Q4 Z a da fa n t cp f g h0 n0) v U'.heap L ∧ FrameEnd U o U' L ({ frames := 0, cells := 0, slots := 0, locals := 0 } : Room).cells ({ frames := 0, cells := 0, slots := 0, locals := 0 } : Room).slots) := by
  refine MetFree.of_bodySF pn_4 hisR ?_
  intro p e s m args below meth c s₁ Bd hml0 hP hK
  obtain ⟨rfl, hZ, hh⟩ := hP
  have hx := Bd.exec
  have hby := Bd.bytes
  have hlk : meth.locks = false := BodyLoose.notSynchronized Bd
  have hml : c.maxLocals = 1 := hml0
  have hown : s.vm.findClass "com/example/inverse_frequency/inversefrequency/Postings" = some m.cls := findClass_of_methodNamed Bd.named
  have hnm := (name_of_methodNamed Bd.named Bd.method).1
  have X0 : Stand p l e ({ frames := 0, cells := 0, slots := 0, locals := 0 } : Room) s m #[(.ref a)] below meth c s₁ [] 0 0 := Stand.of_body Bd
  have e0 : s₁.heap = h0 := by rw [← hh, Bd.state]; rfl
  have N := Fr.nil n0
  have Zs := Z0
  change OwnGo p.tables e below (OwnEnd s (Q4 Z a da fa n t cp f g h0 n0) ({ frames := 0, cells := 0, slots := 0, locals := 0 } : Room).cells ({ frames := 0, cells := 0, slots := 0, locals := 0 } : Room).slots) _
  refine OwnGo.fwd (fun tq' kq' => castTop (ef_4 m a) kq') ?_
  show OwnGo _ _ _ _ (s₁.setTop (mkF m 0 #[.val (.ref a)] []))
  obtain ⟨E_a, F_documents_a, F_frequencies_a, F_size_a, F_totalFrequency_a, V_da, V_fa, ne_a_da, ne_a_fa, ne_da_fa, g_a, g_da, g_fa⟩ := HA
  refine OwnGo.fwd (fun tq' kq' => XS.aloadN X0.here hx rfl (hb hby d4_0) rfl rfl kq') ?_
  show OwnGo _ _ _ _ (s₁.setTop (mkF m 1 #[.val (.ref a)] [(.ref a)]))
  obtain ⟨T1, X1, e1, st1⟩ := getF X0 hx hZ hown (host := "") (Or.inl (hw _ (List.mem_of_getElem? (i := 23) rfl))) Via.refl e0 F_size_a (g := (mkF m 1 #[.val (.ref a)] [(.ref a)])) rfl rfl (hb hby d4_1)
  refine OwnGo.fwd st1 ?_
  show OwnGo _ _ _ _ (T1.setTop (mkF m 4 #[.val (.ref a)] [(.int (Int32.ofNat n))]))
  exact own_retI X1 hlk hx Bd.returns (hb hby d4_4) (by decide) (by decide) e1 ⟨rfl, N, rfl⟩
theorem d5_0 : decode prog_33_method_5_code 0 = .ok (.aload_n 0, 1) := by decide +kernel
theorem d5_1 : decode prog_33_method_5_code 1 = .ok (.getfield 35, 3) := by decide +kernel
theorem d5_4 : decode prog_33_method_5_code 4 = .ok (.lreturn, 1) := by decide +kernel
theorem pn_5 : plainFor (⟨"com/example/inverse_frequency/inversefrequency/Postings", "totalFrequency", "()J"⟩ : MethodName) = true := plainFor_of_name (by first | (simp [plainName, overriddenIn]; done) | decide +kernel)
theorem ef_5 (m : MethodId) (x0 : Addr) : entryFrame m #[(.ref x0)] 1 = mkF m 0 #[.val (.ref x0)] [] := by first | (simp [entryFrame, mkF, argsToLocals, Value.category, maxLocals]; done) | rfl
def Q5 (Z : State) (a : Addr) (da : Addr) (fa : Addr) (n : Nat) (t : Int64) (cp : Nat) (f : Nat → Int32) (g : Nat → Int32) (h0 : Heap) (n0 : Nat) (v : Option Value) (h : Heap) (L : List Loc) : Prop := v = some (.long t) ∧ Fr n0 L ∧ h = h0
set_option maxRecDepth 65536 in
set_option maxHeartbeats 40000000 in
theorem rm5 (l : Launch) (Z : State) (a0 : Array Value) (hw : ∀ d ∈ tables_1, d.before a0 Z = true) (ws : List Jvm.Cond) (a : Addr) (da : Addr) (fa : Addr) (n : Nat) (t : Int64) (cp : Nat) (f : Nat → Int32) (g : Nat → Int32) (h0 : Heap) (n0 : Nat) (Z0 : n0 ≤ h0.size) (HA : own_P Z h0 n0 a da fa n t cp f g) :
    MetFree l (⟨"com/example/inverse_frequency/inversefrequency/Postings", "totalFrequency", "()J"⟩ : MethodName) (head1 (Jvm.Cond.code (⟨"com/example/inverse_frequency/inversefrequency/Postings", "totalFrequency", "()J"⟩ : MethodName) prog_33_method_5_code 1 (some .long) :: ws) ({ frames := 0, cells := 0, slots := 0, locals := 0 } : Room)) (fun arr' U => arr' = #[(.ref a)] ∧ Z.Warmed39 U.vm ∧ U.heap = h0) (fun _ _ _ _ _ => True) (fun _ U o U' => ∃ v L, o = .returned v ∧ (Q5 Z a da fa n t cp f g h0 n0) v U'.heap L ∧ FrameEnd U o U' L ({ frames := 0, cells := 0, slots := 0, locals := 0 } : Room).cells ({ frames := 0, cells := 0, slots := 0, locals := 0 } : Room).slots) := by
  refine MetFree.of_bodySF pn_5 hisR ?_
  intro p e s m args below meth c s₁ Bd hml0 hP hK
  obtain ⟨rfl, hZ, hh⟩ := hP
  have hx := Bd.exec
  have hby := Bd.bytes
  have hlk : meth.locks = false := BodyLoose.notSynchronized Bd
  have hml : c.maxLocals = 1 := hml0
  have hown : s.vm.findClass "com/example/inverse_frequency/inversefrequency/Postings" = some m.cls := findClass_of_methodNamed Bd.named
  have hnm := (name_of_methodNamed Bd.named Bd.method).1
  have X0 : Stand p l e ({ frames := 0, cells := 0, slots := 0, locals := 0 } : Room) s m #[(.ref a)] below meth c s₁ [] 0 0 := Stand.of_body Bd
  have e0 : s₁.heap = h0 := by rw [← hh, Bd.state]; rfl
  have N := Fr.nil n0
  have Zs := Z0
  change OwnGo p.tables e below (OwnEnd s (Q5 Z a da fa n t cp f g h0 n0) ({ frames := 0, cells := 0, slots := 0, locals := 0 } : Room).cells ({ frames := 0, cells := 0, slots := 0, locals := 0 } : Room).slots) _
  refine OwnGo.fwd (fun tq' kq' => castTop (ef_5 m a) kq') ?_
  show OwnGo _ _ _ _ (s₁.setTop (mkF m 0 #[.val (.ref a)] []))
  obtain ⟨E_a, F_documents_a, F_frequencies_a, F_size_a, F_totalFrequency_a, V_da, V_fa, ne_a_da, ne_a_fa, ne_da_fa, g_a, g_da, g_fa⟩ := HA
  refine OwnGo.fwd (fun tq' kq' => XS.aloadN X0.here hx rfl (hb hby d5_0) rfl rfl kq') ?_
  show OwnGo _ _ _ _ (s₁.setTop (mkF m 1 #[.val (.ref a)] [(.ref a)]))
  obtain ⟨T1, X1, e1, st1⟩ := getF X0 hx hZ hown (host := "") (Or.inl (hw _ (List.mem_of_getElem? (i := 30) rfl))) Via.refl e0 F_totalFrequency_a (g := (mkF m 1 #[.val (.ref a)] [(.ref a)])) rfl rfl (hb hby d5_1)
  refine OwnGo.fwd st1 ?_
  show OwnGo _ _ _ _ (T1.setTop (mkF m 4 #[.val (.ref a)] [(.long t)]))
  exact own_retJ X1 hlk hx Bd.returns (hb hby d5_4) (by decide) (by decide) e1 ⟨rfl, N, rfl⟩
theorem d7_0 : decode prog_33_method_6_code 0 = .ok (.aload_n 0, 1) := by decide +kernel
theorem d7_1 : decode prog_33_method_6_code 1 = .ok (.getfield 18, 3) := by decide +kernel
theorem d7_4 : decode prog_33_method_6_code 4 = .ok (.iload_n 1, 1) := by decide +kernel
theorem d7_5 : decode prog_33_method_6_code 5 = .ok (.iaload, 1) := by decide +kernel
theorem d7_6 : decode prog_33_method_6_code 6 = .ok (.ireturn, 1) := by decide +kernel
theorem pn_7 : plainFor (⟨"com/example/inverse_frequency/inversefrequency/Postings", "document", "(I)I"⟩ : MethodName) = true := plainFor_of_name (by first | (simp [plainName, overriddenIn]; done) | decide +kernel)
theorem ef_7 (m : MethodId) (x0 : Addr) (x1 : Int32) : entryFrame m #[(.ref x0), (.int x1)] 2 = mkF m 0 #[.val (.ref x0), .val (.int x1)] [] := by first | (simp [entryFrame, mkF, argsToLocals, Value.category, maxLocals]; done) | rfl
def Q7 (Z : State) (a : Addr) (da : Addr) (fa : Addr) (n : Nat) (t : Int64) (cp : Nat) (f : Nat → Int32) (g : Nat → Int32) (z : Int32) (j : Nat) (h0 : Heap) (n0 : Nat) (v : Option Value) (h : Heap) (L : List Loc) : Prop := v = some (.int (f j)) ∧ Fr n0 L ∧ h = h0
set_option maxRecDepth 65536 in
set_option maxHeartbeats 40000000 in
theorem rm7 (l : Launch) (Z : State) (a0 : Array Value) (hw : ∀ d ∈ tables_1, d.before a0 Z = true) (ws : List Jvm.Cond) (a : Addr) (da : Addr) (fa : Addr) (n : Nat) (t : Int64) (cp : Nat) (f : Nat → Int32) (g : Nat → Int32) (z : Int32) (j : Nat) (h0 : Heap) (n0 : Nat) (Z0 : n0 ≤ h0.size) (HA : own_P Z h0 n0 a da fa n t cp f g) (hz : z.toInt = (j : Int)) (hj : j < cp) :
    MetFree l (⟨"com/example/inverse_frequency/inversefrequency/Postings", "document", "(I)I"⟩ : MethodName) (head1 (Jvm.Cond.code (⟨"com/example/inverse_frequency/inversefrequency/Postings", "document", "(I)I"⟩ : MethodName) prog_33_method_6_code 2 (some .int) :: ws) ({ frames := 0, cells := 0, slots := 0, locals := 0 } : Room)) (fun arr' U => arr' = #[(.ref a), (.int z)] ∧ Z.Warmed39 U.vm ∧ U.heap = h0) (fun _ _ _ _ _ => True) (fun _ U o U' => ∃ v L, o = .returned v ∧ (Q7 Z a da fa n t cp f g z j h0 n0) v U'.heap L ∧ FrameEnd U o U' L ({ frames := 0, cells := 0, slots := 0, locals := 0 } : Room).cells ({ frames := 0, cells := 0, slots := 0, locals := 0 } : Room).slots) := by
  refine MetFree.of_bodySF pn_7 hisR ?_
  intro p e s m args below meth c s₁ Bd hml0 hP hK
  obtain ⟨rfl, hZ, hh⟩ := hP
  have hx := Bd.exec
  have hby := Bd.bytes
  have hlk : meth.locks = false := BodyLoose.notSynchronized Bd
  have hml : c.maxLocals = 2 := hml0
  have hown : s.vm.findClass "com/example/inverse_frequency/inversefrequency/Postings" = some m.cls := findClass_of_methodNamed Bd.named
  have hnm := (name_of_methodNamed Bd.named Bd.method).1
  have X0 : Stand p l e ({ frames := 0, cells := 0, slots := 0, locals := 0 } : Room) s m #[(.ref a), (.int z)] below meth c s₁ [] 0 0 := Stand.of_body Bd
  have e0 : s₁.heap = h0 := by rw [← hh, Bd.state]; rfl
  have N := Fr.nil n0
  have Zs := Z0
  change OwnGo p.tables e below (OwnEnd s (Q7 Z a da fa n t cp f g z j h0 n0) ({ frames := 0, cells := 0, slots := 0, locals := 0 } : Room).cells ({ frames := 0, cells := 0, slots := 0, locals := 0 } : Room).slots) _
  refine OwnGo.fwd (fun tq' kq' => castTop (ef_7 m a z) kq') ?_
  show OwnGo _ _ _ _ (s₁.setTop (mkF m 0 #[.val (.ref a), .val (.int z)] []))
  obtain ⟨E_a, F_documents_a, F_frequencies_a, F_size_a, F_totalFrequency_a, V_da, V_fa, ne_a_da, ne_a_fa, ne_da_fa, g_a, g_da, g_fa⟩ := HA
  refine OwnGo.fwd (fun tq' kq' => XS.aloadN X0.here hx rfl (hb hby d7_0) rfl rfl kq') ?_
  show OwnGo _ _ _ _ (s₁.setTop (mkF m 1 #[.val (.ref a), .val (.int z)] [(.ref a)]))
  obtain ⟨T1, X1, e1, st1⟩ := getF X0 hx hZ hown (host := "") (Or.inl (hw _ (List.mem_of_getElem? (i := 14) rfl))) Via.refl e0 F_documents_a (g := (mkF m 1 #[.val (.ref a), .val (.int z)] [(.ref a)])) rfl rfl (hb hby d7_1)
  refine OwnGo.fwd st1 ?_
  show OwnGo _ _ _ _ (T1.setTop (mkF m 4 #[.val (.ref a), .val (.int z)] [(.ref da)]))
  refine OwnGo.fwd (fun tq' kq' => XS.iloadN X1.here hx rfl (hb hby d7_4) rfl kq') ?_
  show OwnGo _ _ _ _ (T1.setTop (mkF m 5 #[.val (.ref a), .val (.int z)] [(.int z), (.ref da)]))
  refine OwnGo.fwd (fun tq' kq' => own_iaload X1 hx hZ e1 V_da (i := j) hz hj (g := (mkF m 5 #[.val (.ref a), .val (.int z)] [(.int z), (.ref da)])) rfl rfl (hb hby d7_5) tq' kq') ?_
  show OwnGo _ _ _ _ (T1.setTop (mkF m 6 #[.val (.ref a), .val (.int z)] [(.int (f j))]))
  exact own_retI X1 hlk hx Bd.returns (hb hby d7_6) (by decide) (by decide) e1 ⟨rfl, N, rfl⟩
theorem d8_0 : decode prog_33_method_7_code 0 = .ok (.aload_n 0, 1) := by decide +kernel
theorem d8_1 : decode prog_33_method_7_code 1 = .ok (.getfield 22, 3) := by decide +kernel
theorem d8_4 : decode prog_33_method_7_code 4 = .ok (.iload_n 1, 1) := by decide +kernel
theorem d8_5 : decode prog_33_method_7_code 5 = .ok (.iaload, 1) := by decide +kernel
theorem d8_6 : decode prog_33_method_7_code 6 = .ok (.ireturn, 1) := by decide +kernel
theorem pn_8 : plainFor (⟨"com/example/inverse_frequency/inversefrequency/Postings", "frequency", "(I)I"⟩ : MethodName) = true := plainFor_of_name (by first | (simp [plainName, overriddenIn]; done) | decide +kernel)
theorem ef_8 (m : MethodId) (x0 : Addr) (x1 : Int32) : entryFrame m #[(.ref x0), (.int x1)] 2 = mkF m 0 #[.val (.ref x0), .val (.int x1)] [] := by first | (simp [entryFrame, mkF, argsToLocals, Value.category, maxLocals]; done) | rfl
def Q8 (Z : State) (a : Addr) (da : Addr) (fa : Addr) (n : Nat) (t : Int64) (cp : Nat) (f : Nat → Int32) (g : Nat → Int32) (z : Int32) (j : Nat) (h0 : Heap) (n0 : Nat) (v : Option Value) (h : Heap) (L : List Loc) : Prop := v = some (.int (g j)) ∧ Fr n0 L ∧ h = h0
set_option maxRecDepth 65536 in
set_option maxHeartbeats 40000000 in
theorem rm8 (l : Launch) (Z : State) (a0 : Array Value) (hw : ∀ d ∈ tables_1, d.before a0 Z = true) (ws : List Jvm.Cond) (a : Addr) (da : Addr) (fa : Addr) (n : Nat) (t : Int64) (cp : Nat) (f : Nat → Int32) (g : Nat → Int32) (z : Int32) (j : Nat) (h0 : Heap) (n0 : Nat) (Z0 : n0 ≤ h0.size) (HA : own_P Z h0 n0 a da fa n t cp f g) (hz : z.toInt = (j : Int)) (hj : j < cp) :
    MetFree l (⟨"com/example/inverse_frequency/inversefrequency/Postings", "frequency", "(I)I"⟩ : MethodName) (head1 (Jvm.Cond.code (⟨"com/example/inverse_frequency/inversefrequency/Postings", "frequency", "(I)I"⟩ : MethodName) prog_33_method_7_code 2 (some .int) :: ws) ({ frames := 0, cells := 0, slots := 0, locals := 0 } : Room)) (fun arr' U => arr' = #[(.ref a), (.int z)] ∧ Z.Warmed39 U.vm ∧ U.heap = h0) (fun _ _ _ _ _ => True) (fun _ U o U' => ∃ v L, o = .returned v ∧ (Q8 Z a da fa n t cp f g z j h0 n0) v U'.heap L ∧ FrameEnd U o U' L ({ frames := 0, cells := 0, slots := 0, locals := 0 } : Room).cells ({ frames := 0, cells := 0, slots := 0, locals := 0 } : Room).slots) := by
  refine MetFree.of_bodySF pn_8 hisR ?_
  intro p e s m args below meth c s₁ Bd hml0 hP hK
  obtain ⟨rfl, hZ, hh⟩ := hP
  have hx := Bd.exec
  have hby := Bd.bytes
  have hlk : meth.locks = false := BodyLoose.notSynchronized Bd
  have hml : c.maxLocals = 2 := hml0
  have hown : s.vm.findClass "com/example/inverse_frequency/inversefrequency/Postings" = some m.cls := findClass_of_methodNamed Bd.named
  have hnm := (name_of_methodNamed Bd.named Bd.method).1
  have X0 : Stand p l e ({ frames := 0, cells := 0, slots := 0, locals := 0 } : Room) s m #[(.ref a), (.int z)] below meth c s₁ [] 0 0 := Stand.of_body Bd
  have e0 : s₁.heap = h0 := by rw [← hh, Bd.state]; rfl
  have N := Fr.nil n0
  have Zs := Z0
  change OwnGo p.tables e below (OwnEnd s (Q8 Z a da fa n t cp f g z j h0 n0) ({ frames := 0, cells := 0, slots := 0, locals := 0 } : Room).cells ({ frames := 0, cells := 0, slots := 0, locals := 0 } : Room).slots) _
  refine OwnGo.fwd (fun tq' kq' => castTop (ef_8 m a z) kq') ?_
  show OwnGo _ _ _ _ (s₁.setTop (mkF m 0 #[.val (.ref a), .val (.int z)] []))
  obtain ⟨E_a, F_documents_a, F_frequencies_a, F_size_a, F_totalFrequency_a, V_da, V_fa, ne_a_da, ne_a_fa, ne_da_fa, g_a, g_da, g_fa⟩ := HA
  refine OwnGo.fwd (fun tq' kq' => XS.aloadN X0.here hx rfl (hb hby d8_0) rfl rfl kq') ?_
  show OwnGo _ _ _ _ (s₁.setTop (mkF m 1 #[.val (.ref a), .val (.int z)] [(.ref a)]))
  obtain ⟨T1, X1, e1, st1⟩ := getF X0 hx hZ hown (host := "") (Or.inl (hw _ (List.mem_of_getElem? (i := 16) rfl))) Via.refl e0 F_frequencies_a (g := (mkF m 1 #[.val (.ref a), .val (.int z)] [(.ref a)])) rfl rfl (hb hby d8_1)
  refine OwnGo.fwd st1 ?_
  show OwnGo _ _ _ _ (T1.setTop (mkF m 4 #[.val (.ref a), .val (.int z)] [(.ref fa)]))
  refine OwnGo.fwd (fun tq' kq' => XS.iloadN X1.here hx rfl (hb hby d8_4) rfl kq') ?_
  show OwnGo _ _ _ _ (T1.setTop (mkF m 5 #[.val (.ref a), .val (.int z)] [(.int z), (.ref fa)]))
  refine OwnGo.fwd (fun tq' kq' => own_iaload X1 hx hZ e1 V_fa (i := j) hz hj (g := (mkF m 5 #[.val (.ref a), .val (.int z)] [(.int z), (.ref fa)])) rfl rfl (hb hby d8_5) tq' kq') ?_
  show OwnGo _ _ _ _ (T1.setTop (mkF m 6 #[.val (.ref a), .val (.int z)] [(.int (g j))]))
  exact own_retI X1 hlk hx Bd.returns (hb hby d8_6) (by decide) (by decide) e1 ⟨rfl, N, rfl⟩
theorem d6_0 : decode prog_33_method_3_code 0 = .ok (.aload_n 0, 1) := by decide +kernel
theorem d6_1 : decode prog_33_method_3_code 1 = .ok (.getfield 25, 3) := by decide +kernel
theorem d6_4 : decode prog_33_method_3_code 4 = .ok (.aload_n 0, 1) := by decide +kernel
theorem d6_5 : decode prog_33_method_3_code 5 = .ok (.getfield 18, 3) := by decide +kernel
theorem d6_8 : decode prog_33_method_3_code 8 = .ok (.arraylength, 1) := by decide +kernel
theorem d6_9 : decode prog_33_method_3_code 9 = .ok (.if_icmp .ne 37, 3) := by decide +kernel
theorem d6_12 : decode prog_33_method_3_code 12 = .ok (.aload_n 0, 1) := by decide +kernel
theorem d6_13 : decode prog_33_method_3_code 13 = .ok (.aload_n 0, 1) := by decide +kernel
theorem d6_14 : decode prog_33_method_3_code 14 = .ok (.getfield 18, 3) := by decide +kernel
theorem d6_17 : decode prog_33_method_3_code 17 = .ok (.iconst 2, 1) := by decide +kernel
theorem d6_18 : decode prog_33_method_3_code 18 = .ok (.aload_n 0, 1) := by decide +kernel
theorem d6_19 : decode prog_33_method_3_code 19 = .ok (.getfield 25, 3) := by decide +kernel
theorem d6_22 : decode prog_33_method_3_code 22 = .ok (.imul, 1) := by decide +kernel
theorem d6_23 : decode prog_33_method_3_code 23 = .ok (.invokestatic 29, 3) := by decide +kernel
theorem d6_26 : decode prog_33_method_3_code 26 = .ok (.putfield 18, 3) := by decide +kernel
theorem d6_29 : decode prog_33_method_3_code 29 = .ok (.aload_n 0, 1) := by decide +kernel
theorem d6_30 : decode prog_33_method_3_code 30 = .ok (.aload_n 0, 1) := by decide +kernel
theorem d6_31 : decode prog_33_method_3_code 31 = .ok (.getfield 22, 3) := by decide +kernel
theorem d6_34 : decode prog_33_method_3_code 34 = .ok (.iconst 2, 1) := by decide +kernel
theorem d6_35 : decode prog_33_method_3_code 35 = .ok (.aload_n 0, 1) := by decide +kernel
theorem d6_36 : decode prog_33_method_3_code 36 = .ok (.getfield 25, 3) := by decide +kernel
theorem d6_39 : decode prog_33_method_3_code 39 = .ok (.imul, 1) := by decide +kernel
theorem d6_40 : decode prog_33_method_3_code 40 = .ok (.invokestatic 29, 3) := by decide +kernel
theorem d6_43 : decode prog_33_method_3_code 43 = .ok (.putfield 22, 3) := by decide +kernel
theorem d6_46 : decode prog_33_method_3_code 46 = .ok (.aload_n 0, 1) := by decide +kernel
theorem d6_47 : decode prog_33_method_3_code 47 = .ok (.getfield 18, 3) := by decide +kernel
theorem d6_50 : decode prog_33_method_3_code 50 = .ok (.aload_n 0, 1) := by decide +kernel
theorem d6_51 : decode prog_33_method_3_code 51 = .ok (.getfield 25, 3) := by decide +kernel
theorem d6_54 : decode prog_33_method_3_code 54 = .ok (.iload_n 1, 1) := by decide +kernel
theorem d6_55 : decode prog_33_method_3_code 55 = .ok (.iastore, 1) := by decide +kernel
theorem d6_56 : decode prog_33_method_3_code 56 = .ok (.aload_n 0, 1) := by decide +kernel
theorem d6_57 : decode prog_33_method_3_code 57 = .ok (.getfield 22, 3) := by decide +kernel
theorem d6_60 : decode prog_33_method_3_code 60 = .ok (.aload_n 0, 1) := by decide +kernel
theorem d6_61 : decode prog_33_method_3_code 61 = .ok (.getfield 25, 3) := by decide +kernel
theorem d6_64 : decode prog_33_method_3_code 64 = .ok (.iload_n 2, 1) := by decide +kernel
theorem d6_65 : decode prog_33_method_3_code 65 = .ok (.iastore, 1) := by decide +kernel
theorem d6_66 : decode prog_33_method_3_code 66 = .ok (.aload_n 0, 1) := by decide +kernel
theorem d6_67 : decode prog_33_method_3_code 67 = .ok (.dup, 1) := by decide +kernel
theorem d6_68 : decode prog_33_method_3_code 68 = .ok (.getfield 25, 3) := by decide +kernel
theorem d6_71 : decode prog_33_method_3_code 71 = .ok (.iconst 1, 1) := by decide +kernel
theorem d6_72 : decode prog_33_method_3_code 72 = .ok (.iadd, 1) := by decide +kernel
theorem d6_73 : decode prog_33_method_3_code 73 = .ok (.putfield 25, 3) := by decide +kernel
theorem d6_76 : decode prog_33_method_3_code 76 = .ok (.aload_n 0, 1) := by decide +kernel
theorem d6_77 : decode prog_33_method_3_code 77 = .ok (.dup, 1) := by decide +kernel
theorem d6_78 : decode prog_33_method_3_code 78 = .ok (.getfield 35, 3) := by decide +kernel
theorem d6_81 : decode prog_33_method_3_code 81 = .ok (.iload_n 2, 1) := by decide +kernel
theorem d6_82 : decode prog_33_method_3_code 82 = .ok (.i2l, 1) := by decide +kernel
theorem d6_83 : decode prog_33_method_3_code 83 = .ok (.ladd, 1) := by decide +kernel
theorem d6_84 : decode prog_33_method_3_code 84 = .ok (.putfield 35, 3) := by decide +kernel
theorem d6_87 : decode prog_33_method_3_code 87 = .ok (.return_, 1) := by decide +kernel
theorem pn_6 : plainFor (⟨"com/example/inverse_frequency/inversefrequency/Postings", "add", "(II)V"⟩ : MethodName) = true := plainFor_of_name (by first | (simp [plainName, overriddenIn]; done) | decide +kernel)
theorem ef_6 (m : MethodId) (x0 : Addr) (x1 : Int32) (x2 : Int32) : entryFrame m #[(.ref x0), (.int x1), (.int x2)] 3 = mkF m 0 #[.val (.ref x0), .val (.int x1), .val (.int x2)] [] := by first | (simp [entryFrame, mkF, argsToLocals, Value.category, maxLocals]; done) | rfl
def Q6 (Z : State) (a : Addr) (da : Addr) (fa : Addr) (n : Nat) (t : Int64) (cp : Nat) (f : Nat → Int32) (g : Nat → Int32) (x : Int32) (y : Int32) (h0 : Heap) (n0 : Nat) (v : Option Value) (h : Heap) (L : List Loc) : Prop := v = none ∧ Fr n0 L ∧ Keep h0 h [a, da, fa] ∧ ∃ da' fa' cp' f' g', n < cp' ∧ own_P Z h n0 a da' fa' (n + 1) (t + y.toInt64) cp' f' g' ∧ (∀ i, i < n → f' i = f i) ∧ f' n = x ∧ (∀ i, i < n → g' i = g i) ∧ g' n = y
set_option maxRecDepth 65536 in
set_option maxHeartbeats 40000000 in
theorem rm6 (l : Launch) (Z : State) (a0 : Array Value) (hw : ∀ d ∈ tables_1, d.before a0 Z = true) (ws : List Jvm.Cond) (a : Addr) (da : Addr) (fa : Addr) (n : Nat) (t : Int64) (cp : Nat) (f : Nat → Int32) (g : Nat → Int32) (x : Int32) (y : Int32) (h0 : Heap) (n0 : Nat) (Z0 : n0 ≤ h0.size) (HA : own_P Z h0 n0 a da fa n t cp f g) (hn2 : n ≤ 2) (hncp : n ≤ cp) (hcp1 : 1 ≤ cp) :
    MetFree l (⟨"com/example/inverse_frequency/inversefrequency/Postings", "add", "(II)V"⟩ : MethodName) (head1 (Jvm.Cond.code (⟨"com/example/inverse_frequency/inversefrequency/Postings", "add", "(II)V"⟩ : MethodName) prog_33_method_3_code 3 none :: ws) ({ frames := 2, cells := 2, slots := 8, locals := 80 } : Room)) (fun arr' U => arr' = #[(.ref a), (.int x), (.int y)] ∧ Z.Warmed39 U.vm ∧ U.heap = h0) (fun _ _ _ _ _ => True) (fun _ U o U' => ∃ v L, o = .returned v ∧ (Q6 Z a da fa n t cp f g x y h0 n0) v U'.heap L ∧ FrameEnd U o U' L ({ frames := 2, cells := 2, slots := 8, locals := 80 } : Room).cells ({ frames := 2, cells := 2, slots := 8, locals := 80 } : Room).slots) := by
  refine MetFree.of_bodySF pn_6 hisR ?_
  intro p e s m args below meth c s₁ Bd hml0 hP hK
  obtain ⟨rfl, hZ, hh⟩ := hP
  have hx := Bd.exec
  have hby := Bd.bytes
  have hlk : meth.locks = false := BodyLoose.notSynchronized Bd
  have hml : c.maxLocals = 3 := hml0
  have hown : s.vm.findClass "com/example/inverse_frequency/inversefrequency/Postings" = some m.cls := findClass_of_methodNamed Bd.named
  have hnm := (name_of_methodNamed Bd.named Bd.method).1
  have X0 : Stand p l e ({ frames := 2, cells := 2, slots := 8, locals := 80 } : Room) s m #[(.ref a), (.int x), (.int y)] below meth c s₁ [] 0 0 := Stand.of_body Bd
  have e0 : s₁.heap = h0 := by rw [← hh, Bd.state]; rfl
  have N := Fr.nil n0
  have Zs := Z0
  change OwnGo p.tables e below (OwnEnd s (Q6 Z a da fa n t cp f g x y h0 n0) ({ frames := 2, cells := 2, slots := 8, locals := 80 } : Room).cells ({ frames := 2, cells := 2, slots := 8, locals := 80 } : Room).slots) _
  refine OwnGo.fwd (fun tq' kq' => castTop (ef_6 m a x y) kq') ?_
  show OwnGo _ _ _ _ (s₁.setTop (mkF m 0 #[.val (.ref a), .val (.int x), .val (.int y)] []))
  obtain ⟨E_a, F_documents_a, F_frequencies_a, F_size_a, F_totalFrequency_a, V_da, V_fa, ne_a_da, ne_a_fa, ne_da_fa, g_a, g_da, g_fa⟩ := HA
  have hi_n : (Int32.ofNat n).toInt = (n : Int) := own_ofNat (by omega)
  have hi_cp : (Int32.ofNat cp).toInt = (cp : Int) := own_ofNat (by obtain ⟨_, _, _, r, _⟩ := V_da; exact r)
  have K : Keep h0 h0 [a, da, fa] := Keep.refl _ _
  have K46 : ∀ (T46 : State) (h46 : Heap) (L46 : List Loc) (db fb : Addr) (cq : Nat) (f2 g2 : Nat → Int32), Stand p l e ({ frames := 2, cells := 2, slots := 8, locals := 80 } : Room) s m #[(.ref a), (.int x), (.int y)] below meth c T46 L46 2 8 → T46.heap = h46 → Fr n0 L46 → n0 ≤ h46.size → Keep h0 h46 [a, da, fa] → own_P Z h46 n0 a db fb n t cq f2 g2 → n < cq → (db ∈ [a, da, fa] ∨ h0.size ≤ db) → (fb ∈ [a, da, fa] ∨ h0.size ≤ fb) → (∀ i, i < n → f2 i = f i) → (∀ i, i < n → g2 i = g i) → OwnGo p.tables e below (OwnEnd s (Q6 Z a da fa n t cp f g x y h0 n0) ({ frames := 2, cells := 2, slots := 8, locals := 80 } : Room).cells ({ frames := 2, cells := 2, slots := 8, locals := 80 } : Room).slots) (T46.setTop (mkF m 46 #[.val (.ref a), .val (.int x), .val (.int y)] [])) := by
    intro T46 h46 L46 db fb cq f2 g2 X46 e46 N Zs K ⟨E_a, F_documents_a, F_frequencies_a, F_size_a, F_totalFrequency_a, V_db, V_fb, ne_a_db, ne_a_fb, ne_db_fb, g_a, g_db, g_fb⟩ hncq kdb kfb hf2 hg2
    show OwnGo _ _ _ _ (T46.setTop (mkF m 46 #[.val (.ref a), .val (.int x), .val (.int y)] []))
    refine OwnGo.fwd (fun tq' kq' => XS.aloadN X46.here hx rfl (hb hby d6_46) rfl rfl kq') ?_
    show OwnGo _ _ _ _ (T46.setTop (mkF m 47 #[.val (.ref a), .val (.int x), .val (.int y)] [(.ref a)]))
    obtain ⟨T1, X1, e1, st1⟩ := getF X46 hx hZ hown (host := "") (Or.inl (hw _ (List.mem_of_getElem? (i := 14) rfl))) Via.refl e46 F_documents_a (g := (mkF m 47 #[.val (.ref a), .val (.int x), .val (.int y)] [(.ref a)])) rfl rfl (hb hby d6_47)
    refine OwnGo.fwd st1 ?_
    show OwnGo _ _ _ _ (T1.setTop (mkF m 50 #[.val (.ref a), .val (.int x), .val (.int y)] [(.ref db)]))
    refine OwnGo.fwd (fun tq' kq' => XS.aloadN X1.here hx rfl (hb hby d6_50) rfl rfl kq') ?_
    show OwnGo _ _ _ _ (T1.setTop (mkF m 51 #[.val (.ref a), .val (.int x), .val (.int y)] [(.ref a), (.ref db)]))
    obtain ⟨T2, X2, e2, st2⟩ := getF X1 hx hZ hown (host := "") (Or.inl (hw _ (List.mem_of_getElem? (i := 23) rfl))) Via.refl e1 F_size_a (g := (mkF m 51 #[.val (.ref a), .val (.int x), .val (.int y)] [(.ref a), (.ref db)])) rfl rfl (hb hby d6_51)
    refine OwnGo.fwd st2 ?_
    show OwnGo _ _ _ _ (T2.setTop (mkF m 54 #[.val (.ref a), .val (.int x), .val (.int y)] [(.int (Int32.ofNat n)), (.ref db)]))
    refine OwnGo.fwd (fun tq' kq' => XS.iloadN X2.here hx rfl (hb hby d6_54) rfl kq') ?_
    show OwnGo _ _ _ _ (T2.setTop (mkF m 55 #[.val (.ref a), .val (.int x), .val (.int y)] [(.int x), (.int (Int32.ofNat n)), (.ref db)]))
    obtain ⟨T3, h3, X3, e3, W3, V3, st3⟩ := own_iastore X2 hx hZ e2 V_db (i := n) hi_n hncq (g := (mkF m 55 #[.val (.ref a), .val (.int x), .val (.int y)] [(.int x), (.int (Int32.ofNat n)), (.ref db)])) rfl rfl (hb hby d6_55)
    have E_a := E_a.wr W3
    have F_documents_a := F_documents_a.other W3 (Or.inl ne_a_db)
    have F_frequencies_a := F_frequencies_a.other W3 (Or.inl ne_a_db)
    have F_size_a := F_size_a.other W3 (Or.inl ne_a_db)
    have F_totalFrequency_a := F_totalFrequency_a.other W3 (Or.inl ne_a_db)
    have V_fb := V_fb.other W3 (Ne.symm ne_db_fb)
    have K := K.wr W3 kdb
    have Zs := Nat.le_trans Zs (Keep.of_wr W3).1
    have N := Fr.snoc X3 N g_db
    have V_db := V3
    refine OwnGo.fwd st3 ?_
    show OwnGo _ _ _ _ (T3.setTop (mkF m 56 #[.val (.ref a), .val (.int x), .val (.int y)] []))
    refine OwnGo.fwd (fun tq' kq' => XS.aloadN X3.here hx rfl (hb hby d6_56) rfl rfl kq') ?_
    show OwnGo _ _ _ _ (T3.setTop (mkF m 57 #[.val (.ref a), .val (.int x), .val (.int y)] [(.ref a)]))
    obtain ⟨T4, X4, e4, st4⟩ := getF X3 hx hZ hown (host := "") (Or.inl (hw _ (List.mem_of_getElem? (i := 16) rfl))) Via.refl e3 F_frequencies_a (g := (mkF m 57 #[.val (.ref a), .val (.int x), .val (.int y)] [(.ref a)])) rfl rfl (hb hby d6_57)
    refine OwnGo.fwd st4 ?_
    show OwnGo _ _ _ _ (T4.setTop (mkF m 60 #[.val (.ref a), .val (.int x), .val (.int y)] [(.ref fb)]))
    refine OwnGo.fwd (fun tq' kq' => XS.aloadN X4.here hx rfl (hb hby d6_60) rfl rfl kq') ?_
    show OwnGo _ _ _ _ (T4.setTop (mkF m 61 #[.val (.ref a), .val (.int x), .val (.int y)] [(.ref a), (.ref fb)]))
    obtain ⟨T5, X5, e5, st5⟩ := getF X4 hx hZ hown (host := "") (Or.inl (hw _ (List.mem_of_getElem? (i := 23) rfl))) Via.refl e4 F_size_a (g := (mkF m 61 #[.val (.ref a), .val (.int x), .val (.int y)] [(.ref a), (.ref fb)])) rfl rfl (hb hby d6_61)
    refine OwnGo.fwd st5 ?_
    show OwnGo _ _ _ _ (T5.setTop (mkF m 64 #[.val (.ref a), .val (.int x), .val (.int y)] [(.int (Int32.ofNat n)), (.ref fb)]))
    refine OwnGo.fwd (fun tq' kq' => XS.iloadN X5.here hx rfl (hb hby d6_64) rfl kq') ?_
    show OwnGo _ _ _ _ (T5.setTop (mkF m 65 #[.val (.ref a), .val (.int x), .val (.int y)] [(.int y), (.int (Int32.ofNat n)), (.ref fb)]))
    obtain ⟨T6, h6, X6, e6, W6, V6, st6⟩ := own_iastore X5 hx hZ e5 V_fb (i := n) hi_n hncq (g := (mkF m 65 #[.val (.ref a), .val (.int x), .val (.int y)] [(.int y), (.int (Int32.ofNat n)), (.ref fb)])) rfl rfl (hb hby d6_65)
    have E_a := E_a.wr W6
    have F_documents_a := F_documents_a.other W6 (Or.inl ne_a_fb)
    have F_frequencies_a := F_frequencies_a.other W6 (Or.inl ne_a_fb)
    have F_size_a := F_size_a.other W6 (Or.inl ne_a_fb)
    have F_totalFrequency_a := F_totalFrequency_a.other W6 (Or.inl ne_a_fb)
    have V_db := V_db.other W6 ne_db_fb
    have K := K.wr W6 kfb
    have Zs := Nat.le_trans Zs (Keep.of_wr W6).1
    have N := Fr.snoc X6 N g_fb
    have V_fb := V6
    refine OwnGo.fwd st6 ?_
    show OwnGo _ _ _ _ (T6.setTop (mkF m 66 #[.val (.ref a), .val (.int x), .val (.int y)] []))
    refine OwnGo.fwd (fun tq' kq' => XS.aloadN X6.here hx rfl (hb hby d6_66) rfl rfl kq') ?_
    show OwnGo _ _ _ _ (T6.setTop (mkF m 67 #[.val (.ref a), .val (.int x), .val (.int y)] [(.ref a)]))
    refine OwnGo.fwd (fun tq' kq' => XS.dup X6.here hx rfl (hb hby d6_67) rfl rfl kq') ?_
    show OwnGo _ _ _ _ (T6.setTop (mkF m 68 #[.val (.ref a), .val (.int x), .val (.int y)] [(.ref a), (.ref a)]))
    obtain ⟨T7, X7, e7, st7⟩ := getF X6 hx hZ hown (host := "") (Or.inl (hw _ (List.mem_of_getElem? (i := 23) rfl))) Via.refl e6 F_size_a (g := (mkF m 68 #[.val (.ref a), .val (.int x), .val (.int y)] [(.ref a), (.ref a)])) rfl rfl (hb hby d6_68)
    refine OwnGo.fwd st7 ?_
    show OwnGo _ _ _ _ (T7.setTop (mkF m 71 #[.val (.ref a), .val (.int x), .val (.int y)] [(.int (Int32.ofNat n)), (.ref a)]))
    refine OwnGo.fwd (fun tq' kq' => XS.iconst X7.here hx rfl (hb hby d6_71) kq') ?_
    show OwnGo _ _ _ _ (T7.setTop (mkF m 72 #[.val (.ref a), .val (.int x), .val (.int y)] [(.int (1 : Int32)), (.int (Int32.ofNat n)), (.ref a)]))
    refine OwnGo.fwd (fun tq' kq' => XS.iadd X7.here hx rfl (hb hby d6_72) rfl kq') ?_
    show OwnGo _ _ _ _ (T7.setTop (mkF m 73 #[.val (.ref a), .val (.int x), .val (.int y)] [(.int ((Int32.ofNat n) + (1 : Int32))), (.ref a)]))
    obtain ⟨T8, h8, X8, e8, W8, st8⟩ := putF X7 hx hZ hown (host := "") (Or.inl (hw _ (List.mem_of_getElem? (i := 23) rfl))) Via.refl e7 F_size_a E_a (Or.inl (hw _ (List.mem_of_getElem? (i := 24) rfl))) (hw _ (List.mem_of_getElem? (i := 1) rfl)) (ty := .int) (by decide) rfl rfl (g := (mkF m 73 #[.val (.ref a), .val (.int x), .val (.int y)] [(.int ((Int32.ofNat n) + (1 : Int32))), (.ref a)])) rfl rfl (hb hby d6_73)
    have E_a := E_a.wr W8
    have F_documents_a := F_documents_a.other W8 (Or.inr (slot_ne (Or.inl (hw _ (List.mem_of_getElem? (i := 15) rfl))) (Or.inl (hw _ (List.mem_of_getElem? (i := 24) rfl))) (by decide) (t := (.array .int)) (t' := .int) (by decide) (by decide)))
    have F_frequencies_a := F_frequencies_a.other W8 (Or.inr (slot_ne (Or.inl (hw _ (List.mem_of_getElem? (i := 17) rfl))) (Or.inl (hw _ (List.mem_of_getElem? (i := 24) rfl))) (by decide) (t := (.array .int)) (t' := .int) (by decide) (by decide)))
    have F_size_a := F_size_a.same W8
    have F_totalFrequency_a := F_totalFrequency_a.other W8 (Or.inr (slot_ne (Or.inl (hw _ (List.mem_of_getElem? (i := 31) rfl))) (Or.inl (hw _ (List.mem_of_getElem? (i := 24) rfl))) (by decide) (t := .long) (t' := .int) (by decide) (by decide)))
    have V_db := V_db.other W8 (Ne.symm ne_a_db)
    have V_fb := V_fb.other W8 (Ne.symm ne_a_fb)
    have K := K.wr W8 (Or.inl (List.mem_of_getElem? (i := 0) rfl))
    have Zs := Nat.le_trans Zs (Keep.of_wr W8).1
    have N := Fr.snoc X8 N g_a
    refine OwnGo.fwd st8 ?_
    show OwnGo _ _ _ _ (T8.setTop (mkF m 76 #[.val (.ref a), .val (.int x), .val (.int y)] []))
    refine OwnGo.fwd (fun tq' kq' => XS.aloadN X8.here hx rfl (hb hby d6_76) rfl rfl kq') ?_
    show OwnGo _ _ _ _ (T8.setTop (mkF m 77 #[.val (.ref a), .val (.int x), .val (.int y)] [(.ref a)]))
    refine OwnGo.fwd (fun tq' kq' => XS.dup X8.here hx rfl (hb hby d6_77) rfl rfl kq') ?_
    show OwnGo _ _ _ _ (T8.setTop (mkF m 78 #[.val (.ref a), .val (.int x), .val (.int y)] [(.ref a), (.ref a)]))
    obtain ⟨T9, X9, e9, st9⟩ := getF X8 hx hZ hown (host := "") (Or.inl (hw _ (List.mem_of_getElem? (i := 30) rfl))) Via.refl e8 F_totalFrequency_a (g := (mkF m 78 #[.val (.ref a), .val (.int x), .val (.int y)] [(.ref a), (.ref a)])) rfl rfl (hb hby d6_78)
    refine OwnGo.fwd st9 ?_
    show OwnGo _ _ _ _ (T9.setTop (mkF m 81 #[.val (.ref a), .val (.int x), .val (.int y)] [(.long t), (.ref a)]))
    refine OwnGo.fwd (fun tq' kq' => XS.iloadN X9.here hx rfl (hb hby d6_81) rfl kq') ?_
    show OwnGo _ _ _ _ (T9.setTop (mkF m 82 #[.val (.ref a), .val (.int x), .val (.int y)] [(.int y), (.long t), (.ref a)]))
    refine OwnGo.fwd (fun tq' kq' => XS.i2l X9.here hx rfl (hb hby d6_82) rfl kq') ?_
    show OwnGo _ _ _ _ (T9.setTop (mkF m 83 #[.val (.ref a), .val (.int x), .val (.int y)] [(.long y.toInt64), (.long t), (.ref a)]))
    refine OwnGo.fwd (fun tq' kq' => XS.ladd X9.here hx rfl (hb hby d6_83) rfl kq') ?_
    show OwnGo _ _ _ _ (T9.setTop (mkF m 84 #[.val (.ref a), .val (.int x), .val (.int y)] [(.long (t + y.toInt64)), (.ref a)]))
    obtain ⟨T10, h10, X10, e10, W10, st10⟩ := putF X9 hx hZ hown (host := "") (Or.inl (hw _ (List.mem_of_getElem? (i := 30) rfl))) Via.refl e9 F_totalFrequency_a E_a (Or.inl (hw _ (List.mem_of_getElem? (i := 31) rfl))) (hw _ (List.mem_of_getElem? (i := 1) rfl)) (ty := .long) (by decide) rfl rfl (g := (mkF m 84 #[.val (.ref a), .val (.int x), .val (.int y)] [(.long (t + y.toInt64)), (.ref a)])) rfl rfl (hb hby d6_84)
    have E_a := E_a.wr W10
    have F_documents_a := F_documents_a.other W10 (Or.inr (slot_ne (Or.inl (hw _ (List.mem_of_getElem? (i := 15) rfl))) (Or.inl (hw _ (List.mem_of_getElem? (i := 31) rfl))) (by decide) (t := (.array .int)) (t' := .long) (by decide) (by decide)))
    have F_frequencies_a := F_frequencies_a.other W10 (Or.inr (slot_ne (Or.inl (hw _ (List.mem_of_getElem? (i := 17) rfl))) (Or.inl (hw _ (List.mem_of_getElem? (i := 31) rfl))) (by decide) (t := (.array .int)) (t' := .long) (by decide) (by decide)))
    have F_size_a := F_size_a.other W10 (Or.inr (slot_ne (Or.inl (hw _ (List.mem_of_getElem? (i := 24) rfl))) (Or.inl (hw _ (List.mem_of_getElem? (i := 31) rfl))) (by decide) (t := .int) (t' := .long) (by decide) (by decide)))
    have F_totalFrequency_a := F_totalFrequency_a.same W10
    have V_db := V_db.other W10 (Ne.symm ne_a_db)
    have V_fb := V_fb.other W10 (Ne.symm ne_a_fb)
    have K := K.wr W10 (Or.inl (List.mem_of_getElem? (i := 0) rfl))
    have Zs := Nat.le_trans Zs (Keep.of_wr W10).1
    have N := Fr.snoc X10 N g_a
    refine OwnGo.fwd st10 ?_
    show OwnGo _ _ _ _ (T10.setTop (mkF m 87 #[.val (.ref a), .val (.int x), .val (.int y)] []))
    exact own_retV X10 hlk hx Bd.returns (hb hby d6_87) (by decide) (by decide) e10 ⟨rfl, N, K, db, fb, cq, _, _, hncq, ⟨E_a, F_documents_a, F_frequencies_a, (own_ofNatS n) ▸ F_size_a, F_totalFrequency_a, V_db, V_fb, ne_a_db, ne_a_fb, ne_db_fb, g_a, g_db, g_fb⟩, fun i hi => by simp [Nat.ne_of_lt hi, hf2 i hi], by simp, fun i hi => by simp [Nat.ne_of_lt hi, hg2 i hi], by simp⟩
  refine OwnGo.fwd (fun tq' kq' => XS.aloadN X0.here hx rfl (hb hby d6_0) rfl rfl kq') ?_
  show OwnGo _ _ _ _ (s₁.setTop (mkF m 1 #[.val (.ref a), .val (.int x), .val (.int y)] [(.ref a)]))
  obtain ⟨T11, X11, e11, st11⟩ := getF X0 hx hZ hown (host := "") (Or.inl (hw _ (List.mem_of_getElem? (i := 23) rfl))) Via.refl e0 F_size_a (g := (mkF m 1 #[.val (.ref a), .val (.int x), .val (.int y)] [(.ref a)])) rfl rfl (hb hby d6_1)
  refine OwnGo.fwd st11 ?_
  show OwnGo _ _ _ _ (T11.setTop (mkF m 4 #[.val (.ref a), .val (.int x), .val (.int y)] [(.int (Int32.ofNat n))]))
  refine OwnGo.fwd (fun tq' kq' => XS.aloadN X11.here hx rfl (hb hby d6_4) rfl rfl kq') ?_
  show OwnGo _ _ _ _ (T11.setTop (mkF m 5 #[.val (.ref a), .val (.int x), .val (.int y)] [(.ref a), (.int (Int32.ofNat n))]))
  obtain ⟨T12, X12, e12, st12⟩ := getF X11 hx hZ hown (host := "") (Or.inl (hw _ (List.mem_of_getElem? (i := 14) rfl))) Via.refl e11 F_documents_a (g := (mkF m 5 #[.val (.ref a), .val (.int x), .val (.int y)] [(.ref a), (.int (Int32.ofNat n))])) rfl rfl (hb hby d6_5)
  refine OwnGo.fwd st12 ?_
  show OwnGo _ _ _ _ (T12.setTop (mkF m 8 #[.val (.ref a), .val (.int x), .val (.int y)] [(.ref da), (.int (Int32.ofNat n))]))
  refine OwnGo.fwd (fun tq' kq' => own_len X12 hx hZ e12 V_da (g := (mkF m 8 #[.val (.ref a), .val (.int x), .val (.int y)] [(.ref da), (.int (Int32.ofNat n))])) rfl rfl (hb hby d6_8) tq' kq') ?_
  show OwnGo _ _ _ _ (T12.setTop (mkF m 9 #[.val (.ref a), .val (.int x), .val (.int y)] [(.int (Int32.ofNat cp)), (.int (Int32.ofNat n))]))
  by_cases hc9_13 : (n : Int) = (cp : Int)
  · refine OwnGo.fwd (fun tq' kq' => XS.icmpNo X12.here hx rfl (hb hby d6_9) rfl (own_beq hi_n hi_cp hc9_13).2 kq') ?_
    show OwnGo _ _ _ _ (T12.setTop (mkF m 12 #[.val (.ref a), .val (.int x), .val (.int y)] []))
    refine OwnGo.fwd (fun tq' kq' => XS.aloadN X12.here hx rfl (hb hby d6_12) rfl rfl kq') ?_
    show OwnGo _ _ _ _ (T12.setTop (mkF m 13 #[.val (.ref a), .val (.int x), .val (.int y)] [(.ref a)]))
    refine OwnGo.fwd (fun tq' kq' => XS.aloadN X12.here hx rfl (hb hby d6_13) rfl rfl kq') ?_
    show OwnGo _ _ _ _ (T12.setTop (mkF m 14 #[.val (.ref a), .val (.int x), .val (.int y)] [(.ref a), (.ref a)]))
    obtain ⟨T14, X14, e14, st14⟩ := getF X12 hx hZ hown (host := "") (Or.inl (hw _ (List.mem_of_getElem? (i := 14) rfl))) Via.refl e12 F_documents_a (g := (mkF m 14 #[.val (.ref a), .val (.int x), .val (.int y)] [(.ref a), (.ref a)])) rfl rfl (hb hby d6_14)
    refine OwnGo.fwd st14 ?_
    show OwnGo _ _ _ _ (T14.setTop (mkF m 17 #[.val (.ref a), .val (.int x), .val (.int y)] [(.ref da), (.ref a)]))
    refine OwnGo.fwd (fun tq' kq' => XS.iconst X14.here hx rfl (hb hby d6_17) kq') ?_
    show OwnGo _ _ _ _ (T14.setTop (mkF m 18 #[.val (.ref a), .val (.int x), .val (.int y)] [(.int (2 : Int32)), (.ref da), (.ref a)]))
    refine OwnGo.fwd (fun tq' kq' => XS.aloadN X14.here hx rfl (hb hby d6_18) rfl rfl kq') ?_
    show OwnGo _ _ _ _ (T14.setTop (mkF m 19 #[.val (.ref a), .val (.int x), .val (.int y)] [(.ref a), (.int (2 : Int32)), (.ref da), (.ref a)]))
    obtain ⟨T15, X15, e15, st15⟩ := getF X14 hx hZ hown (host := "") (Or.inl (hw _ (List.mem_of_getElem? (i := 23) rfl))) Via.refl e14 F_size_a (g := (mkF m 19 #[.val (.ref a), .val (.int x), .val (.int y)] [(.ref a), (.int (2 : Int32)), (.ref da), (.ref a)])) rfl rfl (hb hby d6_19)
    refine OwnGo.fwd st15 ?_
    show OwnGo _ _ _ _ (T15.setTop (mkF m 22 #[.val (.ref a), .val (.int x), .val (.int y)] [(.int (Int32.ofNat n)), (.int (2 : Int32)), (.ref da), (.ref a)]))
    refine OwnGo.fwd (fun tq' kq' => XS.imul X15.here hx rfl (hb hby d6_22) rfl kq') ?_
    show OwnGo _ _ _ _ (T15.setTop (mkF m 23 #[.val (.ref a), .val (.int x), .val (.int y)] [(.int ((2 : Int32) * (Int32.ofNat n))), (.ref da), (.ref a)]))
    obtain ⟨_, _, ⟨T16, L16, k16, n16⟩, -, X16, ⟨Lc16, hQ16, l16, y16, z16⟩, st16⟩ := Jvm.LawKit.callS X15 hx (y := (⟨"java/util/Arrays", "copyOf", "([II)[I"⟩ : MethodName)) hown (mvT hZ (hw _ (List.mem_of_getElem? (i := 47) rfl))) (mvT hZ (hw _ (List.mem_of_getElem? (i := 48) rfl))) (mvT hZ (hw _ (List.mem_of_getElem? (i := 49) rfl))) (mvT hZ (hw _ (List.mem_of_getElem? (i := 50) rfl))) (by decide) (backOf (W := 1) (rm9 l Z a0 hw [] da ((2 : Int32) * (Int32.ofNat n)) cp (2 * n) f h0 n0 Zs V_da (own_dbl (by omega)) (by omega) (by omega)) hZ (hw _ (List.mem_of_getElem? (i := 50) rfl)) (hw _ (List.mem_of_getElem? (i := 49) rfl)) (by decide) (by decide)) (g := (mkF m 23 #[.val (.ref a), .val (.int x), .val (.int y)] [(.int ((2 : Int32) * (Int32.ofNat n))), (.ref da), (.ref a)])) rfl (by rw [hml]; rfl) (argsL := [(.ref da), (.int ((2 : Int32) * (Int32.ofNat n)))]) (rest := [(.ref a)]) (lenOf pd_7 rfl) rfl (by show 2 * 0 + _ ≤ _; exact Nat.le_of_eq rfl) (hb hby d6_23) (fun _ _ => ⟨rfl, e15, (by decide : 0 + 1 ≤ _), (by decide : 0 + 4 ≤ _)⟩)
    dsimp only [Pt.U, Pt.locs, Pt.cells, Pt.slots] at X16 l16 y16 z16 st16 hQ16
    subst l16 y16 z16
    have lt_a := E_a.lt
    have lt_da := V_da.lt
    have lt_fa := V_fa.lt
    obtain ⟨r16, g16⟩ : ∃ z, z = h0.size := ⟨_, rfl⟩
    have g_r16 : n0 ≤ r16 := Nat.le_trans Zs (Nat.le_of_eq g16.symm)
    have sz_r16 : h0.size ≤ r16 := Nat.le_trans K.1 (Nat.le_of_eq g16.symm)
    obtain ⟨h16, eh16⟩ : ∃ z, z = T16.heap := ⟨_, rfl⟩
    rw [← eh16] at hQ16
    obtain ⟨rfl, N16q, K16, Vr16⟩ := hQ16
    have N := Fr.app N N16q
    have Zs := Nat.le_trans Zs K16.1
    have E_a := E_a.keep K16
    have F_documents_a := F_documents_a.keep K16 nin0
    have F_frequencies_a := F_frequencies_a.keep K16 nin0
    have F_size_a := F_size_a.keep K16 nin0
    have F_totalFrequency_a := F_totalFrequency_a.keep K16 nin0
    have V_da := V_da.keep K16 nin0
    have V_fa := V_fa.keep K16 nin0
    have K := K.trans K16 all0
    rw [← g16] at Vr16 st16
    have V_r16 := Vr16
    have ne_a_r16 : a ≠ r16 := Nat.ne_of_lt (Nat.lt_of_lt_of_le lt_a (Nat.le_of_eq g16.symm))
    have ne_da_r16 : da ≠ r16 := Nat.ne_of_lt (Nat.lt_of_lt_of_le lt_da (Nat.le_of_eq g16.symm))
    have ne_fa_r16 : fa ≠ r16 := Nat.ne_of_lt (Nat.lt_of_lt_of_le lt_fa (Nat.le_of_eq g16.symm))
    refine OwnGo.fwd st16 ?_
    show OwnGo _ _ _ _ (T16.setTop (mkF m 26 #[.val (.ref a), .val (.int x), .val (.int y)] [(.ref r16), (.ref a)]))
    obtain ⟨T17, h17, X17, e17, W17, st17⟩ := putF X16 hx hZ hown (host := "") (Or.inl (hw _ (List.mem_of_getElem? (i := 14) rfl))) Via.refl eh16.symm F_documents_a E_a (Or.inl (hw _ (List.mem_of_getElem? (i := 15) rfl))) (hw _ (List.mem_of_getElem? (i := 1) rfl)) (ty := (.array .int)) (by decide) rfl rfl (g := (mkF m 26 #[.val (.ref a), .val (.int x), .val (.int y)] [(.ref r16), (.ref a)])) rfl rfl (hb hby d6_26)
    have E_a := E_a.wr W17
    have F_documents_a := F_documents_a.same W17
    have F_frequencies_a := F_frequencies_a.other W17 (Or.inr (slot_ne (Or.inl (hw _ (List.mem_of_getElem? (i := 17) rfl))) (Or.inl (hw _ (List.mem_of_getElem? (i := 15) rfl))) (by decide) (t := (.array .int)) (t' := (.array .int)) (by decide) (by decide)))
    have F_size_a := F_size_a.other W17 (Or.inr (slot_ne (Or.inl (hw _ (List.mem_of_getElem? (i := 24) rfl))) (Or.inl (hw _ (List.mem_of_getElem? (i := 15) rfl))) (by decide) (t := .int) (t' := (.array .int)) (by decide) (by decide)))
    have F_totalFrequency_a := F_totalFrequency_a.other W17 (Or.inr (slot_ne (Or.inl (hw _ (List.mem_of_getElem? (i := 31) rfl))) (Or.inl (hw _ (List.mem_of_getElem? (i := 15) rfl))) (by decide) (t := .long) (t' := (.array .int)) (by decide) (by decide)))
    have V_da := V_da.other W17 (Ne.symm ne_a_da)
    have V_fa := V_fa.other W17 (Ne.symm ne_a_fa)
    have V_r16 := V_r16.other W17 (Ne.symm ne_a_r16)
    have K := K.wr W17 (Or.inl (List.mem_of_getElem? (i := 0) rfl))
    have Zs := Nat.le_trans Zs (Keep.of_wr W17).1
    have N := Fr.snoc X17 N g_a
    refine OwnGo.fwd st17 ?_
    show OwnGo _ _ _ _ (T17.setTop (mkF m 29 #[.val (.ref a), .val (.int x), .val (.int y)] []))
    refine OwnGo.fwd (fun tq' kq' => XS.aloadN X17.here hx rfl (hb hby d6_29) rfl rfl kq') ?_
    show OwnGo _ _ _ _ (T17.setTop (mkF m 30 #[.val (.ref a), .val (.int x), .val (.int y)] [(.ref a)]))
    refine OwnGo.fwd (fun tq' kq' => XS.aloadN X17.here hx rfl (hb hby d6_30) rfl rfl kq') ?_
    show OwnGo _ _ _ _ (T17.setTop (mkF m 31 #[.val (.ref a), .val (.int x), .val (.int y)] [(.ref a), (.ref a)]))
    obtain ⟨T18, X18, e18, st18⟩ := getF X17 hx hZ hown (host := "") (Or.inl (hw _ (List.mem_of_getElem? (i := 16) rfl))) Via.refl e17 F_frequencies_a (g := (mkF m 31 #[.val (.ref a), .val (.int x), .val (.int y)] [(.ref a), (.ref a)])) rfl rfl (hb hby d6_31)
    refine OwnGo.fwd st18 ?_
    show OwnGo _ _ _ _ (T18.setTop (mkF m 34 #[.val (.ref a), .val (.int x), .val (.int y)] [(.ref fa), (.ref a)]))
    refine OwnGo.fwd (fun tq' kq' => XS.iconst X18.here hx rfl (hb hby d6_34) kq') ?_
    show OwnGo _ _ _ _ (T18.setTop (mkF m 35 #[.val (.ref a), .val (.int x), .val (.int y)] [(.int (2 : Int32)), (.ref fa), (.ref a)]))
    refine OwnGo.fwd (fun tq' kq' => XS.aloadN X18.here hx rfl (hb hby d6_35) rfl rfl kq') ?_
    show OwnGo _ _ _ _ (T18.setTop (mkF m 36 #[.val (.ref a), .val (.int x), .val (.int y)] [(.ref a), (.int (2 : Int32)), (.ref fa), (.ref a)]))
    obtain ⟨T19, X19, e19, st19⟩ := getF X18 hx hZ hown (host := "") (Or.inl (hw _ (List.mem_of_getElem? (i := 23) rfl))) Via.refl e18 F_size_a (g := (mkF m 36 #[.val (.ref a), .val (.int x), .val (.int y)] [(.ref a), (.int (2 : Int32)), (.ref fa), (.ref a)])) rfl rfl (hb hby d6_36)
    refine OwnGo.fwd st19 ?_
    show OwnGo _ _ _ _ (T19.setTop (mkF m 39 #[.val (.ref a), .val (.int x), .val (.int y)] [(.int (Int32.ofNat n)), (.int (2 : Int32)), (.ref fa), (.ref a)]))
    refine OwnGo.fwd (fun tq' kq' => XS.imul X19.here hx rfl (hb hby d6_39) rfl kq') ?_
    show OwnGo _ _ _ _ (T19.setTop (mkF m 40 #[.val (.ref a), .val (.int x), .val (.int y)] [(.int ((2 : Int32) * (Int32.ofNat n))), (.ref fa), (.ref a)]))
    obtain ⟨_, _, ⟨T20, L20, k20, n20⟩, -, X20, ⟨Lc20, hQ20, l20, y20, z20⟩, st20⟩ := Jvm.LawKit.callS X19 hx (y := (⟨"java/util/Arrays", "copyOf", "([II)[I"⟩ : MethodName)) hown (mvT hZ (hw _ (List.mem_of_getElem? (i := 47) rfl))) (mvT hZ (hw _ (List.mem_of_getElem? (i := 48) rfl))) (mvT hZ (hw _ (List.mem_of_getElem? (i := 49) rfl))) (mvT hZ (hw _ (List.mem_of_getElem? (i := 50) rfl))) (by decide) (backOf (W := 1) (rm9 l Z a0 hw [] fa ((2 : Int32) * (Int32.ofNat n)) cp (2 * n) g h17 n0 Zs V_fa (own_dbl (by omega)) (by omega) (by omega)) hZ (hw _ (List.mem_of_getElem? (i := 50) rfl)) (hw _ (List.mem_of_getElem? (i := 49) rfl)) (by decide) (by decide)) (g := (mkF m 40 #[.val (.ref a), .val (.int x), .val (.int y)] [(.int ((2 : Int32) * (Int32.ofNat n))), (.ref fa), (.ref a)])) rfl (by rw [hml]; rfl) (argsL := [(.ref fa), (.int ((2 : Int32) * (Int32.ofNat n)))]) (rest := [(.ref a)]) (lenOf pd_7 rfl) rfl (by show 2 * 0 + _ ≤ _; exact Nat.le_of_eq rfl) (hb hby d6_40) (fun _ _ => ⟨rfl, e19, (by decide : 1 + 1 ≤ _), (by decide : 4 + 4 ≤ _)⟩)
    dsimp only [Pt.U, Pt.locs, Pt.cells, Pt.slots] at X20 l20 y20 z20 st20 hQ20
    subst l20 y20 z20
    have lt_a := E_a.lt
    have lt_da := V_da.lt
    have lt_fa := V_fa.lt
    have lt_r16 := V_r16.lt
    obtain ⟨r20, g20⟩ : ∃ z, z = h17.size := ⟨_, rfl⟩
    have g_r20 : n0 ≤ r20 := Nat.le_trans Zs (Nat.le_of_eq g20.symm)
    have sz_r20 : h0.size ≤ r20 := Nat.le_trans K.1 (Nat.le_of_eq g20.symm)
    obtain ⟨h20, eh20⟩ : ∃ z, z = T20.heap := ⟨_, rfl⟩
    rw [← eh20] at hQ20
    obtain ⟨rfl, N20q, K20, Vr20⟩ := hQ20
    have N := Fr.app N N20q
    have Zs := Nat.le_trans Zs K20.1
    have E_a := E_a.keep K20
    have F_documents_a := F_documents_a.keep K20 nin0
    have F_frequencies_a := F_frequencies_a.keep K20 nin0
    have F_size_a := F_size_a.keep K20 nin0
    have F_totalFrequency_a := F_totalFrequency_a.keep K20 nin0
    have V_da := V_da.keep K20 nin0
    have V_fa := V_fa.keep K20 nin0
    have V_r16 := V_r16.keep K20 nin0
    have K := K.trans K20 all0
    rw [← g20] at Vr20 st20
    have V_r20 := Vr20
    have ne_a_r20 : a ≠ r20 := Nat.ne_of_lt (Nat.lt_of_lt_of_le lt_a (Nat.le_of_eq g20.symm))
    have ne_da_r20 : da ≠ r20 := Nat.ne_of_lt (Nat.lt_of_lt_of_le lt_da (Nat.le_of_eq g20.symm))
    have ne_fa_r20 : fa ≠ r20 := Nat.ne_of_lt (Nat.lt_of_lt_of_le lt_fa (Nat.le_of_eq g20.symm))
    have ne_r16_r20 : r16 ≠ r20 := Nat.ne_of_lt (Nat.lt_of_lt_of_le lt_r16 (Nat.le_of_eq g20.symm))
    refine OwnGo.fwd st20 ?_
    show OwnGo _ _ _ _ (T20.setTop (mkF m 43 #[.val (.ref a), .val (.int x), .val (.int y)] [(.ref r20), (.ref a)]))
    obtain ⟨T21, h21, X21, e21, W21, st21⟩ := putF X20 hx hZ hown (host := "") (Or.inl (hw _ (List.mem_of_getElem? (i := 16) rfl))) Via.refl eh20.symm F_frequencies_a E_a (Or.inl (hw _ (List.mem_of_getElem? (i := 17) rfl))) (hw _ (List.mem_of_getElem? (i := 1) rfl)) (ty := (.array .int)) (by decide) rfl rfl (g := (mkF m 43 #[.val (.ref a), .val (.int x), .val (.int y)] [(.ref r20), (.ref a)])) rfl rfl (hb hby d6_43)
    have E_a := E_a.wr W21
    have F_documents_a := F_documents_a.other W21 (Or.inr (slot_ne (Or.inl (hw _ (List.mem_of_getElem? (i := 15) rfl))) (Or.inl (hw _ (List.mem_of_getElem? (i := 17) rfl))) (by decide) (t := (.array .int)) (t' := (.array .int)) (by decide) (by decide)))
    have F_frequencies_a := F_frequencies_a.same W21
    have F_size_a := F_size_a.other W21 (Or.inr (slot_ne (Or.inl (hw _ (List.mem_of_getElem? (i := 24) rfl))) (Or.inl (hw _ (List.mem_of_getElem? (i := 17) rfl))) (by decide) (t := .int) (t' := (.array .int)) (by decide) (by decide)))
    have F_totalFrequency_a := F_totalFrequency_a.other W21 (Or.inr (slot_ne (Or.inl (hw _ (List.mem_of_getElem? (i := 31) rfl))) (Or.inl (hw _ (List.mem_of_getElem? (i := 17) rfl))) (by decide) (t := .long) (t' := (.array .int)) (by decide) (by decide)))
    have V_da := V_da.other W21 (Ne.symm ne_a_da)
    have V_fa := V_fa.other W21 (Ne.symm ne_a_fa)
    have V_r16 := V_r16.other W21 (Ne.symm ne_a_r16)
    have V_r20 := V_r20.other W21 (Ne.symm ne_a_r20)
    have K := K.wr W21 (Or.inl (List.mem_of_getElem? (i := 0) rfl))
    have Zs := Nat.le_trans Zs (Keep.of_wr W21).1
    have N := Fr.snoc X21 N g_a
    refine OwnGo.fwd st21 ?_
    show OwnGo _ _ _ _ (T21.setTop (mkF m 46 #[.val (.ref a), .val (.int x), .val (.int y)] []))
    exact K46 _ _ _ r16 r20 (2 * n) _ _ (X21) e21 N Zs K ⟨E_a, F_documents_a, F_frequencies_a, F_size_a, F_totalFrequency_a, V_r16, V_r20, ne_a_r16, ne_a_r20, ne_r16_r20, g_a, g_r16, g_r20⟩ (by omega) (Or.inr sz_r16) (Or.inr sz_r20) (fun i hi => by simp [show i < cp by omega]) (fun i hi => by simp [show i < cp by omega])
  · refine OwnGo.fwd (fun tq' kq' => XS.icmpYes X12.here hx rfl (pc0 := 9) (pc' := 46) rfl (hb hby d6_9) rfl (own_bneq hi_n hi_cp hc9_13).2 (by decide) (by decide) kq') ?_
    show OwnGo _ _ _ _ (T12.setTop (mkF m 46 #[.val (.ref a), .val (.int x), .val (.int y)] []))
    exact K46 _ _ _ da fa cp _ _ (X12.more (by decide) (by decide)) e12 N Zs K ⟨E_a, F_documents_a, F_frequencies_a, F_size_a, F_totalFrequency_a, V_da, V_fa, ne_a_da, ne_a_fa, ne_da_fa, g_a, g_da, g_fa⟩ (by omega) (Or.inl (List.mem_of_getElem? (i := 1) rfl)) (Or.inl (List.mem_of_getElem? (i := 2) rfl)) (fun _ _ => rfl) (fun _ _ => rfl)
theorem pn_0 : plainFor (⟨"com/example/inverse_frequency/inversefrequency/PostingsAddPinLaw", "law", "(IJJJ)Z"⟩ : MethodName) = true := plainFor_of_name (by first | (simp [plainName, overriddenIn]; done) | decide +kernel)
theorem ef_0 (m : MethodId) (x0 : Int32) (x1 : Int64) (x2 : Int64) (x3 : Int64) : entryFrame m #[(.int x0), (.long x1), (.long x2), (.long x3)] maxLocals = mkF m 0 #[.val (.int x0), .val (.long x1), .second, .val (.long x2), .second, .val (.long x3), .second, .unset, .unset, .unset, .unset, .unset, .unset, .unset, .unset, .unset, .unset, .unset, .unset] [] := by first | (simp [entryFrame, mkF, argsToLocals, Value.category, maxLocals]; done) | rfl
def Q0 (Z : State) (p0 : Int32) (q0 : Int64) (q1 : Int64) (q2 : Int64) (h0 : Heap) (n0 : Nat) (v : Option Value) (h : Heap) (L : List Loc) : Prop := v = some (.int 1) ∧ Fr n0 L
set_option maxRecDepth 65536 in
set_option maxHeartbeats 40000000 in
theorem rm0 (l : Launch) (Z : State) (a0 : Array Value) (hw : ∀ d ∈ tables_1, d.before a0 Z = true) (ws : List Jvm.Cond) (p0 : Int32) (q0 : Int64) (q1 : Int64) (q2 : Int64) (h0 : Heap) (n0 : Nat) (Z0 : n0 ≤ h0.size) :
    MetFree l x (head1 (Jvm.Cond.code x code maxLocals ret :: ws) room_1) (fun arr' U => arr' = #[(.int p0), (.long q0), (.long q1), (.long q2)] ∧ Z.Warmed39 U.vm ∧ U.heap = h0) (fun _ _ _ _ _ => True) (fun _ U o U' => ∃ v L, o = .returned v ∧ (Q0 Z p0 q0 q1 q2 h0 n0) v U'.heap L ∧ FrameEnd U o U' L room_1.cells room_1.slots) := by
  refine MetFree.of_bodySF pn_0 hisR ?_
  intro p e s m args below meth c s₁ Bd hml0 hP hK
  obtain ⟨rfl, hZ, hh⟩ := hP
  have hx := Bd.exec
  have hby := Bd.bytes
  have hlk : meth.locks = false := BodyLoose.notSynchronized Bd
  have hml : c.maxLocals = 19 := hml0
  have hown : s.vm.findClass "com/example/inverse_frequency/inversefrequency/PostingsAddPinLaw" = some m.cls := findClass_of_methodNamed Bd.named
  have hnm := (name_of_methodNamed Bd.named Bd.method).1
  have X0 : Stand p l e room_1 s m #[(.int p0), (.long q0), (.long q1), (.long q2)] below meth c s₁ [] 0 0 := Stand.of_body Bd
  have e0 : s₁.heap = h0 := by rw [← hh, Bd.state]; rfl
  have N := Fr.nil n0
  have Zs := Z0
  change OwnGo p.tables e below (OwnEnd s (Q0 Z p0 q0 q1 q2 h0 n0) room_1.cells room_1.slots) _
  refine OwnGo.fwd (fun tq' kq' => castTop (ef_0 m p0 q0 q1 q2) kq') ?_
  show OwnGo _ _ _ _ (s₁.setTop (mkF m 0 #[.val (.int p0), .val (.long q0), .second, .val (.long q1), .second, .val (.long q2), .second, .unset, .unset, .unset, .unset, .unset, .unset, .unset, .unset, .unset, .unset, .unset, .unset] []))
  refine OwnGo.fwd (fun tq' kq' => XS.iloadN X0.here hx rfl (hb hby at_0) rfl kq') ?_
  show OwnGo _ _ _ _ (s₁.setTop (mkF m 1 #[.val (.int p0), .val (.long q0), .second, .val (.long q1), .second, .val (.long q2), .second, .unset, .unset, .unset, .unset, .unset, .unset, .unset, .unset, .unset, .unset, .unset, .unset] [(.int p0)]))
  refine OwnGo.fwd (fun tq' kq' => XS.iconst X0.here hx rfl (hb hby at_1) kq') ?_
  show OwnGo _ _ _ _ (s₁.setTop (mkF m 2 #[.val (.int p0), .val (.long q0), .second, .val (.long q1), .second, .val (.long q2), .second, .unset, .unset, .unset, .unset, .unset, .unset, .unset, .unset, .unset, .unset, .unset, .unset] [(.int (3 : Int32)), (.int p0)]))
  refine OwnGo.fwd (fun tq' kq' => XS.iand X0.here hx rfl (hb hby at_2) rfl kq') ?_
  show OwnGo _ _ _ _ (s₁.setTop (mkF m 3 #[.val (.int p0), .val (.long q0), .second, .val (.long q1), .second, .val (.long q2), .second, .unset, .unset, .unset, .unset, .unset, .unset, .unset, .unset, .unset, .unset, .unset, .unset] [(.int (p0 &&& (3 : Int32)))]))
  obtain ⟨ca, hv_ca⟩ : ∃ q : Int32, q = (p0 &&& (3 : Int32)) := ⟨_, rfl⟩
  rw [← hv_ca]
  show OwnGo _ _ _ _ (s₁.setTop (mkF m 3 #[.val (.int p0), .val (.long q0), .second, .val (.long q1), .second, .val (.long q2), .second, .unset, .unset, .unset, .unset, .unset, .unset, .unset, .unset, .unset, .unset, .unset, .unset] [(.int ca)]))
  have hca : ca.toInt ≤ 4 := by rw [hv_ca]; exact own_le3 p0
  refine OwnGo.fwd (fun tq' kq' => XS.istore X0.here hx rfl (hb hby at_3) rfl (l' := #[.val (.int p0), .val (.long q0), .second, .val (.long q1), .second, .val (.long q2), .second, .val (.int ca), .unset, .unset, .unset, .unset, .unset, .unset, .unset, .unset, .unset, .unset, .unset]) rfl kq') ?_
  show OwnGo _ _ _ _ (s₁.setTop (mkF m 5 #[.val (.int p0), .val (.long q0), .second, .val (.long q1), .second, .val (.long q2), .second, .val (.int ca), .unset, .unset, .unset, .unset, .unset, .unset, .unset, .unset, .unset, .unset, .unset] []))
  refine OwnGo.fwd (fun tq' kq' => XS.iloadN X0.here hx rfl (hb hby at_5) rfl kq') ?_
  show OwnGo _ _ _ _ (s₁.setTop (mkF m 6 #[.val (.int p0), .val (.long q0), .second, .val (.long q1), .second, .val (.long q2), .second, .val (.int ca), .unset, .unset, .unset, .unset, .unset, .unset, .unset, .unset, .unset, .unset, .unset] [(.int p0)]))
  refine OwnGo.fwd (fun tq' kq' => XS.iconst X0.here hx rfl (hb hby at_6) kq') ?_
  show OwnGo _ _ _ _ (s₁.setTop (mkF m 7 #[.val (.int p0), .val (.long q0), .second, .val (.long q1), .second, .val (.long q2), .second, .val (.int ca), .unset, .unset, .unset, .unset, .unset, .unset, .unset, .unset, .unset, .unset, .unset] [(.int (2 : Int32)), (.int p0)]))
  refine OwnGo.fwd (fun tq' kq' => XS.iushr X0.here hx rfl (hb hby at_7) rfl kq') ?_
  show OwnGo _ _ _ _ (s₁.setTop (mkF m 8 #[.val (.int p0), .val (.long q0), .second, .val (.long q1), .second, .val (.long q2), .second, .val (.int ca), .unset, .unset, .unset, .unset, .unset, .unset, .unset, .unset, .unset, .unset, .unset] [(.int ((p0.toUInt32 >>> ((2 : Int32) &&& 31).toUInt32).toInt32))]))
  refine OwnGo.fwd (fun tq' kq' => XS.iconst X0.here hx rfl (hb hby at_8) kq') ?_
  show OwnGo _ _ _ _ (s₁.setTop (mkF m 9 #[.val (.int p0), .val (.long q0), .second, .val (.long q1), .second, .val (.long q2), .second, .val (.int ca), .unset, .unset, .unset, .unset, .unset, .unset, .unset, .unset, .unset, .unset, .unset] [(.int (3 : Int32)), (.int ((p0.toUInt32 >>> ((2 : Int32) &&& 31).toUInt32).toInt32))]))
  refine OwnGo.fwd (fun tq' kq' => XS.iand X0.here hx rfl (hb hby at_9) rfl kq') ?_
  show OwnGo _ _ _ _ (s₁.setTop (mkF m 10 #[.val (.int p0), .val (.long q0), .second, .val (.long q1), .second, .val (.long q2), .second, .val (.int ca), .unset, .unset, .unset, .unset, .unset, .unset, .unset, .unset, .unset, .unset, .unset] [(.int (((p0.toUInt32 >>> ((2 : Int32) &&& 31).toUInt32).toInt32) &&& (3 : Int32)))]))
  obtain ⟨nn, hv_nn⟩ : ∃ q : Int32, q = (((p0.toUInt32 >>> ((2 : Int32) &&& 31).toUInt32).toInt32) &&& (3 : Int32)) := ⟨_, rfl⟩
  rw [← hv_nn]
  show OwnGo _ _ _ _ (s₁.setTop (mkF m 10 #[.val (.int p0), .val (.long q0), .second, .val (.long q1), .second, .val (.long q2), .second, .val (.int ca), .unset, .unset, .unset, .unset, .unset, .unset, .unset, .unset, .unset, .unset, .unset] [(.int nn)]))
  have hnn := own_0123 ((p0.toUInt32 >>> ((2 : Int32) &&& 31).toUInt32).toInt32)
  rw [← hv_nn] at hnn
  refine OwnGo.fwd (fun tq' kq' => XS.istore X0.here hx rfl (hb hby at_10) rfl (l' := #[.val (.int p0), .val (.long q0), .second, .val (.long q1), .second, .val (.long q2), .second, .val (.int ca), .val (.int nn), .unset, .unset, .unset, .unset, .unset, .unset, .unset, .unset, .unset, .unset]) rfl kq') ?_
  show OwnGo _ _ _ _ (s₁.setTop (mkF m 12 #[.val (.int p0), .val (.long q0), .second, .val (.long q1), .second, .val (.long q2), .second, .val (.int ca), .val (.int nn), .unset, .unset, .unset, .unset, .unset, .unset, .unset, .unset, .unset, .unset] []))
  refine OwnGo.fwd (fun tq' kq' => XS.lloadN X0.here hx rfl (hb hby at_12) rfl kq') ?_
  show OwnGo _ _ _ _ (s₁.setTop (mkF m 13 #[.val (.int p0), .val (.long q0), .second, .val (.long q1), .second, .val (.long q2), .second, .val (.int ca), .val (.int nn), .unset, .unset, .unset, .unset, .unset, .unset, .unset, .unset, .unset, .unset] [(.long q0)]))
  refine OwnGo.fwd (fun tq' kq' => XS.bipush X0.here hx rfl (hb hby at_13) kq') ?_
  show OwnGo _ _ _ _ (s₁.setTop (mkF m 15 #[.val (.int p0), .val (.long q0), .second, .val (.long q1), .second, .val (.long q2), .second, .val (.int ca), .val (.int nn), .unset, .unset, .unset, .unset, .unset, .unset, .unset, .unset, .unset, .unset] [(.int (32 : Int32)), (.long q0)]))
  refine OwnGo.fwd (fun tq' kq' => XS.lushr X0.here hx rfl (hb hby at_15) rfl kq') ?_
  show OwnGo _ _ _ _ (s₁.setTop (mkF m 16 #[.val (.int p0), .val (.long q0), .second, .val (.long q1), .second, .val (.long q2), .second, .val (.int ca), .val (.int nn), .unset, .unset, .unset, .unset, .unset, .unset, .unset, .unset, .unset, .unset] [(.long ((q0.toUInt64 >>> ((32 : Int32) &&& 0x3f).toInt64.toUInt64).toInt64))]))
  refine OwnGo.fwd (fun tq' kq' => XS.l2i X0.here hx rfl (hb hby at_16) rfl kq') ?_
  show OwnGo _ _ _ _ (s₁.setTop (mkF m 17 #[.val (.int p0), .val (.long q0), .second, .val (.long q1), .second, .val (.long q2), .second, .val (.int ca), .val (.int nn), .unset, .unset, .unset, .unset, .unset, .unset, .unset, .unset, .unset, .unset] [(.int ((q0.toUInt64 >>> ((32 : Int32) &&& 0x3f).toInt64.toUInt64).toInt64).toInt32)]))
  obtain ⟨d0, hv_d0⟩ : ∃ q : Int32, q = ((q0.toUInt64 >>> ((32 : Int32) &&& 0x3f).toInt64.toUInt64).toInt64).toInt32 := ⟨_, rfl⟩
  rw [← hv_d0]
  show OwnGo _ _ _ _ (s₁.setTop (mkF m 17 #[.val (.int p0), .val (.long q0), .second, .val (.long q1), .second, .val (.long q2), .second, .val (.int ca), .val (.int nn), .unset, .unset, .unset, .unset, .unset, .unset, .unset, .unset, .unset, .unset] [(.int d0)]))
  refine OwnGo.fwd (fun tq' kq' => XS.istore X0.here hx rfl (hb hby at_17) rfl (l' := #[.val (.int p0), .val (.long q0), .second, .val (.long q1), .second, .val (.long q2), .second, .val (.int ca), .val (.int nn), .val (.int d0), .unset, .unset, .unset, .unset, .unset, .unset, .unset, .unset, .unset]) rfl kq') ?_
  show OwnGo _ _ _ _ (s₁.setTop (mkF m 19 #[.val (.int p0), .val (.long q0), .second, .val (.long q1), .second, .val (.long q2), .second, .val (.int ca), .val (.int nn), .val (.int d0), .unset, .unset, .unset, .unset, .unset, .unset, .unset, .unset, .unset] []))
  refine OwnGo.fwd (fun tq' kq' => XS.lloadN X0.here hx rfl (hb hby at_19) rfl kq') ?_
  show OwnGo _ _ _ _ (s₁.setTop (mkF m 20 #[.val (.int p0), .val (.long q0), .second, .val (.long q1), .second, .val (.long q2), .second, .val (.int ca), .val (.int nn), .val (.int d0), .unset, .unset, .unset, .unset, .unset, .unset, .unset, .unset, .unset] [(.long q0)]))
  refine OwnGo.fwd (fun tq' kq' => XS.l2i X0.here hx rfl (hb hby at_20) rfl kq') ?_
  show OwnGo _ _ _ _ (s₁.setTop (mkF m 21 #[.val (.int p0), .val (.long q0), .second, .val (.long q1), .second, .val (.long q2), .second, .val (.int ca), .val (.int nn), .val (.int d0), .unset, .unset, .unset, .unset, .unset, .unset, .unset, .unset, .unset] [(.int q0.toInt32)]))
  obtain ⟨y0, hv_y0⟩ : ∃ q : Int32, q = q0.toInt32 := ⟨_, rfl⟩
  rw [← hv_y0]
  show OwnGo _ _ _ _ (s₁.setTop (mkF m 21 #[.val (.int p0), .val (.long q0), .second, .val (.long q1), .second, .val (.long q2), .second, .val (.int ca), .val (.int nn), .val (.int d0), .unset, .unset, .unset, .unset, .unset, .unset, .unset, .unset, .unset] [(.int y0)]))
  refine OwnGo.fwd (fun tq' kq' => XS.istore X0.here hx rfl (hb hby at_21) rfl (l' := #[.val (.int p0), .val (.long q0), .second, .val (.long q1), .second, .val (.long q2), .second, .val (.int ca), .val (.int nn), .val (.int d0), .val (.int y0), .unset, .unset, .unset, .unset, .unset, .unset, .unset, .unset]) rfl kq') ?_
  show OwnGo _ _ _ _ (s₁.setTop (mkF m 23 #[.val (.int p0), .val (.long q0), .second, .val (.long q1), .second, .val (.long q2), .second, .val (.int ca), .val (.int nn), .val (.int d0), .val (.int y0), .unset, .unset, .unset, .unset, .unset, .unset, .unset, .unset] []))
  refine OwnGo.fwd (fun tq' kq' => XS.lloadN X0.here hx rfl (hb hby at_23) rfl kq') ?_
  show OwnGo _ _ _ _ (s₁.setTop (mkF m 24 #[.val (.int p0), .val (.long q0), .second, .val (.long q1), .second, .val (.long q2), .second, .val (.int ca), .val (.int nn), .val (.int d0), .val (.int y0), .unset, .unset, .unset, .unset, .unset, .unset, .unset, .unset] [(.long q1)]))
  refine OwnGo.fwd (fun tq' kq' => XS.bipush X0.here hx rfl (hb hby at_24) kq') ?_
  show OwnGo _ _ _ _ (s₁.setTop (mkF m 26 #[.val (.int p0), .val (.long q0), .second, .val (.long q1), .second, .val (.long q2), .second, .val (.int ca), .val (.int nn), .val (.int d0), .val (.int y0), .unset, .unset, .unset, .unset, .unset, .unset, .unset, .unset] [(.int (32 : Int32)), (.long q1)]))
  refine OwnGo.fwd (fun tq' kq' => XS.lushr X0.here hx rfl (hb hby at_26) rfl kq') ?_
  show OwnGo _ _ _ _ (s₁.setTop (mkF m 27 #[.val (.int p0), .val (.long q0), .second, .val (.long q1), .second, .val (.long q2), .second, .val (.int ca), .val (.int nn), .val (.int d0), .val (.int y0), .unset, .unset, .unset, .unset, .unset, .unset, .unset, .unset] [(.long ((q1.toUInt64 >>> ((32 : Int32) &&& 0x3f).toInt64.toUInt64).toInt64))]))
  refine OwnGo.fwd (fun tq' kq' => XS.l2i X0.here hx rfl (hb hby at_27) rfl kq') ?_
  show OwnGo _ _ _ _ (s₁.setTop (mkF m 28 #[.val (.int p0), .val (.long q0), .second, .val (.long q1), .second, .val (.long q2), .second, .val (.int ca), .val (.int nn), .val (.int d0), .val (.int y0), .unset, .unset, .unset, .unset, .unset, .unset, .unset, .unset] [(.int ((q1.toUInt64 >>> ((32 : Int32) &&& 0x3f).toInt64.toUInt64).toInt64).toInt32)]))
  obtain ⟨d1, hv_d1⟩ : ∃ q : Int32, q = ((q1.toUInt64 >>> ((32 : Int32) &&& 0x3f).toInt64.toUInt64).toInt64).toInt32 := ⟨_, rfl⟩
  rw [← hv_d1]
  show OwnGo _ _ _ _ (s₁.setTop (mkF m 28 #[.val (.int p0), .val (.long q0), .second, .val (.long q1), .second, .val (.long q2), .second, .val (.int ca), .val (.int nn), .val (.int d0), .val (.int y0), .unset, .unset, .unset, .unset, .unset, .unset, .unset, .unset] [(.int d1)]))
  refine OwnGo.fwd (fun tq' kq' => XS.istore X0.here hx rfl (hb hby at_28) rfl (l' := #[.val (.int p0), .val (.long q0), .second, .val (.long q1), .second, .val (.long q2), .second, .val (.int ca), .val (.int nn), .val (.int d0), .val (.int y0), .val (.int d1), .unset, .unset, .unset, .unset, .unset, .unset, .unset]) rfl kq') ?_
  show OwnGo _ _ _ _ (s₁.setTop (mkF m 30 #[.val (.int p0), .val (.long q0), .second, .val (.long q1), .second, .val (.long q2), .second, .val (.int ca), .val (.int nn), .val (.int d0), .val (.int y0), .val (.int d1), .unset, .unset, .unset, .unset, .unset, .unset, .unset] []))
  refine OwnGo.fwd (fun tq' kq' => XS.lloadN X0.here hx rfl (hb hby at_30) rfl kq') ?_
  show OwnGo _ _ _ _ (s₁.setTop (mkF m 31 #[.val (.int p0), .val (.long q0), .second, .val (.long q1), .second, .val (.long q2), .second, .val (.int ca), .val (.int nn), .val (.int d0), .val (.int y0), .val (.int d1), .unset, .unset, .unset, .unset, .unset, .unset, .unset] [(.long q1)]))
  refine OwnGo.fwd (fun tq' kq' => XS.l2i X0.here hx rfl (hb hby at_31) rfl kq') ?_
  show OwnGo _ _ _ _ (s₁.setTop (mkF m 32 #[.val (.int p0), .val (.long q0), .second, .val (.long q1), .second, .val (.long q2), .second, .val (.int ca), .val (.int nn), .val (.int d0), .val (.int y0), .val (.int d1), .unset, .unset, .unset, .unset, .unset, .unset, .unset] [(.int q1.toInt32)]))
  obtain ⟨y1, hv_y1⟩ : ∃ q : Int32, q = q1.toInt32 := ⟨_, rfl⟩
  rw [← hv_y1]
  show OwnGo _ _ _ _ (s₁.setTop (mkF m 32 #[.val (.int p0), .val (.long q0), .second, .val (.long q1), .second, .val (.long q2), .second, .val (.int ca), .val (.int nn), .val (.int d0), .val (.int y0), .val (.int d1), .unset, .unset, .unset, .unset, .unset, .unset, .unset] [(.int y1)]))
  refine OwnGo.fwd (fun tq' kq' => XS.istore X0.here hx rfl (hb hby at_32) rfl (l' := #[.val (.int p0), .val (.long q0), .second, .val (.long q1), .second, .val (.long q2), .second, .val (.int ca), .val (.int nn), .val (.int d0), .val (.int y0), .val (.int d1), .val (.int y1), .unset, .unset, .unset, .unset, .unset, .unset]) rfl kq') ?_
  show OwnGo _ _ _ _ (s₁.setTop (mkF m 34 #[.val (.int p0), .val (.long q0), .second, .val (.long q1), .second, .val (.long q2), .second, .val (.int ca), .val (.int nn), .val (.int d0), .val (.int y0), .val (.int d1), .val (.int y1), .unset, .unset, .unset, .unset, .unset, .unset] []))
  refine OwnGo.fwd (fun tq' kq' => XS.lload X0.here hx rfl (hb hby at_34) rfl kq') ?_
  show OwnGo _ _ _ _ (s₁.setTop (mkF m 36 #[.val (.int p0), .val (.long q0), .second, .val (.long q1), .second, .val (.long q2), .second, .val (.int ca), .val (.int nn), .val (.int d0), .val (.int y0), .val (.int d1), .val (.int y1), .unset, .unset, .unset, .unset, .unset, .unset] [(.long q2)]))
  refine OwnGo.fwd (fun tq' kq' => XS.bipush X0.here hx rfl (hb hby at_36) kq') ?_
  show OwnGo _ _ _ _ (s₁.setTop (mkF m 38 #[.val (.int p0), .val (.long q0), .second, .val (.long q1), .second, .val (.long q2), .second, .val (.int ca), .val (.int nn), .val (.int d0), .val (.int y0), .val (.int d1), .val (.int y1), .unset, .unset, .unset, .unset, .unset, .unset] [(.int (32 : Int32)), (.long q2)]))
  refine OwnGo.fwd (fun tq' kq' => XS.lushr X0.here hx rfl (hb hby at_38) rfl kq') ?_
  show OwnGo _ _ _ _ (s₁.setTop (mkF m 39 #[.val (.int p0), .val (.long q0), .second, .val (.long q1), .second, .val (.long q2), .second, .val (.int ca), .val (.int nn), .val (.int d0), .val (.int y0), .val (.int d1), .val (.int y1), .unset, .unset, .unset, .unset, .unset, .unset] [(.long ((q2.toUInt64 >>> ((32 : Int32) &&& 0x3f).toInt64.toUInt64).toInt64))]))
  refine OwnGo.fwd (fun tq' kq' => XS.l2i X0.here hx rfl (hb hby at_39) rfl kq') ?_
  show OwnGo _ _ _ _ (s₁.setTop (mkF m 40 #[.val (.int p0), .val (.long q0), .second, .val (.long q1), .second, .val (.long q2), .second, .val (.int ca), .val (.int nn), .val (.int d0), .val (.int y0), .val (.int d1), .val (.int y1), .unset, .unset, .unset, .unset, .unset, .unset] [(.int ((q2.toUInt64 >>> ((32 : Int32) &&& 0x3f).toInt64.toUInt64).toInt64).toInt32)]))
  obtain ⟨d2, hv_d2⟩ : ∃ q : Int32, q = ((q2.toUInt64 >>> ((32 : Int32) &&& 0x3f).toInt64.toUInt64).toInt64).toInt32 := ⟨_, rfl⟩
  rw [← hv_d2]
  show OwnGo _ _ _ _ (s₁.setTop (mkF m 40 #[.val (.int p0), .val (.long q0), .second, .val (.long q1), .second, .val (.long q2), .second, .val (.int ca), .val (.int nn), .val (.int d0), .val (.int y0), .val (.int d1), .val (.int y1), .unset, .unset, .unset, .unset, .unset, .unset] [(.int d2)]))
  refine OwnGo.fwd (fun tq' kq' => XS.istore X0.here hx rfl (hb hby at_40) rfl (l' := #[.val (.int p0), .val (.long q0), .second, .val (.long q1), .second, .val (.long q2), .second, .val (.int ca), .val (.int nn), .val (.int d0), .val (.int y0), .val (.int d1), .val (.int y1), .val (.int d2), .unset, .unset, .unset, .unset, .unset]) rfl kq') ?_
  show OwnGo _ _ _ _ (s₁.setTop (mkF m 42 #[.val (.int p0), .val (.long q0), .second, .val (.long q1), .second, .val (.long q2), .second, .val (.int ca), .val (.int nn), .val (.int d0), .val (.int y0), .val (.int d1), .val (.int y1), .val (.int d2), .unset, .unset, .unset, .unset, .unset] []))
  refine OwnGo.fwd (fun tq' kq' => XS.lload X0.here hx rfl (hb hby at_42) rfl kq') ?_
  show OwnGo _ _ _ _ (s₁.setTop (mkF m 44 #[.val (.int p0), .val (.long q0), .second, .val (.long q1), .second, .val (.long q2), .second, .val (.int ca), .val (.int nn), .val (.int d0), .val (.int y0), .val (.int d1), .val (.int y1), .val (.int d2), .unset, .unset, .unset, .unset, .unset] [(.long q2)]))
  refine OwnGo.fwd (fun tq' kq' => XS.l2i X0.here hx rfl (hb hby at_44) rfl kq') ?_
  show OwnGo _ _ _ _ (s₁.setTop (mkF m 45 #[.val (.int p0), .val (.long q0), .second, .val (.long q1), .second, .val (.long q2), .second, .val (.int ca), .val (.int nn), .val (.int d0), .val (.int y0), .val (.int d1), .val (.int y1), .val (.int d2), .unset, .unset, .unset, .unset, .unset] [(.int q2.toInt32)]))
  obtain ⟨y2, hv_y2⟩ : ∃ q : Int32, q = q2.toInt32 := ⟨_, rfl⟩
  rw [← hv_y2]
  show OwnGo _ _ _ _ (s₁.setTop (mkF m 45 #[.val (.int p0), .val (.long q0), .second, .val (.long q1), .second, .val (.long q2), .second, .val (.int ca), .val (.int nn), .val (.int d0), .val (.int y0), .val (.int d1), .val (.int y1), .val (.int d2), .unset, .unset, .unset, .unset, .unset] [(.int y2)]))
  refine OwnGo.fwd (fun tq' kq' => XS.istore X0.here hx rfl (hb hby at_45) rfl (l' := #[.val (.int p0), .val (.long q0), .second, .val (.long q1), .second, .val (.long q2), .second, .val (.int ca), .val (.int nn), .val (.int d0), .val (.int y0), .val (.int d1), .val (.int y1), .val (.int d2), .val (.int y2), .unset, .unset, .unset, .unset]) rfl kq') ?_
  show OwnGo _ _ _ _ (s₁.setTop (mkF m 47 #[.val (.int p0), .val (.long q0), .second, .val (.long q1), .second, .val (.long q2), .second, .val (.int ca), .val (.int nn), .val (.int d0), .val (.int y0), .val (.int d1), .val (.int y1), .val (.int d2), .val (.int y2), .unset, .unset, .unset, .unset] []))
  obtain ⟨T1, h1, X1, e1, E1, A1, D1, -, st1⟩ := newO X0 hx hZ hown (hw _ (List.mem_of_getElem? (i := 0) rfl)) (hw _ (List.mem_of_getElem? (i := 1) rfl)) (hw _ (List.mem_of_getElem? (i := 2) rfl)) e0 (g := (mkF m 47 #[.val (.int p0), .val (.long q0), .second, .val (.long q1), .second, .val (.long q2), .second, .val (.int ca), .val (.int nn), .val (.int d0), .val (.int y0), .val (.int d1), .val (.int y1), .val (.int d2), .val (.int y2), .unset, .unset, .unset, .unset] [])) rfl (hb hby at_47) (by decide) (by decide)
  obtain ⟨b1, g1⟩ : ∃ z, z = h0.size := ⟨_, rfl⟩
  rw [← g1] at A1 D1 st1
  have g_b1 : n0 ≤ b1 := Nat.le_trans Zs (Nat.le_of_eq g1.symm)
  have Zs := Nat.le_trans Zs E1.1
  have E_b1 := A1
  have F_documents_b1 : Fld Z h1 b1 "com/example/inverse_frequency/inversefrequency/Postings" "documents" "[I" .null := D1 (Or.inl (hw _ (List.mem_of_getElem? (i := 15) rfl))) (ty := (.array .int)) (by decide)
  have F_frequencies_b1 : Fld Z h1 b1 "com/example/inverse_frequency/inversefrequency/Postings" "frequencies" "[I" .null := D1 (Or.inl (hw _ (List.mem_of_getElem? (i := 17) rfl))) (ty := (.array .int)) (by decide)
  have F_size_b1 : Fld Z h1 b1 "com/example/inverse_frequency/inversefrequency/Postings" "size" "I" (.int (0 : Int32)) := D1 (Or.inl (hw _ (List.mem_of_getElem? (i := 24) rfl))) (ty := .int) (by decide)
  have F_totalFrequency_b1 : Fld Z h1 b1 "com/example/inverse_frequency/inversefrequency/Postings" "totalFrequency" "J" (.long (0 : Int64)) := D1 (Or.inl (hw _ (List.mem_of_getElem? (i := 31) rfl))) (ty := .long) (by decide)
  refine OwnGo.fwd st1 ?_
  show OwnGo _ _ _ _ (T1.setTop (mkF m 50 #[.val (.int p0), .val (.long q0), .second, .val (.long q1), .second, .val (.long q2), .second, .val (.int ca), .val (.int nn), .val (.int d0), .val (.int y0), .val (.int d1), .val (.int y1), .val (.int d2), .val (.int y2), .unset, .unset, .unset, .unset] [(.ref b1)]))
  refine OwnGo.fwd (fun tq' kq' => XS.dup X1.here hx rfl (hb hby at_50) rfl rfl kq') ?_
  show OwnGo _ _ _ _ (T1.setTop (mkF m 51 #[.val (.int p0), .val (.long q0), .second, .val (.long q1), .second, .val (.long q2), .second, .val (.int ca), .val (.int nn), .val (.int d0), .val (.int y0), .val (.int d1), .val (.int y1), .val (.int d2), .val (.int y2), .unset, .unset, .unset, .unset] [(.ref b1), (.ref b1)]))
  refine OwnGo.fwd (fun tq' kq' => XS.iload X1.here hx rfl (hb hby at_51) rfl kq') ?_
  show OwnGo _ _ _ _ (T1.setTop (mkF m 53 #[.val (.int p0), .val (.long q0), .second, .val (.long q1), .second, .val (.long q2), .second, .val (.int ca), .val (.int nn), .val (.int d0), .val (.int y0), .val (.int d1), .val (.int y1), .val (.int d2), .val (.int y2), .unset, .unset, .unset, .unset] [(.int ca), (.ref b1), (.ref b1)]))
  obtain ⟨_, _, ⟨T2, L2, k2, n2⟩, -, X2, ⟨Lc2, hQ2, l2, y2, z2⟩, st2⟩ := X1.specialBack hx (y := (⟨"com/example/inverse_frequency/inversefrequency/Postings", "<init>", "(I)V"⟩ : MethodName)) rfl hown (mvT hZ (hw _ (List.mem_of_getElem? (i := 3) rfl))) (mvT hZ (hw _ (List.mem_of_getElem? (i := 4) rfl))) (mvT hZ (hw _ (List.mem_of_getElem? (i := 5) rfl))) (by decide) (backOf (W := 1) (rm1 l Z a0 hw [] b1 ca h1 n0 Zs E_b1 F_documents_b1 F_frequencies_b1 F_size_b1 F_totalFrequency_b1 g_b1 hca) hZ (hw _ (List.mem_of_getElem? (i := 5) rfl)) (hw _ (List.mem_of_getElem? (i := 2) rfl)) (by decide) (by decide)) (g := (mkF m 53 #[.val (.int p0), .val (.long q0), .second, .val (.long q1), .second, .val (.long q2), .second, .val (.int ca), .val (.int nn), .val (.int d0), .val (.int y0), .val (.int d1), .val (.int y1), .val (.int d2), .val (.int y2), .unset, .unset, .unset, .unset] [(.int ca), (.ref b1), (.ref b1)])) rfl (by rw [hml]; rfl) (Steps.refl _) (a := b1) (argsL := [(.int ca)]) (rest := [(.ref b1)]) (lenOf pd_0 rfl) rfl (by show 2 * 0 + _ ≤ _; exact Nat.le_of_eq rfl) (hb hby at_53) (fun _ _ => ⟨rfl, e1, (by decide : 1 + 2 ≤ _), (by decide : 4 + 8 ≤ _)⟩)
  dsimp only [Pt.U, Pt.locs, Pt.cells, Pt.slots] at X2 l2 y2 z2 st2 hQ2
  subst l2 y2 z2
  obtain ⟨h2, eh2⟩ : ∃ z, z = T2.heap := ⟨_, rfl⟩
  rw [← eh2] at hQ2
  obtain ⟨rfl, N2q, K2, da, fa, cp, hcp1, hcp4, sz_da, sz_fa, E_b1, F_documents_b1, F_frequencies_b1, F_size_b1, F_totalFrequency_b1, V_da, V_fa, ne_b1_da, ne_b1_fa, ne_da_fa, g_b1, g_da, g_fa⟩ := hQ2
  have N := Fr.app N N2q
  have Zs := Nat.le_trans Zs K2.1
  refine OwnGo.thru st2 ?_
  show OwnGo _ _ _ _ (T2.setTop (mkF m 56 #[.val (.int p0), .val (.long q0), .second, .val (.long q1), .second, .val (.long q2), .second, .val (.int ca), .val (.int nn), .val (.int d0), .val (.int y0), .val (.int d1), .val (.int y1), .val (.int d2), .val (.int y2), .unset, .unset, .unset, .unset] [(.ref b1)]))
  refine OwnGo.fwd (fun tq' kq' => XS.astore X2.here hx rfl (hb hby at_56) rfl rfl (l' := #[.val (.int p0), .val (.long q0), .second, .val (.long q1), .second, .val (.long q2), .second, .val (.int ca), .val (.int nn), .val (.int d0), .val (.int y0), .val (.int d1), .val (.int y1), .val (.int d2), .val (.int y2), .val (.ref b1), .unset, .unset, .unset]) rfl kq') ?_
  show OwnGo _ _ _ _ (T2.setTop (mkF m 58 #[.val (.int p0), .val (.long q0), .second, .val (.long q1), .second, .val (.long q2), .second, .val (.int ca), .val (.int nn), .val (.int d0), .val (.int y0), .val (.int d1), .val (.int y1), .val (.int d2), .val (.int y2), .val (.ref b1), .unset, .unset, .unset] []))
  refine OwnGo.fwd (fun tq' kq' => XS.lconst X2.here hx rfl (hb hby at_58) kq') ?_
  show OwnGo _ _ _ _ (T2.setTop (mkF m 59 #[.val (.int p0), .val (.long q0), .second, .val (.long q1), .second, .val (.long q2), .second, .val (.int ca), .val (.int nn), .val (.int d0), .val (.int y0), .val (.int d1), .val (.int y1), .val (.int d2), .val (.int y2), .val (.ref b1), .unset, .unset, .unset] [(.long (0 : Int64))]))
  refine OwnGo.fwd (fun tq' kq' => XS.lstore X2.here hx rfl (hb hby at_59) rfl (l' := #[.val (.int p0), .val (.long q0), .second, .val (.long q1), .second, .val (.long q2), .second, .val (.int ca), .val (.int nn), .val (.int d0), .val (.int y0), .val (.int d1), .val (.int y1), .val (.int d2), .val (.int y2), .val (.ref b1), .val (.long (0 : Int64)), .second, .unset]) rfl kq') ?_
  show OwnGo _ _ _ _ (T2.setTop (mkF m 61 #[.val (.int p0), .val (.long q0), .second, .val (.long q1), .second, .val (.long q2), .second, .val (.int ca), .val (.int nn), .val (.int d0), .val (.int y0), .val (.int d1), .val (.int y1), .val (.int d2), .val (.int y2), .val (.ref b1), .val (.long (0 : Int64)), .second, .unset] []))
  rcases (show nn = (0 : Int32) ∨ nn = (1 : Int32) ∨ nn = (2 : Int32) ∨ nn = (3 : Int32) from hnn) with rfl | rfl | rfl | rfl
  · show OwnGo _ _ _ _ (T2.setTop (mkF m 61 #[.val (.int p0), .val (.long q0), .second, .val (.long q1), .second, .val (.long q2), .second, .val (.int ca), .val (.int (0 : Int32)), .val (.int d0), .val (.int y0), .val (.int d1), .val (.int y1), .val (.int d2), .val (.int y2), .val (.ref b1), .val (.long (0 : Int64)), .second, .unset] []))
    refine OwnGo.fwd (fun tq' kq' => XS.iload X2.here hx rfl (hb hby at_61) rfl kq') ?_
    show OwnGo _ _ _ _ (T2.setTop (mkF m 63 #[.val (.int p0), .val (.long q0), .second, .val (.long q1), .second, .val (.long q2), .second, .val (.int ca), .val (.int (0 : Int32)), .val (.int d0), .val (.int y0), .val (.int d1), .val (.int y1), .val (.int d2), .val (.int y2), .val (.ref b1), .val (.long (0 : Int64)), .second, .unset] [(.int (0 : Int32))]))
    refine OwnGo.fwd (fun tq' kq' => XS.iconst X2.here hx rfl (hb hby at_63) kq') ?_
    show OwnGo _ _ _ _ (T2.setTop (mkF m 64 #[.val (.int p0), .val (.long q0), .second, .val (.long q1), .second, .val (.long q2), .second, .val (.int ca), .val (.int (0 : Int32)), .val (.int d0), .val (.int y0), .val (.int d1), .val (.int y1), .val (.int d2), .val (.int y2), .val (.ref b1), .val (.long (0 : Int64)), .second, .unset] [(.int (1 : Int32)), (.int (0 : Int32))]))
    have hc64_3 : (0 : Int) < (1 : Int) := by decide
    refine OwnGo.fwd (fun tq' kq' => XS.icmpYes X2.here hx rfl (pc0 := 64) (pc' := 84) rfl (hb hby at_64) rfl (own_blt (by decide) (by decide) hc64_3).1 (by decide) (by decide) kq') ?_
    show OwnGo _ _ _ _ (T2.setTop (mkF m 84 #[.val (.int p0), .val (.long q0), .second, .val (.long q1), .second, .val (.long q2), .second, .val (.int ca), .val (.int (0 : Int32)), .val (.int d0), .val (.int y0), .val (.int d1), .val (.int y1), .val (.int d2), .val (.int y2), .val (.ref b1), .val (.long (0 : Int64)), .second, .unset] []))
    refine OwnGo.fwd (fun tq' kq' => XS.iload X2.here hx rfl (hb hby at_84) rfl kq') ?_
    show OwnGo _ _ _ _ (T2.setTop (mkF m 86 #[.val (.int p0), .val (.long q0), .second, .val (.long q1), .second, .val (.long q2), .second, .val (.int ca), .val (.int (0 : Int32)), .val (.int d0), .val (.int y0), .val (.int d1), .val (.int y1), .val (.int d2), .val (.int y2), .val (.ref b1), .val (.long (0 : Int64)), .second, .unset] [(.int (0 : Int32))]))
    refine OwnGo.fwd (fun tq' kq' => XS.iconst X2.here hx rfl (hb hby at_86) kq') ?_
    show OwnGo _ _ _ _ (T2.setTop (mkF m 87 #[.val (.int p0), .val (.long q0), .second, .val (.long q1), .second, .val (.long q2), .second, .val (.int ca), .val (.int (0 : Int32)), .val (.int d0), .val (.int y0), .val (.int d1), .val (.int y1), .val (.int d2), .val (.int y2), .val (.ref b1), .val (.long (0 : Int64)), .second, .unset] [(.int (2 : Int32)), (.int (0 : Int32))]))
    have hc87_4 : (0 : Int) < (2 : Int) := by decide
    refine OwnGo.fwd (fun tq' kq' => XS.icmpYes X2.here hx rfl (pc0 := 87) (pc' := 107) rfl (hb hby at_87) rfl (own_blt (by decide) (by decide) hc87_4).1 (by decide) (by decide) kq') ?_
    show OwnGo _ _ _ _ (T2.setTop (mkF m 107 #[.val (.int p0), .val (.long q0), .second, .val (.long q1), .second, .val (.long q2), .second, .val (.int ca), .val (.int (0 : Int32)), .val (.int d0), .val (.int y0), .val (.int d1), .val (.int y1), .val (.int d2), .val (.int y2), .val (.ref b1), .val (.long (0 : Int64)), .second, .unset] []))
    refine OwnGo.fwd (fun tq' kq' => XS.iload X2.here hx rfl (hb hby at_107) rfl kq') ?_
    show OwnGo _ _ _ _ (T2.setTop (mkF m 109 #[.val (.int p0), .val (.long q0), .second, .val (.long q1), .second, .val (.long q2), .second, .val (.int ca), .val (.int (0 : Int32)), .val (.int d0), .val (.int y0), .val (.int d1), .val (.int y1), .val (.int d2), .val (.int y2), .val (.ref b1), .val (.long (0 : Int64)), .second, .unset] [(.int (0 : Int32))]))
    refine OwnGo.fwd (fun tq' kq' => XS.iconst X2.here hx rfl (hb hby at_109) kq') ?_
    show OwnGo _ _ _ _ (T2.setTop (mkF m 110 #[.val (.int p0), .val (.long q0), .second, .val (.long q1), .second, .val (.long q2), .second, .val (.int ca), .val (.int (0 : Int32)), .val (.int d0), .val (.int y0), .val (.int d1), .val (.int y1), .val (.int d2), .val (.int y2), .val (.ref b1), .val (.long (0 : Int64)), .second, .unset] [(.int (3 : Int32)), (.int (0 : Int32))]))
    have hc110_5 : (0 : Int) < (3 : Int) := by decide
    refine OwnGo.fwd (fun tq' kq' => XS.icmpYes X2.here hx rfl (pc0 := 110) (pc' := 130) rfl (hb hby at_110) rfl (own_blt (by decide) (by decide) hc110_5).1 (by decide) (by decide) kq') ?_
    show OwnGo _ _ _ _ (T2.setTop (mkF m 130 #[.val (.int p0), .val (.long q0), .second, .val (.long q1), .second, .val (.long q2), .second, .val (.int ca), .val (.int (0 : Int32)), .val (.int d0), .val (.int y0), .val (.int d1), .val (.int y1), .val (.int d2), .val (.int y2), .val (.ref b1), .val (.long (0 : Int64)), .second, .unset] []))
    refine OwnGo.fwd (fun tq' kq' => XS.aload X2.here hx rfl (hb hby at_130) rfl rfl kq') ?_
    show OwnGo _ _ _ _ (T2.setTop (mkF m 132 #[.val (.int p0), .val (.long q0), .second, .val (.long q1), .second, .val (.long q2), .second, .val (.int ca), .val (.int (0 : Int32)), .val (.int d0), .val (.int y0), .val (.int d1), .val (.int y1), .val (.int d2), .val (.int y2), .val (.ref b1), .val (.long (0 : Int64)), .second, .unset] [(.ref b1)]))
    obtain ⟨cq6, kq6, q6a, q6b, q6c⟩ := isOf hZ eh2.symm E_b1
    obtain ⟨_, _, ⟨T6, L6, k6, n6⟩, -, X6, ⟨Lc6, hQ6, l6, y6, z6⟩, st6⟩ := X2.virtualBack hx (y := (⟨"com/example/inverse_frequency/inversefrequency/Postings", "size", "()I"⟩ : MethodName)) (z := (⟨"com/example/inverse_frequency/inversefrequency/Postings", "size", "()I"⟩ : MethodName)) hown (mvT hZ (hw _ (List.mem_of_getElem? (i := 18) rfl))) (mvT hZ (hw _ (List.mem_of_getElem? (i := 19) rfl))) (notFace_of_selects (args := #[]) (mvT hZ (hw _ (List.mem_of_getElem? (i := 21) rfl)))) (mvT hZ (hw _ (List.mem_of_getElem? (i := 21) rfl))) (mvT hZ (hw _ (List.mem_of_getElem? (i := 20) rfl))) (by decide) (backOf (W := 0) (rm4 l Z a0 hw [] b1 da fa 0 (0 : Int64) cp (fun _ => 0) (fun _ => 0) h2 n0 Zs ⟨E_b1, F_documents_b1, F_frequencies_b1, F_size_b1, F_totalFrequency_b1, V_da, V_fa, ne_b1_da, ne_b1_fa, ne_da_fa, g_b1, g_da, g_fa⟩) hZ (hw _ (List.mem_of_getElem? (i := 22) rfl)) (hw _ (List.mem_of_getElem? (i := 2) rfl)) (by decide) (by decide)) q6a q6c (g := (mkF m 132 #[.val (.int p0), .val (.long q0), .second, .val (.long q1), .second, .val (.long q2), .second, .val (.int ca), .val (.int (0 : Int32)), .val (.int d0), .val (.int y0), .val (.int d1), .val (.int y1), .val (.int d2), .val (.int y2), .val (.ref b1), .val (.long (0 : Int64)), .second, .unset] [(.ref b1)])) rfl (by rw [hml]; rfl) (Steps.refl _) (argsL := []) (rest := []) (lenOf pd_3 rfl) rfl (by show 2 * 0 + _ ≤ _; exact Nat.le_of_eq rfl) (hb hby at_132) (fun _ _ => ⟨rfl, eh2.symm, (by decide : 3 + 0 ≤ _), (by decide : 12 + 0 ≤ _)⟩)
    dsimp only [Pt.U, Pt.locs, Pt.cells, Pt.slots] at X6 l6 y6 z6 st6 hQ6
    subst l6 y6 z6
    obtain ⟨rfl, N6q, e6⟩ := hQ6
    have N := Fr.app N N6q
    refine OwnGo.thru st6 ?_
    show OwnGo _ _ _ _ (T6.setTop (mkF m 135 #[.val (.int p0), .val (.long q0), .second, .val (.long q1), .second, .val (.long q2), .second, .val (.int ca), .val (.int (0 : Int32)), .val (.int d0), .val (.int y0), .val (.int d1), .val (.int y1), .val (.int d2), .val (.int y2), .val (.ref b1), .val (.long (0 : Int64)), .second, .unset] [(.int (Int32.ofNat 0))]))
    refine OwnGo.fwd (fun tq' kq' => XS.iload X6.here hx rfl (hb hby at_135) rfl kq') ?_
    show OwnGo _ _ _ _ (T6.setTop (mkF m 137 #[.val (.int p0), .val (.long q0), .second, .val (.long q1), .second, .val (.long q2), .second, .val (.int ca), .val (.int (0 : Int32)), .val (.int d0), .val (.int y0), .val (.int d1), .val (.int y1), .val (.int d2), .val (.int y2), .val (.ref b1), .val (.long (0 : Int64)), .second, .unset] [(.int (0 : Int32)), (.int (Int32.ofNat 0))]))
    have hc137_7 : (0 : Int) = (0 : Int) := by decide
    refine OwnGo.fwd (fun tq' kq' => XS.icmpNo X6.here hx rfl (hb hby at_137) rfl (own_beq (by decide) (by decide) hc137_7).2 kq') ?_
    show OwnGo _ _ _ _ (T6.setTop (mkF m 140 #[.val (.int p0), .val (.long q0), .second, .val (.long q1), .second, .val (.long q2), .second, .val (.int ca), .val (.int (0 : Int32)), .val (.int d0), .val (.int y0), .val (.int d1), .val (.int y1), .val (.int d2), .val (.int y2), .val (.ref b1), .val (.long (0 : Int64)), .second, .unset] []))
    refine OwnGo.fwd (fun tq' kq' => XS.aload X6.here hx rfl (hb hby at_140) rfl rfl kq') ?_
    show OwnGo _ _ _ _ (T6.setTop (mkF m 142 #[.val (.int p0), .val (.long q0), .second, .val (.long q1), .second, .val (.long q2), .second, .val (.int ca), .val (.int (0 : Int32)), .val (.int d0), .val (.int y0), .val (.int d1), .val (.int y1), .val (.int d2), .val (.int y2), .val (.ref b1), .val (.long (0 : Int64)), .second, .unset] [(.ref b1)]))
    obtain ⟨cq8, kq8, q8a, q8b, q8c⟩ := isOf hZ e6 E_b1
    obtain ⟨_, _, ⟨T8, L8, k8, n8⟩, -, X8, ⟨Lc8, hQ8, l8, y8, z8⟩, st8⟩ := X6.virtualBack hx (y := (⟨"com/example/inverse_frequency/inversefrequency/Postings", "totalFrequency", "()J"⟩ : MethodName)) (z := (⟨"com/example/inverse_frequency/inversefrequency/Postings", "totalFrequency", "()J"⟩ : MethodName)) hown (mvT hZ (hw _ (List.mem_of_getElem? (i := 25) rfl))) (mvT hZ (hw _ (List.mem_of_getElem? (i := 26) rfl))) (notFace_of_selects (args := #[]) (mvT hZ (hw _ (List.mem_of_getElem? (i := 28) rfl)))) (mvT hZ (hw _ (List.mem_of_getElem? (i := 28) rfl))) (mvT hZ (hw _ (List.mem_of_getElem? (i := 27) rfl))) (by decide) (backOf (W := 0) (rm5 l Z a0 hw [] b1 da fa 0 (0 : Int64) cp (fun _ => 0) (fun _ => 0) h2 n0 Zs ⟨E_b1, F_documents_b1, F_frequencies_b1, F_size_b1, F_totalFrequency_b1, V_da, V_fa, ne_b1_da, ne_b1_fa, ne_da_fa, g_b1, g_da, g_fa⟩) hZ (hw _ (List.mem_of_getElem? (i := 29) rfl)) (hw _ (List.mem_of_getElem? (i := 2) rfl)) (by decide) (by decide)) q8a q8c (g := (mkF m 142 #[.val (.int p0), .val (.long q0), .second, .val (.long q1), .second, .val (.long q2), .second, .val (.int ca), .val (.int (0 : Int32)), .val (.int d0), .val (.int y0), .val (.int d1), .val (.int y1), .val (.int d2), .val (.int y2), .val (.ref b1), .val (.long (0 : Int64)), .second, .unset] [(.ref b1)])) rfl (by rw [hml]; rfl) (Steps.refl _) (argsL := []) (rest := []) (lenOf pd_4 rfl) rfl (by show 2 * 0 + _ ≤ _; exact Nat.le_of_eq rfl) (hb hby at_142) (fun _ _ => ⟨rfl, e6, (by decide : 3 + 0 ≤ _), (by decide : 12 + 0 ≤ _)⟩)
    dsimp only [Pt.U, Pt.locs, Pt.cells, Pt.slots] at X8 l8 y8 z8 st8 hQ8
    subst l8 y8 z8
    obtain ⟨rfl, N8q, e8⟩ := hQ8
    have N := Fr.app N N8q
    refine OwnGo.thru st8 ?_
    show OwnGo _ _ _ _ (T8.setTop (mkF m 145 #[.val (.int p0), .val (.long q0), .second, .val (.long q1), .second, .val (.long q2), .second, .val (.int ca), .val (.int (0 : Int32)), .val (.int d0), .val (.int y0), .val (.int d1), .val (.int y1), .val (.int d2), .val (.int y2), .val (.ref b1), .val (.long (0 : Int64)), .second, .unset] [(.long (0 : Int64))]))
    refine OwnGo.fwd (fun tq' kq' => XS.lload X8.here hx rfl (hb hby at_145) rfl kq') ?_
    show OwnGo _ _ _ _ (T8.setTop (mkF m 147 #[.val (.int p0), .val (.long q0), .second, .val (.long q1), .second, .val (.long q2), .second, .val (.int ca), .val (.int (0 : Int32)), .val (.int d0), .val (.int y0), .val (.int d1), .val (.int y1), .val (.int d2), .val (.int y2), .val (.ref b1), .val (.long (0 : Int64)), .second, .unset] [(.long (0 : Int64)), (.long (0 : Int64))]))
    refine OwnGo.fwd (fun tq' kq' => XS.lcmp X8.here hx rfl (hb hby at_147) rfl kq') ?_
    show OwnGo _ _ _ _ (T8.setTop (mkF m 148 #[.val (.int p0), .val (.long q0), .second, .val (.long q1), .second, .val (.long q2), .second, .val (.int ca), .val (.int (0 : Int32)), .val (.int d0), .val (.int y0), .val (.int d1), .val (.int y1), .val (.int d2), .val (.int y2), .val (.ref b1), .val (.long (0 : Int64)), .second, .unset] [(.int (lcmpW (0 : Int64) (0 : Int64)))]))
    have hc148_9 : (0 : Int64).toInt = 0 := rfl
    refine OwnGo.fwd (fun tq' kq' => XS.ifNo X8.here hx rfl (hb hby at_148) rfl (own_Leq rfl (by decide) hc148_9).2 kq') ?_
    show OwnGo _ _ _ _ (T8.setTop (mkF m 151 #[.val (.int p0), .val (.long q0), .second, .val (.long q1), .second, .val (.long q2), .second, .val (.int ca), .val (.int (0 : Int32)), .val (.int d0), .val (.int y0), .val (.int d1), .val (.int y1), .val (.int d2), .val (.int y2), .val (.ref b1), .val (.long (0 : Int64)), .second, .unset] []))
    refine OwnGo.fwd (fun tq' kq' => XS.iconst X8.here hx rfl (hb hby at_151) kq') ?_
    show OwnGo _ _ _ _ (T8.setTop (mkF m 152 #[.val (.int p0), .val (.long q0), .second, .val (.long q1), .second, .val (.long q2), .second, .val (.int ca), .val (.int (0 : Int32)), .val (.int d0), .val (.int y0), .val (.int d1), .val (.int y1), .val (.int d2), .val (.int y2), .val (.ref b1), .val (.long (0 : Int64)), .second, .unset] [(.int (1 : Int32))]))
    refine OwnGo.fwd (fun tq' kq' => XS.goto X8.here hx rfl (pc0 := 152) (pc' := 156) rfl (hb hby at_152) (by decide) (by decide) kq') ?_
    show OwnGo _ _ _ _ (T8.setTop (mkF m 156 #[.val (.int p0), .val (.long q0), .second, .val (.long q1), .second, .val (.long q2), .second, .val (.int ca), .val (.int (0 : Int32)), .val (.int d0), .val (.int y0), .val (.int d1), .val (.int y1), .val (.int d2), .val (.int y2), .val (.ref b1), .val (.long (0 : Int64)), .second, .unset] [(.int (1 : Int32))]))
    refine OwnGo.fwd (fun tq' kq' => XS.istore X8.here hx rfl (hb hby at_156) rfl (l' := #[.val (.int p0), .val (.long q0), .second, .val (.long q1), .second, .val (.long q2), .second, .val (.int ca), .val (.int (0 : Int32)), .val (.int d0), .val (.int y0), .val (.int d1), .val (.int y1), .val (.int d2), .val (.int y2), .val (.ref b1), .val (.long (0 : Int64)), .second, .val (.int (1 : Int32))]) rfl kq') ?_
    show OwnGo _ _ _ _ (T8.setTop (mkF m 158 #[.val (.int p0), .val (.long q0), .second, .val (.long q1), .second, .val (.long q2), .second, .val (.int ca), .val (.int (0 : Int32)), .val (.int d0), .val (.int y0), .val (.int d1), .val (.int y1), .val (.int d2), .val (.int y2), .val (.ref b1), .val (.long (0 : Int64)), .second, .val (.int (1 : Int32))] []))
    refine OwnGo.fwd (fun tq' kq' => XS.iload X8.here hx rfl (hb hby at_158) rfl kq') ?_
    show OwnGo _ _ _ _ (T8.setTop (mkF m 160 #[.val (.int p0), .val (.long q0), .second, .val (.long q1), .second, .val (.long q2), .second, .val (.int ca), .val (.int (0 : Int32)), .val (.int d0), .val (.int y0), .val (.int d1), .val (.int y1), .val (.int d2), .val (.int y2), .val (.ref b1), .val (.long (0 : Int64)), .second, .val (.int (1 : Int32))] [(.int (0 : Int32))]))
    refine OwnGo.fwd (fun tq' kq' => XS.iconst X8.here hx rfl (hb hby at_160) kq') ?_
    show OwnGo _ _ _ _ (T8.setTop (mkF m 161 #[.val (.int p0), .val (.long q0), .second, .val (.long q1), .second, .val (.long q2), .second, .val (.int ca), .val (.int (0 : Int32)), .val (.int d0), .val (.int y0), .val (.int d1), .val (.int y1), .val (.int d2), .val (.int y2), .val (.ref b1), .val (.long (0 : Int64)), .second, .val (.int (1 : Int32))] [(.int (1 : Int32)), (.int (0 : Int32))]))
    have hc161_10 : (0 : Int) < (1 : Int) := by decide
    refine OwnGo.fwd (fun tq' kq' => XS.icmpYes X8.here hx rfl (pc0 := 161) (pc' := 198) rfl (hb hby at_161) rfl (own_blt (by decide) (by decide) hc161_10).1 (by decide) (by decide) kq') ?_
    show OwnGo _ _ _ _ (T8.setTop (mkF m 198 #[.val (.int p0), .val (.long q0), .second, .val (.long q1), .second, .val (.long q2), .second, .val (.int ca), .val (.int (0 : Int32)), .val (.int d0), .val (.int y0), .val (.int d1), .val (.int y1), .val (.int d2), .val (.int y2), .val (.ref b1), .val (.long (0 : Int64)), .second, .val (.int (1 : Int32))] []))
    refine OwnGo.fwd (fun tq' kq' => XS.iload X8.here hx rfl (hb hby at_198) rfl kq') ?_
    show OwnGo _ _ _ _ (T8.setTop (mkF m 200 #[.val (.int p0), .val (.long q0), .second, .val (.long q1), .second, .val (.long q2), .second, .val (.int ca), .val (.int (0 : Int32)), .val (.int d0), .val (.int y0), .val (.int d1), .val (.int y1), .val (.int d2), .val (.int y2), .val (.ref b1), .val (.long (0 : Int64)), .second, .val (.int (1 : Int32))] [(.int (0 : Int32))]))
    refine OwnGo.fwd (fun tq' kq' => XS.iconst X8.here hx rfl (hb hby at_200) kq') ?_
    show OwnGo _ _ _ _ (T8.setTop (mkF m 201 #[.val (.int p0), .val (.long q0), .second, .val (.long q1), .second, .val (.long q2), .second, .val (.int ca), .val (.int (0 : Int32)), .val (.int d0), .val (.int y0), .val (.int d1), .val (.int y1), .val (.int d2), .val (.int y2), .val (.ref b1), .val (.long (0 : Int64)), .second, .val (.int (1 : Int32))] [(.int (2 : Int32)), (.int (0 : Int32))]))
    have hc201_11 : (0 : Int) < (2 : Int) := by decide
    refine OwnGo.fwd (fun tq' kq' => XS.icmpYes X8.here hx rfl (pc0 := 201) (pc' := 238) rfl (hb hby at_201) rfl (own_blt (by decide) (by decide) hc201_11).1 (by decide) (by decide) kq') ?_
    show OwnGo _ _ _ _ (T8.setTop (mkF m 238 #[.val (.int p0), .val (.long q0), .second, .val (.long q1), .second, .val (.long q2), .second, .val (.int ca), .val (.int (0 : Int32)), .val (.int d0), .val (.int y0), .val (.int d1), .val (.int y1), .val (.int d2), .val (.int y2), .val (.ref b1), .val (.long (0 : Int64)), .second, .val (.int (1 : Int32))] []))
    refine OwnGo.fwd (fun tq' kq' => XS.iload X8.here hx rfl (hb hby at_238) rfl kq') ?_
    show OwnGo _ _ _ _ (T8.setTop (mkF m 240 #[.val (.int p0), .val (.long q0), .second, .val (.long q1), .second, .val (.long q2), .second, .val (.int ca), .val (.int (0 : Int32)), .val (.int d0), .val (.int y0), .val (.int d1), .val (.int y1), .val (.int d2), .val (.int y2), .val (.ref b1), .val (.long (0 : Int64)), .second, .val (.int (1 : Int32))] [(.int (0 : Int32))]))
    refine OwnGo.fwd (fun tq' kq' => XS.iconst X8.here hx rfl (hb hby at_240) kq') ?_
    show OwnGo _ _ _ _ (T8.setTop (mkF m 241 #[.val (.int p0), .val (.long q0), .second, .val (.long q1), .second, .val (.long q2), .second, .val (.int ca), .val (.int (0 : Int32)), .val (.int d0), .val (.int y0), .val (.int d1), .val (.int y1), .val (.int d2), .val (.int y2), .val (.ref b1), .val (.long (0 : Int64)), .second, .val (.int (1 : Int32))] [(.int (3 : Int32)), (.int (0 : Int32))]))
    have hc241_12 : (0 : Int) < (3 : Int) := by decide
    refine OwnGo.fwd (fun tq' kq' => XS.icmpYes X8.here hx rfl (pc0 := 241) (pc' := 278) rfl (hb hby at_241) rfl (own_blt (by decide) (by decide) hc241_12).1 (by decide) (by decide) kq') ?_
    show OwnGo _ _ _ _ (T8.setTop (mkF m 278 #[.val (.int p0), .val (.long q0), .second, .val (.long q1), .second, .val (.long q2), .second, .val (.int ca), .val (.int (0 : Int32)), .val (.int d0), .val (.int y0), .val (.int d1), .val (.int y1), .val (.int d2), .val (.int y2), .val (.ref b1), .val (.long (0 : Int64)), .second, .val (.int (1 : Int32))] []))
    refine OwnGo.fwd (fun tq' kq' => XS.iload X8.here hx rfl (hb hby at_278) rfl kq') ?_
    show OwnGo _ _ _ _ (T8.setTop (mkF m 280 #[.val (.int p0), .val (.long q0), .second, .val (.long q1), .second, .val (.long q2), .second, .val (.int ca), .val (.int (0 : Int32)), .val (.int d0), .val (.int y0), .val (.int d1), .val (.int y1), .val (.int d2), .val (.int y2), .val (.ref b1), .val (.long (0 : Int64)), .second, .val (.int (1 : Int32))] [(.int (1 : Int32))]))
    exact own_retZ X8 hlk hx Bd.returns (hb hby at_280) (by decide) (by decide) e8 ⟨rfl, N⟩
  · show OwnGo _ _ _ _ (T2.setTop (mkF m 61 #[.val (.int p0), .val (.long q0), .second, .val (.long q1), .second, .val (.long q2), .second, .val (.int ca), .val (.int (1 : Int32)), .val (.int d0), .val (.int y0), .val (.int d1), .val (.int y1), .val (.int d2), .val (.int y2), .val (.ref b1), .val (.long (0 : Int64)), .second, .unset] []))
    refine OwnGo.fwd (fun tq' kq' => XS.iload X2.here hx rfl (hb hby at_61) rfl kq') ?_
    show OwnGo _ _ _ _ (T2.setTop (mkF m 63 #[.val (.int p0), .val (.long q0), .second, .val (.long q1), .second, .val (.long q2), .second, .val (.int ca), .val (.int (1 : Int32)), .val (.int d0), .val (.int y0), .val (.int d1), .val (.int y1), .val (.int d2), .val (.int y2), .val (.ref b1), .val (.long (0 : Int64)), .second, .unset] [(.int (1 : Int32))]))
    refine OwnGo.fwd (fun tq' kq' => XS.iconst X2.here hx rfl (hb hby at_63) kq') ?_
    show OwnGo _ _ _ _ (T2.setTop (mkF m 64 #[.val (.int p0), .val (.long q0), .second, .val (.long q1), .second, .val (.long q2), .second, .val (.int ca), .val (.int (1 : Int32)), .val (.int d0), .val (.int y0), .val (.int d1), .val (.int y1), .val (.int d2), .val (.int y2), .val (.ref b1), .val (.long (0 : Int64)), .second, .unset] [(.int (1 : Int32)), (.int (1 : Int32))]))
    have hc64_13 : ¬ ((1 : Int) < (1 : Int)) := by decide
    refine OwnGo.fwd (fun tq' kq' => XS.icmpNo X2.here hx rfl (hb hby at_64) rfl (own_bnlt (by decide) (by decide) hc64_13).1 kq') ?_
    show OwnGo _ _ _ _ (T2.setTop (mkF m 67 #[.val (.int p0), .val (.long q0), .second, .val (.long q1), .second, .val (.long q2), .second, .val (.int ca), .val (.int (1 : Int32)), .val (.int d0), .val (.int y0), .val (.int d1), .val (.int y1), .val (.int d2), .val (.int y2), .val (.ref b1), .val (.long (0 : Int64)), .second, .unset] []))
    refine OwnGo.fwd (fun tq' kq' => XS.aload X2.here hx rfl (hb hby at_67) rfl rfl kq') ?_
    show OwnGo _ _ _ _ (T2.setTop (mkF m 69 #[.val (.int p0), .val (.long q0), .second, .val (.long q1), .second, .val (.long q2), .second, .val (.int ca), .val (.int (1 : Int32)), .val (.int d0), .val (.int y0), .val (.int d1), .val (.int y1), .val (.int d2), .val (.int y2), .val (.ref b1), .val (.long (0 : Int64)), .second, .unset] [(.ref b1)]))
    refine OwnGo.fwd (fun tq' kq' => XS.iload X2.here hx rfl (hb hby at_69) rfl kq') ?_
    show OwnGo _ _ _ _ (T2.setTop (mkF m 71 #[.val (.int p0), .val (.long q0), .second, .val (.long q1), .second, .val (.long q2), .second, .val (.int ca), .val (.int (1 : Int32)), .val (.int d0), .val (.int y0), .val (.int d1), .val (.int y1), .val (.int d2), .val (.int y2), .val (.ref b1), .val (.long (0 : Int64)), .second, .unset] [(.int d0), (.ref b1)]))
    refine OwnGo.fwd (fun tq' kq' => XS.iload X2.here hx rfl (hb hby at_71) rfl kq') ?_
    show OwnGo _ _ _ _ (T2.setTop (mkF m 73 #[.val (.int p0), .val (.long q0), .second, .val (.long q1), .second, .val (.long q2), .second, .val (.int ca), .val (.int (1 : Int32)), .val (.int d0), .val (.int y0), .val (.int d1), .val (.int y1), .val (.int d2), .val (.int y2), .val (.ref b1), .val (.long (0 : Int64)), .second, .unset] [(.int y0), (.int d0), (.ref b1)]))
    obtain ⟨cq14, kq14, q14a, q14b, q14c⟩ := isOf hZ eh2.symm E_b1
    obtain ⟨_, _, ⟨T14, L14, k14, n14⟩, -, X14, ⟨Lc14, hQ14, l14, y14, z14⟩, st14⟩ := X2.virtualBack hx (y := (⟨"com/example/inverse_frequency/inversefrequency/Postings", "add", "(II)V"⟩ : MethodName)) (z := (⟨"com/example/inverse_frequency/inversefrequency/Postings", "add", "(II)V"⟩ : MethodName)) hown (mvT hZ (hw _ (List.mem_of_getElem? (i := 32) rfl))) (mvT hZ (hw _ (List.mem_of_getElem? (i := 33) rfl))) (notFace_of_selects (args := #[]) (mvT hZ (hw _ (List.mem_of_getElem? (i := 35) rfl)))) (mvT hZ (hw _ (List.mem_of_getElem? (i := 35) rfl))) (mvT hZ (hw _ (List.mem_of_getElem? (i := 34) rfl))) (by decide) (backOf (W := 0) (rm6 l Z a0 hw [] b1 da fa 0 (0 : Int64) cp (fun _ => 0) (fun _ => 0) d0 y0 h2 n0 Zs ⟨E_b1, F_documents_b1, F_frequencies_b1, F_size_b1, F_totalFrequency_b1, V_da, V_fa, ne_b1_da, ne_b1_fa, ne_da_fa, g_b1, g_da, g_fa⟩ (by decide) (Nat.zero_le _) hcp1) hZ (hw _ (List.mem_of_getElem? (i := 36) rfl)) (hw _ (List.mem_of_getElem? (i := 2) rfl)) (by decide) (by decide)) q14a q14c (g := (mkF m 73 #[.val (.int p0), .val (.long q0), .second, .val (.long q1), .second, .val (.long q2), .second, .val (.int ca), .val (.int (1 : Int32)), .val (.int d0), .val (.int y0), .val (.int d1), .val (.int y1), .val (.int d2), .val (.int y2), .val (.ref b1), .val (.long (0 : Int64)), .second, .unset] [(.int y0), (.int d0), (.ref b1)])) rfl (by rw [hml]; rfl) (Steps.refl _) (argsL := [(.int d0), (.int y0)]) (rest := []) (lenOf pd_5 rfl) rfl (by show 2 * 0 + _ ≤ _; exact Nat.le_of_eq rfl) (hb hby at_73) (fun _ _ => ⟨rfl, eh2.symm, (by decide : 3 + 2 ≤ _), (by decide : 12 + 8 ≤ _)⟩)
    dsimp only [Pt.U, Pt.locs, Pt.cells, Pt.slots] at X14 l14 y14 z14 st14 hQ14
    subst l14 y14 z14
    obtain ⟨h14, eh14⟩ : ∃ z, z = T14.heap := ⟨_, rfl⟩
    rw [← eh14] at hQ14
    obtain ⟨rfl, N14q, K14, da1, fa1, cp1, f1, g1, hl1, ⟨E_b1, F_documents_b1, F_frequencies_b1, F_size_b1, F_totalFrequency_b1, V_da1, V_fa1, ne_b1_da1, ne_b1_fa1, ne_da1_fa1, g_b1, g_da1, g_fa1⟩, hf1, hfx1, hg1, hgx1⟩ := hQ14
    have N := Fr.app N N14q
    have Zs := Nat.le_trans Zs K14.1
    refine OwnGo.thru st14 ?_
    show OwnGo _ _ _ _ (T14.setTop (mkF m 76 #[.val (.int p0), .val (.long q0), .second, .val (.long q1), .second, .val (.long q2), .second, .val (.int ca), .val (.int (1 : Int32)), .val (.int d0), .val (.int y0), .val (.int d1), .val (.int y1), .val (.int d2), .val (.int y2), .val (.ref b1), .val (.long (0 : Int64)), .second, .unset] []))
    refine OwnGo.fwd (fun tq' kq' => XS.lload X14.here hx rfl (hb hby at_76) rfl kq') ?_
    show OwnGo _ _ _ _ (T14.setTop (mkF m 78 #[.val (.int p0), .val (.long q0), .second, .val (.long q1), .second, .val (.long q2), .second, .val (.int ca), .val (.int (1 : Int32)), .val (.int d0), .val (.int y0), .val (.int d1), .val (.int y1), .val (.int d2), .val (.int y2), .val (.ref b1), .val (.long (0 : Int64)), .second, .unset] [(.long (0 : Int64))]))
    refine OwnGo.fwd (fun tq' kq' => XS.iload X14.here hx rfl (hb hby at_78) rfl kq') ?_
    show OwnGo _ _ _ _ (T14.setTop (mkF m 80 #[.val (.int p0), .val (.long q0), .second, .val (.long q1), .second, .val (.long q2), .second, .val (.int ca), .val (.int (1 : Int32)), .val (.int d0), .val (.int y0), .val (.int d1), .val (.int y1), .val (.int d2), .val (.int y2), .val (.ref b1), .val (.long (0 : Int64)), .second, .unset] [(.int y0), (.long (0 : Int64))]))
    refine OwnGo.fwd (fun tq' kq' => XS.i2l X14.here hx rfl (hb hby at_80) rfl kq') ?_
    show OwnGo _ _ _ _ (T14.setTop (mkF m 81 #[.val (.int p0), .val (.long q0), .second, .val (.long q1), .second, .val (.long q2), .second, .val (.int ca), .val (.int (1 : Int32)), .val (.int d0), .val (.int y0), .val (.int d1), .val (.int y1), .val (.int d2), .val (.int y2), .val (.ref b1), .val (.long (0 : Int64)), .second, .unset] [(.long y0.toInt64), (.long (0 : Int64))]))
    refine OwnGo.fwd (fun tq' kq' => XS.ladd X14.here hx rfl (hb hby at_81) rfl kq') ?_
    show OwnGo _ _ _ _ (T14.setTop (mkF m 82 #[.val (.int p0), .val (.long q0), .second, .val (.long q1), .second, .val (.long q2), .second, .val (.int ca), .val (.int (1 : Int32)), .val (.int d0), .val (.int y0), .val (.int d1), .val (.int y1), .val (.int d2), .val (.int y2), .val (.ref b1), .val (.long (0 : Int64)), .second, .unset] [(.long ((0 : Int64) + y0.toInt64))]))
    refine OwnGo.fwd (fun tq' kq' => XS.lstore X14.here hx rfl (hb hby at_82) rfl (l' := #[.val (.int p0), .val (.long q0), .second, .val (.long q1), .second, .val (.long q2), .second, .val (.int ca), .val (.int (1 : Int32)), .val (.int d0), .val (.int y0), .val (.int d1), .val (.int y1), .val (.int d2), .val (.int y2), .val (.ref b1), .val (.long ((0 : Int64) + y0.toInt64)), .second, .unset]) rfl kq') ?_
    show OwnGo _ _ _ _ (T14.setTop (mkF m 84 #[.val (.int p0), .val (.long q0), .second, .val (.long q1), .second, .val (.long q2), .second, .val (.int ca), .val (.int (1 : Int32)), .val (.int d0), .val (.int y0), .val (.int d1), .val (.int y1), .val (.int d2), .val (.int y2), .val (.ref b1), .val (.long ((0 : Int64) + y0.toInt64)), .second, .unset] []))
    refine OwnGo.fwd (fun tq' kq' => XS.iload X14.here hx rfl (hb hby at_84) rfl kq') ?_
    show OwnGo _ _ _ _ (T14.setTop (mkF m 86 #[.val (.int p0), .val (.long q0), .second, .val (.long q1), .second, .val (.long q2), .second, .val (.int ca), .val (.int (1 : Int32)), .val (.int d0), .val (.int y0), .val (.int d1), .val (.int y1), .val (.int d2), .val (.int y2), .val (.ref b1), .val (.long ((0 : Int64) + y0.toInt64)), .second, .unset] [(.int (1 : Int32))]))
    refine OwnGo.fwd (fun tq' kq' => XS.iconst X14.here hx rfl (hb hby at_86) kq') ?_
    show OwnGo _ _ _ _ (T14.setTop (mkF m 87 #[.val (.int p0), .val (.long q0), .second, .val (.long q1), .second, .val (.long q2), .second, .val (.int ca), .val (.int (1 : Int32)), .val (.int d0), .val (.int y0), .val (.int d1), .val (.int y1), .val (.int d2), .val (.int y2), .val (.ref b1), .val (.long ((0 : Int64) + y0.toInt64)), .second, .unset] [(.int (2 : Int32)), (.int (1 : Int32))]))
    have hc87_15 : (1 : Int) < (2 : Int) := by decide
    refine OwnGo.fwd (fun tq' kq' => XS.icmpYes X14.here hx rfl (pc0 := 87) (pc' := 107) rfl (hb hby at_87) rfl (own_blt (by decide) (by decide) hc87_15).1 (by decide) (by decide) kq') ?_
    show OwnGo _ _ _ _ (T14.setTop (mkF m 107 #[.val (.int p0), .val (.long q0), .second, .val (.long q1), .second, .val (.long q2), .second, .val (.int ca), .val (.int (1 : Int32)), .val (.int d0), .val (.int y0), .val (.int d1), .val (.int y1), .val (.int d2), .val (.int y2), .val (.ref b1), .val (.long ((0 : Int64) + y0.toInt64)), .second, .unset] []))
    refine OwnGo.fwd (fun tq' kq' => XS.iload X14.here hx rfl (hb hby at_107) rfl kq') ?_
    show OwnGo _ _ _ _ (T14.setTop (mkF m 109 #[.val (.int p0), .val (.long q0), .second, .val (.long q1), .second, .val (.long q2), .second, .val (.int ca), .val (.int (1 : Int32)), .val (.int d0), .val (.int y0), .val (.int d1), .val (.int y1), .val (.int d2), .val (.int y2), .val (.ref b1), .val (.long ((0 : Int64) + y0.toInt64)), .second, .unset] [(.int (1 : Int32))]))
    refine OwnGo.fwd (fun tq' kq' => XS.iconst X14.here hx rfl (hb hby at_109) kq') ?_
    show OwnGo _ _ _ _ (T14.setTop (mkF m 110 #[.val (.int p0), .val (.long q0), .second, .val (.long q1), .second, .val (.long q2), .second, .val (.int ca), .val (.int (1 : Int32)), .val (.int d0), .val (.int y0), .val (.int d1), .val (.int y1), .val (.int d2), .val (.int y2), .val (.ref b1), .val (.long ((0 : Int64) + y0.toInt64)), .second, .unset] [(.int (3 : Int32)), (.int (1 : Int32))]))
    have hc110_16 : (1 : Int) < (3 : Int) := by decide
    refine OwnGo.fwd (fun tq' kq' => XS.icmpYes X14.here hx rfl (pc0 := 110) (pc' := 130) rfl (hb hby at_110) rfl (own_blt (by decide) (by decide) hc110_16).1 (by decide) (by decide) kq') ?_
    show OwnGo _ _ _ _ (T14.setTop (mkF m 130 #[.val (.int p0), .val (.long q0), .second, .val (.long q1), .second, .val (.long q2), .second, .val (.int ca), .val (.int (1 : Int32)), .val (.int d0), .val (.int y0), .val (.int d1), .val (.int y1), .val (.int d2), .val (.int y2), .val (.ref b1), .val (.long ((0 : Int64) + y0.toInt64)), .second, .unset] []))
    refine OwnGo.fwd (fun tq' kq' => XS.aload X14.here hx rfl (hb hby at_130) rfl rfl kq') ?_
    show OwnGo _ _ _ _ (T14.setTop (mkF m 132 #[.val (.int p0), .val (.long q0), .second, .val (.long q1), .second, .val (.long q2), .second, .val (.int ca), .val (.int (1 : Int32)), .val (.int d0), .val (.int y0), .val (.int d1), .val (.int y1), .val (.int d2), .val (.int y2), .val (.ref b1), .val (.long ((0 : Int64) + y0.toInt64)), .second, .unset] [(.ref b1)]))
    obtain ⟨cq17, kq17, q17a, q17b, q17c⟩ := isOf hZ eh14.symm E_b1
    obtain ⟨_, _, ⟨T17, L17, k17, n17⟩, -, X17, ⟨Lc17, hQ17, l17, y17, z17⟩, st17⟩ := X14.virtualBack hx (y := (⟨"com/example/inverse_frequency/inversefrequency/Postings", "size", "()I"⟩ : MethodName)) (z := (⟨"com/example/inverse_frequency/inversefrequency/Postings", "size", "()I"⟩ : MethodName)) hown (mvT hZ (hw _ (List.mem_of_getElem? (i := 18) rfl))) (mvT hZ (hw _ (List.mem_of_getElem? (i := 19) rfl))) (notFace_of_selects (args := #[]) (mvT hZ (hw _ (List.mem_of_getElem? (i := 21) rfl)))) (mvT hZ (hw _ (List.mem_of_getElem? (i := 21) rfl))) (mvT hZ (hw _ (List.mem_of_getElem? (i := 20) rfl))) (by decide) (backOf (W := 0) (rm4 l Z a0 hw [] b1 da1 fa1 1 ((0 : Int64) + y0.toInt64) cp1 f1 g1 h14 n0 Zs ⟨E_b1, F_documents_b1, F_frequencies_b1, F_size_b1, F_totalFrequency_b1, V_da1, V_fa1, ne_b1_da1, ne_b1_fa1, ne_da1_fa1, g_b1, g_da1, g_fa1⟩) hZ (hw _ (List.mem_of_getElem? (i := 22) rfl)) (hw _ (List.mem_of_getElem? (i := 2) rfl)) (by decide) (by decide)) q17a q17c (g := (mkF m 132 #[.val (.int p0), .val (.long q0), .second, .val (.long q1), .second, .val (.long q2), .second, .val (.int ca), .val (.int (1 : Int32)), .val (.int d0), .val (.int y0), .val (.int d1), .val (.int y1), .val (.int d2), .val (.int y2), .val (.ref b1), .val (.long ((0 : Int64) + y0.toInt64)), .second, .unset] [(.ref b1)])) rfl (by rw [hml]; rfl) (Steps.refl _) (argsL := []) (rest := []) (lenOf pd_3 rfl) rfl (by show 2 * 0 + _ ≤ _; exact Nat.le_of_eq rfl) (hb hby at_132) (fun _ _ => ⟨rfl, eh14.symm, (by decide : 5 + 0 ≤ _), (by decide : 20 + 0 ≤ _)⟩)
    dsimp only [Pt.U, Pt.locs, Pt.cells, Pt.slots] at X17 l17 y17 z17 st17 hQ17
    subst l17 y17 z17
    obtain ⟨rfl, N17q, e17⟩ := hQ17
    have N := Fr.app N N17q
    refine OwnGo.thru st17 ?_
    show OwnGo _ _ _ _ (T17.setTop (mkF m 135 #[.val (.int p0), .val (.long q0), .second, .val (.long q1), .second, .val (.long q2), .second, .val (.int ca), .val (.int (1 : Int32)), .val (.int d0), .val (.int y0), .val (.int d1), .val (.int y1), .val (.int d2), .val (.int y2), .val (.ref b1), .val (.long ((0 : Int64) + y0.toInt64)), .second, .unset] [(.int (Int32.ofNat 1))]))
    refine OwnGo.fwd (fun tq' kq' => XS.iload X17.here hx rfl (hb hby at_135) rfl kq') ?_
    show OwnGo _ _ _ _ (T17.setTop (mkF m 137 #[.val (.int p0), .val (.long q0), .second, .val (.long q1), .second, .val (.long q2), .second, .val (.int ca), .val (.int (1 : Int32)), .val (.int d0), .val (.int y0), .val (.int d1), .val (.int y1), .val (.int d2), .val (.int y2), .val (.ref b1), .val (.long ((0 : Int64) + y0.toInt64)), .second, .unset] [(.int (1 : Int32)), (.int (Int32.ofNat 1))]))
    have hc137_18 : (1 : Int) = (1 : Int) := by decide
    refine OwnGo.fwd (fun tq' kq' => XS.icmpNo X17.here hx rfl (hb hby at_137) rfl (own_beq (by decide) (by decide) hc137_18).2 kq') ?_
    show OwnGo _ _ _ _ (T17.setTop (mkF m 140 #[.val (.int p0), .val (.long q0), .second, .val (.long q1), .second, .val (.long q2), .second, .val (.int ca), .val (.int (1 : Int32)), .val (.int d0), .val (.int y0), .val (.int d1), .val (.int y1), .val (.int d2), .val (.int y2), .val (.ref b1), .val (.long ((0 : Int64) + y0.toInt64)), .second, .unset] []))
    refine OwnGo.fwd (fun tq' kq' => XS.aload X17.here hx rfl (hb hby at_140) rfl rfl kq') ?_
    show OwnGo _ _ _ _ (T17.setTop (mkF m 142 #[.val (.int p0), .val (.long q0), .second, .val (.long q1), .second, .val (.long q2), .second, .val (.int ca), .val (.int (1 : Int32)), .val (.int d0), .val (.int y0), .val (.int d1), .val (.int y1), .val (.int d2), .val (.int y2), .val (.ref b1), .val (.long ((0 : Int64) + y0.toInt64)), .second, .unset] [(.ref b1)]))
    obtain ⟨cq19, kq19, q19a, q19b, q19c⟩ := isOf hZ e17 E_b1
    obtain ⟨_, _, ⟨T19, L19, k19, n19⟩, -, X19, ⟨Lc19, hQ19, l19, y19, z19⟩, st19⟩ := X17.virtualBack hx (y := (⟨"com/example/inverse_frequency/inversefrequency/Postings", "totalFrequency", "()J"⟩ : MethodName)) (z := (⟨"com/example/inverse_frequency/inversefrequency/Postings", "totalFrequency", "()J"⟩ : MethodName)) hown (mvT hZ (hw _ (List.mem_of_getElem? (i := 25) rfl))) (mvT hZ (hw _ (List.mem_of_getElem? (i := 26) rfl))) (notFace_of_selects (args := #[]) (mvT hZ (hw _ (List.mem_of_getElem? (i := 28) rfl)))) (mvT hZ (hw _ (List.mem_of_getElem? (i := 28) rfl))) (mvT hZ (hw _ (List.mem_of_getElem? (i := 27) rfl))) (by decide) (backOf (W := 0) (rm5 l Z a0 hw [] b1 da1 fa1 1 ((0 : Int64) + y0.toInt64) cp1 f1 g1 h14 n0 Zs ⟨E_b1, F_documents_b1, F_frequencies_b1, F_size_b1, F_totalFrequency_b1, V_da1, V_fa1, ne_b1_da1, ne_b1_fa1, ne_da1_fa1, g_b1, g_da1, g_fa1⟩) hZ (hw _ (List.mem_of_getElem? (i := 29) rfl)) (hw _ (List.mem_of_getElem? (i := 2) rfl)) (by decide) (by decide)) q19a q19c (g := (mkF m 142 #[.val (.int p0), .val (.long q0), .second, .val (.long q1), .second, .val (.long q2), .second, .val (.int ca), .val (.int (1 : Int32)), .val (.int d0), .val (.int y0), .val (.int d1), .val (.int y1), .val (.int d2), .val (.int y2), .val (.ref b1), .val (.long ((0 : Int64) + y0.toInt64)), .second, .unset] [(.ref b1)])) rfl (by rw [hml]; rfl) (Steps.refl _) (argsL := []) (rest := []) (lenOf pd_4 rfl) rfl (by show 2 * 0 + _ ≤ _; exact Nat.le_of_eq rfl) (hb hby at_142) (fun _ _ => ⟨rfl, e17, (by decide : 5 + 0 ≤ _), (by decide : 20 + 0 ≤ _)⟩)
    dsimp only [Pt.U, Pt.locs, Pt.cells, Pt.slots] at X19 l19 y19 z19 st19 hQ19
    subst l19 y19 z19
    obtain ⟨rfl, N19q, e19⟩ := hQ19
    have N := Fr.app N N19q
    refine OwnGo.thru st19 ?_
    show OwnGo _ _ _ _ (T19.setTop (mkF m 145 #[.val (.int p0), .val (.long q0), .second, .val (.long q1), .second, .val (.long q2), .second, .val (.int ca), .val (.int (1 : Int32)), .val (.int d0), .val (.int y0), .val (.int d1), .val (.int y1), .val (.int d2), .val (.int y2), .val (.ref b1), .val (.long ((0 : Int64) + y0.toInt64)), .second, .unset] [(.long ((0 : Int64) + y0.toInt64))]))
    refine OwnGo.fwd (fun tq' kq' => XS.lload X19.here hx rfl (hb hby at_145) rfl kq') ?_
    show OwnGo _ _ _ _ (T19.setTop (mkF m 147 #[.val (.int p0), .val (.long q0), .second, .val (.long q1), .second, .val (.long q2), .second, .val (.int ca), .val (.int (1 : Int32)), .val (.int d0), .val (.int y0), .val (.int d1), .val (.int y1), .val (.int d2), .val (.int y2), .val (.ref b1), .val (.long ((0 : Int64) + y0.toInt64)), .second, .unset] [(.long ((0 : Int64) + y0.toInt64)), (.long ((0 : Int64) + y0.toInt64))]))
    refine OwnGo.fwd (fun tq' kq' => XS.lcmp X19.here hx rfl (hb hby at_147) rfl kq') ?_
    show OwnGo _ _ _ _ (T19.setTop (mkF m 148 #[.val (.int p0), .val (.long q0), .second, .val (.long q1), .second, .val (.long q2), .second, .val (.int ca), .val (.int (1 : Int32)), .val (.int d0), .val (.int y0), .val (.int d1), .val (.int y1), .val (.int d2), .val (.int y2), .val (.ref b1), .val (.long ((0 : Int64) + y0.toInt64)), .second, .unset] [(.int (lcmpW ((0 : Int64) + y0.toInt64) ((0 : Int64) + y0.toInt64)))]))
    have hc148_20 : ((0 : Int64) + y0.toInt64).toInt = ((0 : Int64) + y0.toInt64).toInt := rfl
    refine OwnGo.fwd (fun tq' kq' => XS.ifNo X19.here hx rfl (hb hby at_148) rfl (own_Leq rfl rfl hc148_20).2 kq') ?_
    show OwnGo _ _ _ _ (T19.setTop (mkF m 151 #[.val (.int p0), .val (.long q0), .second, .val (.long q1), .second, .val (.long q2), .second, .val (.int ca), .val (.int (1 : Int32)), .val (.int d0), .val (.int y0), .val (.int d1), .val (.int y1), .val (.int d2), .val (.int y2), .val (.ref b1), .val (.long ((0 : Int64) + y0.toInt64)), .second, .unset] []))
    refine OwnGo.fwd (fun tq' kq' => XS.iconst X19.here hx rfl (hb hby at_151) kq') ?_
    show OwnGo _ _ _ _ (T19.setTop (mkF m 152 #[.val (.int p0), .val (.long q0), .second, .val (.long q1), .second, .val (.long q2), .second, .val (.int ca), .val (.int (1 : Int32)), .val (.int d0), .val (.int y0), .val (.int d1), .val (.int y1), .val (.int d2), .val (.int y2), .val (.ref b1), .val (.long ((0 : Int64) + y0.toInt64)), .second, .unset] [(.int (1 : Int32))]))
    refine OwnGo.fwd (fun tq' kq' => XS.goto X19.here hx rfl (pc0 := 152) (pc' := 156) rfl (hb hby at_152) (by decide) (by decide) kq') ?_
    show OwnGo _ _ _ _ (T19.setTop (mkF m 156 #[.val (.int p0), .val (.long q0), .second, .val (.long q1), .second, .val (.long q2), .second, .val (.int ca), .val (.int (1 : Int32)), .val (.int d0), .val (.int y0), .val (.int d1), .val (.int y1), .val (.int d2), .val (.int y2), .val (.ref b1), .val (.long ((0 : Int64) + y0.toInt64)), .second, .unset] [(.int (1 : Int32))]))
    refine OwnGo.fwd (fun tq' kq' => XS.istore X19.here hx rfl (hb hby at_156) rfl (l' := #[.val (.int p0), .val (.long q0), .second, .val (.long q1), .second, .val (.long q2), .second, .val (.int ca), .val (.int (1 : Int32)), .val (.int d0), .val (.int y0), .val (.int d1), .val (.int y1), .val (.int d2), .val (.int y2), .val (.ref b1), .val (.long ((0 : Int64) + y0.toInt64)), .second, .val (.int (1 : Int32))]) rfl kq') ?_
    show OwnGo _ _ _ _ (T19.setTop (mkF m 158 #[.val (.int p0), .val (.long q0), .second, .val (.long q1), .second, .val (.long q2), .second, .val (.int ca), .val (.int (1 : Int32)), .val (.int d0), .val (.int y0), .val (.int d1), .val (.int y1), .val (.int d2), .val (.int y2), .val (.ref b1), .val (.long ((0 : Int64) + y0.toInt64)), .second, .val (.int (1 : Int32))] []))
    refine OwnGo.fwd (fun tq' kq' => XS.iload X19.here hx rfl (hb hby at_158) rfl kq') ?_
    show OwnGo _ _ _ _ (T19.setTop (mkF m 160 #[.val (.int p0), .val (.long q0), .second, .val (.long q1), .second, .val (.long q2), .second, .val (.int ca), .val (.int (1 : Int32)), .val (.int d0), .val (.int y0), .val (.int d1), .val (.int y1), .val (.int d2), .val (.int y2), .val (.ref b1), .val (.long ((0 : Int64) + y0.toInt64)), .second, .val (.int (1 : Int32))] [(.int (1 : Int32))]))
    refine OwnGo.fwd (fun tq' kq' => XS.iconst X19.here hx rfl (hb hby at_160) kq') ?_
    show OwnGo _ _ _ _ (T19.setTop (mkF m 161 #[.val (.int p0), .val (.long q0), .second, .val (.long q1), .second, .val (.long q2), .second, .val (.int ca), .val (.int (1 : Int32)), .val (.int d0), .val (.int y0), .val (.int d1), .val (.int y1), .val (.int d2), .val (.int y2), .val (.ref b1), .val (.long ((0 : Int64) + y0.toInt64)), .second, .val (.int (1 : Int32))] [(.int (1 : Int32)), (.int (1 : Int32))]))
    have hc161_21 : ¬ ((1 : Int) < (1 : Int)) := by decide
    refine OwnGo.fwd (fun tq' kq' => XS.icmpNo X19.here hx rfl (hb hby at_161) rfl (own_bnlt (by decide) (by decide) hc161_21).1 kq') ?_
    show OwnGo _ _ _ _ (T19.setTop (mkF m 164 #[.val (.int p0), .val (.long q0), .second, .val (.long q1), .second, .val (.long q2), .second, .val (.int ca), .val (.int (1 : Int32)), .val (.int d0), .val (.int y0), .val (.int d1), .val (.int y1), .val (.int d2), .val (.int y2), .val (.ref b1), .val (.long ((0 : Int64) + y0.toInt64)), .second, .val (.int (1 : Int32))] []))
    refine OwnGo.fwd (fun tq' kq' => XS.iload X19.here hx rfl (hb hby at_164) rfl kq') ?_
    show OwnGo _ _ _ _ (T19.setTop (mkF m 166 #[.val (.int p0), .val (.long q0), .second, .val (.long q1), .second, .val (.long q2), .second, .val (.int ca), .val (.int (1 : Int32)), .val (.int d0), .val (.int y0), .val (.int d1), .val (.int y1), .val (.int d2), .val (.int y2), .val (.ref b1), .val (.long ((0 : Int64) + y0.toInt64)), .second, .val (.int (1 : Int32))] [(.int (1 : Int32))]))
    have hc166_22 : ¬ ((1 : Int) = (0 : Int)) := by decide
    refine OwnGo.fwd (fun tq' kq' => XS.ifNo X19.here hx rfl (hb hby at_166) rfl ((if0 _ _).trans (own_bneq (by decide) (by decide) hc166_22).1) kq') ?_
    show OwnGo _ _ _ _ (T19.setTop (mkF m 169 #[.val (.int p0), .val (.long q0), .second, .val (.long q1), .second, .val (.long q2), .second, .val (.int ca), .val (.int (1 : Int32)), .val (.int d0), .val (.int y0), .val (.int d1), .val (.int y1), .val (.int d2), .val (.int y2), .val (.ref b1), .val (.long ((0 : Int64) + y0.toInt64)), .second, .val (.int (1 : Int32))] []))
    refine OwnGo.fwd (fun tq' kq' => XS.aload X19.here hx rfl (hb hby at_169) rfl rfl kq') ?_
    show OwnGo _ _ _ _ (T19.setTop (mkF m 171 #[.val (.int p0), .val (.long q0), .second, .val (.long q1), .second, .val (.long q2), .second, .val (.int ca), .val (.int (1 : Int32)), .val (.int d0), .val (.int y0), .val (.int d1), .val (.int y1), .val (.int d2), .val (.int y2), .val (.ref b1), .val (.long ((0 : Int64) + y0.toInt64)), .second, .val (.int (1 : Int32))] [(.ref b1)]))
    refine OwnGo.fwd (fun tq' kq' => XS.iconst X19.here hx rfl (hb hby at_171) kq') ?_
    show OwnGo _ _ _ _ (T19.setTop (mkF m 172 #[.val (.int p0), .val (.long q0), .second, .val (.long q1), .second, .val (.long q2), .second, .val (.int ca), .val (.int (1 : Int32)), .val (.int d0), .val (.int y0), .val (.int d1), .val (.int y1), .val (.int d2), .val (.int y2), .val (.ref b1), .val (.long ((0 : Int64) + y0.toInt64)), .second, .val (.int (1 : Int32))] [(.int (0 : Int32)), (.ref b1)]))
    obtain ⟨cq23, kq23, q23a, q23b, q23c⟩ := isOf hZ e19 E_b1
    obtain ⟨_, _, ⟨T23, L23, k23, n23⟩, -, X23, ⟨Lc23, hQ23, l23, y23, z23⟩, st23⟩ := X19.virtualBack hx (y := (⟨"com/example/inverse_frequency/inversefrequency/Postings", "document", "(I)I"⟩ : MethodName)) (z := (⟨"com/example/inverse_frequency/inversefrequency/Postings", "document", "(I)I"⟩ : MethodName)) hown (mvT hZ (hw _ (List.mem_of_getElem? (i := 37) rfl))) (mvT hZ (hw _ (List.mem_of_getElem? (i := 38) rfl))) (notFace_of_selects (args := #[]) (mvT hZ (hw _ (List.mem_of_getElem? (i := 40) rfl)))) (mvT hZ (hw _ (List.mem_of_getElem? (i := 40) rfl))) (mvT hZ (hw _ (List.mem_of_getElem? (i := 39) rfl))) (by decide) (backOf (W := 0) (rm7 l Z a0 hw [] b1 da1 fa1 1 ((0 : Int64) + y0.toInt64) cp1 f1 g1 (0 : Int32) 0 h14 n0 Zs ⟨E_b1, F_documents_b1, F_frequencies_b1, F_size_b1, F_totalFrequency_b1, V_da1, V_fa1, ne_b1_da1, ne_b1_fa1, ne_da1_fa1, g_b1, g_da1, g_fa1⟩ (by decide) (by omega)) hZ (hw _ (List.mem_of_getElem? (i := 41) rfl)) (hw _ (List.mem_of_getElem? (i := 2) rfl)) (by decide) (by decide)) q23a q23c (g := (mkF m 172 #[.val (.int p0), .val (.long q0), .second, .val (.long q1), .second, .val (.long q2), .second, .val (.int ca), .val (.int (1 : Int32)), .val (.int d0), .val (.int y0), .val (.int d1), .val (.int y1), .val (.int d2), .val (.int y2), .val (.ref b1), .val (.long ((0 : Int64) + y0.toInt64)), .second, .val (.int (1 : Int32))] [(.int (0 : Int32)), (.ref b1)])) rfl (by rw [hml]; rfl) (Steps.refl _) (argsL := [(.int (0 : Int32))]) (rest := []) (lenOf pd_6 rfl) rfl (by show 2 * 0 + _ ≤ _; exact Nat.le_of_eq rfl) (hb hby at_172) (fun _ _ => ⟨rfl, e19, (by decide : 5 + 0 ≤ _), (by decide : 20 + 0 ≤ _)⟩)
    dsimp only [Pt.U, Pt.locs, Pt.cells, Pt.slots] at X23 l23 y23 z23 st23 hQ23
    subst l23 y23 z23
    obtain ⟨rfl, N23q, e23⟩ := hQ23
    have N := Fr.app N N23q
    refine OwnGo.thru st23 ?_
    show OwnGo _ _ _ _ (T23.setTop (mkF m 175 #[.val (.int p0), .val (.long q0), .second, .val (.long q1), .second, .val (.long q2), .second, .val (.int ca), .val (.int (1 : Int32)), .val (.int d0), .val (.int y0), .val (.int d1), .val (.int y1), .val (.int d2), .val (.int y2), .val (.ref b1), .val (.long ((0 : Int64) + y0.toInt64)), .second, .val (.int (1 : Int32))] [(.int (f1 0))]))
    refine OwnGo.fwd (fun tq' kq' => XS.iload X23.here hx rfl (hb hby at_175) rfl kq') ?_
    show OwnGo _ _ _ _ (T23.setTop (mkF m 177 #[.val (.int p0), .val (.long q0), .second, .val (.long q1), .second, .val (.long q2), .second, .val (.int ca), .val (.int (1 : Int32)), .val (.int d0), .val (.int y0), .val (.int d1), .val (.int y1), .val (.int d2), .val (.int y2), .val (.ref b1), .val (.long ((0 : Int64) + y0.toInt64)), .second, .val (.int (1 : Int32))] [(.int d0), (.int (f1 0))]))
    have hc177_24 : (f1 0).toInt = d0.toInt := by rw [hfx1]
    refine OwnGo.fwd (fun tq' kq' => XS.icmpNo X23.here hx rfl (hb hby at_177) rfl (own_beq rfl rfl hc177_24).2 kq') ?_
    show OwnGo _ _ _ _ (T23.setTop (mkF m 180 #[.val (.int p0), .val (.long q0), .second, .val (.long q1), .second, .val (.long q2), .second, .val (.int ca), .val (.int (1 : Int32)), .val (.int d0), .val (.int y0), .val (.int d1), .val (.int y1), .val (.int d2), .val (.int y2), .val (.ref b1), .val (.long ((0 : Int64) + y0.toInt64)), .second, .val (.int (1 : Int32))] []))
    refine OwnGo.fwd (fun tq' kq' => XS.aload X23.here hx rfl (hb hby at_180) rfl rfl kq') ?_
    show OwnGo _ _ _ _ (T23.setTop (mkF m 182 #[.val (.int p0), .val (.long q0), .second, .val (.long q1), .second, .val (.long q2), .second, .val (.int ca), .val (.int (1 : Int32)), .val (.int d0), .val (.int y0), .val (.int d1), .val (.int y1), .val (.int d2), .val (.int y2), .val (.ref b1), .val (.long ((0 : Int64) + y0.toInt64)), .second, .val (.int (1 : Int32))] [(.ref b1)]))
    refine OwnGo.fwd (fun tq' kq' => XS.iconst X23.here hx rfl (hb hby at_182) kq') ?_
    show OwnGo _ _ _ _ (T23.setTop (mkF m 183 #[.val (.int p0), .val (.long q0), .second, .val (.long q1), .second, .val (.long q2), .second, .val (.int ca), .val (.int (1 : Int32)), .val (.int d0), .val (.int y0), .val (.int d1), .val (.int y1), .val (.int d2), .val (.int y2), .val (.ref b1), .val (.long ((0 : Int64) + y0.toInt64)), .second, .val (.int (1 : Int32))] [(.int (0 : Int32)), (.ref b1)]))
    obtain ⟨cq25, kq25, q25a, q25b, q25c⟩ := isOf hZ e23 E_b1
    obtain ⟨_, _, ⟨T25, L25, k25, n25⟩, -, X25, ⟨Lc25, hQ25, l25, y25, z25⟩, st25⟩ := X23.virtualBack hx (y := (⟨"com/example/inverse_frequency/inversefrequency/Postings", "frequency", "(I)I"⟩ : MethodName)) (z := (⟨"com/example/inverse_frequency/inversefrequency/Postings", "frequency", "(I)I"⟩ : MethodName)) hown (mvT hZ (hw _ (List.mem_of_getElem? (i := 42) rfl))) (mvT hZ (hw _ (List.mem_of_getElem? (i := 43) rfl))) (notFace_of_selects (args := #[]) (mvT hZ (hw _ (List.mem_of_getElem? (i := 45) rfl)))) (mvT hZ (hw _ (List.mem_of_getElem? (i := 45) rfl))) (mvT hZ (hw _ (List.mem_of_getElem? (i := 44) rfl))) (by decide) (backOf (W := 0) (rm8 l Z a0 hw [] b1 da1 fa1 1 ((0 : Int64) + y0.toInt64) cp1 f1 g1 (0 : Int32) 0 h14 n0 Zs ⟨E_b1, F_documents_b1, F_frequencies_b1, F_size_b1, F_totalFrequency_b1, V_da1, V_fa1, ne_b1_da1, ne_b1_fa1, ne_da1_fa1, g_b1, g_da1, g_fa1⟩ (by decide) (by omega)) hZ (hw _ (List.mem_of_getElem? (i := 46) rfl)) (hw _ (List.mem_of_getElem? (i := 2) rfl)) (by decide) (by decide)) q25a q25c (g := (mkF m 183 #[.val (.int p0), .val (.long q0), .second, .val (.long q1), .second, .val (.long q2), .second, .val (.int ca), .val (.int (1 : Int32)), .val (.int d0), .val (.int y0), .val (.int d1), .val (.int y1), .val (.int d2), .val (.int y2), .val (.ref b1), .val (.long ((0 : Int64) + y0.toInt64)), .second, .val (.int (1 : Int32))] [(.int (0 : Int32)), (.ref b1)])) rfl (by rw [hml]; rfl) (Steps.refl _) (argsL := [(.int (0 : Int32))]) (rest := []) (lenOf pd_6 rfl) rfl (by show 2 * 0 + _ ≤ _; exact Nat.le_of_eq rfl) (hb hby at_183) (fun _ _ => ⟨rfl, e23, (by decide : 5 + 0 ≤ _), (by decide : 20 + 0 ≤ _)⟩)
    dsimp only [Pt.U, Pt.locs, Pt.cells, Pt.slots] at X25 l25 y25 z25 st25 hQ25
    subst l25 y25 z25
    obtain ⟨rfl, N25q, e25⟩ := hQ25
    have N := Fr.app N N25q
    refine OwnGo.thru st25 ?_
    show OwnGo _ _ _ _ (T25.setTop (mkF m 186 #[.val (.int p0), .val (.long q0), .second, .val (.long q1), .second, .val (.long q2), .second, .val (.int ca), .val (.int (1 : Int32)), .val (.int d0), .val (.int y0), .val (.int d1), .val (.int y1), .val (.int d2), .val (.int y2), .val (.ref b1), .val (.long ((0 : Int64) + y0.toInt64)), .second, .val (.int (1 : Int32))] [(.int (g1 0))]))
    refine OwnGo.fwd (fun tq' kq' => XS.iload X25.here hx rfl (hb hby at_186) rfl kq') ?_
    show OwnGo _ _ _ _ (T25.setTop (mkF m 188 #[.val (.int p0), .val (.long q0), .second, .val (.long q1), .second, .val (.long q2), .second, .val (.int ca), .val (.int (1 : Int32)), .val (.int d0), .val (.int y0), .val (.int d1), .val (.int y1), .val (.int d2), .val (.int y2), .val (.ref b1), .val (.long ((0 : Int64) + y0.toInt64)), .second, .val (.int (1 : Int32))] [(.int y0), (.int (g1 0))]))
    have hc188_26 : (g1 0).toInt = y0.toInt := by rw [hgx1]
    refine OwnGo.fwd (fun tq' kq' => XS.icmpNo X25.here hx rfl (hb hby at_188) rfl (own_beq rfl rfl hc188_26).2 kq') ?_
    show OwnGo _ _ _ _ (T25.setTop (mkF m 191 #[.val (.int p0), .val (.long q0), .second, .val (.long q1), .second, .val (.long q2), .second, .val (.int ca), .val (.int (1 : Int32)), .val (.int d0), .val (.int y0), .val (.int d1), .val (.int y1), .val (.int d2), .val (.int y2), .val (.ref b1), .val (.long ((0 : Int64) + y0.toInt64)), .second, .val (.int (1 : Int32))] []))
    refine OwnGo.fwd (fun tq' kq' => XS.iconst X25.here hx rfl (hb hby at_191) kq') ?_
    show OwnGo _ _ _ _ (T25.setTop (mkF m 192 #[.val (.int p0), .val (.long q0), .second, .val (.long q1), .second, .val (.long q2), .second, .val (.int ca), .val (.int (1 : Int32)), .val (.int d0), .val (.int y0), .val (.int d1), .val (.int y1), .val (.int d2), .val (.int y2), .val (.ref b1), .val (.long ((0 : Int64) + y0.toInt64)), .second, .val (.int (1 : Int32))] [(.int (1 : Int32))]))
    refine OwnGo.fwd (fun tq' kq' => XS.goto X25.here hx rfl (pc0 := 192) (pc' := 196) rfl (hb hby at_192) (by decide) (by decide) kq') ?_
    show OwnGo _ _ _ _ (T25.setTop (mkF m 196 #[.val (.int p0), .val (.long q0), .second, .val (.long q1), .second, .val (.long q2), .second, .val (.int ca), .val (.int (1 : Int32)), .val (.int d0), .val (.int y0), .val (.int d1), .val (.int y1), .val (.int d2), .val (.int y2), .val (.ref b1), .val (.long ((0 : Int64) + y0.toInt64)), .second, .val (.int (1 : Int32))] [(.int (1 : Int32))]))
    refine OwnGo.fwd (fun tq' kq' => XS.istore X25.here hx rfl (hb hby at_196) rfl (l' := #[.val (.int p0), .val (.long q0), .second, .val (.long q1), .second, .val (.long q2), .second, .val (.int ca), .val (.int (1 : Int32)), .val (.int d0), .val (.int y0), .val (.int d1), .val (.int y1), .val (.int d2), .val (.int y2), .val (.ref b1), .val (.long ((0 : Int64) + y0.toInt64)), .second, .val (.int (1 : Int32))]) rfl kq') ?_
    show OwnGo _ _ _ _ (T25.setTop (mkF m 198 #[.val (.int p0), .val (.long q0), .second, .val (.long q1), .second, .val (.long q2), .second, .val (.int ca), .val (.int (1 : Int32)), .val (.int d0), .val (.int y0), .val (.int d1), .val (.int y1), .val (.int d2), .val (.int y2), .val (.ref b1), .val (.long ((0 : Int64) + y0.toInt64)), .second, .val (.int (1 : Int32))] []))
    refine OwnGo.fwd (fun tq' kq' => XS.iload X25.here hx rfl (hb hby at_198) rfl kq') ?_
    show OwnGo _ _ _ _ (T25.setTop (mkF m 200 #[.val (.int p0), .val (.long q0), .second, .val (.long q1), .second, .val (.long q2), .second, .val (.int ca), .val (.int (1 : Int32)), .val (.int d0), .val (.int y0), .val (.int d1), .val (.int y1), .val (.int d2), .val (.int y2), .val (.ref b1), .val (.long ((0 : Int64) + y0.toInt64)), .second, .val (.int (1 : Int32))] [(.int (1 : Int32))]))
    refine OwnGo.fwd (fun tq' kq' => XS.iconst X25.here hx rfl (hb hby at_200) kq') ?_
    show OwnGo _ _ _ _ (T25.setTop (mkF m 201 #[.val (.int p0), .val (.long q0), .second, .val (.long q1), .second, .val (.long q2), .second, .val (.int ca), .val (.int (1 : Int32)), .val (.int d0), .val (.int y0), .val (.int d1), .val (.int y1), .val (.int d2), .val (.int y2), .val (.ref b1), .val (.long ((0 : Int64) + y0.toInt64)), .second, .val (.int (1 : Int32))] [(.int (2 : Int32)), (.int (1 : Int32))]))
    have hc201_27 : (1 : Int) < (2 : Int) := by decide
    refine OwnGo.fwd (fun tq' kq' => XS.icmpYes X25.here hx rfl (pc0 := 201) (pc' := 238) rfl (hb hby at_201) rfl (own_blt (by decide) (by decide) hc201_27).1 (by decide) (by decide) kq') ?_
    show OwnGo _ _ _ _ (T25.setTop (mkF m 238 #[.val (.int p0), .val (.long q0), .second, .val (.long q1), .second, .val (.long q2), .second, .val (.int ca), .val (.int (1 : Int32)), .val (.int d0), .val (.int y0), .val (.int d1), .val (.int y1), .val (.int d2), .val (.int y2), .val (.ref b1), .val (.long ((0 : Int64) + y0.toInt64)), .second, .val (.int (1 : Int32))] []))
    refine OwnGo.fwd (fun tq' kq' => XS.iload X25.here hx rfl (hb hby at_238) rfl kq') ?_
    show OwnGo _ _ _ _ (T25.setTop (mkF m 240 #[.val (.int p0), .val (.long q0), .second, .val (.long q1), .second, .val (.long q2), .second, .val (.int ca), .val (.int (1 : Int32)), .val (.int d0), .val (.int y0), .val (.int d1), .val (.int y1), .val (.int d2), .val (.int y2), .val (.ref b1), .val (.long ((0 : Int64) + y0.toInt64)), .second, .val (.int (1 : Int32))] [(.int (1 : Int32))]))
    refine OwnGo.fwd (fun tq' kq' => XS.iconst X25.here hx rfl (hb hby at_240) kq') ?_
    show OwnGo _ _ _ _ (T25.setTop (mkF m 241 #[.val (.int p0), .val (.long q0), .second, .val (.long q1), .second, .val (.long q2), .second, .val (.int ca), .val (.int (1 : Int32)), .val (.int d0), .val (.int y0), .val (.int d1), .val (.int y1), .val (.int d2), .val (.int y2), .val (.ref b1), .val (.long ((0 : Int64) + y0.toInt64)), .second, .val (.int (1 : Int32))] [(.int (3 : Int32)), (.int (1 : Int32))]))
    have hc241_28 : (1 : Int) < (3 : Int) := by decide
    refine OwnGo.fwd (fun tq' kq' => XS.icmpYes X25.here hx rfl (pc0 := 241) (pc' := 278) rfl (hb hby at_241) rfl (own_blt (by decide) (by decide) hc241_28).1 (by decide) (by decide) kq') ?_
    show OwnGo _ _ _ _ (T25.setTop (mkF m 278 #[.val (.int p0), .val (.long q0), .second, .val (.long q1), .second, .val (.long q2), .second, .val (.int ca), .val (.int (1 : Int32)), .val (.int d0), .val (.int y0), .val (.int d1), .val (.int y1), .val (.int d2), .val (.int y2), .val (.ref b1), .val (.long ((0 : Int64) + y0.toInt64)), .second, .val (.int (1 : Int32))] []))
    refine OwnGo.fwd (fun tq' kq' => XS.iload X25.here hx rfl (hb hby at_278) rfl kq') ?_
    show OwnGo _ _ _ _ (T25.setTop (mkF m 280 #[.val (.int p0), .val (.long q0), .second, .val (.long q1), .second, .val (.long q2), .second, .val (.int ca), .val (.int (1 : Int32)), .val (.int d0), .val (.int y0), .val (.int d1), .val (.int y1), .val (.int d2), .val (.int y2), .val (.ref b1), .val (.long ((0 : Int64) + y0.toInt64)), .second, .val (.int (1 : Int32))] [(.int (1 : Int32))]))
    exact own_retZ X25 hlk hx Bd.returns (hb hby at_280) (by decide) (by decide) e25 ⟨rfl, N⟩
  · show OwnGo _ _ _ _ (T2.setTop (mkF m 61 #[.val (.int p0), .val (.long q0), .second, .val (.long q1), .second, .val (.long q2), .second, .val (.int ca), .val (.int (2 : Int32)), .val (.int d0), .val (.int y0), .val (.int d1), .val (.int y1), .val (.int d2), .val (.int y2), .val (.ref b1), .val (.long (0 : Int64)), .second, .unset] []))
    refine OwnGo.fwd (fun tq' kq' => XS.iload X2.here hx rfl (hb hby at_61) rfl kq') ?_
    show OwnGo _ _ _ _ (T2.setTop (mkF m 63 #[.val (.int p0), .val (.long q0), .second, .val (.long q1), .second, .val (.long q2), .second, .val (.int ca), .val (.int (2 : Int32)), .val (.int d0), .val (.int y0), .val (.int d1), .val (.int y1), .val (.int d2), .val (.int y2), .val (.ref b1), .val (.long (0 : Int64)), .second, .unset] [(.int (2 : Int32))]))
    refine OwnGo.fwd (fun tq' kq' => XS.iconst X2.here hx rfl (hb hby at_63) kq') ?_
    show OwnGo _ _ _ _ (T2.setTop (mkF m 64 #[.val (.int p0), .val (.long q0), .second, .val (.long q1), .second, .val (.long q2), .second, .val (.int ca), .val (.int (2 : Int32)), .val (.int d0), .val (.int y0), .val (.int d1), .val (.int y1), .val (.int d2), .val (.int y2), .val (.ref b1), .val (.long (0 : Int64)), .second, .unset] [(.int (1 : Int32)), (.int (2 : Int32))]))
    have hc64_29 : ¬ ((2 : Int) < (1 : Int)) := by decide
    refine OwnGo.fwd (fun tq' kq' => XS.icmpNo X2.here hx rfl (hb hby at_64) rfl (own_bnlt (by decide) (by decide) hc64_29).1 kq') ?_
    show OwnGo _ _ _ _ (T2.setTop (mkF m 67 #[.val (.int p0), .val (.long q0), .second, .val (.long q1), .second, .val (.long q2), .second, .val (.int ca), .val (.int (2 : Int32)), .val (.int d0), .val (.int y0), .val (.int d1), .val (.int y1), .val (.int d2), .val (.int y2), .val (.ref b1), .val (.long (0 : Int64)), .second, .unset] []))
    refine OwnGo.fwd (fun tq' kq' => XS.aload X2.here hx rfl (hb hby at_67) rfl rfl kq') ?_
    show OwnGo _ _ _ _ (T2.setTop (mkF m 69 #[.val (.int p0), .val (.long q0), .second, .val (.long q1), .second, .val (.long q2), .second, .val (.int ca), .val (.int (2 : Int32)), .val (.int d0), .val (.int y0), .val (.int d1), .val (.int y1), .val (.int d2), .val (.int y2), .val (.ref b1), .val (.long (0 : Int64)), .second, .unset] [(.ref b1)]))
    refine OwnGo.fwd (fun tq' kq' => XS.iload X2.here hx rfl (hb hby at_69) rfl kq') ?_
    show OwnGo _ _ _ _ (T2.setTop (mkF m 71 #[.val (.int p0), .val (.long q0), .second, .val (.long q1), .second, .val (.long q2), .second, .val (.int ca), .val (.int (2 : Int32)), .val (.int d0), .val (.int y0), .val (.int d1), .val (.int y1), .val (.int d2), .val (.int y2), .val (.ref b1), .val (.long (0 : Int64)), .second, .unset] [(.int d0), (.ref b1)]))
    refine OwnGo.fwd (fun tq' kq' => XS.iload X2.here hx rfl (hb hby at_71) rfl kq') ?_
    show OwnGo _ _ _ _ (T2.setTop (mkF m 73 #[.val (.int p0), .val (.long q0), .second, .val (.long q1), .second, .val (.long q2), .second, .val (.int ca), .val (.int (2 : Int32)), .val (.int d0), .val (.int y0), .val (.int d1), .val (.int y1), .val (.int d2), .val (.int y2), .val (.ref b1), .val (.long (0 : Int64)), .second, .unset] [(.int y0), (.int d0), (.ref b1)]))
    obtain ⟨cq30, kq30, q30a, q30b, q30c⟩ := isOf hZ eh2.symm E_b1
    obtain ⟨_, _, ⟨T30, L30, k30, n30⟩, -, X30, ⟨Lc30, hQ30, l30, y30, z30⟩, st30⟩ := X2.virtualBack hx (y := (⟨"com/example/inverse_frequency/inversefrequency/Postings", "add", "(II)V"⟩ : MethodName)) (z := (⟨"com/example/inverse_frequency/inversefrequency/Postings", "add", "(II)V"⟩ : MethodName)) hown (mvT hZ (hw _ (List.mem_of_getElem? (i := 32) rfl))) (mvT hZ (hw _ (List.mem_of_getElem? (i := 33) rfl))) (notFace_of_selects (args := #[]) (mvT hZ (hw _ (List.mem_of_getElem? (i := 35) rfl)))) (mvT hZ (hw _ (List.mem_of_getElem? (i := 35) rfl))) (mvT hZ (hw _ (List.mem_of_getElem? (i := 34) rfl))) (by decide) (backOf (W := 0) (rm6 l Z a0 hw [] b1 da fa 0 (0 : Int64) cp (fun _ => 0) (fun _ => 0) d0 y0 h2 n0 Zs ⟨E_b1, F_documents_b1, F_frequencies_b1, F_size_b1, F_totalFrequency_b1, V_da, V_fa, ne_b1_da, ne_b1_fa, ne_da_fa, g_b1, g_da, g_fa⟩ (by decide) (Nat.zero_le _) hcp1) hZ (hw _ (List.mem_of_getElem? (i := 36) rfl)) (hw _ (List.mem_of_getElem? (i := 2) rfl)) (by decide) (by decide)) q30a q30c (g := (mkF m 73 #[.val (.int p0), .val (.long q0), .second, .val (.long q1), .second, .val (.long q2), .second, .val (.int ca), .val (.int (2 : Int32)), .val (.int d0), .val (.int y0), .val (.int d1), .val (.int y1), .val (.int d2), .val (.int y2), .val (.ref b1), .val (.long (0 : Int64)), .second, .unset] [(.int y0), (.int d0), (.ref b1)])) rfl (by rw [hml]; rfl) (Steps.refl _) (argsL := [(.int d0), (.int y0)]) (rest := []) (lenOf pd_5 rfl) rfl (by show 2 * 0 + _ ≤ _; exact Nat.le_of_eq rfl) (hb hby at_73) (fun _ _ => ⟨rfl, eh2.symm, (by decide : 3 + 2 ≤ _), (by decide : 12 + 8 ≤ _)⟩)
    dsimp only [Pt.U, Pt.locs, Pt.cells, Pt.slots] at X30 l30 y30 z30 st30 hQ30
    subst l30 y30 z30
    obtain ⟨h30, eh30⟩ : ∃ z, z = T30.heap := ⟨_, rfl⟩
    rw [← eh30] at hQ30
    obtain ⟨rfl, N30q, K30, da1, fa1, cp1, f1, g1, hl1, ⟨E_b1, F_documents_b1, F_frequencies_b1, F_size_b1, F_totalFrequency_b1, V_da1, V_fa1, ne_b1_da1, ne_b1_fa1, ne_da1_fa1, g_b1, g_da1, g_fa1⟩, hf1, hfx1, hg1, hgx1⟩ := hQ30
    have N := Fr.app N N30q
    have Zs := Nat.le_trans Zs K30.1
    refine OwnGo.thru st30 ?_
    show OwnGo _ _ _ _ (T30.setTop (mkF m 76 #[.val (.int p0), .val (.long q0), .second, .val (.long q1), .second, .val (.long q2), .second, .val (.int ca), .val (.int (2 : Int32)), .val (.int d0), .val (.int y0), .val (.int d1), .val (.int y1), .val (.int d2), .val (.int y2), .val (.ref b1), .val (.long (0 : Int64)), .second, .unset] []))
    refine OwnGo.fwd (fun tq' kq' => XS.lload X30.here hx rfl (hb hby at_76) rfl kq') ?_
    show OwnGo _ _ _ _ (T30.setTop (mkF m 78 #[.val (.int p0), .val (.long q0), .second, .val (.long q1), .second, .val (.long q2), .second, .val (.int ca), .val (.int (2 : Int32)), .val (.int d0), .val (.int y0), .val (.int d1), .val (.int y1), .val (.int d2), .val (.int y2), .val (.ref b1), .val (.long (0 : Int64)), .second, .unset] [(.long (0 : Int64))]))
    refine OwnGo.fwd (fun tq' kq' => XS.iload X30.here hx rfl (hb hby at_78) rfl kq') ?_
    show OwnGo _ _ _ _ (T30.setTop (mkF m 80 #[.val (.int p0), .val (.long q0), .second, .val (.long q1), .second, .val (.long q2), .second, .val (.int ca), .val (.int (2 : Int32)), .val (.int d0), .val (.int y0), .val (.int d1), .val (.int y1), .val (.int d2), .val (.int y2), .val (.ref b1), .val (.long (0 : Int64)), .second, .unset] [(.int y0), (.long (0 : Int64))]))
    refine OwnGo.fwd (fun tq' kq' => XS.i2l X30.here hx rfl (hb hby at_80) rfl kq') ?_
    show OwnGo _ _ _ _ (T30.setTop (mkF m 81 #[.val (.int p0), .val (.long q0), .second, .val (.long q1), .second, .val (.long q2), .second, .val (.int ca), .val (.int (2 : Int32)), .val (.int d0), .val (.int y0), .val (.int d1), .val (.int y1), .val (.int d2), .val (.int y2), .val (.ref b1), .val (.long (0 : Int64)), .second, .unset] [(.long y0.toInt64), (.long (0 : Int64))]))
    refine OwnGo.fwd (fun tq' kq' => XS.ladd X30.here hx rfl (hb hby at_81) rfl kq') ?_
    show OwnGo _ _ _ _ (T30.setTop (mkF m 82 #[.val (.int p0), .val (.long q0), .second, .val (.long q1), .second, .val (.long q2), .second, .val (.int ca), .val (.int (2 : Int32)), .val (.int d0), .val (.int y0), .val (.int d1), .val (.int y1), .val (.int d2), .val (.int y2), .val (.ref b1), .val (.long (0 : Int64)), .second, .unset] [(.long ((0 : Int64) + y0.toInt64))]))
    refine OwnGo.fwd (fun tq' kq' => XS.lstore X30.here hx rfl (hb hby at_82) rfl (l' := #[.val (.int p0), .val (.long q0), .second, .val (.long q1), .second, .val (.long q2), .second, .val (.int ca), .val (.int (2 : Int32)), .val (.int d0), .val (.int y0), .val (.int d1), .val (.int y1), .val (.int d2), .val (.int y2), .val (.ref b1), .val (.long ((0 : Int64) + y0.toInt64)), .second, .unset]) rfl kq') ?_
    show OwnGo _ _ _ _ (T30.setTop (mkF m 84 #[.val (.int p0), .val (.long q0), .second, .val (.long q1), .second, .val (.long q2), .second, .val (.int ca), .val (.int (2 : Int32)), .val (.int d0), .val (.int y0), .val (.int d1), .val (.int y1), .val (.int d2), .val (.int y2), .val (.ref b1), .val (.long ((0 : Int64) + y0.toInt64)), .second, .unset] []))
    refine OwnGo.fwd (fun tq' kq' => XS.iload X30.here hx rfl (hb hby at_84) rfl kq') ?_
    show OwnGo _ _ _ _ (T30.setTop (mkF m 86 #[.val (.int p0), .val (.long q0), .second, .val (.long q1), .second, .val (.long q2), .second, .val (.int ca), .val (.int (2 : Int32)), .val (.int d0), .val (.int y0), .val (.int d1), .val (.int y1), .val (.int d2), .val (.int y2), .val (.ref b1), .val (.long ((0 : Int64) + y0.toInt64)), .second, .unset] [(.int (2 : Int32))]))
    refine OwnGo.fwd (fun tq' kq' => XS.iconst X30.here hx rfl (hb hby at_86) kq') ?_
    show OwnGo _ _ _ _ (T30.setTop (mkF m 87 #[.val (.int p0), .val (.long q0), .second, .val (.long q1), .second, .val (.long q2), .second, .val (.int ca), .val (.int (2 : Int32)), .val (.int d0), .val (.int y0), .val (.int d1), .val (.int y1), .val (.int d2), .val (.int y2), .val (.ref b1), .val (.long ((0 : Int64) + y0.toInt64)), .second, .unset] [(.int (2 : Int32)), (.int (2 : Int32))]))
    have hc87_31 : ¬ ((2 : Int) < (2 : Int)) := by decide
    refine OwnGo.fwd (fun tq' kq' => XS.icmpNo X30.here hx rfl (hb hby at_87) rfl (own_bnlt (by decide) (by decide) hc87_31).1 kq') ?_
    show OwnGo _ _ _ _ (T30.setTop (mkF m 90 #[.val (.int p0), .val (.long q0), .second, .val (.long q1), .second, .val (.long q2), .second, .val (.int ca), .val (.int (2 : Int32)), .val (.int d0), .val (.int y0), .val (.int d1), .val (.int y1), .val (.int d2), .val (.int y2), .val (.ref b1), .val (.long ((0 : Int64) + y0.toInt64)), .second, .unset] []))
    refine OwnGo.fwd (fun tq' kq' => XS.aload X30.here hx rfl (hb hby at_90) rfl rfl kq') ?_
    show OwnGo _ _ _ _ (T30.setTop (mkF m 92 #[.val (.int p0), .val (.long q0), .second, .val (.long q1), .second, .val (.long q2), .second, .val (.int ca), .val (.int (2 : Int32)), .val (.int d0), .val (.int y0), .val (.int d1), .val (.int y1), .val (.int d2), .val (.int y2), .val (.ref b1), .val (.long ((0 : Int64) + y0.toInt64)), .second, .unset] [(.ref b1)]))
    refine OwnGo.fwd (fun tq' kq' => XS.iload X30.here hx rfl (hb hby at_92) rfl kq') ?_
    show OwnGo _ _ _ _ (T30.setTop (mkF m 94 #[.val (.int p0), .val (.long q0), .second, .val (.long q1), .second, .val (.long q2), .second, .val (.int ca), .val (.int (2 : Int32)), .val (.int d0), .val (.int y0), .val (.int d1), .val (.int y1), .val (.int d2), .val (.int y2), .val (.ref b1), .val (.long ((0 : Int64) + y0.toInt64)), .second, .unset] [(.int d1), (.ref b1)]))
    refine OwnGo.fwd (fun tq' kq' => XS.iload X30.here hx rfl (hb hby at_94) rfl kq') ?_
    show OwnGo _ _ _ _ (T30.setTop (mkF m 96 #[.val (.int p0), .val (.long q0), .second, .val (.long q1), .second, .val (.long q2), .second, .val (.int ca), .val (.int (2 : Int32)), .val (.int d0), .val (.int y0), .val (.int d1), .val (.int y1), .val (.int d2), .val (.int y2), .val (.ref b1), .val (.long ((0 : Int64) + y0.toInt64)), .second, .unset] [(.int y1), (.int d1), (.ref b1)]))
    obtain ⟨cq32, kq32, q32a, q32b, q32c⟩ := isOf hZ eh30.symm E_b1
    obtain ⟨_, _, ⟨T32, L32, k32, n32⟩, -, X32, ⟨Lc32, hQ32, l32, y32, z32⟩, st32⟩ := X30.virtualBack hx (y := (⟨"com/example/inverse_frequency/inversefrequency/Postings", "add", "(II)V"⟩ : MethodName)) (z := (⟨"com/example/inverse_frequency/inversefrequency/Postings", "add", "(II)V"⟩ : MethodName)) hown (mvT hZ (hw _ (List.mem_of_getElem? (i := 32) rfl))) (mvT hZ (hw _ (List.mem_of_getElem? (i := 33) rfl))) (notFace_of_selects (args := #[]) (mvT hZ (hw _ (List.mem_of_getElem? (i := 35) rfl)))) (mvT hZ (hw _ (List.mem_of_getElem? (i := 35) rfl))) (mvT hZ (hw _ (List.mem_of_getElem? (i := 34) rfl))) (by decide) (backOf (W := 0) (rm6 l Z a0 hw [] b1 da1 fa1 1 ((0 : Int64) + y0.toInt64) cp1 f1 g1 d1 y1 h30 n0 Zs ⟨E_b1, F_documents_b1, F_frequencies_b1, F_size_b1, F_totalFrequency_b1, V_da1, V_fa1, ne_b1_da1, ne_b1_fa1, ne_da1_fa1, g_b1, g_da1, g_fa1⟩ (by decide) hl1 (Nat.lt_of_le_of_lt (Nat.zero_le _) hl1)) hZ (hw _ (List.mem_of_getElem? (i := 36) rfl)) (hw _ (List.mem_of_getElem? (i := 2) rfl)) (by decide) (by decide)) q32a q32c (g := (mkF m 96 #[.val (.int p0), .val (.long q0), .second, .val (.long q1), .second, .val (.long q2), .second, .val (.int ca), .val (.int (2 : Int32)), .val (.int d0), .val (.int y0), .val (.int d1), .val (.int y1), .val (.int d2), .val (.int y2), .val (.ref b1), .val (.long ((0 : Int64) + y0.toInt64)), .second, .unset] [(.int y1), (.int d1), (.ref b1)])) rfl (by rw [hml]; rfl) (Steps.refl _) (argsL := [(.int d1), (.int y1)]) (rest := []) (lenOf pd_5 rfl) rfl (by show 2 * 0 + _ ≤ _; exact Nat.le_of_eq rfl) (hb hby at_96) (fun _ _ => ⟨rfl, eh30.symm, (by decide : 5 + 2 ≤ _), (by decide : 20 + 8 ≤ _)⟩)
    dsimp only [Pt.U, Pt.locs, Pt.cells, Pt.slots] at X32 l32 y32 z32 st32 hQ32
    subst l32 y32 z32
    obtain ⟨h32, eh32⟩ : ∃ z, z = T32.heap := ⟨_, rfl⟩
    rw [← eh32] at hQ32
    obtain ⟨rfl, N32q, K32, da2, fa2, cp2, f2, g2, hl2, ⟨E_b1, F_documents_b1, F_frequencies_b1, F_size_b1, F_totalFrequency_b1, V_da2, V_fa2, ne_b1_da2, ne_b1_fa2, ne_da2_fa2, g_b1, g_da2, g_fa2⟩, hf2, hfx2, hg2, hgx2⟩ := hQ32
    have N := Fr.app N N32q
    have Zs := Nat.le_trans Zs K32.1
    refine OwnGo.thru st32 ?_
    show OwnGo _ _ _ _ (T32.setTop (mkF m 99 #[.val (.int p0), .val (.long q0), .second, .val (.long q1), .second, .val (.long q2), .second, .val (.int ca), .val (.int (2 : Int32)), .val (.int d0), .val (.int y0), .val (.int d1), .val (.int y1), .val (.int d2), .val (.int y2), .val (.ref b1), .val (.long ((0 : Int64) + y0.toInt64)), .second, .unset] []))
    refine OwnGo.fwd (fun tq' kq' => XS.lload X32.here hx rfl (hb hby at_99) rfl kq') ?_
    show OwnGo _ _ _ _ (T32.setTop (mkF m 101 #[.val (.int p0), .val (.long q0), .second, .val (.long q1), .second, .val (.long q2), .second, .val (.int ca), .val (.int (2 : Int32)), .val (.int d0), .val (.int y0), .val (.int d1), .val (.int y1), .val (.int d2), .val (.int y2), .val (.ref b1), .val (.long ((0 : Int64) + y0.toInt64)), .second, .unset] [(.long ((0 : Int64) + y0.toInt64))]))
    refine OwnGo.fwd (fun tq' kq' => XS.iload X32.here hx rfl (hb hby at_101) rfl kq') ?_
    show OwnGo _ _ _ _ (T32.setTop (mkF m 103 #[.val (.int p0), .val (.long q0), .second, .val (.long q1), .second, .val (.long q2), .second, .val (.int ca), .val (.int (2 : Int32)), .val (.int d0), .val (.int y0), .val (.int d1), .val (.int y1), .val (.int d2), .val (.int y2), .val (.ref b1), .val (.long ((0 : Int64) + y0.toInt64)), .second, .unset] [(.int y1), (.long ((0 : Int64) + y0.toInt64))]))
    refine OwnGo.fwd (fun tq' kq' => XS.i2l X32.here hx rfl (hb hby at_103) rfl kq') ?_
    show OwnGo _ _ _ _ (T32.setTop (mkF m 104 #[.val (.int p0), .val (.long q0), .second, .val (.long q1), .second, .val (.long q2), .second, .val (.int ca), .val (.int (2 : Int32)), .val (.int d0), .val (.int y0), .val (.int d1), .val (.int y1), .val (.int d2), .val (.int y2), .val (.ref b1), .val (.long ((0 : Int64) + y0.toInt64)), .second, .unset] [(.long y1.toInt64), (.long ((0 : Int64) + y0.toInt64))]))
    refine OwnGo.fwd (fun tq' kq' => XS.ladd X32.here hx rfl (hb hby at_104) rfl kq') ?_
    show OwnGo _ _ _ _ (T32.setTop (mkF m 105 #[.val (.int p0), .val (.long q0), .second, .val (.long q1), .second, .val (.long q2), .second, .val (.int ca), .val (.int (2 : Int32)), .val (.int d0), .val (.int y0), .val (.int d1), .val (.int y1), .val (.int d2), .val (.int y2), .val (.ref b1), .val (.long ((0 : Int64) + y0.toInt64)), .second, .unset] [(.long (((0 : Int64) + y0.toInt64) + y1.toInt64))]))
    refine OwnGo.fwd (fun tq' kq' => XS.lstore X32.here hx rfl (hb hby at_105) rfl (l' := #[.val (.int p0), .val (.long q0), .second, .val (.long q1), .second, .val (.long q2), .second, .val (.int ca), .val (.int (2 : Int32)), .val (.int d0), .val (.int y0), .val (.int d1), .val (.int y1), .val (.int d2), .val (.int y2), .val (.ref b1), .val (.long (((0 : Int64) + y0.toInt64) + y1.toInt64)), .second, .unset]) rfl kq') ?_
    show OwnGo _ _ _ _ (T32.setTop (mkF m 107 #[.val (.int p0), .val (.long q0), .second, .val (.long q1), .second, .val (.long q2), .second, .val (.int ca), .val (.int (2 : Int32)), .val (.int d0), .val (.int y0), .val (.int d1), .val (.int y1), .val (.int d2), .val (.int y2), .val (.ref b1), .val (.long (((0 : Int64) + y0.toInt64) + y1.toInt64)), .second, .unset] []))
    refine OwnGo.fwd (fun tq' kq' => XS.iload X32.here hx rfl (hb hby at_107) rfl kq') ?_
    show OwnGo _ _ _ _ (T32.setTop (mkF m 109 #[.val (.int p0), .val (.long q0), .second, .val (.long q1), .second, .val (.long q2), .second, .val (.int ca), .val (.int (2 : Int32)), .val (.int d0), .val (.int y0), .val (.int d1), .val (.int y1), .val (.int d2), .val (.int y2), .val (.ref b1), .val (.long (((0 : Int64) + y0.toInt64) + y1.toInt64)), .second, .unset] [(.int (2 : Int32))]))
    refine OwnGo.fwd (fun tq' kq' => XS.iconst X32.here hx rfl (hb hby at_109) kq') ?_
    show OwnGo _ _ _ _ (T32.setTop (mkF m 110 #[.val (.int p0), .val (.long q0), .second, .val (.long q1), .second, .val (.long q2), .second, .val (.int ca), .val (.int (2 : Int32)), .val (.int d0), .val (.int y0), .val (.int d1), .val (.int y1), .val (.int d2), .val (.int y2), .val (.ref b1), .val (.long (((0 : Int64) + y0.toInt64) + y1.toInt64)), .second, .unset] [(.int (3 : Int32)), (.int (2 : Int32))]))
    have hc110_33 : (2 : Int) < (3 : Int) := by decide
    refine OwnGo.fwd (fun tq' kq' => XS.icmpYes X32.here hx rfl (pc0 := 110) (pc' := 130) rfl (hb hby at_110) rfl (own_blt (by decide) (by decide) hc110_33).1 (by decide) (by decide) kq') ?_
    show OwnGo _ _ _ _ (T32.setTop (mkF m 130 #[.val (.int p0), .val (.long q0), .second, .val (.long q1), .second, .val (.long q2), .second, .val (.int ca), .val (.int (2 : Int32)), .val (.int d0), .val (.int y0), .val (.int d1), .val (.int y1), .val (.int d2), .val (.int y2), .val (.ref b1), .val (.long (((0 : Int64) + y0.toInt64) + y1.toInt64)), .second, .unset] []))
    refine OwnGo.fwd (fun tq' kq' => XS.aload X32.here hx rfl (hb hby at_130) rfl rfl kq') ?_
    show OwnGo _ _ _ _ (T32.setTop (mkF m 132 #[.val (.int p0), .val (.long q0), .second, .val (.long q1), .second, .val (.long q2), .second, .val (.int ca), .val (.int (2 : Int32)), .val (.int d0), .val (.int y0), .val (.int d1), .val (.int y1), .val (.int d2), .val (.int y2), .val (.ref b1), .val (.long (((0 : Int64) + y0.toInt64) + y1.toInt64)), .second, .unset] [(.ref b1)]))
    obtain ⟨cq34, kq34, q34a, q34b, q34c⟩ := isOf hZ eh32.symm E_b1
    obtain ⟨_, _, ⟨T34, L34, k34, n34⟩, -, X34, ⟨Lc34, hQ34, l34, y34, z34⟩, st34⟩ := X32.virtualBack hx (y := (⟨"com/example/inverse_frequency/inversefrequency/Postings", "size", "()I"⟩ : MethodName)) (z := (⟨"com/example/inverse_frequency/inversefrequency/Postings", "size", "()I"⟩ : MethodName)) hown (mvT hZ (hw _ (List.mem_of_getElem? (i := 18) rfl))) (mvT hZ (hw _ (List.mem_of_getElem? (i := 19) rfl))) (notFace_of_selects (args := #[]) (mvT hZ (hw _ (List.mem_of_getElem? (i := 21) rfl)))) (mvT hZ (hw _ (List.mem_of_getElem? (i := 21) rfl))) (mvT hZ (hw _ (List.mem_of_getElem? (i := 20) rfl))) (by decide) (backOf (W := 0) (rm4 l Z a0 hw [] b1 da2 fa2 2 (((0 : Int64) + y0.toInt64) + y1.toInt64) cp2 f2 g2 h32 n0 Zs ⟨E_b1, F_documents_b1, F_frequencies_b1, F_size_b1, F_totalFrequency_b1, V_da2, V_fa2, ne_b1_da2, ne_b1_fa2, ne_da2_fa2, g_b1, g_da2, g_fa2⟩) hZ (hw _ (List.mem_of_getElem? (i := 22) rfl)) (hw _ (List.mem_of_getElem? (i := 2) rfl)) (by decide) (by decide)) q34a q34c (g := (mkF m 132 #[.val (.int p0), .val (.long q0), .second, .val (.long q1), .second, .val (.long q2), .second, .val (.int ca), .val (.int (2 : Int32)), .val (.int d0), .val (.int y0), .val (.int d1), .val (.int y1), .val (.int d2), .val (.int y2), .val (.ref b1), .val (.long (((0 : Int64) + y0.toInt64) + y1.toInt64)), .second, .unset] [(.ref b1)])) rfl (by rw [hml]; rfl) (Steps.refl _) (argsL := []) (rest := []) (lenOf pd_3 rfl) rfl (by show 2 * 0 + _ ≤ _; exact Nat.le_of_eq rfl) (hb hby at_132) (fun _ _ => ⟨rfl, eh32.symm, (by decide : 7 + 0 ≤ _), (by decide : 28 + 0 ≤ _)⟩)
    dsimp only [Pt.U, Pt.locs, Pt.cells, Pt.slots] at X34 l34 y34 z34 st34 hQ34
    subst l34 y34 z34
    obtain ⟨rfl, N34q, e34⟩ := hQ34
    have N := Fr.app N N34q
    refine OwnGo.thru st34 ?_
    show OwnGo _ _ _ _ (T34.setTop (mkF m 135 #[.val (.int p0), .val (.long q0), .second, .val (.long q1), .second, .val (.long q2), .second, .val (.int ca), .val (.int (2 : Int32)), .val (.int d0), .val (.int y0), .val (.int d1), .val (.int y1), .val (.int d2), .val (.int y2), .val (.ref b1), .val (.long (((0 : Int64) + y0.toInt64) + y1.toInt64)), .second, .unset] [(.int (Int32.ofNat 2))]))
    refine OwnGo.fwd (fun tq' kq' => XS.iload X34.here hx rfl (hb hby at_135) rfl kq') ?_
    show OwnGo _ _ _ _ (T34.setTop (mkF m 137 #[.val (.int p0), .val (.long q0), .second, .val (.long q1), .second, .val (.long q2), .second, .val (.int ca), .val (.int (2 : Int32)), .val (.int d0), .val (.int y0), .val (.int d1), .val (.int y1), .val (.int d2), .val (.int y2), .val (.ref b1), .val (.long (((0 : Int64) + y0.toInt64) + y1.toInt64)), .second, .unset] [(.int (2 : Int32)), (.int (Int32.ofNat 2))]))
    have hc137_35 : (2 : Int) = (2 : Int) := by decide
    refine OwnGo.fwd (fun tq' kq' => XS.icmpNo X34.here hx rfl (hb hby at_137) rfl (own_beq (by decide) (by decide) hc137_35).2 kq') ?_
    show OwnGo _ _ _ _ (T34.setTop (mkF m 140 #[.val (.int p0), .val (.long q0), .second, .val (.long q1), .second, .val (.long q2), .second, .val (.int ca), .val (.int (2 : Int32)), .val (.int d0), .val (.int y0), .val (.int d1), .val (.int y1), .val (.int d2), .val (.int y2), .val (.ref b1), .val (.long (((0 : Int64) + y0.toInt64) + y1.toInt64)), .second, .unset] []))
    refine OwnGo.fwd (fun tq' kq' => XS.aload X34.here hx rfl (hb hby at_140) rfl rfl kq') ?_
    show OwnGo _ _ _ _ (T34.setTop (mkF m 142 #[.val (.int p0), .val (.long q0), .second, .val (.long q1), .second, .val (.long q2), .second, .val (.int ca), .val (.int (2 : Int32)), .val (.int d0), .val (.int y0), .val (.int d1), .val (.int y1), .val (.int d2), .val (.int y2), .val (.ref b1), .val (.long (((0 : Int64) + y0.toInt64) + y1.toInt64)), .second, .unset] [(.ref b1)]))
    obtain ⟨cq36, kq36, q36a, q36b, q36c⟩ := isOf hZ e34 E_b1
    obtain ⟨_, _, ⟨T36, L36, k36, n36⟩, -, X36, ⟨Lc36, hQ36, l36, y36, z36⟩, st36⟩ := X34.virtualBack hx (y := (⟨"com/example/inverse_frequency/inversefrequency/Postings", "totalFrequency", "()J"⟩ : MethodName)) (z := (⟨"com/example/inverse_frequency/inversefrequency/Postings", "totalFrequency", "()J"⟩ : MethodName)) hown (mvT hZ (hw _ (List.mem_of_getElem? (i := 25) rfl))) (mvT hZ (hw _ (List.mem_of_getElem? (i := 26) rfl))) (notFace_of_selects (args := #[]) (mvT hZ (hw _ (List.mem_of_getElem? (i := 28) rfl)))) (mvT hZ (hw _ (List.mem_of_getElem? (i := 28) rfl))) (mvT hZ (hw _ (List.mem_of_getElem? (i := 27) rfl))) (by decide) (backOf (W := 0) (rm5 l Z a0 hw [] b1 da2 fa2 2 (((0 : Int64) + y0.toInt64) + y1.toInt64) cp2 f2 g2 h32 n0 Zs ⟨E_b1, F_documents_b1, F_frequencies_b1, F_size_b1, F_totalFrequency_b1, V_da2, V_fa2, ne_b1_da2, ne_b1_fa2, ne_da2_fa2, g_b1, g_da2, g_fa2⟩) hZ (hw _ (List.mem_of_getElem? (i := 29) rfl)) (hw _ (List.mem_of_getElem? (i := 2) rfl)) (by decide) (by decide)) q36a q36c (g := (mkF m 142 #[.val (.int p0), .val (.long q0), .second, .val (.long q1), .second, .val (.long q2), .second, .val (.int ca), .val (.int (2 : Int32)), .val (.int d0), .val (.int y0), .val (.int d1), .val (.int y1), .val (.int d2), .val (.int y2), .val (.ref b1), .val (.long (((0 : Int64) + y0.toInt64) + y1.toInt64)), .second, .unset] [(.ref b1)])) rfl (by rw [hml]; rfl) (Steps.refl _) (argsL := []) (rest := []) (lenOf pd_4 rfl) rfl (by show 2 * 0 + _ ≤ _; exact Nat.le_of_eq rfl) (hb hby at_142) (fun _ _ => ⟨rfl, e34, (by decide : 7 + 0 ≤ _), (by decide : 28 + 0 ≤ _)⟩)
    dsimp only [Pt.U, Pt.locs, Pt.cells, Pt.slots] at X36 l36 y36 z36 st36 hQ36
    subst l36 y36 z36
    obtain ⟨rfl, N36q, e36⟩ := hQ36
    have N := Fr.app N N36q
    refine OwnGo.thru st36 ?_
    show OwnGo _ _ _ _ (T36.setTop (mkF m 145 #[.val (.int p0), .val (.long q0), .second, .val (.long q1), .second, .val (.long q2), .second, .val (.int ca), .val (.int (2 : Int32)), .val (.int d0), .val (.int y0), .val (.int d1), .val (.int y1), .val (.int d2), .val (.int y2), .val (.ref b1), .val (.long (((0 : Int64) + y0.toInt64) + y1.toInt64)), .second, .unset] [(.long (((0 : Int64) + y0.toInt64) + y1.toInt64))]))
    refine OwnGo.fwd (fun tq' kq' => XS.lload X36.here hx rfl (hb hby at_145) rfl kq') ?_
    show OwnGo _ _ _ _ (T36.setTop (mkF m 147 #[.val (.int p0), .val (.long q0), .second, .val (.long q1), .second, .val (.long q2), .second, .val (.int ca), .val (.int (2 : Int32)), .val (.int d0), .val (.int y0), .val (.int d1), .val (.int y1), .val (.int d2), .val (.int y2), .val (.ref b1), .val (.long (((0 : Int64) + y0.toInt64) + y1.toInt64)), .second, .unset] [(.long (((0 : Int64) + y0.toInt64) + y1.toInt64)), (.long (((0 : Int64) + y0.toInt64) + y1.toInt64))]))
    refine OwnGo.fwd (fun tq' kq' => XS.lcmp X36.here hx rfl (hb hby at_147) rfl kq') ?_
    show OwnGo _ _ _ _ (T36.setTop (mkF m 148 #[.val (.int p0), .val (.long q0), .second, .val (.long q1), .second, .val (.long q2), .second, .val (.int ca), .val (.int (2 : Int32)), .val (.int d0), .val (.int y0), .val (.int d1), .val (.int y1), .val (.int d2), .val (.int y2), .val (.ref b1), .val (.long (((0 : Int64) + y0.toInt64) + y1.toInt64)), .second, .unset] [(.int (lcmpW (((0 : Int64) + y0.toInt64) + y1.toInt64) (((0 : Int64) + y0.toInt64) + y1.toInt64)))]))
    have hc148_37 : (((0 : Int64) + y0.toInt64) + y1.toInt64).toInt = (((0 : Int64) + y0.toInt64) + y1.toInt64).toInt := rfl
    refine OwnGo.fwd (fun tq' kq' => XS.ifNo X36.here hx rfl (hb hby at_148) rfl (own_Leq rfl rfl hc148_37).2 kq') ?_
    show OwnGo _ _ _ _ (T36.setTop (mkF m 151 #[.val (.int p0), .val (.long q0), .second, .val (.long q1), .second, .val (.long q2), .second, .val (.int ca), .val (.int (2 : Int32)), .val (.int d0), .val (.int y0), .val (.int d1), .val (.int y1), .val (.int d2), .val (.int y2), .val (.ref b1), .val (.long (((0 : Int64) + y0.toInt64) + y1.toInt64)), .second, .unset] []))
    refine OwnGo.fwd (fun tq' kq' => XS.iconst X36.here hx rfl (hb hby at_151) kq') ?_
    show OwnGo _ _ _ _ (T36.setTop (mkF m 152 #[.val (.int p0), .val (.long q0), .second, .val (.long q1), .second, .val (.long q2), .second, .val (.int ca), .val (.int (2 : Int32)), .val (.int d0), .val (.int y0), .val (.int d1), .val (.int y1), .val (.int d2), .val (.int y2), .val (.ref b1), .val (.long (((0 : Int64) + y0.toInt64) + y1.toInt64)), .second, .unset] [(.int (1 : Int32))]))
    refine OwnGo.fwd (fun tq' kq' => XS.goto X36.here hx rfl (pc0 := 152) (pc' := 156) rfl (hb hby at_152) (by decide) (by decide) kq') ?_
    show OwnGo _ _ _ _ (T36.setTop (mkF m 156 #[.val (.int p0), .val (.long q0), .second, .val (.long q1), .second, .val (.long q2), .second, .val (.int ca), .val (.int (2 : Int32)), .val (.int d0), .val (.int y0), .val (.int d1), .val (.int y1), .val (.int d2), .val (.int y2), .val (.ref b1), .val (.long (((0 : Int64) + y0.toInt64) + y1.toInt64)), .second, .unset] [(.int (1 : Int32))]))
    refine OwnGo.fwd (fun tq' kq' => XS.istore X36.here hx rfl (hb hby at_156) rfl (l' := #[.val (.int p0), .val (.long q0), .second, .val (.long q1), .second, .val (.long q2), .second, .val (.int ca), .val (.int (2 : Int32)), .val (.int d0), .val (.int y0), .val (.int d1), .val (.int y1), .val (.int d2), .val (.int y2), .val (.ref b1), .val (.long (((0 : Int64) + y0.toInt64) + y1.toInt64)), .second, .val (.int (1 : Int32))]) rfl kq') ?_
    show OwnGo _ _ _ _ (T36.setTop (mkF m 158 #[.val (.int p0), .val (.long q0), .second, .val (.long q1), .second, .val (.long q2), .second, .val (.int ca), .val (.int (2 : Int32)), .val (.int d0), .val (.int y0), .val (.int d1), .val (.int y1), .val (.int d2), .val (.int y2), .val (.ref b1), .val (.long (((0 : Int64) + y0.toInt64) + y1.toInt64)), .second, .val (.int (1 : Int32))] []))
    refine OwnGo.fwd (fun tq' kq' => XS.iload X36.here hx rfl (hb hby at_158) rfl kq') ?_
    show OwnGo _ _ _ _ (T36.setTop (mkF m 160 #[.val (.int p0), .val (.long q0), .second, .val (.long q1), .second, .val (.long q2), .second, .val (.int ca), .val (.int (2 : Int32)), .val (.int d0), .val (.int y0), .val (.int d1), .val (.int y1), .val (.int d2), .val (.int y2), .val (.ref b1), .val (.long (((0 : Int64) + y0.toInt64) + y1.toInt64)), .second, .val (.int (1 : Int32))] [(.int (2 : Int32))]))
    refine OwnGo.fwd (fun tq' kq' => XS.iconst X36.here hx rfl (hb hby at_160) kq') ?_
    show OwnGo _ _ _ _ (T36.setTop (mkF m 161 #[.val (.int p0), .val (.long q0), .second, .val (.long q1), .second, .val (.long q2), .second, .val (.int ca), .val (.int (2 : Int32)), .val (.int d0), .val (.int y0), .val (.int d1), .val (.int y1), .val (.int d2), .val (.int y2), .val (.ref b1), .val (.long (((0 : Int64) + y0.toInt64) + y1.toInt64)), .second, .val (.int (1 : Int32))] [(.int (1 : Int32)), (.int (2 : Int32))]))
    have hc161_38 : ¬ ((2 : Int) < (1 : Int)) := by decide
    refine OwnGo.fwd (fun tq' kq' => XS.icmpNo X36.here hx rfl (hb hby at_161) rfl (own_bnlt (by decide) (by decide) hc161_38).1 kq') ?_
    show OwnGo _ _ _ _ (T36.setTop (mkF m 164 #[.val (.int p0), .val (.long q0), .second, .val (.long q1), .second, .val (.long q2), .second, .val (.int ca), .val (.int (2 : Int32)), .val (.int d0), .val (.int y0), .val (.int d1), .val (.int y1), .val (.int d2), .val (.int y2), .val (.ref b1), .val (.long (((0 : Int64) + y0.toInt64) + y1.toInt64)), .second, .val (.int (1 : Int32))] []))
    refine OwnGo.fwd (fun tq' kq' => XS.iload X36.here hx rfl (hb hby at_164) rfl kq') ?_
    show OwnGo _ _ _ _ (T36.setTop (mkF m 166 #[.val (.int p0), .val (.long q0), .second, .val (.long q1), .second, .val (.long q2), .second, .val (.int ca), .val (.int (2 : Int32)), .val (.int d0), .val (.int y0), .val (.int d1), .val (.int y1), .val (.int d2), .val (.int y2), .val (.ref b1), .val (.long (((0 : Int64) + y0.toInt64) + y1.toInt64)), .second, .val (.int (1 : Int32))] [(.int (1 : Int32))]))
    have hc166_39 : ¬ ((1 : Int) = (0 : Int)) := by decide
    refine OwnGo.fwd (fun tq' kq' => XS.ifNo X36.here hx rfl (hb hby at_166) rfl ((if0 _ _).trans (own_bneq (by decide) (by decide) hc166_39).1) kq') ?_
    show OwnGo _ _ _ _ (T36.setTop (mkF m 169 #[.val (.int p0), .val (.long q0), .second, .val (.long q1), .second, .val (.long q2), .second, .val (.int ca), .val (.int (2 : Int32)), .val (.int d0), .val (.int y0), .val (.int d1), .val (.int y1), .val (.int d2), .val (.int y2), .val (.ref b1), .val (.long (((0 : Int64) + y0.toInt64) + y1.toInt64)), .second, .val (.int (1 : Int32))] []))
    refine OwnGo.fwd (fun tq' kq' => XS.aload X36.here hx rfl (hb hby at_169) rfl rfl kq') ?_
    show OwnGo _ _ _ _ (T36.setTop (mkF m 171 #[.val (.int p0), .val (.long q0), .second, .val (.long q1), .second, .val (.long q2), .second, .val (.int ca), .val (.int (2 : Int32)), .val (.int d0), .val (.int y0), .val (.int d1), .val (.int y1), .val (.int d2), .val (.int y2), .val (.ref b1), .val (.long (((0 : Int64) + y0.toInt64) + y1.toInt64)), .second, .val (.int (1 : Int32))] [(.ref b1)]))
    refine OwnGo.fwd (fun tq' kq' => XS.iconst X36.here hx rfl (hb hby at_171) kq') ?_
    show OwnGo _ _ _ _ (T36.setTop (mkF m 172 #[.val (.int p0), .val (.long q0), .second, .val (.long q1), .second, .val (.long q2), .second, .val (.int ca), .val (.int (2 : Int32)), .val (.int d0), .val (.int y0), .val (.int d1), .val (.int y1), .val (.int d2), .val (.int y2), .val (.ref b1), .val (.long (((0 : Int64) + y0.toInt64) + y1.toInt64)), .second, .val (.int (1 : Int32))] [(.int (0 : Int32)), (.ref b1)]))
    obtain ⟨cq40, kq40, q40a, q40b, q40c⟩ := isOf hZ e36 E_b1
    obtain ⟨_, _, ⟨T40, L40, k40, n40⟩, -, X40, ⟨Lc40, hQ40, l40, y40, z40⟩, st40⟩ := X36.virtualBack hx (y := (⟨"com/example/inverse_frequency/inversefrequency/Postings", "document", "(I)I"⟩ : MethodName)) (z := (⟨"com/example/inverse_frequency/inversefrequency/Postings", "document", "(I)I"⟩ : MethodName)) hown (mvT hZ (hw _ (List.mem_of_getElem? (i := 37) rfl))) (mvT hZ (hw _ (List.mem_of_getElem? (i := 38) rfl))) (notFace_of_selects (args := #[]) (mvT hZ (hw _ (List.mem_of_getElem? (i := 40) rfl)))) (mvT hZ (hw _ (List.mem_of_getElem? (i := 40) rfl))) (mvT hZ (hw _ (List.mem_of_getElem? (i := 39) rfl))) (by decide) (backOf (W := 0) (rm7 l Z a0 hw [] b1 da2 fa2 2 (((0 : Int64) + y0.toInt64) + y1.toInt64) cp2 f2 g2 (0 : Int32) 0 h32 n0 Zs ⟨E_b1, F_documents_b1, F_frequencies_b1, F_size_b1, F_totalFrequency_b1, V_da2, V_fa2, ne_b1_da2, ne_b1_fa2, ne_da2_fa2, g_b1, g_da2, g_fa2⟩ (by decide) (by omega)) hZ (hw _ (List.mem_of_getElem? (i := 41) rfl)) (hw _ (List.mem_of_getElem? (i := 2) rfl)) (by decide) (by decide)) q40a q40c (g := (mkF m 172 #[.val (.int p0), .val (.long q0), .second, .val (.long q1), .second, .val (.long q2), .second, .val (.int ca), .val (.int (2 : Int32)), .val (.int d0), .val (.int y0), .val (.int d1), .val (.int y1), .val (.int d2), .val (.int y2), .val (.ref b1), .val (.long (((0 : Int64) + y0.toInt64) + y1.toInt64)), .second, .val (.int (1 : Int32))] [(.int (0 : Int32)), (.ref b1)])) rfl (by rw [hml]; rfl) (Steps.refl _) (argsL := [(.int (0 : Int32))]) (rest := []) (lenOf pd_6 rfl) rfl (by show 2 * 0 + _ ≤ _; exact Nat.le_of_eq rfl) (hb hby at_172) (fun _ _ => ⟨rfl, e36, (by decide : 7 + 0 ≤ _), (by decide : 28 + 0 ≤ _)⟩)
    dsimp only [Pt.U, Pt.locs, Pt.cells, Pt.slots] at X40 l40 y40 z40 st40 hQ40
    subst l40 y40 z40
    obtain ⟨rfl, N40q, e40⟩ := hQ40
    have N := Fr.app N N40q
    refine OwnGo.thru st40 ?_
    show OwnGo _ _ _ _ (T40.setTop (mkF m 175 #[.val (.int p0), .val (.long q0), .second, .val (.long q1), .second, .val (.long q2), .second, .val (.int ca), .val (.int (2 : Int32)), .val (.int d0), .val (.int y0), .val (.int d1), .val (.int y1), .val (.int d2), .val (.int y2), .val (.ref b1), .val (.long (((0 : Int64) + y0.toInt64) + y1.toInt64)), .second, .val (.int (1 : Int32))] [(.int (f2 0))]))
    refine OwnGo.fwd (fun tq' kq' => XS.iload X40.here hx rfl (hb hby at_175) rfl kq') ?_
    show OwnGo _ _ _ _ (T40.setTop (mkF m 177 #[.val (.int p0), .val (.long q0), .second, .val (.long q1), .second, .val (.long q2), .second, .val (.int ca), .val (.int (2 : Int32)), .val (.int d0), .val (.int y0), .val (.int d1), .val (.int y1), .val (.int d2), .val (.int y2), .val (.ref b1), .val (.long (((0 : Int64) + y0.toInt64) + y1.toInt64)), .second, .val (.int (1 : Int32))] [(.int d0), (.int (f2 0))]))
    have hc177_41 : (f2 0).toInt = d0.toInt := by rw [hf2 0 (by omega), hfx1]
    refine OwnGo.fwd (fun tq' kq' => XS.icmpNo X40.here hx rfl (hb hby at_177) rfl (own_beq rfl rfl hc177_41).2 kq') ?_
    show OwnGo _ _ _ _ (T40.setTop (mkF m 180 #[.val (.int p0), .val (.long q0), .second, .val (.long q1), .second, .val (.long q2), .second, .val (.int ca), .val (.int (2 : Int32)), .val (.int d0), .val (.int y0), .val (.int d1), .val (.int y1), .val (.int d2), .val (.int y2), .val (.ref b1), .val (.long (((0 : Int64) + y0.toInt64) + y1.toInt64)), .second, .val (.int (1 : Int32))] []))
    refine OwnGo.fwd (fun tq' kq' => XS.aload X40.here hx rfl (hb hby at_180) rfl rfl kq') ?_
    show OwnGo _ _ _ _ (T40.setTop (mkF m 182 #[.val (.int p0), .val (.long q0), .second, .val (.long q1), .second, .val (.long q2), .second, .val (.int ca), .val (.int (2 : Int32)), .val (.int d0), .val (.int y0), .val (.int d1), .val (.int y1), .val (.int d2), .val (.int y2), .val (.ref b1), .val (.long (((0 : Int64) + y0.toInt64) + y1.toInt64)), .second, .val (.int (1 : Int32))] [(.ref b1)]))
    refine OwnGo.fwd (fun tq' kq' => XS.iconst X40.here hx rfl (hb hby at_182) kq') ?_
    show OwnGo _ _ _ _ (T40.setTop (mkF m 183 #[.val (.int p0), .val (.long q0), .second, .val (.long q1), .second, .val (.long q2), .second, .val (.int ca), .val (.int (2 : Int32)), .val (.int d0), .val (.int y0), .val (.int d1), .val (.int y1), .val (.int d2), .val (.int y2), .val (.ref b1), .val (.long (((0 : Int64) + y0.toInt64) + y1.toInt64)), .second, .val (.int (1 : Int32))] [(.int (0 : Int32)), (.ref b1)]))
    obtain ⟨cq42, kq42, q42a, q42b, q42c⟩ := isOf hZ e40 E_b1
    obtain ⟨_, _, ⟨T42, L42, k42, n42⟩, -, X42, ⟨Lc42, hQ42, l42, y42, z42⟩, st42⟩ := X40.virtualBack hx (y := (⟨"com/example/inverse_frequency/inversefrequency/Postings", "frequency", "(I)I"⟩ : MethodName)) (z := (⟨"com/example/inverse_frequency/inversefrequency/Postings", "frequency", "(I)I"⟩ : MethodName)) hown (mvT hZ (hw _ (List.mem_of_getElem? (i := 42) rfl))) (mvT hZ (hw _ (List.mem_of_getElem? (i := 43) rfl))) (notFace_of_selects (args := #[]) (mvT hZ (hw _ (List.mem_of_getElem? (i := 45) rfl)))) (mvT hZ (hw _ (List.mem_of_getElem? (i := 45) rfl))) (mvT hZ (hw _ (List.mem_of_getElem? (i := 44) rfl))) (by decide) (backOf (W := 0) (rm8 l Z a0 hw [] b1 da2 fa2 2 (((0 : Int64) + y0.toInt64) + y1.toInt64) cp2 f2 g2 (0 : Int32) 0 h32 n0 Zs ⟨E_b1, F_documents_b1, F_frequencies_b1, F_size_b1, F_totalFrequency_b1, V_da2, V_fa2, ne_b1_da2, ne_b1_fa2, ne_da2_fa2, g_b1, g_da2, g_fa2⟩ (by decide) (by omega)) hZ (hw _ (List.mem_of_getElem? (i := 46) rfl)) (hw _ (List.mem_of_getElem? (i := 2) rfl)) (by decide) (by decide)) q42a q42c (g := (mkF m 183 #[.val (.int p0), .val (.long q0), .second, .val (.long q1), .second, .val (.long q2), .second, .val (.int ca), .val (.int (2 : Int32)), .val (.int d0), .val (.int y0), .val (.int d1), .val (.int y1), .val (.int d2), .val (.int y2), .val (.ref b1), .val (.long (((0 : Int64) + y0.toInt64) + y1.toInt64)), .second, .val (.int (1 : Int32))] [(.int (0 : Int32)), (.ref b1)])) rfl (by rw [hml]; rfl) (Steps.refl _) (argsL := [(.int (0 : Int32))]) (rest := []) (lenOf pd_6 rfl) rfl (by show 2 * 0 + _ ≤ _; exact Nat.le_of_eq rfl) (hb hby at_183) (fun _ _ => ⟨rfl, e40, (by decide : 7 + 0 ≤ _), (by decide : 28 + 0 ≤ _)⟩)
    dsimp only [Pt.U, Pt.locs, Pt.cells, Pt.slots] at X42 l42 y42 z42 st42 hQ42
    subst l42 y42 z42
    obtain ⟨rfl, N42q, e42⟩ := hQ42
    have N := Fr.app N N42q
    refine OwnGo.thru st42 ?_
    show OwnGo _ _ _ _ (T42.setTop (mkF m 186 #[.val (.int p0), .val (.long q0), .second, .val (.long q1), .second, .val (.long q2), .second, .val (.int ca), .val (.int (2 : Int32)), .val (.int d0), .val (.int y0), .val (.int d1), .val (.int y1), .val (.int d2), .val (.int y2), .val (.ref b1), .val (.long (((0 : Int64) + y0.toInt64) + y1.toInt64)), .second, .val (.int (1 : Int32))] [(.int (g2 0))]))
    refine OwnGo.fwd (fun tq' kq' => XS.iload X42.here hx rfl (hb hby at_186) rfl kq') ?_
    show OwnGo _ _ _ _ (T42.setTop (mkF m 188 #[.val (.int p0), .val (.long q0), .second, .val (.long q1), .second, .val (.long q2), .second, .val (.int ca), .val (.int (2 : Int32)), .val (.int d0), .val (.int y0), .val (.int d1), .val (.int y1), .val (.int d2), .val (.int y2), .val (.ref b1), .val (.long (((0 : Int64) + y0.toInt64) + y1.toInt64)), .second, .val (.int (1 : Int32))] [(.int y0), (.int (g2 0))]))
    have hc188_43 : (g2 0).toInt = y0.toInt := by rw [hg2 0 (by omega), hgx1]
    refine OwnGo.fwd (fun tq' kq' => XS.icmpNo X42.here hx rfl (hb hby at_188) rfl (own_beq rfl rfl hc188_43).2 kq') ?_
    show OwnGo _ _ _ _ (T42.setTop (mkF m 191 #[.val (.int p0), .val (.long q0), .second, .val (.long q1), .second, .val (.long q2), .second, .val (.int ca), .val (.int (2 : Int32)), .val (.int d0), .val (.int y0), .val (.int d1), .val (.int y1), .val (.int d2), .val (.int y2), .val (.ref b1), .val (.long (((0 : Int64) + y0.toInt64) + y1.toInt64)), .second, .val (.int (1 : Int32))] []))
    refine OwnGo.fwd (fun tq' kq' => XS.iconst X42.here hx rfl (hb hby at_191) kq') ?_
    show OwnGo _ _ _ _ (T42.setTop (mkF m 192 #[.val (.int p0), .val (.long q0), .second, .val (.long q1), .second, .val (.long q2), .second, .val (.int ca), .val (.int (2 : Int32)), .val (.int d0), .val (.int y0), .val (.int d1), .val (.int y1), .val (.int d2), .val (.int y2), .val (.ref b1), .val (.long (((0 : Int64) + y0.toInt64) + y1.toInt64)), .second, .val (.int (1 : Int32))] [(.int (1 : Int32))]))
    refine OwnGo.fwd (fun tq' kq' => XS.goto X42.here hx rfl (pc0 := 192) (pc' := 196) rfl (hb hby at_192) (by decide) (by decide) kq') ?_
    show OwnGo _ _ _ _ (T42.setTop (mkF m 196 #[.val (.int p0), .val (.long q0), .second, .val (.long q1), .second, .val (.long q2), .second, .val (.int ca), .val (.int (2 : Int32)), .val (.int d0), .val (.int y0), .val (.int d1), .val (.int y1), .val (.int d2), .val (.int y2), .val (.ref b1), .val (.long (((0 : Int64) + y0.toInt64) + y1.toInt64)), .second, .val (.int (1 : Int32))] [(.int (1 : Int32))]))
    refine OwnGo.fwd (fun tq' kq' => XS.istore X42.here hx rfl (hb hby at_196) rfl (l' := #[.val (.int p0), .val (.long q0), .second, .val (.long q1), .second, .val (.long q2), .second, .val (.int ca), .val (.int (2 : Int32)), .val (.int d0), .val (.int y0), .val (.int d1), .val (.int y1), .val (.int d2), .val (.int y2), .val (.ref b1), .val (.long (((0 : Int64) + y0.toInt64) + y1.toInt64)), .second, .val (.int (1 : Int32))]) rfl kq') ?_
    show OwnGo _ _ _ _ (T42.setTop (mkF m 198 #[.val (.int p0), .val (.long q0), .second, .val (.long q1), .second, .val (.long q2), .second, .val (.int ca), .val (.int (2 : Int32)), .val (.int d0), .val (.int y0), .val (.int d1), .val (.int y1), .val (.int d2), .val (.int y2), .val (.ref b1), .val (.long (((0 : Int64) + y0.toInt64) + y1.toInt64)), .second, .val (.int (1 : Int32))] []))
    refine OwnGo.fwd (fun tq' kq' => XS.iload X42.here hx rfl (hb hby at_198) rfl kq') ?_
    show OwnGo _ _ _ _ (T42.setTop (mkF m 200 #[.val (.int p0), .val (.long q0), .second, .val (.long q1), .second, .val (.long q2), .second, .val (.int ca), .val (.int (2 : Int32)), .val (.int d0), .val (.int y0), .val (.int d1), .val (.int y1), .val (.int d2), .val (.int y2), .val (.ref b1), .val (.long (((0 : Int64) + y0.toInt64) + y1.toInt64)), .second, .val (.int (1 : Int32))] [(.int (2 : Int32))]))
    refine OwnGo.fwd (fun tq' kq' => XS.iconst X42.here hx rfl (hb hby at_200) kq') ?_
    show OwnGo _ _ _ _ (T42.setTop (mkF m 201 #[.val (.int p0), .val (.long q0), .second, .val (.long q1), .second, .val (.long q2), .second, .val (.int ca), .val (.int (2 : Int32)), .val (.int d0), .val (.int y0), .val (.int d1), .val (.int y1), .val (.int d2), .val (.int y2), .val (.ref b1), .val (.long (((0 : Int64) + y0.toInt64) + y1.toInt64)), .second, .val (.int (1 : Int32))] [(.int (2 : Int32)), (.int (2 : Int32))]))
    have hc201_44 : ¬ ((2 : Int) < (2 : Int)) := by decide
    refine OwnGo.fwd (fun tq' kq' => XS.icmpNo X42.here hx rfl (hb hby at_201) rfl (own_bnlt (by decide) (by decide) hc201_44).1 kq') ?_
    show OwnGo _ _ _ _ (T42.setTop (mkF m 204 #[.val (.int p0), .val (.long q0), .second, .val (.long q1), .second, .val (.long q2), .second, .val (.int ca), .val (.int (2 : Int32)), .val (.int d0), .val (.int y0), .val (.int d1), .val (.int y1), .val (.int d2), .val (.int y2), .val (.ref b1), .val (.long (((0 : Int64) + y0.toInt64) + y1.toInt64)), .second, .val (.int (1 : Int32))] []))
    refine OwnGo.fwd (fun tq' kq' => XS.iload X42.here hx rfl (hb hby at_204) rfl kq') ?_
    show OwnGo _ _ _ _ (T42.setTop (mkF m 206 #[.val (.int p0), .val (.long q0), .second, .val (.long q1), .second, .val (.long q2), .second, .val (.int ca), .val (.int (2 : Int32)), .val (.int d0), .val (.int y0), .val (.int d1), .val (.int y1), .val (.int d2), .val (.int y2), .val (.ref b1), .val (.long (((0 : Int64) + y0.toInt64) + y1.toInt64)), .second, .val (.int (1 : Int32))] [(.int (1 : Int32))]))
    have hc206_45 : ¬ ((1 : Int) = (0 : Int)) := by decide
    refine OwnGo.fwd (fun tq' kq' => XS.ifNo X42.here hx rfl (hb hby at_206) rfl ((if0 _ _).trans (own_bneq (by decide) (by decide) hc206_45).1) kq') ?_
    show OwnGo _ _ _ _ (T42.setTop (mkF m 209 #[.val (.int p0), .val (.long q0), .second, .val (.long q1), .second, .val (.long q2), .second, .val (.int ca), .val (.int (2 : Int32)), .val (.int d0), .val (.int y0), .val (.int d1), .val (.int y1), .val (.int d2), .val (.int y2), .val (.ref b1), .val (.long (((0 : Int64) + y0.toInt64) + y1.toInt64)), .second, .val (.int (1 : Int32))] []))
    refine OwnGo.fwd (fun tq' kq' => XS.aload X42.here hx rfl (hb hby at_209) rfl rfl kq') ?_
    show OwnGo _ _ _ _ (T42.setTop (mkF m 211 #[.val (.int p0), .val (.long q0), .second, .val (.long q1), .second, .val (.long q2), .second, .val (.int ca), .val (.int (2 : Int32)), .val (.int d0), .val (.int y0), .val (.int d1), .val (.int y1), .val (.int d2), .val (.int y2), .val (.ref b1), .val (.long (((0 : Int64) + y0.toInt64) + y1.toInt64)), .second, .val (.int (1 : Int32))] [(.ref b1)]))
    refine OwnGo.fwd (fun tq' kq' => XS.iconst X42.here hx rfl (hb hby at_211) kq') ?_
    show OwnGo _ _ _ _ (T42.setTop (mkF m 212 #[.val (.int p0), .val (.long q0), .second, .val (.long q1), .second, .val (.long q2), .second, .val (.int ca), .val (.int (2 : Int32)), .val (.int d0), .val (.int y0), .val (.int d1), .val (.int y1), .val (.int d2), .val (.int y2), .val (.ref b1), .val (.long (((0 : Int64) + y0.toInt64) + y1.toInt64)), .second, .val (.int (1 : Int32))] [(.int (1 : Int32)), (.ref b1)]))
    obtain ⟨cq46, kq46, q46a, q46b, q46c⟩ := isOf hZ e42 E_b1
    obtain ⟨_, _, ⟨T46, L46, k46, n46⟩, -, X46, ⟨Lc46, hQ46, l46, y46, z46⟩, st46⟩ := X42.virtualBack hx (y := (⟨"com/example/inverse_frequency/inversefrequency/Postings", "document", "(I)I"⟩ : MethodName)) (z := (⟨"com/example/inverse_frequency/inversefrequency/Postings", "document", "(I)I"⟩ : MethodName)) hown (mvT hZ (hw _ (List.mem_of_getElem? (i := 37) rfl))) (mvT hZ (hw _ (List.mem_of_getElem? (i := 38) rfl))) (notFace_of_selects (args := #[]) (mvT hZ (hw _ (List.mem_of_getElem? (i := 40) rfl)))) (mvT hZ (hw _ (List.mem_of_getElem? (i := 40) rfl))) (mvT hZ (hw _ (List.mem_of_getElem? (i := 39) rfl))) (by decide) (backOf (W := 0) (rm7 l Z a0 hw [] b1 da2 fa2 2 (((0 : Int64) + y0.toInt64) + y1.toInt64) cp2 f2 g2 (1 : Int32) 1 h32 n0 Zs ⟨E_b1, F_documents_b1, F_frequencies_b1, F_size_b1, F_totalFrequency_b1, V_da2, V_fa2, ne_b1_da2, ne_b1_fa2, ne_da2_fa2, g_b1, g_da2, g_fa2⟩ (by decide) (by omega)) hZ (hw _ (List.mem_of_getElem? (i := 41) rfl)) (hw _ (List.mem_of_getElem? (i := 2) rfl)) (by decide) (by decide)) q46a q46c (g := (mkF m 212 #[.val (.int p0), .val (.long q0), .second, .val (.long q1), .second, .val (.long q2), .second, .val (.int ca), .val (.int (2 : Int32)), .val (.int d0), .val (.int y0), .val (.int d1), .val (.int y1), .val (.int d2), .val (.int y2), .val (.ref b1), .val (.long (((0 : Int64) + y0.toInt64) + y1.toInt64)), .second, .val (.int (1 : Int32))] [(.int (1 : Int32)), (.ref b1)])) rfl (by rw [hml]; rfl) (Steps.refl _) (argsL := [(.int (1 : Int32))]) (rest := []) (lenOf pd_6 rfl) rfl (by show 2 * 0 + _ ≤ _; exact Nat.le_of_eq rfl) (hb hby at_212) (fun _ _ => ⟨rfl, e42, (by decide : 7 + 0 ≤ _), (by decide : 28 + 0 ≤ _)⟩)
    dsimp only [Pt.U, Pt.locs, Pt.cells, Pt.slots] at X46 l46 y46 z46 st46 hQ46
    subst l46 y46 z46
    obtain ⟨rfl, N46q, e46⟩ := hQ46
    have N := Fr.app N N46q
    refine OwnGo.thru st46 ?_
    show OwnGo _ _ _ _ (T46.setTop (mkF m 215 #[.val (.int p0), .val (.long q0), .second, .val (.long q1), .second, .val (.long q2), .second, .val (.int ca), .val (.int (2 : Int32)), .val (.int d0), .val (.int y0), .val (.int d1), .val (.int y1), .val (.int d2), .val (.int y2), .val (.ref b1), .val (.long (((0 : Int64) + y0.toInt64) + y1.toInt64)), .second, .val (.int (1 : Int32))] [(.int (f2 1))]))
    refine OwnGo.fwd (fun tq' kq' => XS.iload X46.here hx rfl (hb hby at_215) rfl kq') ?_
    show OwnGo _ _ _ _ (T46.setTop (mkF m 217 #[.val (.int p0), .val (.long q0), .second, .val (.long q1), .second, .val (.long q2), .second, .val (.int ca), .val (.int (2 : Int32)), .val (.int d0), .val (.int y0), .val (.int d1), .val (.int y1), .val (.int d2), .val (.int y2), .val (.ref b1), .val (.long (((0 : Int64) + y0.toInt64) + y1.toInt64)), .second, .val (.int (1 : Int32))] [(.int d1), (.int (f2 1))]))
    have hc217_47 : (f2 1).toInt = d1.toInt := by rw [hfx2]
    refine OwnGo.fwd (fun tq' kq' => XS.icmpNo X46.here hx rfl (hb hby at_217) rfl (own_beq rfl rfl hc217_47).2 kq') ?_
    show OwnGo _ _ _ _ (T46.setTop (mkF m 220 #[.val (.int p0), .val (.long q0), .second, .val (.long q1), .second, .val (.long q2), .second, .val (.int ca), .val (.int (2 : Int32)), .val (.int d0), .val (.int y0), .val (.int d1), .val (.int y1), .val (.int d2), .val (.int y2), .val (.ref b1), .val (.long (((0 : Int64) + y0.toInt64) + y1.toInt64)), .second, .val (.int (1 : Int32))] []))
    refine OwnGo.fwd (fun tq' kq' => XS.aload X46.here hx rfl (hb hby at_220) rfl rfl kq') ?_
    show OwnGo _ _ _ _ (T46.setTop (mkF m 222 #[.val (.int p0), .val (.long q0), .second, .val (.long q1), .second, .val (.long q2), .second, .val (.int ca), .val (.int (2 : Int32)), .val (.int d0), .val (.int y0), .val (.int d1), .val (.int y1), .val (.int d2), .val (.int y2), .val (.ref b1), .val (.long (((0 : Int64) + y0.toInt64) + y1.toInt64)), .second, .val (.int (1 : Int32))] [(.ref b1)]))
    refine OwnGo.fwd (fun tq' kq' => XS.iconst X46.here hx rfl (hb hby at_222) kq') ?_
    show OwnGo _ _ _ _ (T46.setTop (mkF m 223 #[.val (.int p0), .val (.long q0), .second, .val (.long q1), .second, .val (.long q2), .second, .val (.int ca), .val (.int (2 : Int32)), .val (.int d0), .val (.int y0), .val (.int d1), .val (.int y1), .val (.int d2), .val (.int y2), .val (.ref b1), .val (.long (((0 : Int64) + y0.toInt64) + y1.toInt64)), .second, .val (.int (1 : Int32))] [(.int (1 : Int32)), (.ref b1)]))
    obtain ⟨cq48, kq48, q48a, q48b, q48c⟩ := isOf hZ e46 E_b1
    obtain ⟨_, _, ⟨T48, L48, k48, n48⟩, -, X48, ⟨Lc48, hQ48, l48, y48, z48⟩, st48⟩ := X46.virtualBack hx (y := (⟨"com/example/inverse_frequency/inversefrequency/Postings", "frequency", "(I)I"⟩ : MethodName)) (z := (⟨"com/example/inverse_frequency/inversefrequency/Postings", "frequency", "(I)I"⟩ : MethodName)) hown (mvT hZ (hw _ (List.mem_of_getElem? (i := 42) rfl))) (mvT hZ (hw _ (List.mem_of_getElem? (i := 43) rfl))) (notFace_of_selects (args := #[]) (mvT hZ (hw _ (List.mem_of_getElem? (i := 45) rfl)))) (mvT hZ (hw _ (List.mem_of_getElem? (i := 45) rfl))) (mvT hZ (hw _ (List.mem_of_getElem? (i := 44) rfl))) (by decide) (backOf (W := 0) (rm8 l Z a0 hw [] b1 da2 fa2 2 (((0 : Int64) + y0.toInt64) + y1.toInt64) cp2 f2 g2 (1 : Int32) 1 h32 n0 Zs ⟨E_b1, F_documents_b1, F_frequencies_b1, F_size_b1, F_totalFrequency_b1, V_da2, V_fa2, ne_b1_da2, ne_b1_fa2, ne_da2_fa2, g_b1, g_da2, g_fa2⟩ (by decide) (by omega)) hZ (hw _ (List.mem_of_getElem? (i := 46) rfl)) (hw _ (List.mem_of_getElem? (i := 2) rfl)) (by decide) (by decide)) q48a q48c (g := (mkF m 223 #[.val (.int p0), .val (.long q0), .second, .val (.long q1), .second, .val (.long q2), .second, .val (.int ca), .val (.int (2 : Int32)), .val (.int d0), .val (.int y0), .val (.int d1), .val (.int y1), .val (.int d2), .val (.int y2), .val (.ref b1), .val (.long (((0 : Int64) + y0.toInt64) + y1.toInt64)), .second, .val (.int (1 : Int32))] [(.int (1 : Int32)), (.ref b1)])) rfl (by rw [hml]; rfl) (Steps.refl _) (argsL := [(.int (1 : Int32))]) (rest := []) (lenOf pd_6 rfl) rfl (by show 2 * 0 + _ ≤ _; exact Nat.le_of_eq rfl) (hb hby at_223) (fun _ _ => ⟨rfl, e46, (by decide : 7 + 0 ≤ _), (by decide : 28 + 0 ≤ _)⟩)
    dsimp only [Pt.U, Pt.locs, Pt.cells, Pt.slots] at X48 l48 y48 z48 st48 hQ48
    subst l48 y48 z48
    obtain ⟨rfl, N48q, e48⟩ := hQ48
    have N := Fr.app N N48q
    refine OwnGo.thru st48 ?_
    show OwnGo _ _ _ _ (T48.setTop (mkF m 226 #[.val (.int p0), .val (.long q0), .second, .val (.long q1), .second, .val (.long q2), .second, .val (.int ca), .val (.int (2 : Int32)), .val (.int d0), .val (.int y0), .val (.int d1), .val (.int y1), .val (.int d2), .val (.int y2), .val (.ref b1), .val (.long (((0 : Int64) + y0.toInt64) + y1.toInt64)), .second, .val (.int (1 : Int32))] [(.int (g2 1))]))
    refine OwnGo.fwd (fun tq' kq' => XS.iload X48.here hx rfl (hb hby at_226) rfl kq') ?_
    show OwnGo _ _ _ _ (T48.setTop (mkF m 228 #[.val (.int p0), .val (.long q0), .second, .val (.long q1), .second, .val (.long q2), .second, .val (.int ca), .val (.int (2 : Int32)), .val (.int d0), .val (.int y0), .val (.int d1), .val (.int y1), .val (.int d2), .val (.int y2), .val (.ref b1), .val (.long (((0 : Int64) + y0.toInt64) + y1.toInt64)), .second, .val (.int (1 : Int32))] [(.int y1), (.int (g2 1))]))
    have hc228_49 : (g2 1).toInt = y1.toInt := by rw [hgx2]
    refine OwnGo.fwd (fun tq' kq' => XS.icmpNo X48.here hx rfl (hb hby at_228) rfl (own_beq rfl rfl hc228_49).2 kq') ?_
    show OwnGo _ _ _ _ (T48.setTop (mkF m 231 #[.val (.int p0), .val (.long q0), .second, .val (.long q1), .second, .val (.long q2), .second, .val (.int ca), .val (.int (2 : Int32)), .val (.int d0), .val (.int y0), .val (.int d1), .val (.int y1), .val (.int d2), .val (.int y2), .val (.ref b1), .val (.long (((0 : Int64) + y0.toInt64) + y1.toInt64)), .second, .val (.int (1 : Int32))] []))
    refine OwnGo.fwd (fun tq' kq' => XS.iconst X48.here hx rfl (hb hby at_231) kq') ?_
    show OwnGo _ _ _ _ (T48.setTop (mkF m 232 #[.val (.int p0), .val (.long q0), .second, .val (.long q1), .second, .val (.long q2), .second, .val (.int ca), .val (.int (2 : Int32)), .val (.int d0), .val (.int y0), .val (.int d1), .val (.int y1), .val (.int d2), .val (.int y2), .val (.ref b1), .val (.long (((0 : Int64) + y0.toInt64) + y1.toInt64)), .second, .val (.int (1 : Int32))] [(.int (1 : Int32))]))
    refine OwnGo.fwd (fun tq' kq' => XS.goto X48.here hx rfl (pc0 := 232) (pc' := 236) rfl (hb hby at_232) (by decide) (by decide) kq') ?_
    show OwnGo _ _ _ _ (T48.setTop (mkF m 236 #[.val (.int p0), .val (.long q0), .second, .val (.long q1), .second, .val (.long q2), .second, .val (.int ca), .val (.int (2 : Int32)), .val (.int d0), .val (.int y0), .val (.int d1), .val (.int y1), .val (.int d2), .val (.int y2), .val (.ref b1), .val (.long (((0 : Int64) + y0.toInt64) + y1.toInt64)), .second, .val (.int (1 : Int32))] [(.int (1 : Int32))]))
    refine OwnGo.fwd (fun tq' kq' => XS.istore X48.here hx rfl (hb hby at_236) rfl (l' := #[.val (.int p0), .val (.long q0), .second, .val (.long q1), .second, .val (.long q2), .second, .val (.int ca), .val (.int (2 : Int32)), .val (.int d0), .val (.int y0), .val (.int d1), .val (.int y1), .val (.int d2), .val (.int y2), .val (.ref b1), .val (.long (((0 : Int64) + y0.toInt64) + y1.toInt64)), .second, .val (.int (1 : Int32))]) rfl kq') ?_
    show OwnGo _ _ _ _ (T48.setTop (mkF m 238 #[.val (.int p0), .val (.long q0), .second, .val (.long q1), .second, .val (.long q2), .second, .val (.int ca), .val (.int (2 : Int32)), .val (.int d0), .val (.int y0), .val (.int d1), .val (.int y1), .val (.int d2), .val (.int y2), .val (.ref b1), .val (.long (((0 : Int64) + y0.toInt64) + y1.toInt64)), .second, .val (.int (1 : Int32))] []))
    refine OwnGo.fwd (fun tq' kq' => XS.iload X48.here hx rfl (hb hby at_238) rfl kq') ?_
    show OwnGo _ _ _ _ (T48.setTop (mkF m 240 #[.val (.int p0), .val (.long q0), .second, .val (.long q1), .second, .val (.long q2), .second, .val (.int ca), .val (.int (2 : Int32)), .val (.int d0), .val (.int y0), .val (.int d1), .val (.int y1), .val (.int d2), .val (.int y2), .val (.ref b1), .val (.long (((0 : Int64) + y0.toInt64) + y1.toInt64)), .second, .val (.int (1 : Int32))] [(.int (2 : Int32))]))
    refine OwnGo.fwd (fun tq' kq' => XS.iconst X48.here hx rfl (hb hby at_240) kq') ?_
    show OwnGo _ _ _ _ (T48.setTop (mkF m 241 #[.val (.int p0), .val (.long q0), .second, .val (.long q1), .second, .val (.long q2), .second, .val (.int ca), .val (.int (2 : Int32)), .val (.int d0), .val (.int y0), .val (.int d1), .val (.int y1), .val (.int d2), .val (.int y2), .val (.ref b1), .val (.long (((0 : Int64) + y0.toInt64) + y1.toInt64)), .second, .val (.int (1 : Int32))] [(.int (3 : Int32)), (.int (2 : Int32))]))
    have hc241_50 : (2 : Int) < (3 : Int) := by decide
    refine OwnGo.fwd (fun tq' kq' => XS.icmpYes X48.here hx rfl (pc0 := 241) (pc' := 278) rfl (hb hby at_241) rfl (own_blt (by decide) (by decide) hc241_50).1 (by decide) (by decide) kq') ?_
    show OwnGo _ _ _ _ (T48.setTop (mkF m 278 #[.val (.int p0), .val (.long q0), .second, .val (.long q1), .second, .val (.long q2), .second, .val (.int ca), .val (.int (2 : Int32)), .val (.int d0), .val (.int y0), .val (.int d1), .val (.int y1), .val (.int d2), .val (.int y2), .val (.ref b1), .val (.long (((0 : Int64) + y0.toInt64) + y1.toInt64)), .second, .val (.int (1 : Int32))] []))
    refine OwnGo.fwd (fun tq' kq' => XS.iload X48.here hx rfl (hb hby at_278) rfl kq') ?_
    show OwnGo _ _ _ _ (T48.setTop (mkF m 280 #[.val (.int p0), .val (.long q0), .second, .val (.long q1), .second, .val (.long q2), .second, .val (.int ca), .val (.int (2 : Int32)), .val (.int d0), .val (.int y0), .val (.int d1), .val (.int y1), .val (.int d2), .val (.int y2), .val (.ref b1), .val (.long (((0 : Int64) + y0.toInt64) + y1.toInt64)), .second, .val (.int (1 : Int32))] [(.int (1 : Int32))]))
    exact own_retZ X48 hlk hx Bd.returns (hb hby at_280) (by decide) (by decide) e48 ⟨rfl, N⟩
  · show OwnGo _ _ _ _ (T2.setTop (mkF m 61 #[.val (.int p0), .val (.long q0), .second, .val (.long q1), .second, .val (.long q2), .second, .val (.int ca), .val (.int (3 : Int32)), .val (.int d0), .val (.int y0), .val (.int d1), .val (.int y1), .val (.int d2), .val (.int y2), .val (.ref b1), .val (.long (0 : Int64)), .second, .unset] []))
    refine OwnGo.fwd (fun tq' kq' => XS.iload X2.here hx rfl (hb hby at_61) rfl kq') ?_
    show OwnGo _ _ _ _ (T2.setTop (mkF m 63 #[.val (.int p0), .val (.long q0), .second, .val (.long q1), .second, .val (.long q2), .second, .val (.int ca), .val (.int (3 : Int32)), .val (.int d0), .val (.int y0), .val (.int d1), .val (.int y1), .val (.int d2), .val (.int y2), .val (.ref b1), .val (.long (0 : Int64)), .second, .unset] [(.int (3 : Int32))]))
    refine OwnGo.fwd (fun tq' kq' => XS.iconst X2.here hx rfl (hb hby at_63) kq') ?_
    show OwnGo _ _ _ _ (T2.setTop (mkF m 64 #[.val (.int p0), .val (.long q0), .second, .val (.long q1), .second, .val (.long q2), .second, .val (.int ca), .val (.int (3 : Int32)), .val (.int d0), .val (.int y0), .val (.int d1), .val (.int y1), .val (.int d2), .val (.int y2), .val (.ref b1), .val (.long (0 : Int64)), .second, .unset] [(.int (1 : Int32)), (.int (3 : Int32))]))
    have hc64_51 : ¬ ((3 : Int) < (1 : Int)) := by decide
    refine OwnGo.fwd (fun tq' kq' => XS.icmpNo X2.here hx rfl (hb hby at_64) rfl (own_bnlt (by decide) (by decide) hc64_51).1 kq') ?_
    show OwnGo _ _ _ _ (T2.setTop (mkF m 67 #[.val (.int p0), .val (.long q0), .second, .val (.long q1), .second, .val (.long q2), .second, .val (.int ca), .val (.int (3 : Int32)), .val (.int d0), .val (.int y0), .val (.int d1), .val (.int y1), .val (.int d2), .val (.int y2), .val (.ref b1), .val (.long (0 : Int64)), .second, .unset] []))
    refine OwnGo.fwd (fun tq' kq' => XS.aload X2.here hx rfl (hb hby at_67) rfl rfl kq') ?_
    show OwnGo _ _ _ _ (T2.setTop (mkF m 69 #[.val (.int p0), .val (.long q0), .second, .val (.long q1), .second, .val (.long q2), .second, .val (.int ca), .val (.int (3 : Int32)), .val (.int d0), .val (.int y0), .val (.int d1), .val (.int y1), .val (.int d2), .val (.int y2), .val (.ref b1), .val (.long (0 : Int64)), .second, .unset] [(.ref b1)]))
    refine OwnGo.fwd (fun tq' kq' => XS.iload X2.here hx rfl (hb hby at_69) rfl kq') ?_
    show OwnGo _ _ _ _ (T2.setTop (mkF m 71 #[.val (.int p0), .val (.long q0), .second, .val (.long q1), .second, .val (.long q2), .second, .val (.int ca), .val (.int (3 : Int32)), .val (.int d0), .val (.int y0), .val (.int d1), .val (.int y1), .val (.int d2), .val (.int y2), .val (.ref b1), .val (.long (0 : Int64)), .second, .unset] [(.int d0), (.ref b1)]))
    refine OwnGo.fwd (fun tq' kq' => XS.iload X2.here hx rfl (hb hby at_71) rfl kq') ?_
    show OwnGo _ _ _ _ (T2.setTop (mkF m 73 #[.val (.int p0), .val (.long q0), .second, .val (.long q1), .second, .val (.long q2), .second, .val (.int ca), .val (.int (3 : Int32)), .val (.int d0), .val (.int y0), .val (.int d1), .val (.int y1), .val (.int d2), .val (.int y2), .val (.ref b1), .val (.long (0 : Int64)), .second, .unset] [(.int y0), (.int d0), (.ref b1)]))
    obtain ⟨cq52, kq52, q52a, q52b, q52c⟩ := isOf hZ eh2.symm E_b1
    obtain ⟨_, _, ⟨T52, L52, k52, n52⟩, -, X52, ⟨Lc52, hQ52, l52, y52, z52⟩, st52⟩ := X2.virtualBack hx (y := (⟨"com/example/inverse_frequency/inversefrequency/Postings", "add", "(II)V"⟩ : MethodName)) (z := (⟨"com/example/inverse_frequency/inversefrequency/Postings", "add", "(II)V"⟩ : MethodName)) hown (mvT hZ (hw _ (List.mem_of_getElem? (i := 32) rfl))) (mvT hZ (hw _ (List.mem_of_getElem? (i := 33) rfl))) (notFace_of_selects (args := #[]) (mvT hZ (hw _ (List.mem_of_getElem? (i := 35) rfl)))) (mvT hZ (hw _ (List.mem_of_getElem? (i := 35) rfl))) (mvT hZ (hw _ (List.mem_of_getElem? (i := 34) rfl))) (by decide) (backOf (W := 0) (rm6 l Z a0 hw [] b1 da fa 0 (0 : Int64) cp (fun _ => 0) (fun _ => 0) d0 y0 h2 n0 Zs ⟨E_b1, F_documents_b1, F_frequencies_b1, F_size_b1, F_totalFrequency_b1, V_da, V_fa, ne_b1_da, ne_b1_fa, ne_da_fa, g_b1, g_da, g_fa⟩ (by decide) (Nat.zero_le _) hcp1) hZ (hw _ (List.mem_of_getElem? (i := 36) rfl)) (hw _ (List.mem_of_getElem? (i := 2) rfl)) (by decide) (by decide)) q52a q52c (g := (mkF m 73 #[.val (.int p0), .val (.long q0), .second, .val (.long q1), .second, .val (.long q2), .second, .val (.int ca), .val (.int (3 : Int32)), .val (.int d0), .val (.int y0), .val (.int d1), .val (.int y1), .val (.int d2), .val (.int y2), .val (.ref b1), .val (.long (0 : Int64)), .second, .unset] [(.int y0), (.int d0), (.ref b1)])) rfl (by rw [hml]; rfl) (Steps.refl _) (argsL := [(.int d0), (.int y0)]) (rest := []) (lenOf pd_5 rfl) rfl (by show 2 * 0 + _ ≤ _; exact Nat.le_of_eq rfl) (hb hby at_73) (fun _ _ => ⟨rfl, eh2.symm, (by decide : 3 + 2 ≤ _), (by decide : 12 + 8 ≤ _)⟩)
    dsimp only [Pt.U, Pt.locs, Pt.cells, Pt.slots] at X52 l52 y52 z52 st52 hQ52
    subst l52 y52 z52
    obtain ⟨h52, eh52⟩ : ∃ z, z = T52.heap := ⟨_, rfl⟩
    rw [← eh52] at hQ52
    obtain ⟨rfl, N52q, K52, da1, fa1, cp1, f1, g1, hl1, ⟨E_b1, F_documents_b1, F_frequencies_b1, F_size_b1, F_totalFrequency_b1, V_da1, V_fa1, ne_b1_da1, ne_b1_fa1, ne_da1_fa1, g_b1, g_da1, g_fa1⟩, hf1, hfx1, hg1, hgx1⟩ := hQ52
    have N := Fr.app N N52q
    have Zs := Nat.le_trans Zs K52.1
    refine OwnGo.thru st52 ?_
    show OwnGo _ _ _ _ (T52.setTop (mkF m 76 #[.val (.int p0), .val (.long q0), .second, .val (.long q1), .second, .val (.long q2), .second, .val (.int ca), .val (.int (3 : Int32)), .val (.int d0), .val (.int y0), .val (.int d1), .val (.int y1), .val (.int d2), .val (.int y2), .val (.ref b1), .val (.long (0 : Int64)), .second, .unset] []))
    refine OwnGo.fwd (fun tq' kq' => XS.lload X52.here hx rfl (hb hby at_76) rfl kq') ?_
    show OwnGo _ _ _ _ (T52.setTop (mkF m 78 #[.val (.int p0), .val (.long q0), .second, .val (.long q1), .second, .val (.long q2), .second, .val (.int ca), .val (.int (3 : Int32)), .val (.int d0), .val (.int y0), .val (.int d1), .val (.int y1), .val (.int d2), .val (.int y2), .val (.ref b1), .val (.long (0 : Int64)), .second, .unset] [(.long (0 : Int64))]))
    refine OwnGo.fwd (fun tq' kq' => XS.iload X52.here hx rfl (hb hby at_78) rfl kq') ?_
    show OwnGo _ _ _ _ (T52.setTop (mkF m 80 #[.val (.int p0), .val (.long q0), .second, .val (.long q1), .second, .val (.long q2), .second, .val (.int ca), .val (.int (3 : Int32)), .val (.int d0), .val (.int y0), .val (.int d1), .val (.int y1), .val (.int d2), .val (.int y2), .val (.ref b1), .val (.long (0 : Int64)), .second, .unset] [(.int y0), (.long (0 : Int64))]))
    refine OwnGo.fwd (fun tq' kq' => XS.i2l X52.here hx rfl (hb hby at_80) rfl kq') ?_
    show OwnGo _ _ _ _ (T52.setTop (mkF m 81 #[.val (.int p0), .val (.long q0), .second, .val (.long q1), .second, .val (.long q2), .second, .val (.int ca), .val (.int (3 : Int32)), .val (.int d0), .val (.int y0), .val (.int d1), .val (.int y1), .val (.int d2), .val (.int y2), .val (.ref b1), .val (.long (0 : Int64)), .second, .unset] [(.long y0.toInt64), (.long (0 : Int64))]))
    refine OwnGo.fwd (fun tq' kq' => XS.ladd X52.here hx rfl (hb hby at_81) rfl kq') ?_
    show OwnGo _ _ _ _ (T52.setTop (mkF m 82 #[.val (.int p0), .val (.long q0), .second, .val (.long q1), .second, .val (.long q2), .second, .val (.int ca), .val (.int (3 : Int32)), .val (.int d0), .val (.int y0), .val (.int d1), .val (.int y1), .val (.int d2), .val (.int y2), .val (.ref b1), .val (.long (0 : Int64)), .second, .unset] [(.long ((0 : Int64) + y0.toInt64))]))
    refine OwnGo.fwd (fun tq' kq' => XS.lstore X52.here hx rfl (hb hby at_82) rfl (l' := #[.val (.int p0), .val (.long q0), .second, .val (.long q1), .second, .val (.long q2), .second, .val (.int ca), .val (.int (3 : Int32)), .val (.int d0), .val (.int y0), .val (.int d1), .val (.int y1), .val (.int d2), .val (.int y2), .val (.ref b1), .val (.long ((0 : Int64) + y0.toInt64)), .second, .unset]) rfl kq') ?_
    show OwnGo _ _ _ _ (T52.setTop (mkF m 84 #[.val (.int p0), .val (.long q0), .second, .val (.long q1), .second, .val (.long q2), .second, .val (.int ca), .val (.int (3 : Int32)), .val (.int d0), .val (.int y0), .val (.int d1), .val (.int y1), .val (.int d2), .val (.int y2), .val (.ref b1), .val (.long ((0 : Int64) + y0.toInt64)), .second, .unset] []))
    refine OwnGo.fwd (fun tq' kq' => XS.iload X52.here hx rfl (hb hby at_84) rfl kq') ?_
    show OwnGo _ _ _ _ (T52.setTop (mkF m 86 #[.val (.int p0), .val (.long q0), .second, .val (.long q1), .second, .val (.long q2), .second, .val (.int ca), .val (.int (3 : Int32)), .val (.int d0), .val (.int y0), .val (.int d1), .val (.int y1), .val (.int d2), .val (.int y2), .val (.ref b1), .val (.long ((0 : Int64) + y0.toInt64)), .second, .unset] [(.int (3 : Int32))]))
    refine OwnGo.fwd (fun tq' kq' => XS.iconst X52.here hx rfl (hb hby at_86) kq') ?_
    show OwnGo _ _ _ _ (T52.setTop (mkF m 87 #[.val (.int p0), .val (.long q0), .second, .val (.long q1), .second, .val (.long q2), .second, .val (.int ca), .val (.int (3 : Int32)), .val (.int d0), .val (.int y0), .val (.int d1), .val (.int y1), .val (.int d2), .val (.int y2), .val (.ref b1), .val (.long ((0 : Int64) + y0.toInt64)), .second, .unset] [(.int (2 : Int32)), (.int (3 : Int32))]))
    have hc87_53 : ¬ ((3 : Int) < (2 : Int)) := by decide
    refine OwnGo.fwd (fun tq' kq' => XS.icmpNo X52.here hx rfl (hb hby at_87) rfl (own_bnlt (by decide) (by decide) hc87_53).1 kq') ?_
    show OwnGo _ _ _ _ (T52.setTop (mkF m 90 #[.val (.int p0), .val (.long q0), .second, .val (.long q1), .second, .val (.long q2), .second, .val (.int ca), .val (.int (3 : Int32)), .val (.int d0), .val (.int y0), .val (.int d1), .val (.int y1), .val (.int d2), .val (.int y2), .val (.ref b1), .val (.long ((0 : Int64) + y0.toInt64)), .second, .unset] []))
    refine OwnGo.fwd (fun tq' kq' => XS.aload X52.here hx rfl (hb hby at_90) rfl rfl kq') ?_
    show OwnGo _ _ _ _ (T52.setTop (mkF m 92 #[.val (.int p0), .val (.long q0), .second, .val (.long q1), .second, .val (.long q2), .second, .val (.int ca), .val (.int (3 : Int32)), .val (.int d0), .val (.int y0), .val (.int d1), .val (.int y1), .val (.int d2), .val (.int y2), .val (.ref b1), .val (.long ((0 : Int64) + y0.toInt64)), .second, .unset] [(.ref b1)]))
    refine OwnGo.fwd (fun tq' kq' => XS.iload X52.here hx rfl (hb hby at_92) rfl kq') ?_
    show OwnGo _ _ _ _ (T52.setTop (mkF m 94 #[.val (.int p0), .val (.long q0), .second, .val (.long q1), .second, .val (.long q2), .second, .val (.int ca), .val (.int (3 : Int32)), .val (.int d0), .val (.int y0), .val (.int d1), .val (.int y1), .val (.int d2), .val (.int y2), .val (.ref b1), .val (.long ((0 : Int64) + y0.toInt64)), .second, .unset] [(.int d1), (.ref b1)]))
    refine OwnGo.fwd (fun tq' kq' => XS.iload X52.here hx rfl (hb hby at_94) rfl kq') ?_
    show OwnGo _ _ _ _ (T52.setTop (mkF m 96 #[.val (.int p0), .val (.long q0), .second, .val (.long q1), .second, .val (.long q2), .second, .val (.int ca), .val (.int (3 : Int32)), .val (.int d0), .val (.int y0), .val (.int d1), .val (.int y1), .val (.int d2), .val (.int y2), .val (.ref b1), .val (.long ((0 : Int64) + y0.toInt64)), .second, .unset] [(.int y1), (.int d1), (.ref b1)]))
    obtain ⟨cq54, kq54, q54a, q54b, q54c⟩ := isOf hZ eh52.symm E_b1
    obtain ⟨_, _, ⟨T54, L54, k54, n54⟩, -, X54, ⟨Lc54, hQ54, l54, y54, z54⟩, st54⟩ := X52.virtualBack hx (y := (⟨"com/example/inverse_frequency/inversefrequency/Postings", "add", "(II)V"⟩ : MethodName)) (z := (⟨"com/example/inverse_frequency/inversefrequency/Postings", "add", "(II)V"⟩ : MethodName)) hown (mvT hZ (hw _ (List.mem_of_getElem? (i := 32) rfl))) (mvT hZ (hw _ (List.mem_of_getElem? (i := 33) rfl))) (notFace_of_selects (args := #[]) (mvT hZ (hw _ (List.mem_of_getElem? (i := 35) rfl)))) (mvT hZ (hw _ (List.mem_of_getElem? (i := 35) rfl))) (mvT hZ (hw _ (List.mem_of_getElem? (i := 34) rfl))) (by decide) (backOf (W := 0) (rm6 l Z a0 hw [] b1 da1 fa1 1 ((0 : Int64) + y0.toInt64) cp1 f1 g1 d1 y1 h52 n0 Zs ⟨E_b1, F_documents_b1, F_frequencies_b1, F_size_b1, F_totalFrequency_b1, V_da1, V_fa1, ne_b1_da1, ne_b1_fa1, ne_da1_fa1, g_b1, g_da1, g_fa1⟩ (by decide) hl1 (Nat.lt_of_le_of_lt (Nat.zero_le _) hl1)) hZ (hw _ (List.mem_of_getElem? (i := 36) rfl)) (hw _ (List.mem_of_getElem? (i := 2) rfl)) (by decide) (by decide)) q54a q54c (g := (mkF m 96 #[.val (.int p0), .val (.long q0), .second, .val (.long q1), .second, .val (.long q2), .second, .val (.int ca), .val (.int (3 : Int32)), .val (.int d0), .val (.int y0), .val (.int d1), .val (.int y1), .val (.int d2), .val (.int y2), .val (.ref b1), .val (.long ((0 : Int64) + y0.toInt64)), .second, .unset] [(.int y1), (.int d1), (.ref b1)])) rfl (by rw [hml]; rfl) (Steps.refl _) (argsL := [(.int d1), (.int y1)]) (rest := []) (lenOf pd_5 rfl) rfl (by show 2 * 0 + _ ≤ _; exact Nat.le_of_eq rfl) (hb hby at_96) (fun _ _ => ⟨rfl, eh52.symm, (by decide : 5 + 2 ≤ _), (by decide : 20 + 8 ≤ _)⟩)
    dsimp only [Pt.U, Pt.locs, Pt.cells, Pt.slots] at X54 l54 y54 z54 st54 hQ54
    subst l54 y54 z54
    obtain ⟨h54, eh54⟩ : ∃ z, z = T54.heap := ⟨_, rfl⟩
    rw [← eh54] at hQ54
    obtain ⟨rfl, N54q, K54, da2, fa2, cp2, f2, g2, hl2, ⟨E_b1, F_documents_b1, F_frequencies_b1, F_size_b1, F_totalFrequency_b1, V_da2, V_fa2, ne_b1_da2, ne_b1_fa2, ne_da2_fa2, g_b1, g_da2, g_fa2⟩, hf2, hfx2, hg2, hgx2⟩ := hQ54
    have N := Fr.app N N54q
    have Zs := Nat.le_trans Zs K54.1
    refine OwnGo.thru st54 ?_
    show OwnGo _ _ _ _ (T54.setTop (mkF m 99 #[.val (.int p0), .val (.long q0), .second, .val (.long q1), .second, .val (.long q2), .second, .val (.int ca), .val (.int (3 : Int32)), .val (.int d0), .val (.int y0), .val (.int d1), .val (.int y1), .val (.int d2), .val (.int y2), .val (.ref b1), .val (.long ((0 : Int64) + y0.toInt64)), .second, .unset] []))
    refine OwnGo.fwd (fun tq' kq' => XS.lload X54.here hx rfl (hb hby at_99) rfl kq') ?_
    show OwnGo _ _ _ _ (T54.setTop (mkF m 101 #[.val (.int p0), .val (.long q0), .second, .val (.long q1), .second, .val (.long q2), .second, .val (.int ca), .val (.int (3 : Int32)), .val (.int d0), .val (.int y0), .val (.int d1), .val (.int y1), .val (.int d2), .val (.int y2), .val (.ref b1), .val (.long ((0 : Int64) + y0.toInt64)), .second, .unset] [(.long ((0 : Int64) + y0.toInt64))]))
    refine OwnGo.fwd (fun tq' kq' => XS.iload X54.here hx rfl (hb hby at_101) rfl kq') ?_
    show OwnGo _ _ _ _ (T54.setTop (mkF m 103 #[.val (.int p0), .val (.long q0), .second, .val (.long q1), .second, .val (.long q2), .second, .val (.int ca), .val (.int (3 : Int32)), .val (.int d0), .val (.int y0), .val (.int d1), .val (.int y1), .val (.int d2), .val (.int y2), .val (.ref b1), .val (.long ((0 : Int64) + y0.toInt64)), .second, .unset] [(.int y1), (.long ((0 : Int64) + y0.toInt64))]))
    refine OwnGo.fwd (fun tq' kq' => XS.i2l X54.here hx rfl (hb hby at_103) rfl kq') ?_
    show OwnGo _ _ _ _ (T54.setTop (mkF m 104 #[.val (.int p0), .val (.long q0), .second, .val (.long q1), .second, .val (.long q2), .second, .val (.int ca), .val (.int (3 : Int32)), .val (.int d0), .val (.int y0), .val (.int d1), .val (.int y1), .val (.int d2), .val (.int y2), .val (.ref b1), .val (.long ((0 : Int64) + y0.toInt64)), .second, .unset] [(.long y1.toInt64), (.long ((0 : Int64) + y0.toInt64))]))
    refine OwnGo.fwd (fun tq' kq' => XS.ladd X54.here hx rfl (hb hby at_104) rfl kq') ?_
    show OwnGo _ _ _ _ (T54.setTop (mkF m 105 #[.val (.int p0), .val (.long q0), .second, .val (.long q1), .second, .val (.long q2), .second, .val (.int ca), .val (.int (3 : Int32)), .val (.int d0), .val (.int y0), .val (.int d1), .val (.int y1), .val (.int d2), .val (.int y2), .val (.ref b1), .val (.long ((0 : Int64) + y0.toInt64)), .second, .unset] [(.long (((0 : Int64) + y0.toInt64) + y1.toInt64))]))
    refine OwnGo.fwd (fun tq' kq' => XS.lstore X54.here hx rfl (hb hby at_105) rfl (l' := #[.val (.int p0), .val (.long q0), .second, .val (.long q1), .second, .val (.long q2), .second, .val (.int ca), .val (.int (3 : Int32)), .val (.int d0), .val (.int y0), .val (.int d1), .val (.int y1), .val (.int d2), .val (.int y2), .val (.ref b1), .val (.long (((0 : Int64) + y0.toInt64) + y1.toInt64)), .second, .unset]) rfl kq') ?_
    show OwnGo _ _ _ _ (T54.setTop (mkF m 107 #[.val (.int p0), .val (.long q0), .second, .val (.long q1), .second, .val (.long q2), .second, .val (.int ca), .val (.int (3 : Int32)), .val (.int d0), .val (.int y0), .val (.int d1), .val (.int y1), .val (.int d2), .val (.int y2), .val (.ref b1), .val (.long (((0 : Int64) + y0.toInt64) + y1.toInt64)), .second, .unset] []))
    refine OwnGo.fwd (fun tq' kq' => XS.iload X54.here hx rfl (hb hby at_107) rfl kq') ?_
    show OwnGo _ _ _ _ (T54.setTop (mkF m 109 #[.val (.int p0), .val (.long q0), .second, .val (.long q1), .second, .val (.long q2), .second, .val (.int ca), .val (.int (3 : Int32)), .val (.int d0), .val (.int y0), .val (.int d1), .val (.int y1), .val (.int d2), .val (.int y2), .val (.ref b1), .val (.long (((0 : Int64) + y0.toInt64) + y1.toInt64)), .second, .unset] [(.int (3 : Int32))]))
    refine OwnGo.fwd (fun tq' kq' => XS.iconst X54.here hx rfl (hb hby at_109) kq') ?_
    show OwnGo _ _ _ _ (T54.setTop (mkF m 110 #[.val (.int p0), .val (.long q0), .second, .val (.long q1), .second, .val (.long q2), .second, .val (.int ca), .val (.int (3 : Int32)), .val (.int d0), .val (.int y0), .val (.int d1), .val (.int y1), .val (.int d2), .val (.int y2), .val (.ref b1), .val (.long (((0 : Int64) + y0.toInt64) + y1.toInt64)), .second, .unset] [(.int (3 : Int32)), (.int (3 : Int32))]))
    have hc110_55 : ¬ ((3 : Int) < (3 : Int)) := by decide
    refine OwnGo.fwd (fun tq' kq' => XS.icmpNo X54.here hx rfl (hb hby at_110) rfl (own_bnlt (by decide) (by decide) hc110_55).1 kq') ?_
    show OwnGo _ _ _ _ (T54.setTop (mkF m 113 #[.val (.int p0), .val (.long q0), .second, .val (.long q1), .second, .val (.long q2), .second, .val (.int ca), .val (.int (3 : Int32)), .val (.int d0), .val (.int y0), .val (.int d1), .val (.int y1), .val (.int d2), .val (.int y2), .val (.ref b1), .val (.long (((0 : Int64) + y0.toInt64) + y1.toInt64)), .second, .unset] []))
    refine OwnGo.fwd (fun tq' kq' => XS.aload X54.here hx rfl (hb hby at_113) rfl rfl kq') ?_
    show OwnGo _ _ _ _ (T54.setTop (mkF m 115 #[.val (.int p0), .val (.long q0), .second, .val (.long q1), .second, .val (.long q2), .second, .val (.int ca), .val (.int (3 : Int32)), .val (.int d0), .val (.int y0), .val (.int d1), .val (.int y1), .val (.int d2), .val (.int y2), .val (.ref b1), .val (.long (((0 : Int64) + y0.toInt64) + y1.toInt64)), .second, .unset] [(.ref b1)]))
    refine OwnGo.fwd (fun tq' kq' => XS.iload X54.here hx rfl (hb hby at_115) rfl kq') ?_
    show OwnGo _ _ _ _ (T54.setTop (mkF m 117 #[.val (.int p0), .val (.long q0), .second, .val (.long q1), .second, .val (.long q2), .second, .val (.int ca), .val (.int (3 : Int32)), .val (.int d0), .val (.int y0), .val (.int d1), .val (.int y1), .val (.int d2), .val (.int y2), .val (.ref b1), .val (.long (((0 : Int64) + y0.toInt64) + y1.toInt64)), .second, .unset] [(.int d2), (.ref b1)]))
    refine OwnGo.fwd (fun tq' kq' => XS.iload X54.here hx rfl (hb hby at_117) rfl kq') ?_
    show OwnGo _ _ _ _ (T54.setTop (mkF m 119 #[.val (.int p0), .val (.long q0), .second, .val (.long q1), .second, .val (.long q2), .second, .val (.int ca), .val (.int (3 : Int32)), .val (.int d0), .val (.int y0), .val (.int d1), .val (.int y1), .val (.int d2), .val (.int y2), .val (.ref b1), .val (.long (((0 : Int64) + y0.toInt64) + y1.toInt64)), .second, .unset] [(.int y2), (.int d2), (.ref b1)]))
    obtain ⟨cq56, kq56, q56a, q56b, q56c⟩ := isOf hZ eh54.symm E_b1
    obtain ⟨_, _, ⟨T56, L56, k56, n56⟩, -, X56, ⟨Lc56, hQ56, l56, y56, z56⟩, st56⟩ := X54.virtualBack hx (y := (⟨"com/example/inverse_frequency/inversefrequency/Postings", "add", "(II)V"⟩ : MethodName)) (z := (⟨"com/example/inverse_frequency/inversefrequency/Postings", "add", "(II)V"⟩ : MethodName)) hown (mvT hZ (hw _ (List.mem_of_getElem? (i := 32) rfl))) (mvT hZ (hw _ (List.mem_of_getElem? (i := 33) rfl))) (notFace_of_selects (args := #[]) (mvT hZ (hw _ (List.mem_of_getElem? (i := 35) rfl)))) (mvT hZ (hw _ (List.mem_of_getElem? (i := 35) rfl))) (mvT hZ (hw _ (List.mem_of_getElem? (i := 34) rfl))) (by decide) (backOf (W := 0) (rm6 l Z a0 hw [] b1 da2 fa2 2 (((0 : Int64) + y0.toInt64) + y1.toInt64) cp2 f2 g2 d2 y2 h54 n0 Zs ⟨E_b1, F_documents_b1, F_frequencies_b1, F_size_b1, F_totalFrequency_b1, V_da2, V_fa2, ne_b1_da2, ne_b1_fa2, ne_da2_fa2, g_b1, g_da2, g_fa2⟩ (by decide) hl2 (Nat.lt_of_le_of_lt (Nat.zero_le _) hl2)) hZ (hw _ (List.mem_of_getElem? (i := 36) rfl)) (hw _ (List.mem_of_getElem? (i := 2) rfl)) (by decide) (by decide)) q56a q56c (g := (mkF m 119 #[.val (.int p0), .val (.long q0), .second, .val (.long q1), .second, .val (.long q2), .second, .val (.int ca), .val (.int (3 : Int32)), .val (.int d0), .val (.int y0), .val (.int d1), .val (.int y1), .val (.int d2), .val (.int y2), .val (.ref b1), .val (.long (((0 : Int64) + y0.toInt64) + y1.toInt64)), .second, .unset] [(.int y2), (.int d2), (.ref b1)])) rfl (by rw [hml]; rfl) (Steps.refl _) (argsL := [(.int d2), (.int y2)]) (rest := []) (lenOf pd_5 rfl) rfl (by show 2 * 0 + _ ≤ _; exact Nat.le_of_eq rfl) (hb hby at_119) (fun _ _ => ⟨rfl, eh54.symm, (by decide : 7 + 2 ≤ _), (by decide : 28 + 8 ≤ _)⟩)
    dsimp only [Pt.U, Pt.locs, Pt.cells, Pt.slots] at X56 l56 y56 z56 st56 hQ56
    subst l56 y56 z56
    obtain ⟨h56, eh56⟩ : ∃ z, z = T56.heap := ⟨_, rfl⟩
    rw [← eh56] at hQ56
    obtain ⟨rfl, N56q, K56, da3, fa3, cp3, f3, g3, hl3, ⟨E_b1, F_documents_b1, F_frequencies_b1, F_size_b1, F_totalFrequency_b1, V_da3, V_fa3, ne_b1_da3, ne_b1_fa3, ne_da3_fa3, g_b1, g_da3, g_fa3⟩, hf3, hfx3, hg3, hgx3⟩ := hQ56
    have N := Fr.app N N56q
    have Zs := Nat.le_trans Zs K56.1
    refine OwnGo.thru st56 ?_
    show OwnGo _ _ _ _ (T56.setTop (mkF m 122 #[.val (.int p0), .val (.long q0), .second, .val (.long q1), .second, .val (.long q2), .second, .val (.int ca), .val (.int (3 : Int32)), .val (.int d0), .val (.int y0), .val (.int d1), .val (.int y1), .val (.int d2), .val (.int y2), .val (.ref b1), .val (.long (((0 : Int64) + y0.toInt64) + y1.toInt64)), .second, .unset] []))
    refine OwnGo.fwd (fun tq' kq' => XS.lload X56.here hx rfl (hb hby at_122) rfl kq') ?_
    show OwnGo _ _ _ _ (T56.setTop (mkF m 124 #[.val (.int p0), .val (.long q0), .second, .val (.long q1), .second, .val (.long q2), .second, .val (.int ca), .val (.int (3 : Int32)), .val (.int d0), .val (.int y0), .val (.int d1), .val (.int y1), .val (.int d2), .val (.int y2), .val (.ref b1), .val (.long (((0 : Int64) + y0.toInt64) + y1.toInt64)), .second, .unset] [(.long (((0 : Int64) + y0.toInt64) + y1.toInt64))]))
    refine OwnGo.fwd (fun tq' kq' => XS.iload X56.here hx rfl (hb hby at_124) rfl kq') ?_
    show OwnGo _ _ _ _ (T56.setTop (mkF m 126 #[.val (.int p0), .val (.long q0), .second, .val (.long q1), .second, .val (.long q2), .second, .val (.int ca), .val (.int (3 : Int32)), .val (.int d0), .val (.int y0), .val (.int d1), .val (.int y1), .val (.int d2), .val (.int y2), .val (.ref b1), .val (.long (((0 : Int64) + y0.toInt64) + y1.toInt64)), .second, .unset] [(.int y2), (.long (((0 : Int64) + y0.toInt64) + y1.toInt64))]))
    refine OwnGo.fwd (fun tq' kq' => XS.i2l X56.here hx rfl (hb hby at_126) rfl kq') ?_
    show OwnGo _ _ _ _ (T56.setTop (mkF m 127 #[.val (.int p0), .val (.long q0), .second, .val (.long q1), .second, .val (.long q2), .second, .val (.int ca), .val (.int (3 : Int32)), .val (.int d0), .val (.int y0), .val (.int d1), .val (.int y1), .val (.int d2), .val (.int y2), .val (.ref b1), .val (.long (((0 : Int64) + y0.toInt64) + y1.toInt64)), .second, .unset] [(.long y2.toInt64), (.long (((0 : Int64) + y0.toInt64) + y1.toInt64))]))
    refine OwnGo.fwd (fun tq' kq' => XS.ladd X56.here hx rfl (hb hby at_127) rfl kq') ?_
    show OwnGo _ _ _ _ (T56.setTop (mkF m 128 #[.val (.int p0), .val (.long q0), .second, .val (.long q1), .second, .val (.long q2), .second, .val (.int ca), .val (.int (3 : Int32)), .val (.int d0), .val (.int y0), .val (.int d1), .val (.int y1), .val (.int d2), .val (.int y2), .val (.ref b1), .val (.long (((0 : Int64) + y0.toInt64) + y1.toInt64)), .second, .unset] [(.long ((((0 : Int64) + y0.toInt64) + y1.toInt64) + y2.toInt64))]))
    refine OwnGo.fwd (fun tq' kq' => XS.lstore X56.here hx rfl (hb hby at_128) rfl (l' := #[.val (.int p0), .val (.long q0), .second, .val (.long q1), .second, .val (.long q2), .second, .val (.int ca), .val (.int (3 : Int32)), .val (.int d0), .val (.int y0), .val (.int d1), .val (.int y1), .val (.int d2), .val (.int y2), .val (.ref b1), .val (.long ((((0 : Int64) + y0.toInt64) + y1.toInt64) + y2.toInt64)), .second, .unset]) rfl kq') ?_
    show OwnGo _ _ _ _ (T56.setTop (mkF m 130 #[.val (.int p0), .val (.long q0), .second, .val (.long q1), .second, .val (.long q2), .second, .val (.int ca), .val (.int (3 : Int32)), .val (.int d0), .val (.int y0), .val (.int d1), .val (.int y1), .val (.int d2), .val (.int y2), .val (.ref b1), .val (.long ((((0 : Int64) + y0.toInt64) + y1.toInt64) + y2.toInt64)), .second, .unset] []))
    refine OwnGo.fwd (fun tq' kq' => XS.aload X56.here hx rfl (hb hby at_130) rfl rfl kq') ?_
    show OwnGo _ _ _ _ (T56.setTop (mkF m 132 #[.val (.int p0), .val (.long q0), .second, .val (.long q1), .second, .val (.long q2), .second, .val (.int ca), .val (.int (3 : Int32)), .val (.int d0), .val (.int y0), .val (.int d1), .val (.int y1), .val (.int d2), .val (.int y2), .val (.ref b1), .val (.long ((((0 : Int64) + y0.toInt64) + y1.toInt64) + y2.toInt64)), .second, .unset] [(.ref b1)]))
    obtain ⟨cq57, kq57, q57a, q57b, q57c⟩ := isOf hZ eh56.symm E_b1
    obtain ⟨_, _, ⟨T57, L57, k57, n57⟩, -, X57, ⟨Lc57, hQ57, l57, y57, z57⟩, st57⟩ := X56.virtualBack hx (y := (⟨"com/example/inverse_frequency/inversefrequency/Postings", "size", "()I"⟩ : MethodName)) (z := (⟨"com/example/inverse_frequency/inversefrequency/Postings", "size", "()I"⟩ : MethodName)) hown (mvT hZ (hw _ (List.mem_of_getElem? (i := 18) rfl))) (mvT hZ (hw _ (List.mem_of_getElem? (i := 19) rfl))) (notFace_of_selects (args := #[]) (mvT hZ (hw _ (List.mem_of_getElem? (i := 21) rfl)))) (mvT hZ (hw _ (List.mem_of_getElem? (i := 21) rfl))) (mvT hZ (hw _ (List.mem_of_getElem? (i := 20) rfl))) (by decide) (backOf (W := 0) (rm4 l Z a0 hw [] b1 da3 fa3 3 ((((0 : Int64) + y0.toInt64) + y1.toInt64) + y2.toInt64) cp3 f3 g3 h56 n0 Zs ⟨E_b1, F_documents_b1, F_frequencies_b1, F_size_b1, F_totalFrequency_b1, V_da3, V_fa3, ne_b1_da3, ne_b1_fa3, ne_da3_fa3, g_b1, g_da3, g_fa3⟩) hZ (hw _ (List.mem_of_getElem? (i := 22) rfl)) (hw _ (List.mem_of_getElem? (i := 2) rfl)) (by decide) (by decide)) q57a q57c (g := (mkF m 132 #[.val (.int p0), .val (.long q0), .second, .val (.long q1), .second, .val (.long q2), .second, .val (.int ca), .val (.int (3 : Int32)), .val (.int d0), .val (.int y0), .val (.int d1), .val (.int y1), .val (.int d2), .val (.int y2), .val (.ref b1), .val (.long ((((0 : Int64) + y0.toInt64) + y1.toInt64) + y2.toInt64)), .second, .unset] [(.ref b1)])) rfl (by rw [hml]; rfl) (Steps.refl _) (argsL := []) (rest := []) (lenOf pd_3 rfl) rfl (by show 2 * 0 + _ ≤ _; exact Nat.le_of_eq rfl) (hb hby at_132) (fun _ _ => ⟨rfl, eh56.symm, (by decide : 9 + 0 ≤ _), (by decide : 36 + 0 ≤ _)⟩)
    dsimp only [Pt.U, Pt.locs, Pt.cells, Pt.slots] at X57 l57 y57 z57 st57 hQ57
    subst l57 y57 z57
    obtain ⟨rfl, N57q, e57⟩ := hQ57
    have N := Fr.app N N57q
    refine OwnGo.thru st57 ?_
    show OwnGo _ _ _ _ (T57.setTop (mkF m 135 #[.val (.int p0), .val (.long q0), .second, .val (.long q1), .second, .val (.long q2), .second, .val (.int ca), .val (.int (3 : Int32)), .val (.int d0), .val (.int y0), .val (.int d1), .val (.int y1), .val (.int d2), .val (.int y2), .val (.ref b1), .val (.long ((((0 : Int64) + y0.toInt64) + y1.toInt64) + y2.toInt64)), .second, .unset] [(.int (Int32.ofNat 3))]))
    refine OwnGo.fwd (fun tq' kq' => XS.iload X57.here hx rfl (hb hby at_135) rfl kq') ?_
    show OwnGo _ _ _ _ (T57.setTop (mkF m 137 #[.val (.int p0), .val (.long q0), .second, .val (.long q1), .second, .val (.long q2), .second, .val (.int ca), .val (.int (3 : Int32)), .val (.int d0), .val (.int y0), .val (.int d1), .val (.int y1), .val (.int d2), .val (.int y2), .val (.ref b1), .val (.long ((((0 : Int64) + y0.toInt64) + y1.toInt64) + y2.toInt64)), .second, .unset] [(.int (3 : Int32)), (.int (Int32.ofNat 3))]))
    have hc137_58 : (3 : Int) = (3 : Int) := by decide
    refine OwnGo.fwd (fun tq' kq' => XS.icmpNo X57.here hx rfl (hb hby at_137) rfl (own_beq (by decide) (by decide) hc137_58).2 kq') ?_
    show OwnGo _ _ _ _ (T57.setTop (mkF m 140 #[.val (.int p0), .val (.long q0), .second, .val (.long q1), .second, .val (.long q2), .second, .val (.int ca), .val (.int (3 : Int32)), .val (.int d0), .val (.int y0), .val (.int d1), .val (.int y1), .val (.int d2), .val (.int y2), .val (.ref b1), .val (.long ((((0 : Int64) + y0.toInt64) + y1.toInt64) + y2.toInt64)), .second, .unset] []))
    refine OwnGo.fwd (fun tq' kq' => XS.aload X57.here hx rfl (hb hby at_140) rfl rfl kq') ?_
    show OwnGo _ _ _ _ (T57.setTop (mkF m 142 #[.val (.int p0), .val (.long q0), .second, .val (.long q1), .second, .val (.long q2), .second, .val (.int ca), .val (.int (3 : Int32)), .val (.int d0), .val (.int y0), .val (.int d1), .val (.int y1), .val (.int d2), .val (.int y2), .val (.ref b1), .val (.long ((((0 : Int64) + y0.toInt64) + y1.toInt64) + y2.toInt64)), .second, .unset] [(.ref b1)]))
    obtain ⟨cq59, kq59, q59a, q59b, q59c⟩ := isOf hZ e57 E_b1
    obtain ⟨_, _, ⟨T59, L59, k59, n59⟩, -, X59, ⟨Lc59, hQ59, l59, y59, z59⟩, st59⟩ := X57.virtualBack hx (y := (⟨"com/example/inverse_frequency/inversefrequency/Postings", "totalFrequency", "()J"⟩ : MethodName)) (z := (⟨"com/example/inverse_frequency/inversefrequency/Postings", "totalFrequency", "()J"⟩ : MethodName)) hown (mvT hZ (hw _ (List.mem_of_getElem? (i := 25) rfl))) (mvT hZ (hw _ (List.mem_of_getElem? (i := 26) rfl))) (notFace_of_selects (args := #[]) (mvT hZ (hw _ (List.mem_of_getElem? (i := 28) rfl)))) (mvT hZ (hw _ (List.mem_of_getElem? (i := 28) rfl))) (mvT hZ (hw _ (List.mem_of_getElem? (i := 27) rfl))) (by decide) (backOf (W := 0) (rm5 l Z a0 hw [] b1 da3 fa3 3 ((((0 : Int64) + y0.toInt64) + y1.toInt64) + y2.toInt64) cp3 f3 g3 h56 n0 Zs ⟨E_b1, F_documents_b1, F_frequencies_b1, F_size_b1, F_totalFrequency_b1, V_da3, V_fa3, ne_b1_da3, ne_b1_fa3, ne_da3_fa3, g_b1, g_da3, g_fa3⟩) hZ (hw _ (List.mem_of_getElem? (i := 29) rfl)) (hw _ (List.mem_of_getElem? (i := 2) rfl)) (by decide) (by decide)) q59a q59c (g := (mkF m 142 #[.val (.int p0), .val (.long q0), .second, .val (.long q1), .second, .val (.long q2), .second, .val (.int ca), .val (.int (3 : Int32)), .val (.int d0), .val (.int y0), .val (.int d1), .val (.int y1), .val (.int d2), .val (.int y2), .val (.ref b1), .val (.long ((((0 : Int64) + y0.toInt64) + y1.toInt64) + y2.toInt64)), .second, .unset] [(.ref b1)])) rfl (by rw [hml]; rfl) (Steps.refl _) (argsL := []) (rest := []) (lenOf pd_4 rfl) rfl (by show 2 * 0 + _ ≤ _; exact Nat.le_of_eq rfl) (hb hby at_142) (fun _ _ => ⟨rfl, e57, (by decide : 9 + 0 ≤ _), (by decide : 36 + 0 ≤ _)⟩)
    dsimp only [Pt.U, Pt.locs, Pt.cells, Pt.slots] at X59 l59 y59 z59 st59 hQ59
    subst l59 y59 z59
    obtain ⟨rfl, N59q, e59⟩ := hQ59
    have N := Fr.app N N59q
    refine OwnGo.thru st59 ?_
    show OwnGo _ _ _ _ (T59.setTop (mkF m 145 #[.val (.int p0), .val (.long q0), .second, .val (.long q1), .second, .val (.long q2), .second, .val (.int ca), .val (.int (3 : Int32)), .val (.int d0), .val (.int y0), .val (.int d1), .val (.int y1), .val (.int d2), .val (.int y2), .val (.ref b1), .val (.long ((((0 : Int64) + y0.toInt64) + y1.toInt64) + y2.toInt64)), .second, .unset] [(.long ((((0 : Int64) + y0.toInt64) + y1.toInt64) + y2.toInt64))]))
    refine OwnGo.fwd (fun tq' kq' => XS.lload X59.here hx rfl (hb hby at_145) rfl kq') ?_
    show OwnGo _ _ _ _ (T59.setTop (mkF m 147 #[.val (.int p0), .val (.long q0), .second, .val (.long q1), .second, .val (.long q2), .second, .val (.int ca), .val (.int (3 : Int32)), .val (.int d0), .val (.int y0), .val (.int d1), .val (.int y1), .val (.int d2), .val (.int y2), .val (.ref b1), .val (.long ((((0 : Int64) + y0.toInt64) + y1.toInt64) + y2.toInt64)), .second, .unset] [(.long ((((0 : Int64) + y0.toInt64) + y1.toInt64) + y2.toInt64)), (.long ((((0 : Int64) + y0.toInt64) + y1.toInt64) + y2.toInt64))]))
    refine OwnGo.fwd (fun tq' kq' => XS.lcmp X59.here hx rfl (hb hby at_147) rfl kq') ?_
    show OwnGo _ _ _ _ (T59.setTop (mkF m 148 #[.val (.int p0), .val (.long q0), .second, .val (.long q1), .second, .val (.long q2), .second, .val (.int ca), .val (.int (3 : Int32)), .val (.int d0), .val (.int y0), .val (.int d1), .val (.int y1), .val (.int d2), .val (.int y2), .val (.ref b1), .val (.long ((((0 : Int64) + y0.toInt64) + y1.toInt64) + y2.toInt64)), .second, .unset] [(.int (lcmpW ((((0 : Int64) + y0.toInt64) + y1.toInt64) + y2.toInt64) ((((0 : Int64) + y0.toInt64) + y1.toInt64) + y2.toInt64)))]))
    have hc148_60 : ((((0 : Int64) + y0.toInt64) + y1.toInt64) + y2.toInt64).toInt = ((((0 : Int64) + y0.toInt64) + y1.toInt64) + y2.toInt64).toInt := rfl
    refine OwnGo.fwd (fun tq' kq' => XS.ifNo X59.here hx rfl (hb hby at_148) rfl (own_Leq rfl rfl hc148_60).2 kq') ?_
    show OwnGo _ _ _ _ (T59.setTop (mkF m 151 #[.val (.int p0), .val (.long q0), .second, .val (.long q1), .second, .val (.long q2), .second, .val (.int ca), .val (.int (3 : Int32)), .val (.int d0), .val (.int y0), .val (.int d1), .val (.int y1), .val (.int d2), .val (.int y2), .val (.ref b1), .val (.long ((((0 : Int64) + y0.toInt64) + y1.toInt64) + y2.toInt64)), .second, .unset] []))
    refine OwnGo.fwd (fun tq' kq' => XS.iconst X59.here hx rfl (hb hby at_151) kq') ?_
    show OwnGo _ _ _ _ (T59.setTop (mkF m 152 #[.val (.int p0), .val (.long q0), .second, .val (.long q1), .second, .val (.long q2), .second, .val (.int ca), .val (.int (3 : Int32)), .val (.int d0), .val (.int y0), .val (.int d1), .val (.int y1), .val (.int d2), .val (.int y2), .val (.ref b1), .val (.long ((((0 : Int64) + y0.toInt64) + y1.toInt64) + y2.toInt64)), .second, .unset] [(.int (1 : Int32))]))
    refine OwnGo.fwd (fun tq' kq' => XS.goto X59.here hx rfl (pc0 := 152) (pc' := 156) rfl (hb hby at_152) (by decide) (by decide) kq') ?_
    show OwnGo _ _ _ _ (T59.setTop (mkF m 156 #[.val (.int p0), .val (.long q0), .second, .val (.long q1), .second, .val (.long q2), .second, .val (.int ca), .val (.int (3 : Int32)), .val (.int d0), .val (.int y0), .val (.int d1), .val (.int y1), .val (.int d2), .val (.int y2), .val (.ref b1), .val (.long ((((0 : Int64) + y0.toInt64) + y1.toInt64) + y2.toInt64)), .second, .unset] [(.int (1 : Int32))]))
    refine OwnGo.fwd (fun tq' kq' => XS.istore X59.here hx rfl (hb hby at_156) rfl (l' := #[.val (.int p0), .val (.long q0), .second, .val (.long q1), .second, .val (.long q2), .second, .val (.int ca), .val (.int (3 : Int32)), .val (.int d0), .val (.int y0), .val (.int d1), .val (.int y1), .val (.int d2), .val (.int y2), .val (.ref b1), .val (.long ((((0 : Int64) + y0.toInt64) + y1.toInt64) + y2.toInt64)), .second, .val (.int (1 : Int32))]) rfl kq') ?_
    show OwnGo _ _ _ _ (T59.setTop (mkF m 158 #[.val (.int p0), .val (.long q0), .second, .val (.long q1), .second, .val (.long q2), .second, .val (.int ca), .val (.int (3 : Int32)), .val (.int d0), .val (.int y0), .val (.int d1), .val (.int y1), .val (.int d2), .val (.int y2), .val (.ref b1), .val (.long ((((0 : Int64) + y0.toInt64) + y1.toInt64) + y2.toInt64)), .second, .val (.int (1 : Int32))] []))
    refine OwnGo.fwd (fun tq' kq' => XS.iload X59.here hx rfl (hb hby at_158) rfl kq') ?_
    show OwnGo _ _ _ _ (T59.setTop (mkF m 160 #[.val (.int p0), .val (.long q0), .second, .val (.long q1), .second, .val (.long q2), .second, .val (.int ca), .val (.int (3 : Int32)), .val (.int d0), .val (.int y0), .val (.int d1), .val (.int y1), .val (.int d2), .val (.int y2), .val (.ref b1), .val (.long ((((0 : Int64) + y0.toInt64) + y1.toInt64) + y2.toInt64)), .second, .val (.int (1 : Int32))] [(.int (3 : Int32))]))
    refine OwnGo.fwd (fun tq' kq' => XS.iconst X59.here hx rfl (hb hby at_160) kq') ?_
    show OwnGo _ _ _ _ (T59.setTop (mkF m 161 #[.val (.int p0), .val (.long q0), .second, .val (.long q1), .second, .val (.long q2), .second, .val (.int ca), .val (.int (3 : Int32)), .val (.int d0), .val (.int y0), .val (.int d1), .val (.int y1), .val (.int d2), .val (.int y2), .val (.ref b1), .val (.long ((((0 : Int64) + y0.toInt64) + y1.toInt64) + y2.toInt64)), .second, .val (.int (1 : Int32))] [(.int (1 : Int32)), (.int (3 : Int32))]))
    have hc161_61 : ¬ ((3 : Int) < (1 : Int)) := by decide
    refine OwnGo.fwd (fun tq' kq' => XS.icmpNo X59.here hx rfl (hb hby at_161) rfl (own_bnlt (by decide) (by decide) hc161_61).1 kq') ?_
    show OwnGo _ _ _ _ (T59.setTop (mkF m 164 #[.val (.int p0), .val (.long q0), .second, .val (.long q1), .second, .val (.long q2), .second, .val (.int ca), .val (.int (3 : Int32)), .val (.int d0), .val (.int y0), .val (.int d1), .val (.int y1), .val (.int d2), .val (.int y2), .val (.ref b1), .val (.long ((((0 : Int64) + y0.toInt64) + y1.toInt64) + y2.toInt64)), .second, .val (.int (1 : Int32))] []))
    refine OwnGo.fwd (fun tq' kq' => XS.iload X59.here hx rfl (hb hby at_164) rfl kq') ?_
    show OwnGo _ _ _ _ (T59.setTop (mkF m 166 #[.val (.int p0), .val (.long q0), .second, .val (.long q1), .second, .val (.long q2), .second, .val (.int ca), .val (.int (3 : Int32)), .val (.int d0), .val (.int y0), .val (.int d1), .val (.int y1), .val (.int d2), .val (.int y2), .val (.ref b1), .val (.long ((((0 : Int64) + y0.toInt64) + y1.toInt64) + y2.toInt64)), .second, .val (.int (1 : Int32))] [(.int (1 : Int32))]))
    have hc166_62 : ¬ ((1 : Int) = (0 : Int)) := by decide
    refine OwnGo.fwd (fun tq' kq' => XS.ifNo X59.here hx rfl (hb hby at_166) rfl ((if0 _ _).trans (own_bneq (by decide) (by decide) hc166_62).1) kq') ?_
    show OwnGo _ _ _ _ (T59.setTop (mkF m 169 #[.val (.int p0), .val (.long q0), .second, .val (.long q1), .second, .val (.long q2), .second, .val (.int ca), .val (.int (3 : Int32)), .val (.int d0), .val (.int y0), .val (.int d1), .val (.int y1), .val (.int d2), .val (.int y2), .val (.ref b1), .val (.long ((((0 : Int64) + y0.toInt64) + y1.toInt64) + y2.toInt64)), .second, .val (.int (1 : Int32))] []))
    refine OwnGo.fwd (fun tq' kq' => XS.aload X59.here hx rfl (hb hby at_169) rfl rfl kq') ?_
    show OwnGo _ _ _ _ (T59.setTop (mkF m 171 #[.val (.int p0), .val (.long q0), .second, .val (.long q1), .second, .val (.long q2), .second, .val (.int ca), .val (.int (3 : Int32)), .val (.int d0), .val (.int y0), .val (.int d1), .val (.int y1), .val (.int d2), .val (.int y2), .val (.ref b1), .val (.long ((((0 : Int64) + y0.toInt64) + y1.toInt64) + y2.toInt64)), .second, .val (.int (1 : Int32))] [(.ref b1)]))
    refine OwnGo.fwd (fun tq' kq' => XS.iconst X59.here hx rfl (hb hby at_171) kq') ?_
    show OwnGo _ _ _ _ (T59.setTop (mkF m 172 #[.val (.int p0), .val (.long q0), .second, .val (.long q1), .second, .val (.long q2), .second, .val (.int ca), .val (.int (3 : Int32)), .val (.int d0), .val (.int y0), .val (.int d1), .val (.int y1), .val (.int d2), .val (.int y2), .val (.ref b1), .val (.long ((((0 : Int64) + y0.toInt64) + y1.toInt64) + y2.toInt64)), .second, .val (.int (1 : Int32))] [(.int (0 : Int32)), (.ref b1)]))
    obtain ⟨cq63, kq63, q63a, q63b, q63c⟩ := isOf hZ e59 E_b1
    obtain ⟨_, _, ⟨T63, L63, k63, n63⟩, -, X63, ⟨Lc63, hQ63, l63, y63, z63⟩, st63⟩ := X59.virtualBack hx (y := (⟨"com/example/inverse_frequency/inversefrequency/Postings", "document", "(I)I"⟩ : MethodName)) (z := (⟨"com/example/inverse_frequency/inversefrequency/Postings", "document", "(I)I"⟩ : MethodName)) hown (mvT hZ (hw _ (List.mem_of_getElem? (i := 37) rfl))) (mvT hZ (hw _ (List.mem_of_getElem? (i := 38) rfl))) (notFace_of_selects (args := #[]) (mvT hZ (hw _ (List.mem_of_getElem? (i := 40) rfl)))) (mvT hZ (hw _ (List.mem_of_getElem? (i := 40) rfl))) (mvT hZ (hw _ (List.mem_of_getElem? (i := 39) rfl))) (by decide) (backOf (W := 0) (rm7 l Z a0 hw [] b1 da3 fa3 3 ((((0 : Int64) + y0.toInt64) + y1.toInt64) + y2.toInt64) cp3 f3 g3 (0 : Int32) 0 h56 n0 Zs ⟨E_b1, F_documents_b1, F_frequencies_b1, F_size_b1, F_totalFrequency_b1, V_da3, V_fa3, ne_b1_da3, ne_b1_fa3, ne_da3_fa3, g_b1, g_da3, g_fa3⟩ (by decide) (by omega)) hZ (hw _ (List.mem_of_getElem? (i := 41) rfl)) (hw _ (List.mem_of_getElem? (i := 2) rfl)) (by decide) (by decide)) q63a q63c (g := (mkF m 172 #[.val (.int p0), .val (.long q0), .second, .val (.long q1), .second, .val (.long q2), .second, .val (.int ca), .val (.int (3 : Int32)), .val (.int d0), .val (.int y0), .val (.int d1), .val (.int y1), .val (.int d2), .val (.int y2), .val (.ref b1), .val (.long ((((0 : Int64) + y0.toInt64) + y1.toInt64) + y2.toInt64)), .second, .val (.int (1 : Int32))] [(.int (0 : Int32)), (.ref b1)])) rfl (by rw [hml]; rfl) (Steps.refl _) (argsL := [(.int (0 : Int32))]) (rest := []) (lenOf pd_6 rfl) rfl (by show 2 * 0 + _ ≤ _; exact Nat.le_of_eq rfl) (hb hby at_172) (fun _ _ => ⟨rfl, e59, (by decide : 9 + 0 ≤ _), (by decide : 36 + 0 ≤ _)⟩)
    dsimp only [Pt.U, Pt.locs, Pt.cells, Pt.slots] at X63 l63 y63 z63 st63 hQ63
    subst l63 y63 z63
    obtain ⟨rfl, N63q, e63⟩ := hQ63
    have N := Fr.app N N63q
    refine OwnGo.thru st63 ?_
    show OwnGo _ _ _ _ (T63.setTop (mkF m 175 #[.val (.int p0), .val (.long q0), .second, .val (.long q1), .second, .val (.long q2), .second, .val (.int ca), .val (.int (3 : Int32)), .val (.int d0), .val (.int y0), .val (.int d1), .val (.int y1), .val (.int d2), .val (.int y2), .val (.ref b1), .val (.long ((((0 : Int64) + y0.toInt64) + y1.toInt64) + y2.toInt64)), .second, .val (.int (1 : Int32))] [(.int (f3 0))]))
    refine OwnGo.fwd (fun tq' kq' => XS.iload X63.here hx rfl (hb hby at_175) rfl kq') ?_
    show OwnGo _ _ _ _ (T63.setTop (mkF m 177 #[.val (.int p0), .val (.long q0), .second, .val (.long q1), .second, .val (.long q2), .second, .val (.int ca), .val (.int (3 : Int32)), .val (.int d0), .val (.int y0), .val (.int d1), .val (.int y1), .val (.int d2), .val (.int y2), .val (.ref b1), .val (.long ((((0 : Int64) + y0.toInt64) + y1.toInt64) + y2.toInt64)), .second, .val (.int (1 : Int32))] [(.int d0), (.int (f3 0))]))
    have hc177_64 : (f3 0).toInt = d0.toInt := by rw [hf3 0 (by omega), hf2 0 (by omega), hfx1]
    refine OwnGo.fwd (fun tq' kq' => XS.icmpNo X63.here hx rfl (hb hby at_177) rfl (own_beq rfl rfl hc177_64).2 kq') ?_
    show OwnGo _ _ _ _ (T63.setTop (mkF m 180 #[.val (.int p0), .val (.long q0), .second, .val (.long q1), .second, .val (.long q2), .second, .val (.int ca), .val (.int (3 : Int32)), .val (.int d0), .val (.int y0), .val (.int d1), .val (.int y1), .val (.int d2), .val (.int y2), .val (.ref b1), .val (.long ((((0 : Int64) + y0.toInt64) + y1.toInt64) + y2.toInt64)), .second, .val (.int (1 : Int32))] []))
    refine OwnGo.fwd (fun tq' kq' => XS.aload X63.here hx rfl (hb hby at_180) rfl rfl kq') ?_
    show OwnGo _ _ _ _ (T63.setTop (mkF m 182 #[.val (.int p0), .val (.long q0), .second, .val (.long q1), .second, .val (.long q2), .second, .val (.int ca), .val (.int (3 : Int32)), .val (.int d0), .val (.int y0), .val (.int d1), .val (.int y1), .val (.int d2), .val (.int y2), .val (.ref b1), .val (.long ((((0 : Int64) + y0.toInt64) + y1.toInt64) + y2.toInt64)), .second, .val (.int (1 : Int32))] [(.ref b1)]))
    refine OwnGo.fwd (fun tq' kq' => XS.iconst X63.here hx rfl (hb hby at_182) kq') ?_
    show OwnGo _ _ _ _ (T63.setTop (mkF m 183 #[.val (.int p0), .val (.long q0), .second, .val (.long q1), .second, .val (.long q2), .second, .val (.int ca), .val (.int (3 : Int32)), .val (.int d0), .val (.int y0), .val (.int d1), .val (.int y1), .val (.int d2), .val (.int y2), .val (.ref b1), .val (.long ((((0 : Int64) + y0.toInt64) + y1.toInt64) + y2.toInt64)), .second, .val (.int (1 : Int32))] [(.int (0 : Int32)), (.ref b1)]))
    obtain ⟨cq65, kq65, q65a, q65b, q65c⟩ := isOf hZ e63 E_b1
    obtain ⟨_, _, ⟨T65, L65, k65, n65⟩, -, X65, ⟨Lc65, hQ65, l65, y65, z65⟩, st65⟩ := X63.virtualBack hx (y := (⟨"com/example/inverse_frequency/inversefrequency/Postings", "frequency", "(I)I"⟩ : MethodName)) (z := (⟨"com/example/inverse_frequency/inversefrequency/Postings", "frequency", "(I)I"⟩ : MethodName)) hown (mvT hZ (hw _ (List.mem_of_getElem? (i := 42) rfl))) (mvT hZ (hw _ (List.mem_of_getElem? (i := 43) rfl))) (notFace_of_selects (args := #[]) (mvT hZ (hw _ (List.mem_of_getElem? (i := 45) rfl)))) (mvT hZ (hw _ (List.mem_of_getElem? (i := 45) rfl))) (mvT hZ (hw _ (List.mem_of_getElem? (i := 44) rfl))) (by decide) (backOf (W := 0) (rm8 l Z a0 hw [] b1 da3 fa3 3 ((((0 : Int64) + y0.toInt64) + y1.toInt64) + y2.toInt64) cp3 f3 g3 (0 : Int32) 0 h56 n0 Zs ⟨E_b1, F_documents_b1, F_frequencies_b1, F_size_b1, F_totalFrequency_b1, V_da3, V_fa3, ne_b1_da3, ne_b1_fa3, ne_da3_fa3, g_b1, g_da3, g_fa3⟩ (by decide) (by omega)) hZ (hw _ (List.mem_of_getElem? (i := 46) rfl)) (hw _ (List.mem_of_getElem? (i := 2) rfl)) (by decide) (by decide)) q65a q65c (g := (mkF m 183 #[.val (.int p0), .val (.long q0), .second, .val (.long q1), .second, .val (.long q2), .second, .val (.int ca), .val (.int (3 : Int32)), .val (.int d0), .val (.int y0), .val (.int d1), .val (.int y1), .val (.int d2), .val (.int y2), .val (.ref b1), .val (.long ((((0 : Int64) + y0.toInt64) + y1.toInt64) + y2.toInt64)), .second, .val (.int (1 : Int32))] [(.int (0 : Int32)), (.ref b1)])) rfl (by rw [hml]; rfl) (Steps.refl _) (argsL := [(.int (0 : Int32))]) (rest := []) (lenOf pd_6 rfl) rfl (by show 2 * 0 + _ ≤ _; exact Nat.le_of_eq rfl) (hb hby at_183) (fun _ _ => ⟨rfl, e63, (by decide : 9 + 0 ≤ _), (by decide : 36 + 0 ≤ _)⟩)
    dsimp only [Pt.U, Pt.locs, Pt.cells, Pt.slots] at X65 l65 y65 z65 st65 hQ65
    subst l65 y65 z65
    obtain ⟨rfl, N65q, e65⟩ := hQ65
    have N := Fr.app N N65q
    refine OwnGo.thru st65 ?_
    show OwnGo _ _ _ _ (T65.setTop (mkF m 186 #[.val (.int p0), .val (.long q0), .second, .val (.long q1), .second, .val (.long q2), .second, .val (.int ca), .val (.int (3 : Int32)), .val (.int d0), .val (.int y0), .val (.int d1), .val (.int y1), .val (.int d2), .val (.int y2), .val (.ref b1), .val (.long ((((0 : Int64) + y0.toInt64) + y1.toInt64) + y2.toInt64)), .second, .val (.int (1 : Int32))] [(.int (g3 0))]))
    refine OwnGo.fwd (fun tq' kq' => XS.iload X65.here hx rfl (hb hby at_186) rfl kq') ?_
    show OwnGo _ _ _ _ (T65.setTop (mkF m 188 #[.val (.int p0), .val (.long q0), .second, .val (.long q1), .second, .val (.long q2), .second, .val (.int ca), .val (.int (3 : Int32)), .val (.int d0), .val (.int y0), .val (.int d1), .val (.int y1), .val (.int d2), .val (.int y2), .val (.ref b1), .val (.long ((((0 : Int64) + y0.toInt64) + y1.toInt64) + y2.toInt64)), .second, .val (.int (1 : Int32))] [(.int y0), (.int (g3 0))]))
    have hc188_66 : (g3 0).toInt = y0.toInt := by rw [hg3 0 (by omega), hg2 0 (by omega), hgx1]
    refine OwnGo.fwd (fun tq' kq' => XS.icmpNo X65.here hx rfl (hb hby at_188) rfl (own_beq rfl rfl hc188_66).2 kq') ?_
    show OwnGo _ _ _ _ (T65.setTop (mkF m 191 #[.val (.int p0), .val (.long q0), .second, .val (.long q1), .second, .val (.long q2), .second, .val (.int ca), .val (.int (3 : Int32)), .val (.int d0), .val (.int y0), .val (.int d1), .val (.int y1), .val (.int d2), .val (.int y2), .val (.ref b1), .val (.long ((((0 : Int64) + y0.toInt64) + y1.toInt64) + y2.toInt64)), .second, .val (.int (1 : Int32))] []))
    refine OwnGo.fwd (fun tq' kq' => XS.iconst X65.here hx rfl (hb hby at_191) kq') ?_
    show OwnGo _ _ _ _ (T65.setTop (mkF m 192 #[.val (.int p0), .val (.long q0), .second, .val (.long q1), .second, .val (.long q2), .second, .val (.int ca), .val (.int (3 : Int32)), .val (.int d0), .val (.int y0), .val (.int d1), .val (.int y1), .val (.int d2), .val (.int y2), .val (.ref b1), .val (.long ((((0 : Int64) + y0.toInt64) + y1.toInt64) + y2.toInt64)), .second, .val (.int (1 : Int32))] [(.int (1 : Int32))]))
    refine OwnGo.fwd (fun tq' kq' => XS.goto X65.here hx rfl (pc0 := 192) (pc' := 196) rfl (hb hby at_192) (by decide) (by decide) kq') ?_
    show OwnGo _ _ _ _ (T65.setTop (mkF m 196 #[.val (.int p0), .val (.long q0), .second, .val (.long q1), .second, .val (.long q2), .second, .val (.int ca), .val (.int (3 : Int32)), .val (.int d0), .val (.int y0), .val (.int d1), .val (.int y1), .val (.int d2), .val (.int y2), .val (.ref b1), .val (.long ((((0 : Int64) + y0.toInt64) + y1.toInt64) + y2.toInt64)), .second, .val (.int (1 : Int32))] [(.int (1 : Int32))]))
    refine OwnGo.fwd (fun tq' kq' => XS.istore X65.here hx rfl (hb hby at_196) rfl (l' := #[.val (.int p0), .val (.long q0), .second, .val (.long q1), .second, .val (.long q2), .second, .val (.int ca), .val (.int (3 : Int32)), .val (.int d0), .val (.int y0), .val (.int d1), .val (.int y1), .val (.int d2), .val (.int y2), .val (.ref b1), .val (.long ((((0 : Int64) + y0.toInt64) + y1.toInt64) + y2.toInt64)), .second, .val (.int (1 : Int32))]) rfl kq') ?_
    show OwnGo _ _ _ _ (T65.setTop (mkF m 198 #[.val (.int p0), .val (.long q0), .second, .val (.long q1), .second, .val (.long q2), .second, .val (.int ca), .val (.int (3 : Int32)), .val (.int d0), .val (.int y0), .val (.int d1), .val (.int y1), .val (.int d2), .val (.int y2), .val (.ref b1), .val (.long ((((0 : Int64) + y0.toInt64) + y1.toInt64) + y2.toInt64)), .second, .val (.int (1 : Int32))] []))
    refine OwnGo.fwd (fun tq' kq' => XS.iload X65.here hx rfl (hb hby at_198) rfl kq') ?_
    show OwnGo _ _ _ _ (T65.setTop (mkF m 200 #[.val (.int p0), .val (.long q0), .second, .val (.long q1), .second, .val (.long q2), .second, .val (.int ca), .val (.int (3 : Int32)), .val (.int d0), .val (.int y0), .val (.int d1), .val (.int y1), .val (.int d2), .val (.int y2), .val (.ref b1), .val (.long ((((0 : Int64) + y0.toInt64) + y1.toInt64) + y2.toInt64)), .second, .val (.int (1 : Int32))] [(.int (3 : Int32))]))
    refine OwnGo.fwd (fun tq' kq' => XS.iconst X65.here hx rfl (hb hby at_200) kq') ?_
    show OwnGo _ _ _ _ (T65.setTop (mkF m 201 #[.val (.int p0), .val (.long q0), .second, .val (.long q1), .second, .val (.long q2), .second, .val (.int ca), .val (.int (3 : Int32)), .val (.int d0), .val (.int y0), .val (.int d1), .val (.int y1), .val (.int d2), .val (.int y2), .val (.ref b1), .val (.long ((((0 : Int64) + y0.toInt64) + y1.toInt64) + y2.toInt64)), .second, .val (.int (1 : Int32))] [(.int (2 : Int32)), (.int (3 : Int32))]))
    have hc201_67 : ¬ ((3 : Int) < (2 : Int)) := by decide
    refine OwnGo.fwd (fun tq' kq' => XS.icmpNo X65.here hx rfl (hb hby at_201) rfl (own_bnlt (by decide) (by decide) hc201_67).1 kq') ?_
    show OwnGo _ _ _ _ (T65.setTop (mkF m 204 #[.val (.int p0), .val (.long q0), .second, .val (.long q1), .second, .val (.long q2), .second, .val (.int ca), .val (.int (3 : Int32)), .val (.int d0), .val (.int y0), .val (.int d1), .val (.int y1), .val (.int d2), .val (.int y2), .val (.ref b1), .val (.long ((((0 : Int64) + y0.toInt64) + y1.toInt64) + y2.toInt64)), .second, .val (.int (1 : Int32))] []))
    refine OwnGo.fwd (fun tq' kq' => XS.iload X65.here hx rfl (hb hby at_204) rfl kq') ?_
    show OwnGo _ _ _ _ (T65.setTop (mkF m 206 #[.val (.int p0), .val (.long q0), .second, .val (.long q1), .second, .val (.long q2), .second, .val (.int ca), .val (.int (3 : Int32)), .val (.int d0), .val (.int y0), .val (.int d1), .val (.int y1), .val (.int d2), .val (.int y2), .val (.ref b1), .val (.long ((((0 : Int64) + y0.toInt64) + y1.toInt64) + y2.toInt64)), .second, .val (.int (1 : Int32))] [(.int (1 : Int32))]))
    have hc206_68 : ¬ ((1 : Int) = (0 : Int)) := by decide
    refine OwnGo.fwd (fun tq' kq' => XS.ifNo X65.here hx rfl (hb hby at_206) rfl ((if0 _ _).trans (own_bneq (by decide) (by decide) hc206_68).1) kq') ?_
    show OwnGo _ _ _ _ (T65.setTop (mkF m 209 #[.val (.int p0), .val (.long q0), .second, .val (.long q1), .second, .val (.long q2), .second, .val (.int ca), .val (.int (3 : Int32)), .val (.int d0), .val (.int y0), .val (.int d1), .val (.int y1), .val (.int d2), .val (.int y2), .val (.ref b1), .val (.long ((((0 : Int64) + y0.toInt64) + y1.toInt64) + y2.toInt64)), .second, .val (.int (1 : Int32))] []))
    refine OwnGo.fwd (fun tq' kq' => XS.aload X65.here hx rfl (hb hby at_209) rfl rfl kq') ?_
    show OwnGo _ _ _ _ (T65.setTop (mkF m 211 #[.val (.int p0), .val (.long q0), .second, .val (.long q1), .second, .val (.long q2), .second, .val (.int ca), .val (.int (3 : Int32)), .val (.int d0), .val (.int y0), .val (.int d1), .val (.int y1), .val (.int d2), .val (.int y2), .val (.ref b1), .val (.long ((((0 : Int64) + y0.toInt64) + y1.toInt64) + y2.toInt64)), .second, .val (.int (1 : Int32))] [(.ref b1)]))
    refine OwnGo.fwd (fun tq' kq' => XS.iconst X65.here hx rfl (hb hby at_211) kq') ?_
    show OwnGo _ _ _ _ (T65.setTop (mkF m 212 #[.val (.int p0), .val (.long q0), .second, .val (.long q1), .second, .val (.long q2), .second, .val (.int ca), .val (.int (3 : Int32)), .val (.int d0), .val (.int y0), .val (.int d1), .val (.int y1), .val (.int d2), .val (.int y2), .val (.ref b1), .val (.long ((((0 : Int64) + y0.toInt64) + y1.toInt64) + y2.toInt64)), .second, .val (.int (1 : Int32))] [(.int (1 : Int32)), (.ref b1)]))
    obtain ⟨cq69, kq69, q69a, q69b, q69c⟩ := isOf hZ e65 E_b1
    obtain ⟨_, _, ⟨T69, L69, k69, n69⟩, -, X69, ⟨Lc69, hQ69, l69, y69, z69⟩, st69⟩ := X65.virtualBack hx (y := (⟨"com/example/inverse_frequency/inversefrequency/Postings", "document", "(I)I"⟩ : MethodName)) (z := (⟨"com/example/inverse_frequency/inversefrequency/Postings", "document", "(I)I"⟩ : MethodName)) hown (mvT hZ (hw _ (List.mem_of_getElem? (i := 37) rfl))) (mvT hZ (hw _ (List.mem_of_getElem? (i := 38) rfl))) (notFace_of_selects (args := #[]) (mvT hZ (hw _ (List.mem_of_getElem? (i := 40) rfl)))) (mvT hZ (hw _ (List.mem_of_getElem? (i := 40) rfl))) (mvT hZ (hw _ (List.mem_of_getElem? (i := 39) rfl))) (by decide) (backOf (W := 0) (rm7 l Z a0 hw [] b1 da3 fa3 3 ((((0 : Int64) + y0.toInt64) + y1.toInt64) + y2.toInt64) cp3 f3 g3 (1 : Int32) 1 h56 n0 Zs ⟨E_b1, F_documents_b1, F_frequencies_b1, F_size_b1, F_totalFrequency_b1, V_da3, V_fa3, ne_b1_da3, ne_b1_fa3, ne_da3_fa3, g_b1, g_da3, g_fa3⟩ (by decide) (by omega)) hZ (hw _ (List.mem_of_getElem? (i := 41) rfl)) (hw _ (List.mem_of_getElem? (i := 2) rfl)) (by decide) (by decide)) q69a q69c (g := (mkF m 212 #[.val (.int p0), .val (.long q0), .second, .val (.long q1), .second, .val (.long q2), .second, .val (.int ca), .val (.int (3 : Int32)), .val (.int d0), .val (.int y0), .val (.int d1), .val (.int y1), .val (.int d2), .val (.int y2), .val (.ref b1), .val (.long ((((0 : Int64) + y0.toInt64) + y1.toInt64) + y2.toInt64)), .second, .val (.int (1 : Int32))] [(.int (1 : Int32)), (.ref b1)])) rfl (by rw [hml]; rfl) (Steps.refl _) (argsL := [(.int (1 : Int32))]) (rest := []) (lenOf pd_6 rfl) rfl (by show 2 * 0 + _ ≤ _; exact Nat.le_of_eq rfl) (hb hby at_212) (fun _ _ => ⟨rfl, e65, (by decide : 9 + 0 ≤ _), (by decide : 36 + 0 ≤ _)⟩)
    dsimp only [Pt.U, Pt.locs, Pt.cells, Pt.slots] at X69 l69 y69 z69 st69 hQ69
    subst l69 y69 z69
    obtain ⟨rfl, N69q, e69⟩ := hQ69
    have N := Fr.app N N69q
    refine OwnGo.thru st69 ?_
    show OwnGo _ _ _ _ (T69.setTop (mkF m 215 #[.val (.int p0), .val (.long q0), .second, .val (.long q1), .second, .val (.long q2), .second, .val (.int ca), .val (.int (3 : Int32)), .val (.int d0), .val (.int y0), .val (.int d1), .val (.int y1), .val (.int d2), .val (.int y2), .val (.ref b1), .val (.long ((((0 : Int64) + y0.toInt64) + y1.toInt64) + y2.toInt64)), .second, .val (.int (1 : Int32))] [(.int (f3 1))]))
    refine OwnGo.fwd (fun tq' kq' => XS.iload X69.here hx rfl (hb hby at_215) rfl kq') ?_
    show OwnGo _ _ _ _ (T69.setTop (mkF m 217 #[.val (.int p0), .val (.long q0), .second, .val (.long q1), .second, .val (.long q2), .second, .val (.int ca), .val (.int (3 : Int32)), .val (.int d0), .val (.int y0), .val (.int d1), .val (.int y1), .val (.int d2), .val (.int y2), .val (.ref b1), .val (.long ((((0 : Int64) + y0.toInt64) + y1.toInt64) + y2.toInt64)), .second, .val (.int (1 : Int32))] [(.int d1), (.int (f3 1))]))
    have hc217_70 : (f3 1).toInt = d1.toInt := by rw [hf3 1 (by omega), hfx2]
    refine OwnGo.fwd (fun tq' kq' => XS.icmpNo X69.here hx rfl (hb hby at_217) rfl (own_beq rfl rfl hc217_70).2 kq') ?_
    show OwnGo _ _ _ _ (T69.setTop (mkF m 220 #[.val (.int p0), .val (.long q0), .second, .val (.long q1), .second, .val (.long q2), .second, .val (.int ca), .val (.int (3 : Int32)), .val (.int d0), .val (.int y0), .val (.int d1), .val (.int y1), .val (.int d2), .val (.int y2), .val (.ref b1), .val (.long ((((0 : Int64) + y0.toInt64) + y1.toInt64) + y2.toInt64)), .second, .val (.int (1 : Int32))] []))
    refine OwnGo.fwd (fun tq' kq' => XS.aload X69.here hx rfl (hb hby at_220) rfl rfl kq') ?_
    show OwnGo _ _ _ _ (T69.setTop (mkF m 222 #[.val (.int p0), .val (.long q0), .second, .val (.long q1), .second, .val (.long q2), .second, .val (.int ca), .val (.int (3 : Int32)), .val (.int d0), .val (.int y0), .val (.int d1), .val (.int y1), .val (.int d2), .val (.int y2), .val (.ref b1), .val (.long ((((0 : Int64) + y0.toInt64) + y1.toInt64) + y2.toInt64)), .second, .val (.int (1 : Int32))] [(.ref b1)]))
    refine OwnGo.fwd (fun tq' kq' => XS.iconst X69.here hx rfl (hb hby at_222) kq') ?_
    show OwnGo _ _ _ _ (T69.setTop (mkF m 223 #[.val (.int p0), .val (.long q0), .second, .val (.long q1), .second, .val (.long q2), .second, .val (.int ca), .val (.int (3 : Int32)), .val (.int d0), .val (.int y0), .val (.int d1), .val (.int y1), .val (.int d2), .val (.int y2), .val (.ref b1), .val (.long ((((0 : Int64) + y0.toInt64) + y1.toInt64) + y2.toInt64)), .second, .val (.int (1 : Int32))] [(.int (1 : Int32)), (.ref b1)]))
    obtain ⟨cq71, kq71, q71a, q71b, q71c⟩ := isOf hZ e69 E_b1
    obtain ⟨_, _, ⟨T71, L71, k71, n71⟩, -, X71, ⟨Lc71, hQ71, l71, y71, z71⟩, st71⟩ := X69.virtualBack hx (y := (⟨"com/example/inverse_frequency/inversefrequency/Postings", "frequency", "(I)I"⟩ : MethodName)) (z := (⟨"com/example/inverse_frequency/inversefrequency/Postings", "frequency", "(I)I"⟩ : MethodName)) hown (mvT hZ (hw _ (List.mem_of_getElem? (i := 42) rfl))) (mvT hZ (hw _ (List.mem_of_getElem? (i := 43) rfl))) (notFace_of_selects (args := #[]) (mvT hZ (hw _ (List.mem_of_getElem? (i := 45) rfl)))) (mvT hZ (hw _ (List.mem_of_getElem? (i := 45) rfl))) (mvT hZ (hw _ (List.mem_of_getElem? (i := 44) rfl))) (by decide) (backOf (W := 0) (rm8 l Z a0 hw [] b1 da3 fa3 3 ((((0 : Int64) + y0.toInt64) + y1.toInt64) + y2.toInt64) cp3 f3 g3 (1 : Int32) 1 h56 n0 Zs ⟨E_b1, F_documents_b1, F_frequencies_b1, F_size_b1, F_totalFrequency_b1, V_da3, V_fa3, ne_b1_da3, ne_b1_fa3, ne_da3_fa3, g_b1, g_da3, g_fa3⟩ (by decide) (by omega)) hZ (hw _ (List.mem_of_getElem? (i := 46) rfl)) (hw _ (List.mem_of_getElem? (i := 2) rfl)) (by decide) (by decide)) q71a q71c (g := (mkF m 223 #[.val (.int p0), .val (.long q0), .second, .val (.long q1), .second, .val (.long q2), .second, .val (.int ca), .val (.int (3 : Int32)), .val (.int d0), .val (.int y0), .val (.int d1), .val (.int y1), .val (.int d2), .val (.int y2), .val (.ref b1), .val (.long ((((0 : Int64) + y0.toInt64) + y1.toInt64) + y2.toInt64)), .second, .val (.int (1 : Int32))] [(.int (1 : Int32)), (.ref b1)])) rfl (by rw [hml]; rfl) (Steps.refl _) (argsL := [(.int (1 : Int32))]) (rest := []) (lenOf pd_6 rfl) rfl (by show 2 * 0 + _ ≤ _; exact Nat.le_of_eq rfl) (hb hby at_223) (fun _ _ => ⟨rfl, e69, (by decide : 9 + 0 ≤ _), (by decide : 36 + 0 ≤ _)⟩)
    dsimp only [Pt.U, Pt.locs, Pt.cells, Pt.slots] at X71 l71 y71 z71 st71 hQ71
    subst l71 y71 z71
    obtain ⟨rfl, N71q, e71⟩ := hQ71
    have N := Fr.app N N71q
    refine OwnGo.thru st71 ?_
    show OwnGo _ _ _ _ (T71.setTop (mkF m 226 #[.val (.int p0), .val (.long q0), .second, .val (.long q1), .second, .val (.long q2), .second, .val (.int ca), .val (.int (3 : Int32)), .val (.int d0), .val (.int y0), .val (.int d1), .val (.int y1), .val (.int d2), .val (.int y2), .val (.ref b1), .val (.long ((((0 : Int64) + y0.toInt64) + y1.toInt64) + y2.toInt64)), .second, .val (.int (1 : Int32))] [(.int (g3 1))]))
    refine OwnGo.fwd (fun tq' kq' => XS.iload X71.here hx rfl (hb hby at_226) rfl kq') ?_
    show OwnGo _ _ _ _ (T71.setTop (mkF m 228 #[.val (.int p0), .val (.long q0), .second, .val (.long q1), .second, .val (.long q2), .second, .val (.int ca), .val (.int (3 : Int32)), .val (.int d0), .val (.int y0), .val (.int d1), .val (.int y1), .val (.int d2), .val (.int y2), .val (.ref b1), .val (.long ((((0 : Int64) + y0.toInt64) + y1.toInt64) + y2.toInt64)), .second, .val (.int (1 : Int32))] [(.int y1), (.int (g3 1))]))
    have hc228_72 : (g3 1).toInt = y1.toInt := by rw [hg3 1 (by omega), hgx2]
    refine OwnGo.fwd (fun tq' kq' => XS.icmpNo X71.here hx rfl (hb hby at_228) rfl (own_beq rfl rfl hc228_72).2 kq') ?_
    show OwnGo _ _ _ _ (T71.setTop (mkF m 231 #[.val (.int p0), .val (.long q0), .second, .val (.long q1), .second, .val (.long q2), .second, .val (.int ca), .val (.int (3 : Int32)), .val (.int d0), .val (.int y0), .val (.int d1), .val (.int y1), .val (.int d2), .val (.int y2), .val (.ref b1), .val (.long ((((0 : Int64) + y0.toInt64) + y1.toInt64) + y2.toInt64)), .second, .val (.int (1 : Int32))] []))
    refine OwnGo.fwd (fun tq' kq' => XS.iconst X71.here hx rfl (hb hby at_231) kq') ?_
    show OwnGo _ _ _ _ (T71.setTop (mkF m 232 #[.val (.int p0), .val (.long q0), .second, .val (.long q1), .second, .val (.long q2), .second, .val (.int ca), .val (.int (3 : Int32)), .val (.int d0), .val (.int y0), .val (.int d1), .val (.int y1), .val (.int d2), .val (.int y2), .val (.ref b1), .val (.long ((((0 : Int64) + y0.toInt64) + y1.toInt64) + y2.toInt64)), .second, .val (.int (1 : Int32))] [(.int (1 : Int32))]))
    refine OwnGo.fwd (fun tq' kq' => XS.goto X71.here hx rfl (pc0 := 232) (pc' := 236) rfl (hb hby at_232) (by decide) (by decide) kq') ?_
    show OwnGo _ _ _ _ (T71.setTop (mkF m 236 #[.val (.int p0), .val (.long q0), .second, .val (.long q1), .second, .val (.long q2), .second, .val (.int ca), .val (.int (3 : Int32)), .val (.int d0), .val (.int y0), .val (.int d1), .val (.int y1), .val (.int d2), .val (.int y2), .val (.ref b1), .val (.long ((((0 : Int64) + y0.toInt64) + y1.toInt64) + y2.toInt64)), .second, .val (.int (1 : Int32))] [(.int (1 : Int32))]))
    refine OwnGo.fwd (fun tq' kq' => XS.istore X71.here hx rfl (hb hby at_236) rfl (l' := #[.val (.int p0), .val (.long q0), .second, .val (.long q1), .second, .val (.long q2), .second, .val (.int ca), .val (.int (3 : Int32)), .val (.int d0), .val (.int y0), .val (.int d1), .val (.int y1), .val (.int d2), .val (.int y2), .val (.ref b1), .val (.long ((((0 : Int64) + y0.toInt64) + y1.toInt64) + y2.toInt64)), .second, .val (.int (1 : Int32))]) rfl kq') ?_
    show OwnGo _ _ _ _ (T71.setTop (mkF m 238 #[.val (.int p0), .val (.long q0), .second, .val (.long q1), .second, .val (.long q2), .second, .val (.int ca), .val (.int (3 : Int32)), .val (.int d0), .val (.int y0), .val (.int d1), .val (.int y1), .val (.int d2), .val (.int y2), .val (.ref b1), .val (.long ((((0 : Int64) + y0.toInt64) + y1.toInt64) + y2.toInt64)), .second, .val (.int (1 : Int32))] []))
    refine OwnGo.fwd (fun tq' kq' => XS.iload X71.here hx rfl (hb hby at_238) rfl kq') ?_
    show OwnGo _ _ _ _ (T71.setTop (mkF m 240 #[.val (.int p0), .val (.long q0), .second, .val (.long q1), .second, .val (.long q2), .second, .val (.int ca), .val (.int (3 : Int32)), .val (.int d0), .val (.int y0), .val (.int d1), .val (.int y1), .val (.int d2), .val (.int y2), .val (.ref b1), .val (.long ((((0 : Int64) + y0.toInt64) + y1.toInt64) + y2.toInt64)), .second, .val (.int (1 : Int32))] [(.int (3 : Int32))]))
    refine OwnGo.fwd (fun tq' kq' => XS.iconst X71.here hx rfl (hb hby at_240) kq') ?_
    show OwnGo _ _ _ _ (T71.setTop (mkF m 241 #[.val (.int p0), .val (.long q0), .second, .val (.long q1), .second, .val (.long q2), .second, .val (.int ca), .val (.int (3 : Int32)), .val (.int d0), .val (.int y0), .val (.int d1), .val (.int y1), .val (.int d2), .val (.int y2), .val (.ref b1), .val (.long ((((0 : Int64) + y0.toInt64) + y1.toInt64) + y2.toInt64)), .second, .val (.int (1 : Int32))] [(.int (3 : Int32)), (.int (3 : Int32))]))
    have hc241_73 : ¬ ((3 : Int) < (3 : Int)) := by decide
    refine OwnGo.fwd (fun tq' kq' => XS.icmpNo X71.here hx rfl (hb hby at_241) rfl (own_bnlt (by decide) (by decide) hc241_73).1 kq') ?_
    show OwnGo _ _ _ _ (T71.setTop (mkF m 244 #[.val (.int p0), .val (.long q0), .second, .val (.long q1), .second, .val (.long q2), .second, .val (.int ca), .val (.int (3 : Int32)), .val (.int d0), .val (.int y0), .val (.int d1), .val (.int y1), .val (.int d2), .val (.int y2), .val (.ref b1), .val (.long ((((0 : Int64) + y0.toInt64) + y1.toInt64) + y2.toInt64)), .second, .val (.int (1 : Int32))] []))
    refine OwnGo.fwd (fun tq' kq' => XS.iload X71.here hx rfl (hb hby at_244) rfl kq') ?_
    show OwnGo _ _ _ _ (T71.setTop (mkF m 246 #[.val (.int p0), .val (.long q0), .second, .val (.long q1), .second, .val (.long q2), .second, .val (.int ca), .val (.int (3 : Int32)), .val (.int d0), .val (.int y0), .val (.int d1), .val (.int y1), .val (.int d2), .val (.int y2), .val (.ref b1), .val (.long ((((0 : Int64) + y0.toInt64) + y1.toInt64) + y2.toInt64)), .second, .val (.int (1 : Int32))] [(.int (1 : Int32))]))
    have hc246_74 : ¬ ((1 : Int) = (0 : Int)) := by decide
    refine OwnGo.fwd (fun tq' kq' => XS.ifNo X71.here hx rfl (hb hby at_246) rfl ((if0 _ _).trans (own_bneq (by decide) (by decide) hc246_74).1) kq') ?_
    show OwnGo _ _ _ _ (T71.setTop (mkF m 249 #[.val (.int p0), .val (.long q0), .second, .val (.long q1), .second, .val (.long q2), .second, .val (.int ca), .val (.int (3 : Int32)), .val (.int d0), .val (.int y0), .val (.int d1), .val (.int y1), .val (.int d2), .val (.int y2), .val (.ref b1), .val (.long ((((0 : Int64) + y0.toInt64) + y1.toInt64) + y2.toInt64)), .second, .val (.int (1 : Int32))] []))
    refine OwnGo.fwd (fun tq' kq' => XS.aload X71.here hx rfl (hb hby at_249) rfl rfl kq') ?_
    show OwnGo _ _ _ _ (T71.setTop (mkF m 251 #[.val (.int p0), .val (.long q0), .second, .val (.long q1), .second, .val (.long q2), .second, .val (.int ca), .val (.int (3 : Int32)), .val (.int d0), .val (.int y0), .val (.int d1), .val (.int y1), .val (.int d2), .val (.int y2), .val (.ref b1), .val (.long ((((0 : Int64) + y0.toInt64) + y1.toInt64) + y2.toInt64)), .second, .val (.int (1 : Int32))] [(.ref b1)]))
    refine OwnGo.fwd (fun tq' kq' => XS.iconst X71.here hx rfl (hb hby at_251) kq') ?_
    show OwnGo _ _ _ _ (T71.setTop (mkF m 252 #[.val (.int p0), .val (.long q0), .second, .val (.long q1), .second, .val (.long q2), .second, .val (.int ca), .val (.int (3 : Int32)), .val (.int d0), .val (.int y0), .val (.int d1), .val (.int y1), .val (.int d2), .val (.int y2), .val (.ref b1), .val (.long ((((0 : Int64) + y0.toInt64) + y1.toInt64) + y2.toInt64)), .second, .val (.int (1 : Int32))] [(.int (2 : Int32)), (.ref b1)]))
    obtain ⟨cq75, kq75, q75a, q75b, q75c⟩ := isOf hZ e71 E_b1
    obtain ⟨_, _, ⟨T75, L75, k75, n75⟩, -, X75, ⟨Lc75, hQ75, l75, y75, z75⟩, st75⟩ := X71.virtualBack hx (y := (⟨"com/example/inverse_frequency/inversefrequency/Postings", "document", "(I)I"⟩ : MethodName)) (z := (⟨"com/example/inverse_frequency/inversefrequency/Postings", "document", "(I)I"⟩ : MethodName)) hown (mvT hZ (hw _ (List.mem_of_getElem? (i := 37) rfl))) (mvT hZ (hw _ (List.mem_of_getElem? (i := 38) rfl))) (notFace_of_selects (args := #[]) (mvT hZ (hw _ (List.mem_of_getElem? (i := 40) rfl)))) (mvT hZ (hw _ (List.mem_of_getElem? (i := 40) rfl))) (mvT hZ (hw _ (List.mem_of_getElem? (i := 39) rfl))) (by decide) (backOf (W := 0) (rm7 l Z a0 hw [] b1 da3 fa3 3 ((((0 : Int64) + y0.toInt64) + y1.toInt64) + y2.toInt64) cp3 f3 g3 (2 : Int32) 2 h56 n0 Zs ⟨E_b1, F_documents_b1, F_frequencies_b1, F_size_b1, F_totalFrequency_b1, V_da3, V_fa3, ne_b1_da3, ne_b1_fa3, ne_da3_fa3, g_b1, g_da3, g_fa3⟩ (by decide) (by omega)) hZ (hw _ (List.mem_of_getElem? (i := 41) rfl)) (hw _ (List.mem_of_getElem? (i := 2) rfl)) (by decide) (by decide)) q75a q75c (g := (mkF m 252 #[.val (.int p0), .val (.long q0), .second, .val (.long q1), .second, .val (.long q2), .second, .val (.int ca), .val (.int (3 : Int32)), .val (.int d0), .val (.int y0), .val (.int d1), .val (.int y1), .val (.int d2), .val (.int y2), .val (.ref b1), .val (.long ((((0 : Int64) + y0.toInt64) + y1.toInt64) + y2.toInt64)), .second, .val (.int (1 : Int32))] [(.int (2 : Int32)), (.ref b1)])) rfl (by rw [hml]; rfl) (Steps.refl _) (argsL := [(.int (2 : Int32))]) (rest := []) (lenOf pd_6 rfl) rfl (by show 2 * 0 + _ ≤ _; exact Nat.le_of_eq rfl) (hb hby at_252) (fun _ _ => ⟨rfl, e71, (by decide : 9 + 0 ≤ _), (by decide : 36 + 0 ≤ _)⟩)
    dsimp only [Pt.U, Pt.locs, Pt.cells, Pt.slots] at X75 l75 y75 z75 st75 hQ75
    subst l75 y75 z75
    obtain ⟨rfl, N75q, e75⟩ := hQ75
    have N := Fr.app N N75q
    refine OwnGo.thru st75 ?_
    show OwnGo _ _ _ _ (T75.setTop (mkF m 255 #[.val (.int p0), .val (.long q0), .second, .val (.long q1), .second, .val (.long q2), .second, .val (.int ca), .val (.int (3 : Int32)), .val (.int d0), .val (.int y0), .val (.int d1), .val (.int y1), .val (.int d2), .val (.int y2), .val (.ref b1), .val (.long ((((0 : Int64) + y0.toInt64) + y1.toInt64) + y2.toInt64)), .second, .val (.int (1 : Int32))] [(.int (f3 2))]))
    refine OwnGo.fwd (fun tq' kq' => XS.iload X75.here hx rfl (hb hby at_255) rfl kq') ?_
    show OwnGo _ _ _ _ (T75.setTop (mkF m 257 #[.val (.int p0), .val (.long q0), .second, .val (.long q1), .second, .val (.long q2), .second, .val (.int ca), .val (.int (3 : Int32)), .val (.int d0), .val (.int y0), .val (.int d1), .val (.int y1), .val (.int d2), .val (.int y2), .val (.ref b1), .val (.long ((((0 : Int64) + y0.toInt64) + y1.toInt64) + y2.toInt64)), .second, .val (.int (1 : Int32))] [(.int d2), (.int (f3 2))]))
    have hc257_76 : (f3 2).toInt = d2.toInt := by rw [hfx3]
    refine OwnGo.fwd (fun tq' kq' => XS.icmpNo X75.here hx rfl (hb hby at_257) rfl (own_beq rfl rfl hc257_76).2 kq') ?_
    show OwnGo _ _ _ _ (T75.setTop (mkF m 260 #[.val (.int p0), .val (.long q0), .second, .val (.long q1), .second, .val (.long q2), .second, .val (.int ca), .val (.int (3 : Int32)), .val (.int d0), .val (.int y0), .val (.int d1), .val (.int y1), .val (.int d2), .val (.int y2), .val (.ref b1), .val (.long ((((0 : Int64) + y0.toInt64) + y1.toInt64) + y2.toInt64)), .second, .val (.int (1 : Int32))] []))
    refine OwnGo.fwd (fun tq' kq' => XS.aload X75.here hx rfl (hb hby at_260) rfl rfl kq') ?_
    show OwnGo _ _ _ _ (T75.setTop (mkF m 262 #[.val (.int p0), .val (.long q0), .second, .val (.long q1), .second, .val (.long q2), .second, .val (.int ca), .val (.int (3 : Int32)), .val (.int d0), .val (.int y0), .val (.int d1), .val (.int y1), .val (.int d2), .val (.int y2), .val (.ref b1), .val (.long ((((0 : Int64) + y0.toInt64) + y1.toInt64) + y2.toInt64)), .second, .val (.int (1 : Int32))] [(.ref b1)]))
    refine OwnGo.fwd (fun tq' kq' => XS.iconst X75.here hx rfl (hb hby at_262) kq') ?_
    show OwnGo _ _ _ _ (T75.setTop (mkF m 263 #[.val (.int p0), .val (.long q0), .second, .val (.long q1), .second, .val (.long q2), .second, .val (.int ca), .val (.int (3 : Int32)), .val (.int d0), .val (.int y0), .val (.int d1), .val (.int y1), .val (.int d2), .val (.int y2), .val (.ref b1), .val (.long ((((0 : Int64) + y0.toInt64) + y1.toInt64) + y2.toInt64)), .second, .val (.int (1 : Int32))] [(.int (2 : Int32)), (.ref b1)]))
    obtain ⟨cq77, kq77, q77a, q77b, q77c⟩ := isOf hZ e75 E_b1
    obtain ⟨_, _, ⟨T77, L77, k77, n77⟩, -, X77, ⟨Lc77, hQ77, l77, y77, z77⟩, st77⟩ := X75.virtualBack hx (y := (⟨"com/example/inverse_frequency/inversefrequency/Postings", "frequency", "(I)I"⟩ : MethodName)) (z := (⟨"com/example/inverse_frequency/inversefrequency/Postings", "frequency", "(I)I"⟩ : MethodName)) hown (mvT hZ (hw _ (List.mem_of_getElem? (i := 42) rfl))) (mvT hZ (hw _ (List.mem_of_getElem? (i := 43) rfl))) (notFace_of_selects (args := #[]) (mvT hZ (hw _ (List.mem_of_getElem? (i := 45) rfl)))) (mvT hZ (hw _ (List.mem_of_getElem? (i := 45) rfl))) (mvT hZ (hw _ (List.mem_of_getElem? (i := 44) rfl))) (by decide) (backOf (W := 0) (rm8 l Z a0 hw [] b1 da3 fa3 3 ((((0 : Int64) + y0.toInt64) + y1.toInt64) + y2.toInt64) cp3 f3 g3 (2 : Int32) 2 h56 n0 Zs ⟨E_b1, F_documents_b1, F_frequencies_b1, F_size_b1, F_totalFrequency_b1, V_da3, V_fa3, ne_b1_da3, ne_b1_fa3, ne_da3_fa3, g_b1, g_da3, g_fa3⟩ (by decide) (by omega)) hZ (hw _ (List.mem_of_getElem? (i := 46) rfl)) (hw _ (List.mem_of_getElem? (i := 2) rfl)) (by decide) (by decide)) q77a q77c (g := (mkF m 263 #[.val (.int p0), .val (.long q0), .second, .val (.long q1), .second, .val (.long q2), .second, .val (.int ca), .val (.int (3 : Int32)), .val (.int d0), .val (.int y0), .val (.int d1), .val (.int y1), .val (.int d2), .val (.int y2), .val (.ref b1), .val (.long ((((0 : Int64) + y0.toInt64) + y1.toInt64) + y2.toInt64)), .second, .val (.int (1 : Int32))] [(.int (2 : Int32)), (.ref b1)])) rfl (by rw [hml]; rfl) (Steps.refl _) (argsL := [(.int (2 : Int32))]) (rest := []) (lenOf pd_6 rfl) rfl (by show 2 * 0 + _ ≤ _; exact Nat.le_of_eq rfl) (hb hby at_263) (fun _ _ => ⟨rfl, e75, (by decide : 9 + 0 ≤ _), (by decide : 36 + 0 ≤ _)⟩)
    dsimp only [Pt.U, Pt.locs, Pt.cells, Pt.slots] at X77 l77 y77 z77 st77 hQ77
    subst l77 y77 z77
    obtain ⟨rfl, N77q, e77⟩ := hQ77
    have N := Fr.app N N77q
    refine OwnGo.thru st77 ?_
    show OwnGo _ _ _ _ (T77.setTop (mkF m 266 #[.val (.int p0), .val (.long q0), .second, .val (.long q1), .second, .val (.long q2), .second, .val (.int ca), .val (.int (3 : Int32)), .val (.int d0), .val (.int y0), .val (.int d1), .val (.int y1), .val (.int d2), .val (.int y2), .val (.ref b1), .val (.long ((((0 : Int64) + y0.toInt64) + y1.toInt64) + y2.toInt64)), .second, .val (.int (1 : Int32))] [(.int (g3 2))]))
    refine OwnGo.fwd (fun tq' kq' => XS.iload X77.here hx rfl (hb hby at_266) rfl kq') ?_
    show OwnGo _ _ _ _ (T77.setTop (mkF m 268 #[.val (.int p0), .val (.long q0), .second, .val (.long q1), .second, .val (.long q2), .second, .val (.int ca), .val (.int (3 : Int32)), .val (.int d0), .val (.int y0), .val (.int d1), .val (.int y1), .val (.int d2), .val (.int y2), .val (.ref b1), .val (.long ((((0 : Int64) + y0.toInt64) + y1.toInt64) + y2.toInt64)), .second, .val (.int (1 : Int32))] [(.int y2), (.int (g3 2))]))
    have hc268_78 : (g3 2).toInt = y2.toInt := by rw [hgx3]
    refine OwnGo.fwd (fun tq' kq' => XS.icmpNo X77.here hx rfl (hb hby at_268) rfl (own_beq rfl rfl hc268_78).2 kq') ?_
    show OwnGo _ _ _ _ (T77.setTop (mkF m 271 #[.val (.int p0), .val (.long q0), .second, .val (.long q1), .second, .val (.long q2), .second, .val (.int ca), .val (.int (3 : Int32)), .val (.int d0), .val (.int y0), .val (.int d1), .val (.int y1), .val (.int d2), .val (.int y2), .val (.ref b1), .val (.long ((((0 : Int64) + y0.toInt64) + y1.toInt64) + y2.toInt64)), .second, .val (.int (1 : Int32))] []))
    refine OwnGo.fwd (fun tq' kq' => XS.iconst X77.here hx rfl (hb hby at_271) kq') ?_
    show OwnGo _ _ _ _ (T77.setTop (mkF m 272 #[.val (.int p0), .val (.long q0), .second, .val (.long q1), .second, .val (.long q2), .second, .val (.int ca), .val (.int (3 : Int32)), .val (.int d0), .val (.int y0), .val (.int d1), .val (.int y1), .val (.int d2), .val (.int y2), .val (.ref b1), .val (.long ((((0 : Int64) + y0.toInt64) + y1.toInt64) + y2.toInt64)), .second, .val (.int (1 : Int32))] [(.int (1 : Int32))]))
    refine OwnGo.fwd (fun tq' kq' => XS.goto X77.here hx rfl (pc0 := 272) (pc' := 276) rfl (hb hby at_272) (by decide) (by decide) kq') ?_
    show OwnGo _ _ _ _ (T77.setTop (mkF m 276 #[.val (.int p0), .val (.long q0), .second, .val (.long q1), .second, .val (.long q2), .second, .val (.int ca), .val (.int (3 : Int32)), .val (.int d0), .val (.int y0), .val (.int d1), .val (.int y1), .val (.int d2), .val (.int y2), .val (.ref b1), .val (.long ((((0 : Int64) + y0.toInt64) + y1.toInt64) + y2.toInt64)), .second, .val (.int (1 : Int32))] [(.int (1 : Int32))]))
    refine OwnGo.fwd (fun tq' kq' => XS.istore X77.here hx rfl (hb hby at_276) rfl (l' := #[.val (.int p0), .val (.long q0), .second, .val (.long q1), .second, .val (.long q2), .second, .val (.int ca), .val (.int (3 : Int32)), .val (.int d0), .val (.int y0), .val (.int d1), .val (.int y1), .val (.int d2), .val (.int y2), .val (.ref b1), .val (.long ((((0 : Int64) + y0.toInt64) + y1.toInt64) + y2.toInt64)), .second, .val (.int (1 : Int32))]) rfl kq') ?_
    show OwnGo _ _ _ _ (T77.setTop (mkF m 278 #[.val (.int p0), .val (.long q0), .second, .val (.long q1), .second, .val (.long q2), .second, .val (.int ca), .val (.int (3 : Int32)), .val (.int d0), .val (.int y0), .val (.int d1), .val (.int y1), .val (.int d2), .val (.int y2), .val (.ref b1), .val (.long ((((0 : Int64) + y0.toInt64) + y1.toInt64) + y2.toInt64)), .second, .val (.int (1 : Int32))] []))
    refine OwnGo.fwd (fun tq' kq' => XS.iload X77.here hx rfl (hb hby at_278) rfl kq') ?_
    show OwnGo _ _ _ _ (T77.setTop (mkF m 280 #[.val (.int p0), .val (.long q0), .second, .val (.long q1), .second, .val (.long q2), .second, .val (.int ca), .val (.int (3 : Int32)), .val (.int d0), .val (.int y0), .val (.int d1), .val (.int y1), .val (.int d2), .val (.int y2), .val (.ref b1), .val (.long ((((0 : Int64) + y0.toInt64) + y1.toInt64) + y2.toInt64)), .second, .val (.int (1 : Int32))] [(.int (1 : Int32))]))
    exact own_retZ X77 hlk hx Bd.returns (hb hby at_280) (by decide) (by decide) e77 ⟨rfl, N⟩
set_option maxRecDepth 65536 in
set_option maxHeartbeats 40000000 in
theorem comes_1 {Post : Tables → Env → Array Value → State → Outcome → State → Prop} (hpost : ∀ tb e args s v u, (limb_1_1.after args s (.returned v) u = true ∧ limb_1_2.after args s (.returned v) u = true ∧ True) → FrameEnd s (.returned v) u (Jvm.fieldLocs frame_1_writes args s ++ Jvm.arrayLocs frame_1_arrays args s ++ Jvm.staticLocs frame_1_statics s) 24 128 → Post tb e args s (.returned v) u) :
    ArmFor flags0 classFile x code maxLocals ret World_1 tables_1 room_1 Calls_1 rest_1 Pre_1 Post := by
  intro l hfl _ _ p e ha hc hk s m args below hf hA hF happ hP
  obtain ⟨hcalls, hrest, hpre⟩ := hP
  obtain ⟨-, -, -, hnamed, -, -, -, hat⟩ := (Spec.applies_iff hf).mp happ
  obtain ⟨hg, hn⟩ := and_e (Cond.before_iff.mp (show (Jvm.Cond.and given_1 narrow_1).before args s = true from hpre))
  obtain ⟨gc, gr0⟩ := and_e hg
  obtain ⟨ga0, gr1⟩ := and_e gr0
  obtain ⟨ga1, gr2⟩ := and_e gr1
  obtain ⟨ga2, gr3⟩ := and_e gr2
  obtain ⟨w0, w1, w2, w3, rfl⟩ : ∃ w0 w1 w2 w3 : Value, args = #[w0, w1, w2, w3] := by
    have hs : args.size = 4 := by simpa [Cond.value, given_1] using gc
    obtain ⟨L⟩ := args
    match L, hs with
    | [w0, w1, w2, w3], _ => exact ⟨w0, w1, w2, w3, rfl⟩
  have hw := fun d (hd : d ∈ tables_1) => atoms_spec (ws := Jvm.Cond.code x code maxLocals ret :: tables_1) hat d (List.mem_cons_of_mem _ hd)
  have hfit : Fit s := fun {y c} hc i hi => by
    obtain ⟨ha, rfl⟩ := Array.getElem?_eq_some_iff.mp hc
    have q := List.all_eq_true.mp ((Array.all_eq_true_iff_forall_mem.mp hF) _ (Array.getElem_mem ha)) i (List.mem_range.mpr hi)
    simpa [Array.getElem?_eq_getElem hi] using q
  obtain ⟨i0, ei0⟩ := is_v ga0
  obtain rfl : w0 = (.int i0) := Option.some.inj ei0
  obtain ⟨i1, ei1⟩ := isL_v ga1
  obtain rfl : w1 = (.long i1) := Option.some.inj ei1
  obtain ⟨i2, ei2⟩ := isL_v ga2
  obtain rfl : w2 = (.long i2) := Option.some.inj ei2
  obtain ⟨i3, ei3⟩ := isL_v gr3
  obtain rfl : w3 = (.long i3) := Option.some.inj ei3
  obtain ⟨n, o, h1, h2, h3, _, L, rfl, ⟨rfl, N⟩, hq⟩ := rm0 l s _ hw tables_1 i0 i1 i2 i3 s.heap s.heap.size (Nat.le_refl _) p e ha hc hk s m _ below hf ((Spec.applies_iff_loose hf).mp happ).1 ⟨rfl, State.Warmed39.refl s, rfl⟩ trivial
  refine ⟨n, _, h1, h2, h3, hpost _ _ _ _ _ _ ⟨Cond.after_iff.mpr rfl, Cond.after_iff.mpr (eq_i res_at (Term.int_eval (1)) rfl), trivial⟩ ⟨hq.1, hq.2.1, (hq.2.2.sift fun y hy => Or.inr (N y hy)).mono (by decide) (by decide)⟩⟩
theorem main_1_1 : Claimed_1_1 := comes_1 fun _ _ _ _ _ _ h hF => ⟨h.1, hF⟩
theorem main_1_2 : Claimed_1_2 := comes_1 fun _ _ _ _ _ _ h hF => ⟨h.2.1, hF⟩
end Jvm.Pilot.@@N@@
namespace Jvm.Pilot.@@N@@
open Jvm Jvm.ClassFile Sem Op Lib Jvm.Free Jvm.Stand Jvm.Pilot.@@N@@.Jvm.D
/-! MADE BY PROGRAM (witnessworld.py) out of the Statement's table words and the real class files: 12 classes; the members and pool entries that the words name. The judged class is class 1, her method 1. -/
namespace start1
open Jvm.ClassFile
def u (s : String) : CpInfo := .utf8 (stringToUtf16 s)
/-- a pool by its gaps: so many unusable entries, then the entry; so many at the end -/
def gap : Nat → List CpInfo → List CpInfo
  | 0, r => r
  | n + 1, r => .unusable :: gap n r
def poolList (es : List (Nat × CpInfo)) (last : Nat) : List CpInfo := es.foldr (fun e r => gap e.1 (e.2 :: r)) (gap last [])
def pool (es : List (Nat × CpInfo)) (last : Nat) : Array CpInfo := ⟨poolList es last⟩
def fileOf (pool : Array CpInfo) (this : Nat) (attrs : Array Attribute := #[]) (ms : Array MethodInfo := #[]) (fl : Nat := 33) (sup : Nat := 0) (ifs : Array Nat := #[]) (fds : Array FieldInfo := #[]) : ClassFile where
  minorVersion := 0
  majorVersion := 65
  constantPool := pool
  accessFlags := fl
  thisClass := this
  superClass := sup
  interfaces := ifs
  fields := fds
  methods := ms
  attributes := attrs
def plain (name : String) (sup : Option ClassId) : Class where
  name := name
  kind := .ordinary
  loader := none
  accessFlags := 33
  super := sup
  interfaces := #[]
  cf := none
  fields := #[]
  methods := #[]
  instanceTypes := #[]
  staticTypes := #[]
  resolved := #[]
  callSites := []
  init := .initialized
  statics := none
  mirror := none

def pool0 : Array CpInfo := pool [(5, u "<init>"), (0, u "()V"), (1, .class_ 10), (1, u "java/lang/Object")] 113

def k0c0 : Code := { maxStack := 0, maxLocals := 1, code := object_method_1_code, exceptionTable := #[], attributes := #[] }
def k0m0 : Method := { name := "<init>", desc := "()V", sig := { parameters := [], returnType := none }, accessFlags := 1, code := some k0c0 }
/-- java/lang/Object -/
def k0 : Class := { plain "java/lang/Object" none with
  accessFlags := 33
  interfaces := #[]
  cf := some (fileOf pool0 8 #[] #[{ accessFlags := 1, nameIndex := 5, descriptorIndex := 6, attributes := #[] }] 33 0 #[] #[])
  fields := #[]
  methods := #[k0m0]
  instanceTypes := #[]
  staticTypes := #[]
  resolved := Array.replicate 124 none
  statics := none }

def pool1 : Array CpInfo := pool [(2, .class_ 4), (1, u "java/lang/Object"), (0, u "<init>"), (0, u "()V"), (0, .class_ 8), (0, u "com/example/inverse_frequency/inversefrequency/Postings"), (0, .methodref 7 10), (0, .nameAndType 5 11), (0, u "(I)V"), (0, .methodref 7 13), (0, .nameAndType 14 15), (0, u "add"), (0, u "(II)V"), (0, .methodref 7 17), (0, .nameAndType 18 19), (0, u "size"), (0, u "()I"), (0, .methodref 7 21), (0, .nameAndType 22 23), (0, u "totalFrequency"), (0, u "()J"), (0, .methodref 7 25), (0, .nameAndType 26 27), (0, u "document"), (0, u "(I)I"), (0, .methodref 7 29), (0, .nameAndType 30 27), (0, u "frequency"), (0, .class_ 32), (0, u "com/example/inverse_frequency/inversefrequency/PostingsAddPinLaw"), (2, u "law"), (0, u "(IJJJ)Z")] 3

def k1m0 : Method := { name := "<init>", desc := "()V", sig := { parameters := [], returnType := none }, accessFlags := 1, code := none }
def k1c1 : Code := { maxStack := 4, maxLocals := 19, code := code, exceptionTable := #[], attributes := #[] }
def k1m1 : Method := { name := "law", desc := "(IJJJ)Z", sig := { parameters := [.int, .long, .long, .long], returnType := some .boolean }, accessFlags := 9, code := some k1c1 }
/-- com/example/inverse_frequency/inversefrequency/PostingsAddPinLaw -/
def k1 : Class := { plain "com/example/inverse_frequency/inversefrequency/PostingsAddPinLaw" (some 0) with
  accessFlags := 49
  interfaces := #[]
  cf := some (fileOf pool1 31 #[] #[{ accessFlags := 1, nameIndex := 5, descriptorIndex := 6, attributes := #[] }, { accessFlags := 9, nameIndex := 35, descriptorIndex := 36, attributes := #[] }] 49 2 #[] #[])
  fields := #[]
  methods := #[k1m0, k1m1]
  instanceTypes := #[]
  staticTypes := #[]
  resolved := Array.replicate 40 none
  statics := none }

def pool2 : Array CpInfo := pool [(2, .class_ 4), (1, u "com/example/inverse_frequency/inversefrequency/Postings"), (0, u "<init>"), (0, u "(I)V"), (0, .methodref 8 9), (0, .class_ 10), (0, .nameAndType 5 11), (0, u "java/lang/Object"), (0, u "()V"), (0, .methodref 13 14), (0, .class_ 15), (0, .nameAndType 16 17), (0, u "java/lang/Math"), (0, u "max"), (0, u "(II)I"), (0, .fieldref 2 19), (0, .nameAndType 20 21), (0, u "documents"), (0, u "[I"), (0, .fieldref 2 23), (0, .nameAndType 24 21), (0, u "frequencies"), (0, .fieldref 2 26), (0, .nameAndType 27 28), (0, u "size"), (0, u "I"), (0, .methodref 30 31), (0, .class_ 32), (0, .nameAndType 33 34), (0, u "java/util/Arrays"), (0, u "copyOf"), (0, u "([II)[I"), (0, .fieldref 2 36), (0, .nameAndType 37 38), (0, u "totalFrequency"), (0, u "J"), (10, u "NONE"), (0, u "Lcom/example/inverse_frequency/inversefrequency/Postings;"), (2, u "add"), (0, u "(II)V"), (1, u "()I"), (0, u "()J"), (0, u "document"), (0, u "(I)I"), (0, u "frequency")] 5

def k2m0 : Method := { name := "<init>", desc := "()V", sig := { parameters := [], returnType := none }, accessFlags := 0, code := none }
def k2c1 : Code := { maxStack := 3, maxLocals := 2, code := prog_33_method_2_code, exceptionTable := #[], attributes := #[] }
def k2m1 : Method := { name := "<init>", desc := "(I)V", sig := { parameters := [.int], returnType := none }, accessFlags := 0, code := some k2c1 }
def k2c2 : Code := { maxStack := 5, maxLocals := 3, code := prog_33_method_3_code, exceptionTable := #[], attributes := #[] }
def k2m2 : Method := { name := "add", desc := "(II)V", sig := { parameters := [.int, .int], returnType := none }, accessFlags := 0, code := some k2c2 }
def k2c3 : Code := { maxStack := 1, maxLocals := 1, code := prog_33_method_4_code, exceptionTable := #[], attributes := #[] }
def k2m3 : Method := { name := "size", desc := "()I", sig := { parameters := [], returnType := some .int }, accessFlags := 0, code := some k2c3 }
def k2c4 : Code := { maxStack := 2, maxLocals := 1, code := prog_33_method_5_code, exceptionTable := #[], attributes := #[] }
def k2m4 : Method := { name := "totalFrequency", desc := "()J", sig := { parameters := [], returnType := some .long }, accessFlags := 0, code := some k2c4 }
def k2c5 : Code := { maxStack := 2, maxLocals := 2, code := prog_33_method_6_code, exceptionTable := #[], attributes := #[] }
def k2m5 : Method := { name := "document", desc := "(I)I", sig := { parameters := [.int], returnType := some .int }, accessFlags := 0, code := some k2c5 }
def k2c6 : Code := { maxStack := 2, maxLocals := 2, code := prog_33_method_7_code, exceptionTable := #[], attributes := #[] }
def k2m6 : Method := { name := "frequency", desc := "(I)I", sig := { parameters := [.int], returnType := some .int }, accessFlags := 0, code := some k2c6 }
/-- com/example/inverse_frequency/inversefrequency/Postings -/
def k2 : Class := { plain "com/example/inverse_frequency/inversefrequency/Postings" (some 0) with
  accessFlags := 32
  interfaces := #[]
  cf := some (fileOf pool2 2 #[] #[{ accessFlags := 0, nameIndex := 5, descriptorIndex := 11, attributes := #[] }, { accessFlags := 0, nameIndex := 5, descriptorIndex := 6, attributes := #[] }, { accessFlags := 0, nameIndex := 53, descriptorIndex := 54, attributes := #[] }, { accessFlags := 0, nameIndex := 27, descriptorIndex := 56, attributes := #[] }, { accessFlags := 0, nameIndex := 37, descriptorIndex := 57, attributes := #[] }, { accessFlags := 0, nameIndex := 58, descriptorIndex := 59, attributes := #[] }, { accessFlags := 0, nameIndex := 60, descriptorIndex := 59, attributes := #[] }] 32 8 #[] #[{ accessFlags := 24, nameIndex := 49, descriptorIndex := 50, attributes := #[] }, { accessFlags := 2, nameIndex := 20, descriptorIndex := 21, attributes := #[] }, { accessFlags := 2, nameIndex := 24, descriptorIndex := 21, attributes := #[] }, { accessFlags := 2, nameIndex := 27, descriptorIndex := 28, attributes := #[] }, { accessFlags := 2, nameIndex := 37, descriptorIndex := 38, attributes := #[] }])
  fields := #[{ name := "NONE", type := (.object "com/example/inverse_frequency/inversefrequency/Postings"), accessFlags := 24, slot := 0, constantValue := 0 }, { name := "documents", type := (.array .int), accessFlags := 2, slot := 0, constantValue := 0 }, { name := "frequencies", type := (.array .int), accessFlags := 2, slot := 1, constantValue := 0 }, { name := "size", type := .int, accessFlags := 2, slot := 2, constantValue := 0 }, { name := "totalFrequency", type := .long, accessFlags := 2, slot := 3, constantValue := 0 }]
  methods := #[k2m0, k2m1, k2m2, k2m3, k2m4, k2m5, k2m6]
  instanceTypes := #[(.array .int), (.array .int), .int, .long]
  staticTypes := #[(.object "com/example/inverse_frequency/inversefrequency/Postings")]
  resolved := Array.replicate 66 none
  statics := none }

def pool3 : Array CpInfo := pool [(1, .class_ 2), (0, u "java/lang/Math"), (1, .class_ 6), (1, u "java/lang/Object"), (0, u "<init>"), (0, u "()V"), (89, .class_ 100), (1, u "java/lang/Math$RandomNumberGeneratorHolder"), (71, u "negativeZeroFloatBits"), (0, u "J"), (2, u "negativeZeroDoubleBits"), (21, u "max"), (2, u "min"), (43, u "$assertionsDisabled"), (0, u "Z"), (88, u "(II)I"), (2, u "twoToTheDoubleScaleDown"), (0, u "D"), (4, u "twoToTheDoubleScaleUp"), (9, u "E"), (3, u "PI"), (2, u "TAU"), (2, u "DEGREES_TO_RADIANS"), (0, u "RADIANS_TO_DEGREES")] 94

def k3m0 : Method := { name := "<init>", desc := "()V", sig := { parameters := [], returnType := none }, accessFlags := 2, code := none }
def k3c1 : Code := { maxStack := 2, maxLocals := 2, code := jdk_29_method_65_code, exceptionTable := #[], attributes := #[] }
def k3m1 : Method := { name := "max", desc := "(II)I", sig := { parameters := [.int, .int], returnType := some .int }, accessFlags := 9, code := some k3c1 }
def k3c2 : Code := { maxStack := 2, maxLocals := 2, code := jdk_29_method_69_code, exceptionTable := #[], attributes := #[] }
def k3m2 : Method := { name := "min", desc := "(II)I", sig := { parameters := [.int, .int], returnType := some .int }, accessFlags := 9, code := some k3c2 }
/-- java/lang/Math -/
def k3 : Class := { plain "java/lang/Math" (some 0) with
  accessFlags := 49
  interfaces := #[]
  cf := some (fileOf pool3 1 #[.nestMembers #[98]] #[{ accessFlags := 2, nameIndex := 7, descriptorIndex := 8, attributes := #[] }, { accessFlags := 9, nameIndex := 198, descriptorIndex := 335, attributes := #[] }, { accessFlags := 9, nameIndex := 201, descriptorIndex := 335, attributes := #[] }] 49 4 #[] #[{ accessFlags := 25, nameIndex := 354, descriptorIndex := 339, attributes := #[] }, { accessFlags := 25, nameIndex := 358, descriptorIndex := 339, attributes := #[] }, { accessFlags := 25, nameIndex := 361, descriptorIndex := 339, attributes := #[] }, { accessFlags := 26, nameIndex := 364, descriptorIndex := 339, attributes := #[] }, { accessFlags := 26, nameIndex := 365, descriptorIndex := 339, attributes := #[] }, { accessFlags := 26, nameIndex := 172, descriptorIndex := 173, attributes := #[] }, { accessFlags := 26, nameIndex := 176, descriptorIndex := 173, attributes := #[] }, { accessFlags := 8, nameIndex := 344, descriptorIndex := 339, attributes := #[] }, { accessFlags := 8, nameIndex := 338, descriptorIndex := 339, attributes := #[] }, { accessFlags := 4120, nameIndex := 245, descriptorIndex := 246, attributes := #[] }])
  fields := #[{ name := "E", type := .double, accessFlags := 25, slot := 0, constantValue := 0 }, { name := "PI", type := .double, accessFlags := 25, slot := 1, constantValue := 0 }, { name := "TAU", type := .double, accessFlags := 25, slot := 2, constantValue := 0 }, { name := "DEGREES_TO_RADIANS", type := .double, accessFlags := 26, slot := 3, constantValue := 0 }, { name := "RADIANS_TO_DEGREES", type := .double, accessFlags := 26, slot := 4, constantValue := 0 }, { name := "negativeZeroFloatBits", type := .long, accessFlags := 26, slot := 5, constantValue := 0 }, { name := "negativeZeroDoubleBits", type := .long, accessFlags := 26, slot := 6, constantValue := 0 }, { name := "twoToTheDoubleScaleUp", type := .double, accessFlags := 8, slot := 7, constantValue := 0 }, { name := "twoToTheDoubleScaleDown", type := .double, accessFlags := 8, slot := 8, constantValue := 0 }, { name := "$assertionsDisabled", type := .boolean, accessFlags := 4120, slot := 9, constantValue := 0 }]
  methods := #[k3m0, k3m1, k3m2]
  instanceTypes := #[]
  staticTypes := #[.double, .double, .double, .double, .double, .long, .long, .double, .double, .boolean]
  resolved := Array.replicate 460 none
  statics := none }

def pool4 : Array CpInfo := pool [(2, .class_ 4), (1, u "java/lang/Object"), (0, u "<init>"), (0, u "()V"), (7, .class_ 16), (1, u "java/util/Arrays"), (57, .class_ 76), (1, u "java/util/Arrays$NaturalOrder"), (36, .class_ 115), (1, u "java/util/Arrays$LegacyMergeSort"), (1, u "Z"), (32, .methodref 151 152), (0, .class_ 153), (0, .nameAndType 154 155), (0, u "java/lang/System"), (0, u "arraycopy"), (0, u "(Ljava/lang/Object;ILjava/lang/Object;II)V"), (146, u "copyOf"), (1, .methodref 305 306), (0, .class_ 307), (0, .nameAndType 308 309), (0, u "java/lang/Math"), (0, u "min"), (0, u "(II)I"), (65, .class_ 376), (0, u "java/util/Arrays$ArrayList"), (68, u "$assertionsDisabled"), (269, u "MIN_ARRAY_SORT_GRAN"), (0, u "I"), (2, u "INSERTIONSORT_THRESHOLD"), (151, u "([II)[I"), (103, .class_ 976), (0, u "java/util/Arrays$ArrayItr")] 52

def k4m0 : Method := { name := "<init>", desc := "()V", sig := { parameters := [], returnType := none }, accessFlags := 2, code := none }
def k4c1 : Code := { maxStack := 6, maxLocals := 3, code := jdk_65_method_123_code, exceptionTable := #[], attributes := #[] }
def k4m1 : Method := { name := "copyOf", desc := "([II)[I", sig := { parameters := [(.array .int), .int], returnType := some (.array .int) }, accessFlags := 9, code := some k4c1 }
/-- java/util/Arrays -/
def k4 : Class := { plain "java/util/Arrays" (some 0) with
  accessFlags := 49
  interfaces := #[]
  cf := some (fileOf pool4 14 #[.nestMembers #[975, 375, 113, 74]] #[{ accessFlags := 2, nameIndex := 5, descriptorIndex := 6, attributes := #[] }, { accessFlags := 9, nameIndex := 302, descriptorIndex := 871, attributes := #[] }] 49 2 #[] #[{ accessFlags := 26, nameIndex := 715, descriptorIndex := 716, attributes := #[] }, { accessFlags := 26, nameIndex := 719, descriptorIndex := 716, attributes := #[] }, { accessFlags := 4120, nameIndex := 445, descriptorIndex := 117, attributes := #[] }])
  fields := #[{ name := "MIN_ARRAY_SORT_GRAN", type := .int, accessFlags := 26, slot := 0, constantValue := 0 }, { name := "INSERTIONSORT_THRESHOLD", type := .int, accessFlags := 26, slot := 1, constantValue := 0 }, { name := "$assertionsDisabled", type := .boolean, accessFlags := 4120, slot := 2, constantValue := 0 }]
  methods := #[k4m0, k4m1]
  instanceTypes := #[]
  staticTypes := #[.int, .int, .boolean]
  resolved := Array.replicate 1029 none
  statics := none }

def pool5 : Array CpInfo := pool [(2, .class_ 4), (1, u "java/lang/Object"), (0, u "<init>"), (0, u "()V"), (1, .class_ 10), (1, u "java/lang/System"), (0, u "allowSecurityManager"), (0, u "I"), (16, u "cons"), (0, u "Ljava/io/Console;"), (77, .class_ 110), (1, u "java/lang/System$CallersHolder"), (43, u "initialErrStream"), (0, u "Ljava/io/PrintStream;"), (19, u "security"), (0, u "Ljava/lang/SecurityManager;"), (31, .class_ 209), (0, u "java/lang/System$1"), (7, u "props"), (0, u "Ljava/util/Properties;"), (2, u "lineSeparator"), (0, u "Ljava/lang/String;"), (96, .class_ 321), (1, u "java/lang/System$LoggerFinder"), (5, .class_ 328), (0, u "java/lang/System$Logger"), (67, u "err"), (2, u "out"), (91, u "notSupportedJnuEncoding"), (15, u "in"), (17, u "initialIn"), (0, u "Ljava/io/InputStream;"), (35, u "bootLayer"), (0, u "Ljava/lang/ModuleLayer;"), (99, .class_ 664), (0, u "java/lang/System$2"), (9, u "NEVER"), (2, u "MAYBE"), (49, u "arraycopy"), (0, u "(Ljava/lang/Object;ILjava/lang/Object;II)V"), (72, .class_ 802), (0, u "java/lang/System$Logger$Level")] 31

def k5m0 : Method := { name := "<init>", desc := "()V", sig := { parameters := [], returnType := none }, accessFlags := 2, code := none }
def k5m1 : Method := { name := "arraycopy", desc := "(Ljava/lang/Object;ILjava/lang/Object;II)V", sig := { parameters := [(.object "java/lang/Object"), .int, (.object "java/lang/Object"), .int, .int], returnType := none }, accessFlags := 265, code := none }
/-- java/lang/System -/
def k5 : Class := { plain "java/lang/System" (some 0) with
  accessFlags := 49
  interfaces := #[]
  cf := some (fileOf pool5 8 #[.nestMembers #[319, 327, 801, 108, 663, 208]] #[{ accessFlags := 2, nameIndex := 5, descriptorIndex := 6, attributes := #[] }, { accessFlags := 265, nameIndex := 727, descriptorIndex := 728, attributes := #[] }] 49 2 #[] #[{ accessFlags := 25, nameIndex := 507, descriptorIndex := 526, attributes := #[] }, { accessFlags := 25, nameIndex := 399, descriptorIndex := 155, attributes := #[] }, { accessFlags := 25, nameIndex := 396, descriptorIndex := 155, attributes := #[] }, { accessFlags := 10, nameIndex := 525, descriptorIndex := 526, attributes := #[] }, { accessFlags := 26, nameIndex := 674, descriptorIndex := 12, attributes := #[] }, { accessFlags := 26, nameIndex := 677, descriptorIndex := 12, attributes := #[] }, { accessFlags := 10, nameIndex := 11, descriptorIndex := 12, attributes := #[] }, { accessFlags := 74, nameIndex := 175, descriptorIndex := 176, attributes := #[] }, { accessFlags := 10, nameIndex := 491, descriptorIndex := 222, attributes := #[] }, { accessFlags := 74, nameIndex := 29, descriptorIndex := 30, attributes := #[] }, { accessFlags := 74, nameIndex := 154, descriptorIndex := 155, attributes := #[] }, { accessFlags := 10, nameIndex := 217, descriptorIndex := 218, attributes := #[] }, { accessFlags := 10, nameIndex := 221, descriptorIndex := 222, attributes := #[] }, { accessFlags := 8, nameIndex := 562, descriptorIndex := 563, attributes := #[] }])
  fields := #[{ name := "in", type := (.object "java/io/InputStream"), accessFlags := 25, slot := 0, constantValue := 0 }, { name := "out", type := (.object "java/io/PrintStream"), accessFlags := 25, slot := 1, constantValue := 0 }, { name := "err", type := (.object "java/io/PrintStream"), accessFlags := 25, slot := 2, constantValue := 0 }, { name := "initialIn", type := (.object "java/io/InputStream"), accessFlags := 10, slot := 3, constantValue := 0 }, { name := "NEVER", type := .int, accessFlags := 26, slot := 4, constantValue := 0 }, { name := "MAYBE", type := .int, accessFlags := 26, slot := 5, constantValue := 0 }, { name := "allowSecurityManager", type := .int, accessFlags := 10, slot := 6, constantValue := 0 }, { name := "security", type := (.object "java/lang/SecurityManager"), accessFlags := 74, slot := 7, constantValue := 0 }, { name := "notSupportedJnuEncoding", type := (.object "java/lang/String"), accessFlags := 10, slot := 8, constantValue := 0 }, { name := "cons", type := (.object "java/io/Console"), accessFlags := 74, slot := 9, constantValue := 0 }, { name := "initialErrStream", type := (.object "java/io/PrintStream"), accessFlags := 74, slot := 10, constantValue := 0 }, { name := "props", type := (.object "java/util/Properties"), accessFlags := 10, slot := 11, constantValue := 0 }, { name := "lineSeparator", type := (.object "java/lang/String"), accessFlags := 10, slot := 12, constantValue := 0 }, { name := "bootLayer", type := (.object "java/lang/ModuleLayer"), accessFlags := 8, slot := 13, constantValue := 0 }]
  methods := #[k5m0, k5m1]
  instanceTypes := #[]
  staticTypes := #[(.object "java/io/InputStream"), (.object "java/io/PrintStream"), (.object "java/io/PrintStream"), (.object "java/io/InputStream"), .int, .int, .int, (.object "java/lang/SecurityManager"), (.object "java/lang/String"), (.object "java/io/Console"), (.object "java/io/PrintStream"), (.object "java/util/Properties"), (.object "java/lang/String"), (.object "java/lang/ModuleLayer")]
  resolved := Array.replicate 834 none
  statics := none }

def pool6 : Array CpInfo := pool [(1, u "java/lang/Cloneable"), (0, .class_ 1), (0, u "java/lang/Object"), (0, .class_ 3)] 3

/-- java/lang/Cloneable -/
def k6 : Class := { plain "java/lang/Cloneable" (some 0) with
  accessFlags := 1537
  interfaces := #[]
  cf := some (fileOf pool6 2 #[] #[] 1537 4 #[] #[])
  fields := #[]
  methods := #[]
  instanceTypes := #[]
  staticTypes := #[]
  resolved := Array.replicate 8 none
  statics := none }

def pool7 : Array CpInfo := pool [(1, u "java/io/Serializable"), (0, .class_ 1), (0, u "java/lang/Object"), (0, .class_ 3)] 3

/-- java/io/Serializable -/
def k7 : Class := { plain "java/io/Serializable" (some 0) with
  accessFlags := 1537
  interfaces := #[]
  cf := some (fileOf pool7 2 #[] #[] 1537 4 #[] #[])
  fields := #[]
  methods := #[]
  instanceTypes := #[]
  staticTypes := #[]
  resolved := Array.replicate 8 none
  statics := none }

/-- the primitive byte -/
def k8 : Class := { plain "byte" none with kind := .primitive 'B', accessFlags := 0x411 }
/-- [B -/
def k9 : Class := { plain "[B" (some 0) with kind := .array 8 .byte, interfaces := #[6, 7], accessFlags := 1041 }

/-- the primitive int -/
def k10 : Class := { plain "int" none with kind := .primitive 'I', accessFlags := 0x411 }
/-- [I -/
def k11 : Class := { plain "[I" (some 0) with kind := .array 10 .int, interfaces := #[6, 7], accessFlags := 1041 }

def heap : Heap := #[]
def classes : Array Class := #[k0, k1, k2, k3, k4, k5, k6, k7, k8, k9, k10, k11]
def interned : List (Array UInt16 × Addr) := []
def slotsUsed : Nat := 0
def theMethod : MethodId := ⟨1, 1⟩
def args0 : Array Value := #[.int 13, .long 7, .long 9, .long 11]
def aboutOver (below : List Frame) : State where
  vm := { classes := classes, interned := interned.toArray }
  heap := heap
  slotsUsed := slotsUsed
  threads := #[{ frames := .invoking theMethod args0 :: below }]
def below0 : List Frame := [.native { method := ⟨0, 0⟩, args := #[] }]
def about1 : State := aboutOver below0
def p0 : Program := .bare "" "" ""
def e0 : Env := launch0.env 0 0 0
theorem w_frames : about1.frames = Frame.invoking theMethod args0 :: below0 := rfl
set_option maxRecDepth 65536 in
theorem w_args : argsFit about1.vm theMethod args0 = true := by decide +kernel
set_option maxRecDepth 65536 in
theorem w_heap : heapFits about1 = true := by decide +kernel
set_option maxRecDepth 65536 in
theorem w_runnable : about1.curStatus? = some .runnable := by decide +kernel
set_option maxRecDepth 65536 in
theorem w_alone : about1.alone = true := by decide +kernel
set_option maxRecDepth 65536 in
theorem w_named : about1.methodNamed? x = some theMethod := by decide +kernel
set_option maxRecDepth 65536 in
theorem w_hears : about1.hears theMethod below0 = true := by decide +kernel
set_option maxRecDepth 65536 in
theorem w_ripe : about1.ripe theMethod args0 below0 = true := by decide +kernel
theorem w_running : about1.status = .running := rfl
set_option maxRecDepth 65536 in
theorem w_room : about1.hasRoom e0.platform room_1 = true :=
  launch0.hasRoom_least _ room_1 (by decide +kernel) (by decide +kernel) (by decide +kernel) (by decide +kernel) (by decide +kernel) (by decide +kernel)
theorem allAtoms_all (ts : List Jvm.Cond) (a : Array Jvm.Value) (st : Jvm.State) : (allAtoms ts).before a st = ts.all (fun c => c.before a st) := by
  induction ts with
  | nil => rfl
  | cons c t ih =>
    show (Jvm.Cond.and c (allAtoms t)).before a st = _
    rw [Jvm.Cond.before_and, ih, List.all_cons]
def words1 : List Jvm.Cond := Jvm.Cond.code x code maxLocals ret :: tables_1
/-- a 'code' word, met by the world's own term for the bytes: nothing is compared byte by byte -/
theorem code_word {y : MethodName} {bytes : ByteArray} {mx : Nat} {rt : Option FieldType} {a : Array Value} {s : State} {m : MethodId} {meth : Method} {c : Code} (h1 : s.methodNamed? y = some m) (h2 : s.vm.method? m = some meth) (h3 : meth.code = some c) (h4 : c.code = bytes)
    (h5 : (c.maxLocals == mx && c.exceptionTable.isEmpty && decide (c.maxStack ≤ mostOperands) && decide (meth.sig.returnType = rt) && !meth.locks && decide (parseMethodDescriptor y.desc = some meth.sig)) = true) : (Jvm.Cond.code y bytes mx rt).before a s = true := by
  simp only [Bool.and_eq_true, beq_iff_eq, Bool.not_eq_true', decide_eq_true_eq] at h5
  obtain ⟨⟨⟨⟨⟨g1, g2⟩, g3⟩, g4⟩, g5⟩, g6⟩ := h5
  simp [Cond.before, Cond.holds, Cond.value, h1, h2, h3, h4, g1, g2, g3, g4, g5, g6]
def isCode : Jvm.Cond → Bool
  | .code _ _ _ _ => true
  | _ => false
theorem all_split {L : List Jvm.Cond} {P : Jvm.Cond → Bool} (h1 : L.all (fun c => isCode c || P c) = true) (h2 : ∀ c ∈ L.filter isCode, P c = true) : L.all P = true := by
  refine List.all_eq_true.mpr fun c hc => ?_
  have h := List.all_eq_true.mp h1 c hc
  rcases Bool.eq_false_or_eq_true (isCode c) with hi | hi
  · exact h2 c (List.mem_filter.mpr ⟨hc, hi⟩)
  · simpa [hi] using h
set_option maxRecDepth 65536 in
theorem w_c0 : (Jvm.Cond.code x code maxLocals ret).before args0 about1 = true := code_word (m := ⟨1, 1⟩) (meth := k1m1) (c := k1c1) (by decide +kernel) rfl rfl rfl (by decide +kernel)
set_option maxRecDepth 65536 in
theorem w_c1 : (Jvm.Cond.code ({ cls := "com/example/inverse_frequency/inversefrequency/Postings", name := "<init>", desc := "(I)V" } : Jvm.MethodName) prog_33_method_2_code (2 : Nat) (Option.none : Option Jvm.ClassFile.FieldType)).before args0 about1 = true := code_word (m := ⟨2, 1⟩) (meth := k2m1) (c := k2c1) (by decide +kernel) rfl rfl rfl (by decide +kernel)
set_option maxRecDepth 65536 in
theorem w_c2 : (Jvm.Cond.code ({ cls := "java/lang/Object", name := "<init>", desc := "()V" } : Jvm.MethodName) object_method_1_code (1 : Nat) (Option.none : Option Jvm.ClassFile.FieldType)).before args0 about1 = true := code_word (m := ⟨0, 0⟩) (meth := k0m0) (c := k0c0) (by decide +kernel) rfl rfl rfl (by decide +kernel)
set_option maxRecDepth 65536 in
theorem w_c3 : (Jvm.Cond.code ({ cls := "java/lang/Math", name := "max", desc := "(II)I" } : Jvm.MethodName) jdk_29_method_65_code (2 : Nat) (Option.some Jvm.ClassFile.FieldType.int)).before args0 about1 = true := code_word (m := ⟨3, 1⟩) (meth := k3m1) (c := k3c1) (by decide +kernel) rfl rfl rfl (by decide +kernel)
set_option maxRecDepth 65536 in
theorem w_c4 : (Jvm.Cond.code ({ cls := "com/example/inverse_frequency/inversefrequency/Postings", name := "size", desc := "()I" } : Jvm.MethodName) prog_33_method_4_code (1 : Nat) (Option.some Jvm.ClassFile.FieldType.int)).before args0 about1 = true := code_word (m := ⟨2, 3⟩) (meth := k2m3) (c := k2c3) (by decide +kernel) rfl rfl rfl (by decide +kernel)
set_option maxRecDepth 65536 in
theorem w_c5 : (Jvm.Cond.code ({ cls := "com/example/inverse_frequency/inversefrequency/Postings", name := "totalFrequency", desc := "()J" } : Jvm.MethodName) prog_33_method_5_code (1 : Nat) (Option.some Jvm.ClassFile.FieldType.long)).before args0 about1 = true := code_word (m := ⟨2, 4⟩) (meth := k2m4) (c := k2c4) (by decide +kernel) rfl rfl rfl (by decide +kernel)
set_option maxRecDepth 65536 in
theorem w_c6 : (Jvm.Cond.code ({ cls := "com/example/inverse_frequency/inversefrequency/Postings", name := "add", desc := "(II)V" } : Jvm.MethodName) prog_33_method_3_code (3 : Nat) (Option.none : Option Jvm.ClassFile.FieldType)).before args0 about1 = true := code_word (m := ⟨2, 2⟩) (meth := k2m2) (c := k2c2) (by decide +kernel) rfl rfl rfl (by decide +kernel)
set_option maxRecDepth 65536 in
theorem w_c7 : (Jvm.Cond.code ({ cls := "com/example/inverse_frequency/inversefrequency/Postings", name := "document", desc := "(I)I" } : Jvm.MethodName) prog_33_method_6_code (2 : Nat) (Option.some Jvm.ClassFile.FieldType.int)).before args0 about1 = true := code_word (m := ⟨2, 5⟩) (meth := k2m5) (c := k2c5) (by decide +kernel) rfl rfl rfl (by decide +kernel)
set_option maxRecDepth 65536 in
theorem w_c8 : (Jvm.Cond.code ({ cls := "com/example/inverse_frequency/inversefrequency/Postings", name := "frequency", desc := "(I)I" } : Jvm.MethodName) prog_33_method_7_code (2 : Nat) (Option.some Jvm.ClassFile.FieldType.int)).before args0 about1 = true := code_word (m := ⟨2, 6⟩) (meth := k2m6) (c := k2c6) (by decide +kernel) rfl rfl rfl (by decide +kernel)
set_option maxRecDepth 65536 in
theorem w_c9 : (Jvm.Cond.code ({ cls := "java/util/Arrays", name := "copyOf", desc := "([II)[I" } : Jvm.MethodName) jdk_65_method_123_code (3 : Nat) (Option.some (Jvm.ClassFile.FieldType.array Jvm.ClassFile.FieldType.int))).before args0 about1 = true := code_word (m := ⟨4, 1⟩) (meth := k4m1) (c := k4c1) (by decide +kernel) rfl rfl rfl (by decide +kernel)
set_option maxRecDepth 65536 in
theorem w_c10 : (Jvm.Cond.code ({ cls := "java/lang/Math", name := "min", desc := "(II)I" } : Jvm.MethodName) jdk_29_method_69_code (2 : Nat) (Option.some Jvm.ClassFile.FieldType.int)).before args0 about1 = true := code_word (m := ⟨3, 2⟩) (meth := k3m2) (c := k3c2) (by decide +kernel) rfl rfl rfl (by decide +kernel)
def codes1 : List Jvm.Cond := [Jvm.Cond.code x code maxLocals ret, Jvm.Cond.code ({ cls := "com/example/inverse_frequency/inversefrequency/Postings", name := "<init>", desc := "(I)V" } : Jvm.MethodName) prog_33_method_2_code (2 : Nat) (Option.none : Option Jvm.ClassFile.FieldType), Jvm.Cond.code ({ cls := "java/lang/Object", name := "<init>", desc := "()V" } : Jvm.MethodName) object_method_1_code (1 : Nat) (Option.none : Option Jvm.ClassFile.FieldType), Jvm.Cond.code ({ cls := "java/lang/Math", name := "max", desc := "(II)I" } : Jvm.MethodName) jdk_29_method_65_code (2 : Nat) (Option.some Jvm.ClassFile.FieldType.int), Jvm.Cond.code ({ cls := "com/example/inverse_frequency/inversefrequency/Postings", name := "size", desc := "()I" } : Jvm.MethodName) prog_33_method_4_code (1 : Nat) (Option.some Jvm.ClassFile.FieldType.int), Jvm.Cond.code ({ cls := "com/example/inverse_frequency/inversefrequency/Postings", name := "totalFrequency", desc := "()J" } : Jvm.MethodName) prog_33_method_5_code (1 : Nat) (Option.some Jvm.ClassFile.FieldType.long), Jvm.Cond.code ({ cls := "com/example/inverse_frequency/inversefrequency/Postings", name := "add", desc := "(II)V" } : Jvm.MethodName) prog_33_method_3_code (3 : Nat) (Option.none : Option Jvm.ClassFile.FieldType), Jvm.Cond.code ({ cls := "com/example/inverse_frequency/inversefrequency/Postings", name := "document", desc := "(I)I" } : Jvm.MethodName) prog_33_method_6_code (2 : Nat) (Option.some Jvm.ClassFile.FieldType.int), Jvm.Cond.code ({ cls := "com/example/inverse_frequency/inversefrequency/Postings", name := "frequency", desc := "(I)I" } : Jvm.MethodName) prog_33_method_7_code (2 : Nat) (Option.some Jvm.ClassFile.FieldType.int), Jvm.Cond.code ({ cls := "java/util/Arrays", name := "copyOf", desc := "([II)[I" } : Jvm.MethodName) jdk_65_method_123_code (3 : Nat) (Option.some (Jvm.ClassFile.FieldType.array Jvm.ClassFile.FieldType.int)), Jvm.Cond.code ({ cls := "java/lang/Math", name := "min", desc := "(II)I" } : Jvm.MethodName) jdk_29_method_69_code (2 : Nat) (Option.some Jvm.ClassFile.FieldType.int)]
set_option maxRecDepth 65536 in
theorem codes_eq : words1.filter isCode = codes1 := rfl
theorem w_codes : ∀ c ∈ words1.filter isCode, c.before args0 about1 = true := by
  rw [codes_eq]
  intro c hc
  simp only [codes1, List.mem_cons, List.not_mem_nil, or_false] at hc
  rcases hc with rfl | rfl | rfl | rfl | rfl | rfl | rfl | rfl | rfl | rfl | rfl
  · exact w_c0
  · exact w_c1
  · exact w_c2
  · exact w_c3
  · exact w_c4
  · exact w_c5
  · exact w_c6
  · exact w_c7
  · exact w_c8
  · exact w_c9
  · exact w_c10
set_option maxRecDepth 65536 in
theorem w_t1 : (words1.take 24).all (fun c => isCode c || c.before args0 about1) = true := by decide +kernel
set_option maxRecDepth 65536 in
theorem w_t2 : ((words1.drop 24).take 24).all (fun c => isCode c || c.before args0 about1) = true := by decide +kernel
set_option maxRecDepth 65536 in
theorem w_t3 : ((words1.drop 24).drop 24).all (fun c => isCode c || c.before args0 about1) = true := by decide +kernel
theorem w_tables : (allAtoms (Jvm.Cond.code x code maxLocals ret :: tables_1)).before args0 about1 = true := by
  rw [allAtoms_all]
  show words1.all (fun c => c.before args0 about1) = true
  refine all_split ?_ w_codes
  rw [← List.take_append_drop 24 words1, List.all_append, w_t1, ← List.take_append_drop 24 (words1.drop 24), List.all_append, w_t2, w_t3]
  rfl
set_option maxRecDepth 65536 in
theorem w_case : (Jvm.Cond.and given_1 narrow_1).before args0 about1 = true := by decide +kernel
theorem w_applies : (headSpec (Jvm.Cond.code x code maxLocals ret :: tables_1) room_1).applies x e0.platform about1 = true :=
  (Spec.applies_iff w_frames).mpr ⟨w_running, w_runnable, w_alone, w_named, w_hears, w_ripe, w_room, w_tables⟩
theorem atStart : AtStart classFile x code maxLocals ret World_1 tables_1 room_1 Calls_1 rest_1 Pre_1 launch0 p0 e0 about1 theMethod args0 below0 :=
  ⟨lists_1, trivial, launch0.admits_env _ _ _, launch0.least_env, fairChoices_fair.cas, fairChoices_fair.clock, w_frames, w_args, w_heap, w_applies, trivial, trivial, w_case⟩
end start1
theorem witness_1 : WitnessClaimed_1 := ⟨start1.p0, start1.e0, start1.about1, start1.theMethod, start1.args0, start1.below0, start1.atStart⟩
end Jvm.Pilot.@@N@@

import JvmDerived
import JvmDerived.Pilot.@@N@@Statement
import JvmDerived.Pilot.@@N@@Code
set_option linter.unusedVariables false
set_option linter.unusedSimpArgs false
namespace Jvm.RoadKit
open Sem ClassFile Op Lib Jvm.Stand Jvm.Free Jvm.LawKit
/-- own: from A the walk comes to its end, and there R holds -/
def OwnGo (tb : Tables) (e : Env) (below : List Frame) (R : State → Outcome → Prop) (A : State) : Prop := ∃ s₂ o, Steps tb e below A s₂ ∧ s₂.status = .running ∧ Ended s₂ below o ∧ R s₂ o
theorem OwnGo.fwd {tb : Tables} {e : Env} {below : List Frame} {R : State → Outcome → Prop} {A B : State} (h : ∀ t, Steps tb e below B t → Steps tb e below A t) (k : OwnGo tb e below R B) : OwnGo tb e below R A := by
  obtain ⟨s, o, h1, h2⟩ := k
  exact ⟨s, o, h s h1, h2⟩
theorem OwnGo.thru {tb : Tables} {e : Env} {below : List Frame} {R : State → Outcome → Prop} {A B : State} (h : Steps tb e below A B) (k : OwnGo tb e below R B) : OwnGo tb e below R A := k.fwd fun _ q => h.trans q
/-- own: what a body leaves -/
def OwnEnd (s : State) (Q : Option Value → Heap → List Loc → Prop) (k n : Nat) : State → Outcome → Prop := fun U o => ∃ v L, o = .returned v ∧ Q v U.heap L ∧ FrameEnd s o U L k n
section OwnLeaf
variable {p : Program} {l : Launch} {e : Env} {R : Room} {s : State} {m : MethodId} {args : Array Value} {below : List Frame} {meth : Method} {c : Code} {T : State} {locs : List Loc} {cells slots : Nat} {Z : State} {a0 : Array Value} {h : Heap} {Q : Option Value → Heap → List Loc → Prop} {k n : Nat}
theorem own_leaf (X : Stand p l e R s m args below meth c T locs cells slots) (hlk : meth.locks = false) {v : Option Value} (hv : meth.sig.returnType = none → v = none) {g : JFrame} (hc : cells ≤ k) (hs : slots ≤ n) (eT : T.heap = h) (hQ : Q v h locs)
    (hl : ∀ fs, (∀ (f : JFrame) (acts : List Action), f.method = m → f.locked = none → f.entered = [] → (doReturn e (T.setTop f) acts v).1 = T.setFrames fs) → Steps p.tables e below (T.setTop g) (T.setFrames fs)) :
    OwnGo p.tables e below (OwnEnd s Q k n) (T.setTop g) := by
  obtain ⟨fs, hr, hrun, hended, hW, hsame⟩ := X.leave (v := v) hv hlk
  refine ⟨_, _, hl fs hr, hrun, hended, _, _, rfl, ?_, ⟨_, rfl⟩, hW, hsame.mono hc hs⟩
  show Q v T.heap locs
  rw [eT]; exact hQ
theorem own_retI (X : Stand p l e R s m args below meth c T locs cells slots) (hlk : meth.locks = false) (hx : p.tables.exec = Jvm.exec) {pc : Nat} {Ls : Array Slot} {z : Int32} {rest : List Value} (hret : meth.sig.returnType = some .int) (hd : decode c.code pc = .ok (.ireturn, 1)) (hc : cells ≤ k) (hs : slots ≤ n) (eT : T.heap = h) (hQ : Q (some (.int z)) h locs) :
    OwnGo p.tables e below (OwnEnd s Q k n) (T.setTop (mkF m pc Ls (.int z :: rest))) := by
  refine own_leaf X hlk (fun q => by rw [hret] at q; cases q) hc hs eT hQ fun fs hl => ?_
  have hm' : T.vm.method? m = some meth := X.method'
  have hn : narrow .int (.int z) = .int z := rfl
  show Steps p.tables e below (T.setTop { method := m, pc := pc, locals := Ls, stack := _ :: rest, locked := none }) _
  jvm_step X.here [X.here.top, hx, hd, hm', hret, hn]
  first | (intro acts; rw [hl _ acts rfl rfl rfl]) | rw [hl _ _ rfl rfl rfl]
  exact Steps.refl _
theorem own_retZ (X : Stand p l e R s m args below meth c T locs cells slots) (hlk : meth.locks = false) (hx : p.tables.exec = Jvm.exec) {pc : Nat} {Ls : Array Slot} {z : Int32} {rest : List Value} (hret : meth.sig.returnType = some .boolean) (hd : decode c.code pc = .ok (.ireturn, 1)) (hc : cells ≤ k) (hs : slots ≤ n) (eT : T.heap = h) (hQ : Q (some (.int (nar .boolean z))) h locs) :
    OwnGo p.tables e below (OwnEnd s Q k n) (T.setTop (mkF m pc Ls (.int z :: rest))) :=
  own_leaf X hlk (fun q => by rw [hret] at q; cases q) hc hs eT hQ fun fs hl => retN X hx (t := .boolean) hret (by simp) hd hl
theorem own_retJ (X : Stand p l e R s m args below meth c T locs cells slots) (hlk : meth.locks = false) (hx : p.tables.exec = Jvm.exec) {pc : Nat} {Ls : Array Slot} {z : Int64} (hret : meth.sig.returnType = some .long) (hd : decode c.code pc = .ok (.lreturn, 1)) (hc : cells ≤ k) (hs : slots ≤ n) (eT : T.heap = h) (hQ : Q (some (.long z)) h locs) :
    OwnGo p.tables e below (OwnEnd s Q k n) (T.setTop (mkF m pc Ls [.long z])) :=
  own_leaf X hlk (fun q => by rw [hret] at q; cases q) hc hs eT hQ fun fs hl => X.lreturnOut hx hret hd hl
theorem own_retV (X : Stand p l e R s m args below meth c T locs cells slots) (hlk : meth.locks = false) (hx : p.tables.exec = Jvm.exec) {pc : Nat} {Ls : Array Slot} (hret : meth.sig.returnType = none) (hd : decode c.code pc = .ok (.return_, 1)) (hc : cells ≤ k) (hs : slots ≤ n) (eT : T.heap = h) (hQ : Q none h locs) :
    OwnGo p.tables e below (OwnEnd s Q k n) (T.setTop (mkF m pc Ls [])) :=
  own_leaf X hlk (fun _ => rfl) hc hs eT hQ fun fs hl => X.returnOut hx hret hd hl
theorem own_retA (X : Stand p l e R s m args below meth c T locs cells slots) (hlk : meth.locks = false) (hx : p.tables.exec = Jvm.exec) {pc : Nat} {Ls : Array Slot} {w : Value} {rest : List Value} {t : FieldType} (hret : meth.sig.returnType = some t) (ht : t.isReference = true) (hw : w.isRef = true) (hd : decode c.code pc = .ok (.areturn, 1)) (hc : cells ≤ k) (hs : slots ≤ n) (eT : T.heap = h) (hQ : Q (some w) h locs) :
    OwnGo p.tables e below (OwnEnd s Q k n) (T.setTop (mkF m pc Ls (w :: rest))) :=
  own_leaf X hlk (fun q => by rw [hret] at q; cases q) hc hs eT hQ fun fs hl => retOut X hx hret (by cases t <;> first | (cases ht; done) | rfl) (Or.inr (Or.inr (Or.inr (Or.inr ⟨rfl, ht, hw⟩)))) hd hl
theorem own_retD (X : Stand p l e R s m args below meth c T locs cells slots) (hlk : meth.locks = false) (hx : p.tables.exec = Jvm.exec) {pc : Nat} {Ls : Array Slot} {z : UInt64} {rest : List Value} (hret : meth.sig.returnType = some .double) (hd : decode c.code pc = .ok (.dreturn, 1)) (hc : cells ≤ k) (hs : slots ≤ n) (eT : T.heap = h) (hQ : Q (some (.double z)) h locs) :
    OwnGo p.tables e below (OwnEnd s Q k n) (T.setTop (mkF m pc Ls (.double z :: rest))) :=
  own_leaf X hlk (fun q => by rw [hret] at q; cases q) hc hs eT hQ fun fs hl => retOut X hx hret rfl (Or.inr (Or.inr (Or.inl ⟨rfl, rfl, _, rfl⟩))) hd hl
/-! own: int arrays, by a function of the place -/
def OwnIA (Z : State) (h : Heap) (a : Addr) (n : Nat) (f : Nat → Int32) : Prop := ∃ c : Cell, Arr Z h a c .int ∧ c.slots.size = n ∧ n < 2147483648 ∧ ∀ i, i < n → c.slots[i]? = some (.int (f i))
theorem OwnIA.lt {a : Addr} {n : Nat} {f : Nat → Int32} (F : OwnIA Z h a n f) : a < h.size := by obtain ⟨c, A, -⟩ := F; exact A.lt
theorem OwnIA.ext {h' : Heap} {a : Addr} {n : Nat} {f : Nat → Int32} (F : OwnIA Z h a n f) (E : Ext h h') : OwnIA Z h' a n f := by obtain ⟨c, A, r⟩ := F; exact ⟨c, A.ext E, r⟩
theorem OwnIA.other {h' : Heap} {a b : Addr} {n sl : Nat} {v : Value} {f : Nat → Int32} (F : OwnIA Z h b n f) (W : Wr h h' a sl v) (q : b ≠ a) : OwnIA Z h' b n f := by obtain ⟨c, A, r⟩ := F; exact ⟨c, A.other W q, r⟩
theorem OwnIA.keep {h' : Heap} {ws : List Addr} {a : Addr} {n : Nat} {f : Nat → Int32} (F : OwnIA Z h a n f) (K : Keep h h' ws) (q : a ∉ ws) : OwnIA Z h' a n f := by obtain ⟨c, A, r⟩ := F; exact ⟨c, ⟨K.2.1 a c A.1 q, A.2⟩, r⟩
theorem OwnIA.eqv {a : Addr} {n : Nat} {f f' : Nat → Int32} (F : OwnIA Z h a n f) (q : ∀ i, i < n → f i = f' i) : OwnIA Z h a n f' := by obtain ⟨c, A, r1, r2, r3⟩ := F; exact ⟨c, A, r1, r2, fun i hi => by rw [r3 i hi, q i hi]⟩
theorem own_clamp {j : Int32} {i : Nat} (hj : j.toInt = i) : j.toNatClampNeg = i := by simp only [Int32.toNatClampNeg]; omega
theorem own_inb {c : Cell} {j : Int32} {i n : Nat} (S : c.slots.size = n) (hj : j.toInt = i) (hi : i < n) : ¬ (j < 0 ∨ c.slots.size ≤ j.toNatClampNeg) := by
  rw [own_clamp hj, S]; simp only [Int32.lt_iff_toInt_lt, Int32.reduceToInt]; omega
theorem OwnIA.new {a : Addr} {k : ClassId} {z : Int32} {i : Nat} (A : Arr Z h a (newA k .int z) .int) (hz : z.toInt = i) : OwnIA Z h a i (fun _ => 0) := by
  have q := own_clamp hz
  have r := rng32 z
  exact ⟨_, A, by rw [sz_new]; exact q, by omega, fun j hj => by simp [newA, q, hj, defaultValue]⟩
theorem own_len (X : Stand p l e R s m args below meth c T locs cells slots) (hx : p.tables.exec = Jvm.exec) (hZ : Z.Warmed39 s.vm) (eT : T.heap = h) {a : Addr} {n : Nat} {f : Nat → Int32} (V : OwnIA Z h a n f) {g : JFrame} (hg : g.method = m) {rest : List Value} (hs : g.stack = .ref a :: rest) (hd : decode c.code g.pc = .ok (.arraylength, 1)) :
    ∀ target, Steps p.tables e below (T.setTop { g with pc := g.pc + 1, stack := .int (Int32.ofNat n) :: rest }) target → Steps p.tables e below (T.setTop g) target := by
  obtain ⟨cl, A, S, -⟩ := V
  subst S
  exact X.arraylength hx (by rw [eT]; exact A.1) (State.isArrayOf_alike hZ.alike A.2.1) hg hs hd
theorem own_iaload (X : Stand p l e R s m args below meth c T locs cells slots) (hx : p.tables.exec = Jvm.exec) (hZ : Z.Warmed39 s.vm) (eT : T.heap = h) {a : Addr} {n : Nat} {f : Nat → Int32} (V : OwnIA Z h a n f) {j : Int32} {i : Nat} (hj : j.toInt = i) (hi : i < n) {g : JFrame} (hg : g.method = m) {rest : List Value} (hs : g.stack = .int j :: .ref a :: rest) (hd : decode c.code g.pc = .ok (.iaload, 1)) :
    ∀ target, Steps p.tables e below (T.setTop { g with pc := g.pc + 1, stack := .int (f i) :: rest }) target → Steps p.tables e below (T.setTop g) target := by
  obtain ⟨cl, A, S, -, H⟩ := V
  exact X.iaload hx (by rw [eT]; exact A.1) (State.isArrayOf_alike hZ.alike A.2.1) A.2.2 (own_inb S hj hi) (by rw [own_clamp hj]; exact H i hi) hg hs hd
theorem own_iastore (X : Stand p l e R s m args below meth c T locs cells slots) (hx : p.tables.exec = Jvm.exec) (hZ : Z.Warmed39 s.vm) (eT : T.heap = h) {a : Addr} {n : Nat} {f : Nat → Int32} (V : OwnIA Z h a n f) {j x : Int32} {i : Nat} (hj : j.toInt = i) (hi : i < n) {g : JFrame} (hg : g.method = m) {rest : List Value} (hs : g.stack = .int x :: .int j :: .ref a :: rest) (hd : decode c.code g.pc = .ok (.iastore, 1)) :
    ∃ T' h', Stand p l e R s m args below meth c T' (locs ++ [⟨a, i⟩]) cells slots ∧ T'.heap = h' ∧ Wr h h' a i (.int x) ∧ OwnIA Z h' a n (fun k => if k = i then x else f k) ∧ ∀ target, Steps p.tables e below (T'.setTop { g with pc := g.pc + 1, stack := rest }) target → Steps p.tables e below (T.setTop g) target := by
  obtain ⟨cl, A, S, N, H⟩ := V
  obtain ⟨T', h', X', e', W, st⟩ := stI X hx hZ eT A (own_inb S hj hi) hg hs hd
  rw [own_clamp hj] at X' W
  refine ⟨T', h', X', e', W, ⟨_, A.same W, by rw [sz_set]; exact S, N, fun k hk => ?_⟩, st⟩
  by_cases q : k = i
  · subst q; simp [Cell.setSlot, S, hk]
  · simp only [Cell.setSlot, if_neg q]; rw [Array.getElem?_setIfInBounds_ne (Ne.symm q)]; exact H k hk
theorem own_newI (X : Stand p l e R s m args below meth c T locs cells slots) (hx : p.tables.exec = Jvm.exec) (hZ : Z.Warmed39 s.vm) (w : (Cond.arrayClass .int).before a0 Z = true) (eT : T.heap = h) {g : JFrame} (hg : g.method = m) (hd : decode c.code g.pc = .ok (.newarray .int, 2)) {z : Int32} {i : Nat} {rest : List Value} (hs : g.stack = .int z :: rest)
    (hz : z.toInt = i) {cap : Nat} (hcap : i ≤ cap) (hb : cap * 8 ≤ 536870912) (hc : cells + 1 ≤ R.cells) (hl : slots + cap ≤ R.slots) :
    ∃ T' h' a, Stand p l e R s m args below meth c T' locs (cells + 1) (slots + cap) ∧ T'.heap = h' ∧ Ext h h' ∧ a = h.size ∧ OwnIA Z h' a i (fun _ => 0) ∧ ∀ target, Steps p.tables e below (T'.setTop { g with pc := g.pc + 2, stack := .ref a :: rest }) target → Steps p.tables e below (T.setTop g) target := by
  have q := own_clamp hz
  obtain ⟨T', h', cA, X', e', E, A, st⟩ := newP X hx hZ (aty := .int) w eT hg hd hs (by simp only [Int32.lt_iff_toInt_lt, Int32.reduceToInt]; omega) (cap := cap) (by omega) hb hc hl
  exact ⟨T', h', _, X', e', E, rfl, OwnIA.new A hz, st⟩
end OwnLeaf
/-! own: branches, by the ints' own numbers -/
theorem own_blt {x y : Int32} {a b : Int} (hx : x.toInt = a) (hy : y.toInt = b) (h : a < b) : if_icmp.holds .lt x y = true ∧ if_icmp.holds .ge x y = false ∧ if_icmp.holds .gt y x = true ∧ if_icmp.holds .le y x = false := tlt (by rw [Int32.lt_iff_toInt_lt]; omega)
theorem own_bnlt {x y : Int32} {a b : Int} (hx : x.toInt = a) (hy : y.toInt = b) (h : ¬ a < b) : if_icmp.holds .lt x y = false ∧ if_icmp.holds .ge x y = true ∧ if_icmp.holds .gt y x = false ∧ if_icmp.holds .le y x = true := flt (by rw [Int32.lt_iff_toInt_lt]; omega)
theorem own_beq {x y : Int32} {a b : Int} (hx : x.toInt = a) (hy : y.toInt = b) (h : a = b) : if_icmp.holds .eq x y = true ∧ if_icmp.holds .ne x y = false := teq (Int32.toInt_inj.mp (by omega))
theorem own_bneq {x y : Int32} {a b : Int} (hx : x.toInt = a) (hy : y.toInt = b) (h : ¬ a = b) : if_icmp.holds .eq x y = false ∧ if_icmp.holds .ne x y = true := feq fun q => h (by rw [← hx, ← hy, q])
theorem own_Llt {x y : Int64} {a b : Int} (hx : x.toInt = a) (hy : y.toInt = b) (h : a < b) : ifCond.holds .lt (lcmpW x y) = true ∧ ifCond.holds .ge (lcmpW x y) = false := by
  have q : x < y := by rw [Int64.lt_iff_toInt_lt]; omega
  rw [if0, if0]; exact ⟨(tlt ((lw_lt x y).mpr q)).1, (tlt ((lw_lt x y).mpr q)).2.1⟩
theorem own_Lnlt {x y : Int64} {a b : Int} (hx : x.toInt = a) (hy : y.toInt = b) (h : ¬ a < b) : ifCond.holds .lt (lcmpW x y) = false ∧ ifCond.holds .ge (lcmpW x y) = true := by
  have q : ¬ x < y := by rw [Int64.lt_iff_toInt_lt]; omega
  rw [if0, if0]; exact ⟨(flt (fun r => q ((lw_lt x y).mp r))).1, (flt (fun r => q ((lw_lt x y).mp r))).2.1⟩
theorem own_Lgt {x y : Int64} {a b : Int} (hx : x.toInt = a) (hy : y.toInt = b) (h : b < a) : ifCond.holds .gt (lcmpW x y) = true ∧ ifCond.holds .le (lcmpW x y) = false := by
  have q : y < x := by rw [Int64.lt_iff_toInt_lt]; omega
  rw [if0, if0]; exact ⟨(tlt ((lw_gt x y).mpr q)).2.2.1, (tlt ((lw_gt x y).mpr q)).2.2.2⟩
theorem own_Lngt {x y : Int64} {a b : Int} (hx : x.toInt = a) (hy : y.toInt = b) (h : ¬ b < a) : ifCond.holds .gt (lcmpW x y) = false ∧ ifCond.holds .le (lcmpW x y) = true := by
  have q : ¬ y < x := by rw [Int64.lt_iff_toInt_lt]; omega
  rw [if0, if0]; exact ⟨(flt (fun r => q ((lw_gt x y).mp r))).2.2.1, (flt (fun r => q ((lw_gt x y).mp r))).2.2.2⟩
theorem own_Leq {x y : Int64} {a b : Int} (hx : x.toInt = a) (hy : y.toInt = b) (h : a = b) : ifCond.holds .eq (lcmpW x y) = true ∧ ifCond.holds .ne (lcmpW x y) = false := by
  have q : x = y := Int64.toInt_inj.mp (by omega)
  rw [if0, if0]; exact teq ((lw_eq x y).mpr q)
theorem own_Lneq {x y : Int64} {a b : Int} (hx : x.toInt = a) (hy : y.toInt = b) (h : ¬ a = b) : ifCond.holds .eq (lcmpW x y) = false ∧ ifCond.holds .ne (lcmpW x y) = true := by
  have q : ¬ x = y := fun r => h (by rw [← hx, ← hy, r])
  rw [if0, if0]; exact feq fun r => q ((lw_eq x y).mp r)
theorem own_ofNat {i : Nat} (h : i < 2147483648) : (Int32.ofNat i).toInt = (i : Int) := Int32.toInt_ofNat_small h
theorem own_ofNatS (i : Nat) : Int32.ofNat i + 1 = Int32.ofNat (i + 1) := (Int32.ofNat_add i 1).symm
theorem own_fieldInt {args : Array Value} {s : State} {t : Term} {C n d : String} {k : Int32} {w : Addr} (ht : t.eval args s none [] s = some (.ref w)) (h : (Jvm.Cond.eq (.field t C n d) (.int k)).value args s none s [] = some true) : Fld s s.heap w C n d (.int k) := by
  apply Fld.start
  obtain ⟨x, y, hx, hy, -, k2⟩ := cmp_v (Or.inl h)
  have hy' : y = .int k := Option.some.inj (hy.symm.trans (Term.int_eval k))
  subst hy'
  obtain ⟨z, rfl⟩ : ∃ z, x = .int z := k2
  have q := gotT (Cond.eq_ints hx hy) h
  subst q
  rw [← fld_at ht]; exact hx
end Jvm.RoadKit
namespace Jvm.RoadKit
open Sem ClassFile Op Lib Jvm.Stand Jvm.Free Jvm.LawKit
/-- own: the cache of small Integers, as the heap holds it -/
def OwnIC (Z : State) (h : Heap) : Prop := ∃ (ca : Addr) (cl : Cell), Sta Z h "java/lang/Integer$IntegerCache" "high" "I" (.int 127) ∧ Sta Z h "java/lang/Integer$IntegerCache" "cache" "[Ljava/lang/Integer;" (.ref ca) ∧ Arr Z h ca cl (.object "java/lang/Integer") ∧ cl.slots.size = 256 ∧ ∀ i, i < 256 → ∃ r, cl.slots[i]? = some (.ref r) ∧ Exa Z h r "java/lang/Integer"
theorem OwnIC.ext {Z : State} {h h' : Heap} (F : OwnIC Z h) (E : Ext h h') : OwnIC Z h' := by
  obtain ⟨ca, cl, S1, S2, A, sz, el⟩ := F
  exact ⟨ca, cl, S1.ext E, S2.ext E, A.ext E, sz, fun i hi => by obtain ⟨r, e, X⟩ := el i hi; exact ⟨r, e, X.ext E⟩⟩
theorem own_kext {h0 h : Heap} (K : Keep h0 h []) : Ext h0 h := ⟨K.1, fun x c q => K.2.1 x c q nin0⟩
theorem own_evInt {args : Array Value} {s : State} {t : Term} {k : Int32} (h : (Jvm.Cond.eq t (.int k)).value args s none s [] = some true) : t.eval args s none [] s = some (.int k) := by
  obtain ⟨x, y, hx, hy, -, k2⟩ := cmp_v (Or.inl h)
  have hy' : y = .int k := Option.some.inj (hy.symm.trans (Term.int_eval k))
  subst hy'
  obtain ⟨z, rfl⟩ : ∃ z, x = .int z := k2
  have q := gotT (Cond.eq_ints hx hy) h
  subst q
  exact hx
theorem own_ICstart {args : Array Value} {s : State} (h1 : (Jvm.Cond.initializedFor "java/lang/Integer$IntegerCache" "high" "I").before args s = true) (h2 : (Jvm.Cond.laysStatic "java/lang/Integer$IntegerCache" "cache" "[Ljava/lang/Integer;").before args s = true) (h3 : (Jvm.Cond.eq (.static "java/lang/Integer$IntegerCache" "high" "I") (.int 127)).before args s = true)
    (h4 : (Jvm.Cond.arrayOf (.static "java/lang/Integer$IntegerCache" "cache" "[Ljava/lang/Integer;") (.object "java/lang/Integer")).before args s = true) (h6 : (Jvm.Cond.eq (.length (.static "java/lang/Integer$IntegerCache" "cache" "[Ljava/lang/Integer;")) (.int 256)).before args s = true)
    {c2 : Jvm.Cond} (h7 : (Jvm.Cond.all (.static "java/lang/Integer$IntegerCache" "cache" "[Ljava/lang/Integer;") (.and (.exactly (.elem (.static "java/lang/Integer$IntegerCache" "cache" "[Ljava/lang/Integer;") (.index 0)) "java/lang/Integer") c2)).before args s = true) (hi : (Jvm.Cond.initialized "java/lang/Integer$IntegerCache").before args s = true) : OwnIC s s.heap := by
  have e3 := own_evInt (Cond.before_iff.mp h3)
  obtain ⟨ca, ev⟩ := arr_v (Cond.before_iff.mp h4)
  obtain ⟨cl, A⟩ := Arr.start ev (Cond.before_iff.mp h4)
  obtain ⟨l1, l2⟩ := IntBox.length_fwd h6 ev A.1 A.2.1 A.2.2
  have at' := IntBox.arrayAt_of A.1 A.2.1 A.2.2
  have sz : cl.slots.size = 256 := by
    have q := congrArg Int32.toInt l2
    rw [len_toInt l1] at q
    have e : (256 : Int32).toInt = 256 := by decide
    omega
  refine ⟨ca, cl, Sta.start e3 (Or.inl h1), Sta.start ev (Or.inr ⟨hi, h2⟩), A, sz, fun i hi' => ?_⟩
  have q := (and_e (Cond.all_elim ev at' (Cond.before_iff.mp h7) i (by omega))).1
  have ei : (Term.index 0).eval args s none (i :: []) s = some (.int i.toInt32) := rfl
  obtain ⟨a', c', cell, k, e1, e2, e3', e4, e5, e6, e7⟩ := Cond.exactly_spec (beq_iff_eq.mpr q : (Cond.exactly _ _).holds args s none s (i :: []) = true)
  have evI : (Term.static "java/lang/Integer$IntegerCache" "cache" "[Ljava/lang/Integer;").eval args s none (i :: []) s = some (.ref ca) := ev
  obtain ⟨c3, g1, g2, g3⟩ := elem_at e1 evI ei
  cases A.1.symm.trans g1
  refine ⟨a', ?_, ⟨cell, k, e3', e6 ▸ e2, e6 ▸ e4, e5, e7⟩⟩
  have ix : i.toInt32.toNatClampNeg = i := own_clamp (len_toInt (by omega))
  rw [ix] at g3; exact g3
/-- own: no object of C is one of the ordinary class K -/
theorem own_NSroot {Z : State} {a0 : Array Value} {O K : String} {n : Nat} (w : (Cond.noSuperclass O).before a0 Z = true) (wk : (Cond.instantiable K n).before a0 Z = true) (hn : O ≠ K) : NS Z O K := by
  obtain ⟨c, k, h1, h2, h3, -, -⟩ := Cond.noSuperclass_spec w
  obtain ⟨t, _, g1, -⟩ := Cond.instantiable_spec wk
  have ne := ids_ne h1 g1 hn
  refine ⟨c, t, h1, g1, fun fuel => ?_⟩
  cases fuel with
  | zero => rfl
  | succ f => simp [Vm.isSubclassAux, ne, h2, h3]
theorem own_NSno {Z : State} {a0 : Array Value} {C S K : String} {n : Nat} (w : (Cond.superclass C S).before a0 Z = true) (wk : (Cond.instantiable K n).before a0 Z = true) (nn : NS Z C K) (hn : C ≠ K) : ∃ c t, Z.vm.findClass C = some c ∧ Z.vm.findClass K = some t ∧ Z.vm.assignable c t = false := by
  obtain ⟨c, t, h0, g0, n3⟩ := nn
  obtain ⟨p, k, kp, h1, h2, h3, h4, h5, -, h7⟩ := Cond.superclass_spec h0 w
  obtain ⟨t', k', g1, g2, g3, g4, -⟩ := Cond.instantiable_spec wk
  cases g0.symm.trans g1
  have ne := ids_ne h0 g0 hn
  have g7 : k'.isInterface = false := by simp only [Bool.or_eq_false_iff] at g4; exact g4.1
  refine ⟨c, t, h0, g0, ?_⟩
  show Z.vm.assignableAux (255 + 1) c t = false
  simp [Vm.assignableAux, ne, h2, g2, h5, g3, g7, Vm.isSubclass, n3]
end Jvm.RoadKit
namespace Jvm.Pilot.@@N@@
open Jvm Jvm.ClassFile Sem Op Lib Jvm.Free Jvm.Stand Jvm.LawKit Jvm.RoadKit Bundle Jvm.Pilot.@@N@@.Jvm.D
def own_ng (a s : Int32) : Int32 := if a.toInt = 0 then (if (s &&& (1 : Int32)).toInt = 0 then 0 else 1) else 0
def own_nb (a s : Int32) : UInt64 := if (own_ng a s).toInt = 0 then FP.i2d a else 9223372036854775808
def own_qb (x z : Int64) : Int32 := if z.toInt = x.toInt then 1 else 0
theorem own_nn (a s : Int32) : Jvm.Free.Fl.NoNaN64 (own_nb a s) := by
  unfold own_nb
  split
  · exact (Jvm.Free.Fl.i2d_fin a).noNaN
  · unfold Jvm.Free.Fl.NoNaN64; decide
theorem own_back (a : Int32) : FP.d2i (FP.i2d a) = a := by
  have r := rng32 a
  have e := c_i2l a
  rw [i2d_w, d2i_w (by omega) (by omega)]
  exact Int32.toInt_inj.mp (by rw [Int64.toInt_toInt32, e]; exact Int.bmod_eq_of_le (by omega) (by omega))
theorem own_i2dz (a : Int32) : FP.i2d a ≠ 9223372036854775808 := fun h => by
  have q := own_back a
  rw [h] at q
  have z : FP.d2i 9223372036854775808 = 0 := by decide +kernel
  rw [z] at q
  subst q
  exact absurd h (by decide +kernel)
theorem own_u64 {x y : UInt64} (h : x.toInt64.toInt = y.toInt64.toInt) : x = y := by
  have q : x.toInt64 = y.toInt64 := Int64.toInt_inj.mp h
  have r := congrArg Int64.toUInt64 q
  simpa using r
theorem own_same {a b s t : Int32} (h : a.toInt = b.toInt) (g : (own_ng a s).toInt = (own_ng b t).toInt) : own_nb a s = own_nb b t := by
  have e : a = b := Int32.toInt_inj.mp h
  subst e
  unfold own_nb
  rw [g]
theorem own_ng0 {a s : Int32} (h : ¬ (own_ng a s).toInt = 0) : a = 0 := by
  unfold own_ng at h
  split at h
  · rename_i q; exact Int32.toInt_inj.mp (by rw [q]; decide)
  · exact absurd (by decide) h
theorem own_differ {a b s t : Int32} (h : ¬ a.toInt = b.toInt ∨ ¬ (own_ng a s).toInt = (own_ng b t).toInt) : own_nb a s ≠ own_nb b t := fun e => by
  unfold own_nb at e
  by_cases p : (own_ng a s).toInt = 0
  · by_cases q : (own_ng b t).toInt = 0
    · rw [if_pos p, if_pos q] at e
      have ab : a = b := by rw [← own_back a, e, own_back b]
      rcases h with h | h
      · exact h (by rw [ab])
      · exact h (by rw [p, q])
    · rw [if_pos p, if_neg q] at e; exact own_i2dz a e
  · by_cases q : (own_ng b t).toInt = 0
    · rw [if_neg p, if_pos q] at e; exact own_i2dz b e.symm
    · have a0 := own_ng0 p
      have b0 := own_ng0 q
      rcases h with h | h
      · exact h (by rw [a0, b0])
      · have o : ∀ u v : Int32, ¬ (own_ng u v).toInt = 0 → (own_ng u v).toInt = 1 := fun u v w => by
          unfold own_ng at w ⊢
          split at w
          · rename_i r; rw [if_pos r]; split at w
            · exact absurd (by decide) w
            · rename_i r2; rw [if_neg r2]; decide
          · exact absurd (by decide) w
        exact h (by rw [o _ _ p, o _ _ q])
theorem own_q1 {x z : UInt64} (h : x = z) : own_qb x.toInt64 z.toInt64 = 1 := if_pos (by rw [h])
theorem own_q0 {x z : UInt64} (h : x ≠ z) : own_qb x.toInt64 z.toInt64 = 0 := if_neg fun q => h (own_u64 q.symm)
theorem own_qs (x : Int64) : own_qb x x = 1 := if_pos rfl
theorem pd_0 : parseMethodDescriptor "(II)D" = some ⟨[.int, .int], some .double⟩ := by decide +kernel
theorem pd_1 : parseMethodDescriptor "(II)Z" = some ⟨[.int, .int], some .boolean⟩ := by decide +kernel
theorem pd_2 : parseMethodDescriptor "(D)V" = some ⟨[.double], none⟩ := by decide +kernel
theorem pd_3 : parseMethodDescriptor "()V" = some ⟨[], none⟩ := by decide +kernel
theorem pd_4 : parseMethodDescriptor "(D)Lcom/example/running_lineage/runninglineage/query/NumberKey;" = some ⟨[.double], some (.object "com/example/running_lineage/runninglineage/query/NumberKey")⟩ := by decide +kernel
theorem pd_5 : parseMethodDescriptor "(D)J" = some ⟨[.double], some .long⟩ := by decide +kernel
theorem pd_6 : parseMethodDescriptor "(D)Z" = some ⟨[.double], some .boolean⟩ := by decide +kernel
theorem pd_7 : parseMethodDescriptor "(Ljava/lang/Object;)Z" = some ⟨[(.object "java/lang/Object")], some .boolean⟩ := by decide +kernel
theorem pd_8 : parseMethodDescriptor "(I)Ljava/lang/Integer;" = some ⟨[.int], some (.object "java/lang/Integer")⟩ := by decide +kernel
theorem pd_9 : parseMethodDescriptor "(I)V" = some ⟨[.int], none⟩ := by decide +kernel
theorem d2_0 : decode method_2_code 0 = .ok (.iload_n 0, 1) := by decide +kernel
theorem d2_1 : decode method_2_code 1 = .ok (.ifCond .ne 13, 3) := by decide +kernel
theorem d2_4 : decode method_2_code 4 = .ok (.iload_n 1, 1) := by decide +kernel
theorem d2_5 : decode method_2_code 5 = .ok (.iconst 1, 1) := by decide +kernel
theorem d2_6 : decode method_2_code 6 = .ok (.iand, 1) := by decide +kernel
theorem d2_7 : decode method_2_code 7 = .ok (.ifCond .eq 7, 3) := by decide +kernel
theorem d2_10 : decode method_2_code 10 = .ok (.iconst 1, 1) := by decide +kernel
theorem d2_11 : decode method_2_code 11 = .ok (.goto 4, 3) := by decide +kernel
theorem d2_14 : decode method_2_code 14 = .ok (.iconst 0, 1) := by decide +kernel
theorem d2_15 : decode method_2_code 15 = .ok (.ireturn, 1) := by decide +kernel
theorem pn_2 : plainFor (⟨"com/example/running_lineage/runninglineage/query/NumberKeyEqualsPinLaw", "negZero", "(II)Z"⟩ : MethodName) = true := plainFor_of_name (by first | (simp [plainName, overriddenIn]; done) | decide +kernel)
theorem ef_2 (m : MethodId) (x0 : Int32) (x1 : Int32) : entryFrame m #[(.int x0), (.int x1)] 2 = mkF m 0 #[.val (.int x0), .val (.int x1)] [] := by first | (simp [entryFrame, mkF, argsToLocals, Value.category, maxLocals]; done) | rfl
def Q2 (Z : State) (a : Int32) (z : Int32) (h0 : Heap) (n0 : Nat) (v : Option Value) (h : Heap) (L : List Loc) : Prop := v = some (.int (own_ng a z)) ∧ Fr n0 L ∧ h = h0
set_option maxRecDepth 65536 in
set_option maxHeartbeats 40000000 in
theorem rm2 (l : Launch) (Z : State) (a0 : Array Value) (hw : ∀ d ∈ tables_1, d.before a0 Z = true) (ws : List Jvm.Cond) (a : Int32) (z : Int32) (h0 : Heap) (n0 : Nat) (Z0 : n0 ≤ h0.size) :
    MetFree l (⟨"com/example/running_lineage/runninglineage/query/NumberKeyEqualsPinLaw", "negZero", "(II)Z"⟩ : MethodName) (head1 (Jvm.Cond.code (⟨"com/example/running_lineage/runninglineage/query/NumberKeyEqualsPinLaw", "negZero", "(II)Z"⟩ : MethodName) method_2_code 2 (some .boolean) :: ws) ({ frames := 0, cells := 0, slots := 0, locals := 0 } : Room)) (fun arr' U => arr' = #[(.int a), (.int z)] ∧ Z.Warmed39 U.vm ∧ U.heap = h0) (fun _ _ _ _ _ => True) (fun _ U o U' => ∃ v L, o = .returned v ∧ (Q2 Z a z h0 n0) v U'.heap L ∧ FrameEnd U o U' L ({ frames := 0, cells := 0, slots := 0, locals := 0 } : Room).cells ({ frames := 0, cells := 0, slots := 0, locals := 0 } : Room).slots) := by
  refine MetFree.of_bodySF pn_2 hisR ?_
  intro p e s m args below meth c s₁ Bd hml0 hP hK
  obtain ⟨rfl, hZ, hh⟩ := hP
  have hx := Bd.exec
  have hby := Bd.bytes
  have hlk : meth.locks = false := BodyLoose.notSynchronized Bd
  have hml : c.maxLocals = 2 := hml0
  have hown : s.vm.findClass "com/example/running_lineage/runninglineage/query/NumberKeyEqualsPinLaw" = some m.cls := findClass_of_methodNamed Bd.named
  have hnm := (name_of_methodNamed Bd.named Bd.method).1
  have X0 : Stand p l e ({ frames := 0, cells := 0, slots := 0, locals := 0 } : Room) s m #[(.int a), (.int z)] below meth c s₁ [] 0 0 := Stand.of_body Bd
  have e0 : s₁.heap = h0 := by rw [← hh, Bd.state]; rfl
  have N := Fr.nil n0
  have Zs := Z0
  change OwnGo p.tables e below (OwnEnd s (Q2 Z a z h0 n0) ({ frames := 0, cells := 0, slots := 0, locals := 0 } : Room).cells ({ frames := 0, cells := 0, slots := 0, locals := 0 } : Room).slots) _
  refine OwnGo.fwd (fun tq' kq' => castTop (ef_2 m a z) kq') ?_
  show OwnGo _ _ _ _ (s₁.setTop (mkF m 0 #[.val (.int a), .val (.int z)] []))
  refine OwnGo.fwd (fun tq' kq' => XS.iloadN X0.here hx rfl (hb hby d2_0) rfl kq') ?_
  show OwnGo _ _ _ _ (s₁.setTop (mkF m 1 #[.val (.int a), .val (.int z)] [(.int a)]))
  by_cases hc1_1 : a.toInt = 0
  · refine OwnGo.fwd (fun tq' kq' => XS.ifNo X0.here hx rfl (hb hby d2_1) rfl ((if0 _ _).trans (own_beq rfl (by decide) hc1_1).2) kq') ?_
    show OwnGo _ _ _ _ (s₁.setTop (mkF m 4 #[.val (.int a), .val (.int z)] []))
    refine OwnGo.fwd (fun tq' kq' => XS.iloadN X0.here hx rfl (hb hby d2_4) rfl kq') ?_
    show OwnGo _ _ _ _ (s₁.setTop (mkF m 5 #[.val (.int a), .val (.int z)] [(.int z)]))
    refine OwnGo.fwd (fun tq' kq' => XS.iconst X0.here hx rfl (hb hby d2_5) kq') ?_
    show OwnGo _ _ _ _ (s₁.setTop (mkF m 6 #[.val (.int a), .val (.int z)] [(.int (1 : Int32)), (.int z)]))
    refine OwnGo.fwd (fun tq' kq' => XS.iand X0.here hx rfl (hb hby d2_6) rfl kq') ?_
    show OwnGo _ _ _ _ (s₁.setTop (mkF m 7 #[.val (.int a), .val (.int z)] [(.int (z &&& (1 : Int32)))]))
    by_cases hc7_2 : (z &&& (1 : Int32)).toInt = 0
    · refine OwnGo.fwd (fun tq' kq' => XS.ifYes X0.here hx rfl (pc0 := 7) (pc' := 14) rfl (hb hby d2_7) rfl ((if0 _ _).trans (own_beq rfl (by decide) hc7_2).1) (by decide) (by decide) kq') ?_
      show OwnGo _ _ _ _ (s₁.setTop (mkF m 14 #[.val (.int a), .val (.int z)] []))
      refine OwnGo.fwd (fun tq' kq' => XS.iconst X0.here hx rfl (hb hby d2_14) kq') ?_
      show OwnGo _ _ _ _ (s₁.setTop (mkF m 15 #[.val (.int a), .val (.int z)] [(.int (0 : Int32))]))
      exact own_retZ X0 hlk hx Bd.returns (hb hby d2_15) (by decide) (by decide) e0 ⟨by unfold own_ng; rw [if_pos hc1_1, if_pos hc7_2]; rfl, N, rfl⟩
    · refine OwnGo.fwd (fun tq' kq' => XS.ifNo X0.here hx rfl (hb hby d2_7) rfl ((if0 _ _).trans (own_bneq rfl (by decide) hc7_2).1) kq') ?_
      show OwnGo _ _ _ _ (s₁.setTop (mkF m 10 #[.val (.int a), .val (.int z)] []))
      refine OwnGo.fwd (fun tq' kq' => XS.iconst X0.here hx rfl (hb hby d2_10) kq') ?_
      show OwnGo _ _ _ _ (s₁.setTop (mkF m 11 #[.val (.int a), .val (.int z)] [(.int (1 : Int32))]))
      refine OwnGo.fwd (fun tq' kq' => XS.goto X0.here hx rfl (pc0 := 11) (pc' := 15) rfl (hb hby d2_11) (by decide) (by decide) kq') ?_
      show OwnGo _ _ _ _ (s₁.setTop (mkF m 15 #[.val (.int a), .val (.int z)] [(.int (1 : Int32))]))
      exact own_retZ X0 hlk hx Bd.returns (hb hby d2_15) (by decide) (by decide) e0 ⟨by unfold own_ng; rw [if_pos hc1_1, if_neg hc7_2]; rfl, N, rfl⟩
  · refine OwnGo.fwd (fun tq' kq' => XS.ifYes X0.here hx rfl (pc0 := 1) (pc' := 14) rfl (hb hby d2_1) rfl ((if0 _ _).trans (own_bneq rfl (by decide) hc1_1).2) (by decide) (by decide) kq') ?_
    show OwnGo _ _ _ _ (s₁.setTop (mkF m 14 #[.val (.int a), .val (.int z)] []))
    refine OwnGo.fwd (fun tq' kq' => XS.iconst X0.here hx rfl (hb hby d2_14) kq') ?_
    show OwnGo _ _ _ _ (s₁.setTop (mkF m 15 #[.val (.int a), .val (.int z)] [(.int (0 : Int32))]))
    exact own_retZ X0 hlk hx Bd.returns (hb hby d2_15) (by decide) (by decide) e0 ⟨by unfold own_ng; rw [if_neg hc1_1]; rfl, N, rfl⟩
theorem d1_0 : decode method_3_code 0 = .ok (.iload_n 0, 1) := by decide +kernel
theorem d1_1 : decode method_3_code 1 = .ok (.iload_n 1, 1) := by decide +kernel
theorem d1_2 : decode method_3_code 2 = .ok (.invokestatic 7, 3) := by decide +kernel
theorem d1_5 : decode method_3_code 5 = .ok (.ifCond .eq 7, 3) := by decide +kernel
theorem d1_8 : decode method_3_code 8 = .ok (.ldc2_w 13, 3) := by decide +kernel
theorem d1_11 : decode method_3_code 11 = .ok (.dreturn, 1) := by decide +kernel
theorem d1_12 : decode method_3_code 12 = .ok (.iload_n 0, 1) := by decide +kernel
theorem d1_13 : decode method_3_code 13 = .ok (.i2d, 1) := by decide +kernel
theorem d1_14 : decode method_3_code 14 = .ok (.dreturn, 1) := by decide +kernel
theorem pn_1 : plainFor (⟨"com/example/running_lineage/runninglineage/query/NumberKeyEqualsPinLaw", "num", "(II)D"⟩ : MethodName) = true := plainFor_of_name (by first | (simp [plainName, overriddenIn]; done) | decide +kernel)
theorem ef_1 (m : MethodId) (x0 : Int32) (x1 : Int32) : entryFrame m #[(.int x0), (.int x1)] 2 = mkF m 0 #[.val (.int x0), .val (.int x1)] [] := by first | (simp [entryFrame, mkF, argsToLocals, Value.category, maxLocals]; done) | rfl
def Q1 (Z : State) (a : Int32) (z : Int32) (h0 : Heap) (n0 : Nat) (v : Option Value) (h : Heap) (L : List Loc) : Prop := v = some (.double (own_nb a z)) ∧ Fr n0 L ∧ h = h0
set_option maxRecDepth 65536 in
set_option maxHeartbeats 40000000 in
theorem rm1 (l : Launch) (Z : State) (a0 : Array Value) (hw : ∀ d ∈ tables_1, d.before a0 Z = true) (ws : List Jvm.Cond) (a : Int32) (z : Int32) (h0 : Heap) (n0 : Nat) (Z0 : n0 ≤ h0.size) :
    MetFree l (⟨"com/example/running_lineage/runninglineage/query/NumberKeyEqualsPinLaw", "num", "(II)D"⟩ : MethodName) (head1 (Jvm.Cond.code (⟨"com/example/running_lineage/runninglineage/query/NumberKeyEqualsPinLaw", "num", "(II)D"⟩ : MethodName) method_3_code 2 (some .double) :: ws) ({ frames := 1, cells := 0, slots := 0, locals := 15 } : Room)) (fun arr' U => arr' = #[(.int a), (.int z)] ∧ Z.Warmed39 U.vm ∧ U.heap = h0) (fun _ _ _ _ _ => True) (fun _ U o U' => ∃ v L, o = .returned v ∧ (Q1 Z a z h0 n0) v U'.heap L ∧ FrameEnd U o U' L ({ frames := 1, cells := 0, slots := 0, locals := 15 } : Room).cells ({ frames := 1, cells := 0, slots := 0, locals := 15 } : Room).slots) := by
  refine MetFree.of_bodySF pn_1 hisR ?_
  intro p e s m args below meth c s₁ Bd hml0 hP hK
  obtain ⟨rfl, hZ, hh⟩ := hP
  have hx := Bd.exec
  have hby := Bd.bytes
  have hlk : meth.locks = false := BodyLoose.notSynchronized Bd
  have hml : c.maxLocals = 2 := hml0
  have hown : s.vm.findClass "com/example/running_lineage/runninglineage/query/NumberKeyEqualsPinLaw" = some m.cls := findClass_of_methodNamed Bd.named
  have hnm := (name_of_methodNamed Bd.named Bd.method).1
  have X0 : Stand p l e ({ frames := 1, cells := 0, slots := 0, locals := 15 } : Room) s m #[(.int a), (.int z)] below meth c s₁ [] 0 0 := Stand.of_body Bd
  have e0 : s₁.heap = h0 := by rw [← hh, Bd.state]; rfl
  have N := Fr.nil n0
  have Zs := Z0
  change OwnGo p.tables e below (OwnEnd s (Q1 Z a z h0 n0) ({ frames := 1, cells := 0, slots := 0, locals := 15 } : Room).cells ({ frames := 1, cells := 0, slots := 0, locals := 15 } : Room).slots) _
  refine OwnGo.fwd (fun tq' kq' => castTop (ef_1 m a z) kq') ?_
  show OwnGo _ _ _ _ (s₁.setTop (mkF m 0 #[.val (.int a), .val (.int z)] []))
  refine OwnGo.fwd (fun tq' kq' => XS.iloadN X0.here hx rfl (hb hby d1_0) rfl kq') ?_
  show OwnGo _ _ _ _ (s₁.setTop (mkF m 1 #[.val (.int a), .val (.int z)] [(.int a)]))
  refine OwnGo.fwd (fun tq' kq' => XS.iloadN X0.here hx rfl (hb hby d1_1) rfl kq') ?_
  show OwnGo _ _ _ _ (s₁.setTop (mkF m 2 #[.val (.int a), .val (.int z)] [(.int z), (.int a)]))
  obtain ⟨_, _, ⟨T1, L1, k1, n1⟩, -, X1, ⟨Lc1, hQ1, l1, y1, z1⟩, st1⟩ := Jvm.LawKit.callS X0 hx (y := (⟨"com/example/running_lineage/runninglineage/query/NumberKeyEqualsPinLaw", "negZero", "(II)Z"⟩ : MethodName)) hown (mvT hZ (hw _ (List.mem_of_getElem? (i := 7) rfl))) (mvT hZ (hw _ (List.mem_of_getElem? (i := 8) rfl))) (mvT hZ (hw _ (List.mem_of_getElem? (i := 5) rfl))) (mvT hZ (hw _ (List.mem_of_getElem? (i := 9) rfl))) (by decide) (backOf (W := 0) (rm2 l Z a0 hw [] a z h0 n0 Zs) hZ (hw _ (List.mem_of_getElem? (i := 9) rfl)) (hw _ (List.mem_of_getElem? (i := 5) rfl)) (by decide) (by decide)) (g := (mkF m 2 #[.val (.int a), .val (.int z)] [(.int z), (.int a)])) rfl (by rw [hml]; rfl) (argsL := [(.int a), (.int z)]) (rest := []) (lenOf pd_1 rfl) rfl (by show 2 * 0 + _ ≤ _; exact Nat.le_of_eq rfl) (hb hby d1_2) (fun _ _ => ⟨rfl, e0, (by decide : 0 + 0 ≤ _), (by decide : 0 + 0 ≤ _)⟩)
  dsimp only [Pt.U, Pt.locs, Pt.cells, Pt.slots] at X1 l1 y1 z1 st1 hQ1
  subst l1 y1 z1
  obtain ⟨rfl, N1q, e1⟩ := hQ1
  have N := Fr.app N N1q
  refine OwnGo.fwd st1 ?_
  show OwnGo _ _ _ _ (T1.setTop (mkF m 5 #[.val (.int a), .val (.int z)] [(.int (own_ng a z))]))
  by_cases hc5_2 : (own_ng a z).toInt = 0
  · refine OwnGo.fwd (fun tq' kq' => XS.ifYes X1.here hx rfl (pc0 := 5) (pc' := 12) rfl (hb hby d1_5) rfl ((if0 _ _).trans (own_beq rfl (by decide) hc5_2).1) (by decide) (by decide) kq') ?_
    show OwnGo _ _ _ _ (T1.setTop (mkF m 12 #[.val (.int a), .val (.int z)] []))
    refine OwnGo.fwd (fun tq' kq' => XS.iloadN X1.here hx rfl (hb hby d1_12) rfl kq') ?_
    show OwnGo _ _ _ _ (T1.setTop (mkF m 13 #[.val (.int a), .val (.int z)] [(.int a)]))
    refine OwnGo.fwd (fun tq' kq' => XS.i2dS X1.here hx rfl (hb hby d1_13) rfl rfl kq') ?_
    show OwnGo _ _ _ _ (T1.setTop (mkF m 14 #[.val (.int a), .val (.int z)] [(.double (FP.i2d a))]))
    exact own_retD X1 hlk hx Bd.returns (hb hby d1_14) (by decide) (by decide) e1 ⟨by unfold own_nb; rw [if_pos hc5_2], N, rfl⟩
  · refine OwnGo.fwd (fun tq' kq' => XS.ifNo X1.here hx rfl (hb hby d1_5) rfl ((if0 _ _).trans (own_bneq rfl (by decide) hc5_2).1) kq') ?_
    show OwnGo _ _ _ _ (T1.setTop (mkF m 8 #[.val (.int a), .val (.int z)] []))
    refine OwnGo.fwd (fun tq' kq' => X1.ldc2DoubleC hx hown (mvT hZ (hw _ (List.mem_of_getElem? (i := 40) rfl))) (g := (mkF m 8 #[.val (.int a), .val (.int z)] [])) rfl (hb hby d1_8) tq' kq') ?_
    show OwnGo _ _ _ _ (T1.setTop (mkF m 11 #[.val (.int a), .val (.int z)] [(.double (9223372036854775808 : UInt64))]))
    exact own_retD X1 hlk hx Bd.returns (hb hby d1_11) (by decide) (by decide) e1 ⟨by unfold own_nb; rw [if_neg hc5_2], N, rfl⟩
theorem d7_0 : decode jdk_117_method_6_code 0 = .ok (.dload_n 0, 1) := by decide +kernel
theorem d7_1 : decode jdk_117_method_6_code 1 = .ok (.dload_n 0, 1) := by decide +kernel
theorem d7_2 : decode jdk_117_method_6_code 2 = .ok (.dcmp .l, 1) := by decide +kernel
theorem d7_3 : decode jdk_117_method_6_code 3 = .ok (.ifCond .eq 7, 3) := by decide +kernel
theorem d7_6 : decode jdk_117_method_6_code 6 = .ok (.iconst 1, 1) := by decide +kernel
theorem d7_7 : decode jdk_117_method_6_code 7 = .ok (.goto 4, 3) := by decide +kernel
theorem d7_10 : decode jdk_117_method_6_code 10 = .ok (.iconst 0, 1) := by decide +kernel
theorem d7_11 : decode jdk_117_method_6_code 11 = .ok (.ireturn, 1) := by decide +kernel
theorem pn_7 : plainFor (⟨"java/lang/Double", "isNaN", "(D)Z"⟩ : MethodName) = true := plainFor_of_name (by first | (simp [plainName, overriddenIn]; done) | decide +kernel)
theorem ef_7 (m : MethodId) (x0 : UInt64) : entryFrame m #[(.double x0)] 2 = mkF m 0 #[.val (.double x0), .second] [] := by first | (simp [entryFrame, mkF, argsToLocals, Value.category, maxLocals]; done) | rfl
def Q7 (Z : State) (u : UInt64) (h0 : Heap) (n0 : Nat) (v : Option Value) (h : Heap) (L : List Loc) : Prop := v = some (.int 0) ∧ Fr n0 L ∧ h = h0
set_option maxRecDepth 65536 in
set_option maxHeartbeats 40000000 in
theorem rm7 (l : Launch) (Z : State) (a0 : Array Value) (hw : ∀ d ∈ tables_1, d.before a0 Z = true) (ws : List Jvm.Cond) (u : UInt64) (h0 : Heap) (n0 : Nat) (Z0 : n0 ≤ h0.size) (hnn : Jvm.Free.Fl.NoNaN64 u) :
    MetFree l (⟨"java/lang/Double", "isNaN", "(D)Z"⟩ : MethodName) (head1 (Jvm.Cond.code (⟨"java/lang/Double", "isNaN", "(D)Z"⟩ : MethodName) jdk_117_method_6_code 2 (some .boolean) :: ws) ({ frames := 0, cells := 0, slots := 0, locals := 0 } : Room)) (fun arr' U => arr' = #[(.double u)] ∧ Z.Warmed39 U.vm ∧ U.heap = h0) (fun _ _ _ _ _ => True) (fun _ U o U' => ∃ v L, o = .returned v ∧ (Q7 Z u h0 n0) v U'.heap L ∧ FrameEnd U o U' L ({ frames := 0, cells := 0, slots := 0, locals := 0 } : Room).cells ({ frames := 0, cells := 0, slots := 0, locals := 0 } : Room).slots) := by
  refine MetFree.of_bodySF pn_7 hisR ?_
  intro p e s m args below meth c s₁ Bd hml0 hP hK
  obtain ⟨rfl, hZ, hh⟩ := hP
  have hx := Bd.exec
  have hby := Bd.bytes
  have hlk : meth.locks = false := BodyLoose.notSynchronized Bd
  have hml : c.maxLocals = 2 := hml0
  have hown : s.vm.findClass "java/lang/Double" = some m.cls := findClass_of_methodNamed Bd.named
  have hnm := (name_of_methodNamed Bd.named Bd.method).1
  have X0 : Stand p l e ({ frames := 0, cells := 0, slots := 0, locals := 0 } : Room) s m #[(.double u)] below meth c s₁ [] 0 0 := Stand.of_body Bd
  have e0 : s₁.heap = h0 := by rw [← hh, Bd.state]; rfl
  have N := Fr.nil n0
  have Zs := Z0
  change OwnGo p.tables e below (OwnEnd s (Q7 Z u h0 n0) ({ frames := 0, cells := 0, slots := 0, locals := 0 } : Room).cells ({ frames := 0, cells := 0, slots := 0, locals := 0 } : Room).slots) _
  refine OwnGo.fwd (fun tq' kq' => castTop (ef_7 m u) kq') ?_
  show OwnGo _ _ _ _ (s₁.setTop (mkF m 0 #[.val (.double u), .second] []))
  refine OwnGo.fwd (fun tq' kq' => XS.dloadN X0.here hx rfl (hb hby d7_0) rfl kq') ?_
  show OwnGo _ _ _ _ (s₁.setTop (mkF m 1 #[.val (.double u), .second] [(.double u)]))
  refine OwnGo.fwd (fun tq' kq' => XS.dloadN X0.here hx rfl (hb hby d7_1) rfl kq') ?_
  show OwnGo _ _ _ _ (s₁.setTop (mkF m 2 #[.val (.double u), .second] [(.double u), (.double u)]))
  refine OwnGo.fwd (fun tq' kq' => XS.dcmpS X0.here hx rfl (hb hby d7_2) rfl rfl kq') ?_
  show OwnGo _ _ _ _ (s₁.setTop (mkF m 3 #[.val (.double u), .second] [(.int (cmpValue (FP.dcmp u u) .l))]))
  have hc3_1 : (cmpValue (FP.dcmp u u) .l).toInt = 0 := by rw [dcmpV_self hnn]; decide
  refine OwnGo.fwd (fun tq' kq' => XS.ifYes X0.here hx rfl (pc0 := 3) (pc' := 10) rfl (hb hby d7_3) rfl ((if0 _ _).trans (own_beq rfl (by decide) hc3_1).1) (by decide) (by decide) kq') ?_
  show OwnGo _ _ _ _ (s₁.setTop (mkF m 10 #[.val (.double u), .second] []))
  refine OwnGo.fwd (fun tq' kq' => XS.iconst X0.here hx rfl (hb hby d7_10) kq') ?_
  show OwnGo _ _ _ _ (s₁.setTop (mkF m 11 #[.val (.double u), .second] [(.int (0 : Int32))]))
  exact own_retZ X0 hlk hx Bd.returns (hb hby d7_11) (by decide) (by decide) e0 ⟨rfl, N, rfl⟩
theorem d6_0 : decode jdk_117_method_23_code 0 = .ok (.dload_n 0, 1) := by decide +kernel
theorem d6_1 : decode jdk_117_method_23_code 1 = .ok (.invokestatic 122, 3) := by decide +kernel
theorem d6_4 : decode jdk_117_method_23_code 4 = .ok (.ifCond .ne 8, 3) := by decide +kernel
theorem d6_7 : decode jdk_117_method_23_code 7 = .ok (.dload_n 0, 1) := by decide +kernel
theorem d6_8 : decode jdk_117_method_23_code 8 = .ok (.invokestatic 134, 3) := by decide +kernel
theorem d6_11 : decode jdk_117_method_23_code 11 = .ok (.lreturn, 1) := by decide +kernel
theorem d6_12 : decode jdk_117_method_23_code 12 = .ok (.ldc2_w 137, 3) := by decide +kernel
theorem d6_15 : decode jdk_117_method_23_code 15 = .ok (.lreturn, 1) := by decide +kernel
theorem pn_6 : plainFor (⟨"java/lang/Double", "doubleToLongBits", "(D)J"⟩ : MethodName) = true := plainFor_of_name (by first | (simp [plainName, overriddenIn]; done) | decide +kernel)
theorem ef_6 (m : MethodId) (x0 : UInt64) : entryFrame m #[(.double x0)] 2 = mkF m 0 #[.val (.double x0), .second] [] := by first | (simp [entryFrame, mkF, argsToLocals, Value.category, maxLocals]; done) | rfl
def Q6 (Z : State) (u : UInt64) (h0 : Heap) (n0 : Nat) (v : Option Value) (h : Heap) (L : List Loc) : Prop := v = some (.long u.toInt64) ∧ Fr n0 L ∧ h = h0
set_option maxRecDepth 65536 in
set_option maxHeartbeats 40000000 in
theorem rm6 (l : Launch) (Z : State) (a0 : Array Value) (hw : ∀ d ∈ tables_1, d.before a0 Z = true) (ws : List Jvm.Cond) (u : UInt64) (h0 : Heap) (n0 : Nat) (Z0 : n0 ≤ h0.size) (hnn : Jvm.Free.Fl.NoNaN64 u) :
    MetFree l (⟨"java/lang/Double", "doubleToLongBits", "(D)J"⟩ : MethodName) (head1 (Jvm.Cond.code (⟨"java/lang/Double", "doubleToLongBits", "(D)J"⟩ : MethodName) jdk_117_method_23_code 2 (some .long) :: ws) ({ frames := 1, cells := 0, slots := 0, locals := 20 } : Room)) (fun arr' U => arr' = #[(.double u)] ∧ Z.Warmed39 U.vm ∧ U.heap = h0) (fun _ _ _ _ _ => True) (fun _ U o U' => ∃ v L, o = .returned v ∧ (Q6 Z u h0 n0) v U'.heap L ∧ FrameEnd U o U' L ({ frames := 1, cells := 0, slots := 0, locals := 20 } : Room).cells ({ frames := 1, cells := 0, slots := 0, locals := 20 } : Room).slots) := by
  refine MetFree.of_bodySF pn_6 hisR ?_
  intro p e s m args below meth c s₁ Bd hml0 hP hK
  obtain ⟨rfl, hZ, hh⟩ := hP
  have hx := Bd.exec
  have hby := Bd.bytes
  have hlk : meth.locks = false := BodyLoose.notSynchronized Bd
  have hml : c.maxLocals = 2 := hml0
  have hown : s.vm.findClass "java/lang/Double" = some m.cls := findClass_of_methodNamed Bd.named
  have hnm := (name_of_methodNamed Bd.named Bd.method).1
  have X0 : Stand p l e ({ frames := 1, cells := 0, slots := 0, locals := 20 } : Room) s m #[(.double u)] below meth c s₁ [] 0 0 := Stand.of_body Bd
  have e0 : s₁.heap = h0 := by rw [← hh, Bd.state]; rfl
  have N := Fr.nil n0
  have Zs := Z0
  change OwnGo p.tables e below (OwnEnd s (Q6 Z u h0 n0) ({ frames := 1, cells := 0, slots := 0, locals := 20 } : Room).cells ({ frames := 1, cells := 0, slots := 0, locals := 20 } : Room).slots) _
  refine OwnGo.fwd (fun tq' kq' => castTop (ef_6 m u) kq') ?_
  show OwnGo _ _ _ _ (s₁.setTop (mkF m 0 #[.val (.double u), .second] []))
  refine OwnGo.fwd (fun tq' kq' => XS.dloadN X0.here hx rfl (hb hby d6_0) rfl kq') ?_
  show OwnGo _ _ _ _ (s₁.setTop (mkF m 1 #[.val (.double u), .second] [(.double u)]))
  obtain ⟨_, _, ⟨T1, L1, k1, n1⟩, -, X1, ⟨Lc1, hQ1, l1, y1, z1⟩, st1⟩ := Jvm.LawKit.callS X0 hx (y := (⟨"java/lang/Double", "isNaN", "(D)Z"⟩ : MethodName)) hown (mvT hZ (hw _ (List.mem_of_getElem? (i := 25) rfl))) (mvT hZ (hw _ (List.mem_of_getElem? (i := 26) rfl))) (mvT hZ (hw _ (List.mem_of_getElem? (i := 23) rfl))) (mvT hZ (hw _ (List.mem_of_getElem? (i := 27) rfl))) (by decide) (backOf (W := 0) (rm7 l Z a0 hw [] u h0 n0 Zs hnn) hZ (hw _ (List.mem_of_getElem? (i := 27) rfl)) (hw _ (List.mem_of_getElem? (i := 23) rfl)) (by decide) (by decide)) (g := (mkF m 1 #[.val (.double u), .second] [(.double u)])) rfl (by rw [hml]; rfl) (argsL := [(.double u)]) (rest := []) (lenOf pd_6 rfl) rfl (by show 2 * 0 + _ ≤ _; exact Nat.le_of_eq rfl) (hb hby d6_1) (fun _ _ => ⟨rfl, e0, (by decide : 0 + 0 ≤ _), (by decide : 0 + 0 ≤ _)⟩)
  dsimp only [Pt.U, Pt.locs, Pt.cells, Pt.slots] at X1 l1 y1 z1 st1 hQ1
  subst l1 y1 z1
  obtain ⟨rfl, N1q, e1⟩ := hQ1
  have N := Fr.app N N1q
  refine OwnGo.fwd st1 ?_
  show OwnGo _ _ _ _ (T1.setTop (mkF m 4 #[.val (.double u), .second] [(.int (0 : Int32))]))
  have hc4_2 : (0 : Int) = (0 : Int) := rfl
  refine OwnGo.fwd (fun tq' kq' => XS.ifNo X1.here hx rfl (hb hby d6_4) rfl ((if0 _ _).trans (own_beq (by decide) (by decide) hc4_2).2) kq') ?_
  show OwnGo _ _ _ _ (T1.setTop (mkF m 7 #[.val (.double u), .second] []))
  refine OwnGo.fwd (fun tq' kq' => XS.dloadN X1.here hx rfl (hb hby d6_7) rfl kq') ?_
  show OwnGo _ _ _ _ (T1.setTop (mkF m 8 #[.val (.double u), .second] [(.double u)]))
  obtain ⟨vm3, X3, st3⟩ := X1.doubleToRawLongBits hx hown (mvT hZ (hw _ (List.mem_of_getElem? (i := 28) rfl))) (mvT hZ (hw _ (List.mem_of_getElem? (i := 30) rfl))) (mvT hZ (hw _ (List.mem_of_getElem? (i := 29) rfl))) (mvT hZ (hw _ (List.mem_of_getElem? (i := 23) rfl))) (g := (mkF m 8 #[.val (.double u), .second] [(.double u)])) rfl (by rw [hml]; rfl) rfl (hb hby d6_8) (by decide) (by show 2 * 0 + 0 + (nativeFrameWords "java/lang/Double" "doubleToRawLongBits" 2 + 11) ≤ _; decide)
  have e3 : (T1.setVm vm3).heap = h0 := e1
  refine OwnGo.fwd st3 ?_
  show OwnGo _ _ _ _ ((T1.setVm vm3).setTop (mkF m 11 #[.val (.double u), .second] [(.long u.toInt64)]))
  exact own_retJ X3 hlk hx Bd.returns (hb hby d6_11) (by decide) (by decide) e3 ⟨rfl, N, rfl⟩
theorem d5_0 : decode prog_97_method_2_code 0 = .ok (.aload_n 0, 1) := by decide +kernel
theorem d5_1 : decode prog_97_method_2_code 1 = .ok (.dload_n 1, 1) := by decide +kernel
theorem d5_2 : decode prog_97_method_2_code 2 = .ok (.invokestatic 13, 3) := by decide +kernel
theorem d5_5 : decode prog_97_method_2_code 5 = .ok (.putfield 19, 3) := by decide +kernel
theorem d5_8 : decode prog_97_method_2_code 8 = .ok (.aload_n 0, 1) := by decide +kernel
theorem d5_9 : decode prog_97_method_2_code 9 = .ok (.areturn, 1) := by decide +kernel
theorem pn_5 : plainFor (⟨"com/example/running_lineage/runninglineage/query/NumberKey", "set", "(D)Lcom/example/running_lineage/runninglineage/query/NumberKey;"⟩ : MethodName) = true := plainFor_of_name (by first | (simp [plainName, overriddenIn]; done) | decide +kernel)
theorem ef_5 (m : MethodId) (x0 : Addr) (x1 : UInt64) : entryFrame m #[(.ref x0), (.double x1)] 3 = mkF m 0 #[.val (.ref x0), .val (.double x1), .second] [] := by first | (simp [entryFrame, mkF, argsToLocals, Value.category, maxLocals]; done) | rfl
def Q5 (Z : State) (a : Addr) (u : UInt64) (h0 : Heap) (n0 : Nat) (v : Option Value) (h : Heap) (L : List Loc) : Prop := v = some (.ref a) ∧ Fr n0 L ∧ Keep h0 h [a] ∧ Exa Z h a "com/example/running_lineage/runninglineage/query/NumberKey" ∧ Fld Z h a "com/example/running_lineage/runninglineage/query/NumberKey" "bits" "J" (.long u.toInt64)
set_option maxRecDepth 65536 in
set_option maxHeartbeats 40000000 in
theorem rm5 (l : Launch) (Z : State) (a0 : Array Value) (hw : ∀ d ∈ tables_1, d.before a0 Z = true) (ws : List Jvm.Cond) (a : Addr) (u : UInt64) (h0 : Heap) (n0 : Nat) (Z0 : n0 ≤ h0.size) (E_a : Exa Z h0 a "com/example/running_lineage/runninglineage/query/NumberKey") (F_bits_a : Fld Z h0 a "com/example/running_lineage/runninglineage/query/NumberKey" "bits" "J" (.long 0)) (g_a : n0 ≤ a) (hnn : Jvm.Free.Fl.NoNaN64 u) :
    MetFree l (⟨"com/example/running_lineage/runninglineage/query/NumberKey", "set", "(D)Lcom/example/running_lineage/runninglineage/query/NumberKey;"⟩ : MethodName) (head1 (Jvm.Cond.code (⟨"com/example/running_lineage/runninglineage/query/NumberKey", "set", "(D)Lcom/example/running_lineage/runninglineage/query/NumberKey;"⟩ : MethodName) prog_97_method_2_code 3 (some (.object "com/example/running_lineage/runninglineage/query/NumberKey")) :: ws) ({ frames := 2, cells := 0, slots := 0, locals := 40 } : Room)) (fun arr' U => arr' = #[(.ref a), (.double u)] ∧ Z.Warmed39 U.vm ∧ U.heap = h0) (fun _ _ _ _ _ => True) (fun _ U o U' => ∃ v L, o = .returned v ∧ (Q5 Z a u h0 n0) v U'.heap L ∧ FrameEnd U o U' L ({ frames := 2, cells := 0, slots := 0, locals := 40 } : Room).cells ({ frames := 2, cells := 0, slots := 0, locals := 40 } : Room).slots) := by
  refine MetFree.of_bodySF pn_5 hisR ?_
  intro p e s m args below meth c s₁ Bd hml0 hP hK
  obtain ⟨rfl, hZ, hh⟩ := hP
  have hx := Bd.exec
  have hby := Bd.bytes
  have hlk : meth.locks = false := BodyLoose.notSynchronized Bd
  have hml : c.maxLocals = 3 := hml0
  have hown : s.vm.findClass "com/example/running_lineage/runninglineage/query/NumberKey" = some m.cls := findClass_of_methodNamed Bd.named
  have hnm := (name_of_methodNamed Bd.named Bd.method).1
  have X0 : Stand p l e ({ frames := 2, cells := 0, slots := 0, locals := 40 } : Room) s m #[(.ref a), (.double u)] below meth c s₁ [] 0 0 := Stand.of_body Bd
  have e0 : s₁.heap = h0 := by rw [← hh, Bd.state]; rfl
  have N := Fr.nil n0
  have Zs := Z0
  change OwnGo p.tables e below (OwnEnd s (Q5 Z a u h0 n0) ({ frames := 2, cells := 0, slots := 0, locals := 40 } : Room).cells ({ frames := 2, cells := 0, slots := 0, locals := 40 } : Room).slots) _
  refine OwnGo.fwd (fun tq' kq' => castTop (ef_5 m a u) kq') ?_
  show OwnGo _ _ _ _ (s₁.setTop (mkF m 0 #[.val (.ref a), .val (.double u), .second] []))
  have K : Keep h0 h0 [a] := Keep.refl _ _
  refine OwnGo.fwd (fun tq' kq' => XS.aloadN X0.here hx rfl (hb hby d5_0) rfl rfl kq') ?_
  show OwnGo _ _ _ _ (s₁.setTop (mkF m 1 #[.val (.ref a), .val (.double u), .second] [(.ref a)]))
  refine OwnGo.fwd (fun tq' kq' => XS.dloadN X0.here hx rfl (hb hby d5_1) rfl kq') ?_
  show OwnGo _ _ _ _ (s₁.setTop (mkF m 2 #[.val (.ref a), .val (.double u), .second] [(.double u), (.ref a)]))
  obtain ⟨_, _, ⟨T1, L1, k1, n1⟩, -, X1, ⟨Lc1, hQ1, l1, y1, z1⟩, st1⟩ := Jvm.LawKit.callS X0 hx (y := (⟨"java/lang/Double", "doubleToLongBits", "(D)J"⟩ : MethodName)) hown (mvT hZ (hw _ (List.mem_of_getElem? (i := 21) rfl))) (mvT hZ (hw _ (List.mem_of_getElem? (i := 22) rfl))) (mvT hZ (hw _ (List.mem_of_getElem? (i := 23) rfl))) (mvT hZ (hw _ (List.mem_of_getElem? (i := 24) rfl))) (by decide) (backOf (W := 1) (rm6 l Z a0 hw [] u h0 n0 Zs hnn) hZ (hw _ (List.mem_of_getElem? (i := 24) rfl)) (hw _ (List.mem_of_getElem? (i := 23) rfl)) (by decide) (by decide)) (g := (mkF m 2 #[.val (.ref a), .val (.double u), .second] [(.double u), (.ref a)])) rfl (by rw [hml]; rfl) (argsL := [(.double u)]) (rest := [(.ref a)]) (lenOf pd_5 rfl) rfl (by show 2 * 0 + _ ≤ _; exact Nat.le_of_eq rfl) (hb hby d5_2) (fun _ _ => ⟨rfl, e0, (by decide : 0 + 0 ≤ _), (by decide : 0 + 0 ≤ _)⟩)
  dsimp only [Pt.U, Pt.locs, Pt.cells, Pt.slots] at X1 l1 y1 z1 st1 hQ1
  subst l1 y1 z1
  obtain ⟨rfl, N1q, e1⟩ := hQ1
  have N := Fr.app N N1q
  refine OwnGo.fwd st1 ?_
  show OwnGo _ _ _ _ (T1.setTop (mkF m 5 #[.val (.ref a), .val (.double u), .second] [(.long u.toInt64), (.ref a)]))
  obtain ⟨T2, h2, X2, e2, W2, st2⟩ := putF X1 hx hZ hown (host := "") (Or.inl (hw _ (List.mem_of_getElem? (i := 31) rfl))) Via.refl e1 F_bits_a E_a (Or.inl (hw _ (List.mem_of_getElem? (i := 32) rfl))) (hw _ (List.mem_of_getElem? (i := 1) rfl)) (ty := .long) (by decide) rfl rfl (g := (mkF m 5 #[.val (.ref a), .val (.double u), .second] [(.long u.toInt64), (.ref a)])) rfl rfl (hb hby d5_5)
  have E_a := E_a.wr W2
  have F_bits_a := F_bits_a.same W2
  have K := K.wr W2 (Or.inl (List.mem_of_getElem? (i := 0) rfl))
  have Zs := Nat.le_trans Zs (Keep.of_wr W2).1
  have N := Fr.snoc X2 N g_a
  refine OwnGo.fwd st2 ?_
  show OwnGo _ _ _ _ (T2.setTop (mkF m 8 #[.val (.ref a), .val (.double u), .second] []))
  refine OwnGo.fwd (fun tq' kq' => XS.aloadN X2.here hx rfl (hb hby d5_8) rfl rfl kq') ?_
  show OwnGo _ _ _ _ (T2.setTop (mkF m 9 #[.val (.ref a), .val (.double u), .second] [(.ref a)]))
  exact own_retA X2 hlk hx Bd.returns rfl rfl (hb hby d5_9) (by decide) (by decide) e2 ⟨rfl, N, K, E_a, F_bits_a⟩
theorem d3_0 : decode prog_97_method_1_code 0 = .ok (.aload_n 0, 1) := by decide +kernel
theorem d3_1 : decode prog_97_method_1_code 1 = .ok (.invokespecial 1, 3) := by decide +kernel
theorem d3_4 : decode prog_97_method_1_code 4 = .ok (.aload_n 0, 1) := by decide +kernel
theorem d3_5 : decode prog_97_method_1_code 5 = .ok (.dload_n 1, 1) := by decide +kernel
theorem d3_6 : decode prog_97_method_1_code 6 = .ok (.invokevirtual 7, 3) := by decide +kernel
theorem d3_9 : decode prog_97_method_1_code 9 = .ok (.pop, 1) := by decide +kernel
theorem d3_10 : decode prog_97_method_1_code 10 = .ok (.return_, 1) := by decide +kernel
theorem pn_3 : plainFor (⟨"com/example/running_lineage/runninglineage/query/NumberKey", "<init>", "(D)V"⟩ : MethodName) = true := plainFor_of_name (by first | (simp [plainName, overriddenIn]; done) | decide +kernel)
theorem ef_3 (m : MethodId) (x0 : Addr) (x1 : UInt64) : entryFrame m #[(.ref x0), (.double x1)] 3 = mkF m 0 #[.val (.ref x0), .val (.double x1), .second] [] := by first | (simp [entryFrame, mkF, argsToLocals, Value.category, maxLocals]; done) | rfl
def Q3 (Z : State) (a : Addr) (u : UInt64) (h0 : Heap) (n0 : Nat) (v : Option Value) (h : Heap) (L : List Loc) : Prop := v = none ∧ Fr n0 L ∧ Keep h0 h [a] ∧ Exa Z h a "com/example/running_lineage/runninglineage/query/NumberKey" ∧ Fld Z h a "com/example/running_lineage/runninglineage/query/NumberKey" "bits" "J" (.long u.toInt64)
set_option maxRecDepth 65536 in
set_option maxHeartbeats 40000000 in
theorem rm3 (l : Launch) (Z : State) (a0 : Array Value) (hw : ∀ d ∈ tables_1, d.before a0 Z = true) (ws : List Jvm.Cond) (a : Addr) (u : UInt64) (h0 : Heap) (n0 : Nat) (Z0 : n0 ≤ h0.size) (E_a : Exa Z h0 a "com/example/running_lineage/runninglineage/query/NumberKey") (F_bits_a : Fld Z h0 a "com/example/running_lineage/runninglineage/query/NumberKey" "bits" "J" (.long 0)) (g_a : n0 ≤ a) (hnn : Jvm.Free.Fl.NoNaN64 u) :
    MetFree l (⟨"com/example/running_lineage/runninglineage/query/NumberKey", "<init>", "(D)V"⟩ : MethodName) (head1 (Jvm.Cond.code (⟨"com/example/running_lineage/runninglineage/query/NumberKey", "<init>", "(D)V"⟩ : MethodName) prog_97_method_1_code 3 none :: ws) ({ frames := 3, cells := 0, slots := 0, locals := 60 } : Room)) (fun arr' U => arr' = #[(.ref a), (.double u)] ∧ Z.Warmed39 U.vm ∧ U.heap = h0) (fun _ _ _ _ _ => True) (fun _ U o U' => ∃ v L, o = .returned v ∧ (Q3 Z a u h0 n0) v U'.heap L ∧ FrameEnd U o U' L ({ frames := 3, cells := 0, slots := 0, locals := 60 } : Room).cells ({ frames := 3, cells := 0, slots := 0, locals := 60 } : Room).slots) := by
  refine MetFree.of_bodySF pn_3 hisR ?_
  intro p e s m args below meth c s₁ Bd hml0 hP hK
  obtain ⟨rfl, hZ, hh⟩ := hP
  have hx := Bd.exec
  have hby := Bd.bytes
  have hlk : meth.locks = false := BodyLoose.notSynchronized Bd
  have hml : c.maxLocals = 3 := hml0
  have hown : s.vm.findClass "com/example/running_lineage/runninglineage/query/NumberKey" = some m.cls := findClass_of_methodNamed Bd.named
  have hnm := (name_of_methodNamed Bd.named Bd.method).1
  have X0 : Stand p l e ({ frames := 3, cells := 0, slots := 0, locals := 60 } : Room) s m #[(.ref a), (.double u)] below meth c s₁ [] 0 0 := Stand.of_body Bd
  have e0 : s₁.heap = h0 := by rw [← hh, Bd.state]; rfl
  have N := Fr.nil n0
  have Zs := Z0
  change OwnGo p.tables e below (OwnEnd s (Q3 Z a u h0 n0) ({ frames := 3, cells := 0, slots := 0, locals := 60 } : Room).cells ({ frames := 3, cells := 0, slots := 0, locals := 60 } : Room).slots) _
  refine OwnGo.fwd (fun tq' kq' => castTop (ef_3 m a u) kq') ?_
  show OwnGo _ _ _ _ (s₁.setTop (mkF m 0 #[.val (.ref a), .val (.double u), .second] []))
  have K : Keep h0 h0 [a] := Keep.refl _ _
  refine OwnGo.fwd (fun tq' kq' => XS.aloadN X0.here hx rfl (hb hby d3_0) rfl rfl kq') ?_
  show OwnGo _ _ _ _ (s₁.setTop (mkF m 1 #[.val (.ref a), .val (.double u), .second] [(.ref a)]))
  obtain ⟨T1, X1, e1, st1⟩ := initO X0 hx hZ hown (hw _ (List.mem_of_getElem? (i := 13) rfl)) (hw _ (List.mem_of_getElem? (i := 14) rfl)) (hw _ (List.mem_of_getElem? (i := 15) rfl)) e0 (g := (mkF m 1 #[.val (.ref a), .val (.double u), .second] [(.ref a)])) rfl (by rw [hml]; rfl) rfl (hb hby d3_1) (by decide) (W := 0) (by show 2 * 0 + _ ≤ _; exact Nat.le_of_eq rfl) (by decide)
  refine OwnGo.fwd st1 ?_
  show OwnGo _ _ _ _ (T1.setTop (mkF m 4 #[.val (.ref a), .val (.double u), .second] []))
  refine OwnGo.fwd (fun tq' kq' => XS.aloadN X1.here hx rfl (hb hby d3_4) rfl rfl kq') ?_
  show OwnGo _ _ _ _ (T1.setTop (mkF m 5 #[.val (.ref a), .val (.double u), .second] [(.ref a)]))
  refine OwnGo.fwd (fun tq' kq' => XS.dloadN X1.here hx rfl (hb hby d3_5) rfl kq') ?_
  show OwnGo _ _ _ _ (T1.setTop (mkF m 6 #[.val (.ref a), .val (.double u), .second] [(.double u), (.ref a)]))
  obtain ⟨cq2, kq2, q2a, q2b, q2c⟩ := isOf hZ e1 E_a
  obtain ⟨_, _, ⟨T2, L2, k2, n2⟩, -, X2, ⟨Lc2, hQ2, l2, y2, z2⟩, st2⟩ := X1.virtualBack hx (y := (⟨"com/example/running_lineage/runninglineage/query/NumberKey", "set", "(D)Lcom/example/running_lineage/runninglineage/query/NumberKey;"⟩ : MethodName)) (z := (⟨"com/example/running_lineage/runninglineage/query/NumberKey", "set", "(D)Lcom/example/running_lineage/runninglineage/query/NumberKey;"⟩ : MethodName)) hown (mvT hZ (hw _ (List.mem_of_getElem? (i := 16) rfl))) (mvT hZ (hw _ (List.mem_of_getElem? (i := 17) rfl))) (notFace_of_selects (args := #[]) (mvT hZ (hw _ (List.mem_of_getElem? (i := 19) rfl)))) (mvT hZ (hw _ (List.mem_of_getElem? (i := 19) rfl))) (mvT hZ (hw _ (List.mem_of_getElem? (i := 18) rfl))) (by decide) (backOf (W := 0) (rm5 l Z a0 hw [] a u h0 n0 Zs E_a F_bits_a g_a hnn) hZ (hw _ (List.mem_of_getElem? (i := 20) rfl)) (hw _ (List.mem_of_getElem? (i := 2) rfl)) (by decide) (by decide)) q2a q2c (g := (mkF m 6 #[.val (.ref a), .val (.double u), .second] [(.double u), (.ref a)])) rfl (by rw [hml]; rfl) (Steps.refl _) (argsL := [(.double u)]) (rest := []) (lenOf pd_4 rfl) rfl (by show 2 * 0 + _ ≤ _; exact Nat.le_of_eq rfl) (hb hby d3_6) (fun _ _ => ⟨rfl, e1, (by decide : 0 + 0 ≤ _), (by decide : 0 + 0 ≤ _)⟩)
  dsimp only [Pt.U, Pt.locs, Pt.cells, Pt.slots] at X2 l2 y2 z2 st2 hQ2
  subst l2 y2 z2
  obtain ⟨h2, eh2⟩ : ∃ z, z = T2.heap := ⟨_, rfl⟩
  rw [← eh2] at hQ2
  obtain ⟨rfl, N2q, K2, E_a, F_bits_a⟩ := hQ2
  have N := Fr.app N N2q
  have Zs := Nat.le_trans Zs K2.1
  have K := K.trans K2 (allS (Or.inl (List.mem_of_getElem? (i := 0) rfl)) all0)
  refine OwnGo.thru st2 ?_
  show OwnGo _ _ _ _ (T2.setTop (mkF m 9 #[.val (.ref a), .val (.double u), .second] [(.ref a)]))
  refine OwnGo.fwd (fun tq' kq' => XS.pop X2.here hx rfl (hb hby d3_9) rfl rfl kq') ?_
  show OwnGo _ _ _ _ (T2.setTop (mkF m 10 #[.val (.ref a), .val (.double u), .second] []))
  exact own_retV X2 hlk hx Bd.returns (hb hby d3_10) (by decide) (by decide) eh2.symm ⟨rfl, N, K, E_a, F_bits_a⟩
theorem d8_0 : decode prog_97_method_3_code 0 = .ok (.aload_n 1, 1) := by decide +kernel
theorem d8_1 : decode prog_97_method_3_code 1 = .ok (.instanceof 8, 3) := by decide +kernel
theorem d8_4 : decode prog_97_method_3_code 4 = .ok (.ifCond .eq 22, 3) := by decide +kernel
theorem d8_7 : decode prog_97_method_3_code 7 = .ok (.aload_n 1, 1) := by decide +kernel
theorem d8_8 : decode prog_97_method_3_code 8 = .ok (.checkcast 8, 3) := by decide +kernel
theorem d8_11 : decode prog_97_method_3_code 11 = .ok (.getfield 19, 3) := by decide +kernel
theorem d8_14 : decode prog_97_method_3_code 14 = .ok (.aload_n 0, 1) := by decide +kernel
theorem d8_15 : decode prog_97_method_3_code 15 = .ok (.getfield 19, 3) := by decide +kernel
theorem d8_18 : decode prog_97_method_3_code 18 = .ok (.lcmp, 1) := by decide +kernel
theorem d8_19 : decode prog_97_method_3_code 19 = .ok (.ifCond .ne 7, 3) := by decide +kernel
theorem d8_22 : decode prog_97_method_3_code 22 = .ok (.iconst 1, 1) := by decide +kernel
theorem d8_23 : decode prog_97_method_3_code 23 = .ok (.goto 4, 3) := by decide +kernel
theorem d8_26 : decode prog_97_method_3_code 26 = .ok (.iconst 0, 1) := by decide +kernel
theorem d8_27 : decode prog_97_method_3_code 27 = .ok (.ireturn, 1) := by decide +kernel
theorem pn_8 : plainFor (⟨"com/example/running_lineage/runninglineage/query/NumberKey", "equals", "(Ljava/lang/Object;)Z"⟩ : MethodName) = true := plainFor_of_name (by first | (simp [plainName, overriddenIn]; done) | decide +kernel)
theorem ef_8k (m : MethodId) (x0 : Addr) (x1 : Addr) : entryFrame m #[(.ref x0), (.ref x1)] 2 = mkF m 0 #[.val (.ref x0), .val (.ref x1)] [] := by first | (simp [entryFrame, mkF, argsToLocals, Value.category, maxLocals]; done) | rfl
def Q8k (Z : State) (a : Addr) (y : Addr) (x : Int64) (z : Int64) (h0 : Heap) (n0 : Nat) (v : Option Value) (h : Heap) (L : List Loc) : Prop := v = some (.int (own_qb x z)) ∧ Fr n0 L ∧ h = h0
set_option maxRecDepth 65536 in
set_option maxHeartbeats 40000000 in
theorem rm8k (l : Launch) (Z : State) (a0 : Array Value) (hw : ∀ d ∈ tables_1, d.before a0 Z = true) (ws : List Jvm.Cond) (a : Addr) (y : Addr) (x : Int64) (z : Int64) (h0 : Heap) (n0 : Nat) (Z0 : n0 ≤ h0.size) (F_bits_a : Fld Z h0 a "com/example/running_lineage/runninglineage/query/NumberKey" "bits" "J" (.long x)) (F_bits_y : Fld Z h0 y "com/example/running_lineage/runninglineage/query/NumberKey" "bits" "J" (.long z)) (E_y : Exa Z h0 y "com/example/running_lineage/runninglineage/query/NumberKey") :
    MetFree l (⟨"com/example/running_lineage/runninglineage/query/NumberKey", "equals", "(Ljava/lang/Object;)Z"⟩ : MethodName) (head1 (Jvm.Cond.code (⟨"com/example/running_lineage/runninglineage/query/NumberKey", "equals", "(Ljava/lang/Object;)Z"⟩ : MethodName) prog_97_method_3_code 2 (some .boolean) :: ws) ({ frames := 0, cells := 0, slots := 0, locals := 0 } : Room)) (fun arr' U => arr' = #[(.ref a), (.ref y)] ∧ Z.Warmed39 U.vm ∧ U.heap = h0) (fun _ _ _ _ _ => True) (fun _ U o U' => ∃ v L, o = .returned v ∧ (Q8k Z a y x z h0 n0) v U'.heap L ∧ FrameEnd U o U' L ({ frames := 0, cells := 0, slots := 0, locals := 0 } : Room).cells ({ frames := 0, cells := 0, slots := 0, locals := 0 } : Room).slots) := by
  refine MetFree.of_bodySF pn_8 hisR ?_
  intro p e s m args below meth c s₁ Bd hml0 hP hK
  obtain ⟨rfl, hZ, hh⟩ := hP
  have hx := Bd.exec
  have hby := Bd.bytes
  have hlk : meth.locks = false := BodyLoose.notSynchronized Bd
  have hml : c.maxLocals = 2 := hml0
  have hown : s.vm.findClass "com/example/running_lineage/runninglineage/query/NumberKey" = some m.cls := findClass_of_methodNamed Bd.named
  have hnm := (name_of_methodNamed Bd.named Bd.method).1
  have X0 : Stand p l e ({ frames := 0, cells := 0, slots := 0, locals := 0 } : Room) s m #[(.ref a), (.ref y)] below meth c s₁ [] 0 0 := Stand.of_body Bd
  have e0 : s₁.heap = h0 := by rw [← hh, Bd.state]; rfl
  have N := Fr.nil n0
  have Zs := Z0
  change OwnGo p.tables e below (OwnEnd s (Q8k Z a y x z h0 n0) ({ frames := 0, cells := 0, slots := 0, locals := 0 } : Room).cells ({ frames := 0, cells := 0, slots := 0, locals := 0 } : Room).slots) _
  refine OwnGo.fwd (fun tq' kq' => castTop (ef_8k m a y) kq') ?_
  show OwnGo _ _ _ _ (s₁.setTop (mkF m 0 #[.val (.ref a), .val (.ref y)] []))
  refine OwnGo.fwd (fun tq' kq' => XS.aloadN X0.here hx rfl (hb hby d8_0) rfl rfl kq') ?_
  show OwnGo _ _ _ _ (s₁.setTop (mkF m 1 #[.val (.ref a), .val (.ref y)] [(.ref y)]))
  obtain ⟨T1, X1, e1, st1⟩ := instY X0 hx hZ hown (hw _ (List.mem_of_getElem? (i := 38) rfl)) e0 (Ins.self E_y) (g := (mkF m 1 #[.val (.ref a), .val (.ref y)] [(.ref y)])) rfl rfl (hb hby d8_1)
  refine OwnGo.fwd st1 ?_
  show OwnGo _ _ _ _ (T1.setTop (mkF m 4 #[.val (.ref a), .val (.ref y)] [(.int (1 : Int32))]))
  have hc4_2 : ¬ ((1 : Int) = (0 : Int)) := by decide
  refine OwnGo.fwd (fun tq' kq' => XS.ifNo X1.here hx rfl (hb hby d8_4) rfl ((if0 _ _).trans (own_bneq (by decide) (by decide) hc4_2).1) kq') ?_
  show OwnGo _ _ _ _ (T1.setTop (mkF m 7 #[.val (.ref a), .val (.ref y)] []))
  refine OwnGo.fwd (fun tq' kq' => XS.aloadN X1.here hx rfl (hb hby d8_7) rfl rfl kq') ?_
  show OwnGo _ _ _ _ (T1.setTop (mkF m 8 #[.val (.ref a), .val (.ref y)] [(.ref y)]))
  obtain ⟨T3, X3, e3, st3⟩ := castY X1 hx hZ hown (hw _ (List.mem_of_getElem? (i := 38) rfl)) e1 (Ins.self E_y) (g := (mkF m 8 #[.val (.ref a), .val (.ref y)] [(.ref y)])) rfl rfl (hb hby d8_8)
  refine OwnGo.fwd st3 ?_
  show OwnGo _ _ _ _ (T3.setTop (mkF m 11 #[.val (.ref a), .val (.ref y)] [(.ref y)]))
  obtain ⟨T4, X4, e4, st4⟩ := getF X3 hx hZ hown (host := "") (Or.inl (hw _ (List.mem_of_getElem? (i := 31) rfl))) Via.refl e3 F_bits_y (g := (mkF m 11 #[.val (.ref a), .val (.ref y)] [(.ref y)])) rfl rfl (hb hby d8_11)
  refine OwnGo.fwd st4 ?_
  show OwnGo _ _ _ _ (T4.setTop (mkF m 14 #[.val (.ref a), .val (.ref y)] [(.long z)]))
  refine OwnGo.fwd (fun tq' kq' => XS.aloadN X4.here hx rfl (hb hby d8_14) rfl rfl kq') ?_
  show OwnGo _ _ _ _ (T4.setTop (mkF m 15 #[.val (.ref a), .val (.ref y)] [(.ref a), (.long z)]))
  obtain ⟨T5, X5, e5, st5⟩ := getF X4 hx hZ hown (host := "") (Or.inl (hw _ (List.mem_of_getElem? (i := 31) rfl))) Via.refl e4 F_bits_a (g := (mkF m 15 #[.val (.ref a), .val (.ref y)] [(.ref a), (.long z)])) rfl rfl (hb hby d8_15)
  refine OwnGo.fwd st5 ?_
  show OwnGo _ _ _ _ (T5.setTop (mkF m 18 #[.val (.ref a), .val (.ref y)] [(.long x), (.long z)]))
  refine OwnGo.fwd (fun tq' kq' => XS.lcmp X5.here hx rfl (hb hby d8_18) rfl kq') ?_
  show OwnGo _ _ _ _ (T5.setTop (mkF m 19 #[.val (.ref a), .val (.ref y)] [(.int (lcmpW z x))]))
  by_cases hc19_6 : z.toInt = x.toInt
  · refine OwnGo.fwd (fun tq' kq' => XS.ifNo X5.here hx rfl (hb hby d8_19) rfl (own_Leq rfl rfl hc19_6).2 kq') ?_
    show OwnGo _ _ _ _ (T5.setTop (mkF m 22 #[.val (.ref a), .val (.ref y)] []))
    refine OwnGo.fwd (fun tq' kq' => XS.iconst X5.here hx rfl (hb hby d8_22) kq') ?_
    show OwnGo _ _ _ _ (T5.setTop (mkF m 23 #[.val (.ref a), .val (.ref y)] [(.int (1 : Int32))]))
    refine OwnGo.fwd (fun tq' kq' => XS.goto X5.here hx rfl (pc0 := 23) (pc' := 27) rfl (hb hby d8_23) (by decide) (by decide) kq') ?_
    show OwnGo _ _ _ _ (T5.setTop (mkF m 27 #[.val (.ref a), .val (.ref y)] [(.int (1 : Int32))]))
    exact own_retZ X5 hlk hx Bd.returns (hb hby d8_27) (by decide) (by decide) e5 ⟨by unfold own_qb; rw [if_pos hc19_6]; rfl, N, rfl⟩
  · refine OwnGo.fwd (fun tq' kq' => XS.ifYes X5.here hx rfl (pc0 := 19) (pc' := 26) rfl (hb hby d8_19) rfl (own_Lneq rfl rfl hc19_6).2 (by decide) (by decide) kq') ?_
    show OwnGo _ _ _ _ (T5.setTop (mkF m 26 #[.val (.ref a), .val (.ref y)] []))
    refine OwnGo.fwd (fun tq' kq' => XS.iconst X5.here hx rfl (hb hby d8_26) kq') ?_
    show OwnGo _ _ _ _ (T5.setTop (mkF m 27 #[.val (.ref a), .val (.ref y)] [(.int (0 : Int32))]))
    exact own_retZ X5 hlk hx Bd.returns (hb hby d8_27) (by decide) (by decide) e5 ⟨by unfold own_qb; rw [if_neg hc19_6]; rfl, N, rfl⟩
theorem ef_8n (m : MethodId) (x0 : Addr) : entryFrame m #[(.ref x0), .null] 2 = mkF m 0 #[.val (.ref x0), .val .null] [] := by first | (simp [entryFrame, mkF, argsToLocals, Value.category, maxLocals]; done) | rfl
def Q8n (Z : State) (a : Addr) (h0 : Heap) (n0 : Nat) (v : Option Value) (h : Heap) (L : List Loc) : Prop := v = some (.int 0) ∧ Fr n0 L ∧ h = h0
set_option maxRecDepth 65536 in
set_option maxHeartbeats 40000000 in
theorem rm8n (l : Launch) (Z : State) (a0 : Array Value) (hw : ∀ d ∈ tables_1, d.before a0 Z = true) (ws : List Jvm.Cond) (a : Addr) (h0 : Heap) (n0 : Nat) (Z0 : n0 ≤ h0.size) :
    MetFree l (⟨"com/example/running_lineage/runninglineage/query/NumberKey", "equals", "(Ljava/lang/Object;)Z"⟩ : MethodName) (head1 (Jvm.Cond.code (⟨"com/example/running_lineage/runninglineage/query/NumberKey", "equals", "(Ljava/lang/Object;)Z"⟩ : MethodName) prog_97_method_3_code 2 (some .boolean) :: ws) ({ frames := 0, cells := 0, slots := 0, locals := 0 } : Room)) (fun arr' U => arr' = #[(.ref a), .null] ∧ Z.Warmed39 U.vm ∧ U.heap = h0) (fun _ _ _ _ _ => True) (fun _ U o U' => ∃ v L, o = .returned v ∧ (Q8n Z a h0 n0) v U'.heap L ∧ FrameEnd U o U' L ({ frames := 0, cells := 0, slots := 0, locals := 0 } : Room).cells ({ frames := 0, cells := 0, slots := 0, locals := 0 } : Room).slots) := by
  refine MetFree.of_bodySF pn_8 hisR ?_
  intro p e s m args below meth c s₁ Bd hml0 hP hK
  obtain ⟨rfl, hZ, hh⟩ := hP
  have hx := Bd.exec
  have hby := Bd.bytes
  have hlk : meth.locks = false := BodyLoose.notSynchronized Bd
  have hml : c.maxLocals = 2 := hml0
  have hown : s.vm.findClass "com/example/running_lineage/runninglineage/query/NumberKey" = some m.cls := findClass_of_methodNamed Bd.named
  have hnm := (name_of_methodNamed Bd.named Bd.method).1
  have X0 : Stand p l e ({ frames := 0, cells := 0, slots := 0, locals := 0 } : Room) s m #[(.ref a), .null] below meth c s₁ [] 0 0 := Stand.of_body Bd
  have e0 : s₁.heap = h0 := by rw [← hh, Bd.state]; rfl
  have N := Fr.nil n0
  have Zs := Z0
  change OwnGo p.tables e below (OwnEnd s (Q8n Z a h0 n0) ({ frames := 0, cells := 0, slots := 0, locals := 0 } : Room).cells ({ frames := 0, cells := 0, slots := 0, locals := 0 } : Room).slots) _
  refine OwnGo.fwd (fun tq' kq' => castTop (ef_8n m a) kq') ?_
  show OwnGo _ _ _ _ (s₁.setTop (mkF m 0 #[.val (.ref a), .val .null] []))
  refine OwnGo.fwd (fun tq' kq' => XS.aloadN X0.here hx rfl (hb hby d8_0) rfl rfl kq') ?_
  show OwnGo _ _ _ _ (s₁.setTop (mkF m 1 #[.val (.ref a), .val .null] [.null]))
  refine OwnGo.fwd (fun tq' kq' => X0.instanceofNull hx (g := (mkF m 1 #[.val (.ref a), .val .null] [.null])) rfl rfl (hb hby d8_1) tq' kq') ?_
  show OwnGo _ _ _ _ (s₁.setTop (mkF m 4 #[.val (.ref a), .val .null] [(.int (0 : Int32))]))
  have hc4_1 : (0 : Int) = (0 : Int) := rfl
  refine OwnGo.fwd (fun tq' kq' => XS.ifYes X0.here hx rfl (pc0 := 4) (pc' := 26) rfl (hb hby d8_4) rfl ((if0 _ _).trans (own_beq (by decide) (by decide) hc4_1).1) (by decide) (by decide) kq') ?_
  show OwnGo _ _ _ _ (s₁.setTop (mkF m 26 #[.val (.ref a), .val .null] []))
  refine OwnGo.fwd (fun tq' kq' => XS.iconst X0.here hx rfl (hb hby d8_26) kq') ?_
  show OwnGo _ _ _ _ (s₁.setTop (mkF m 27 #[.val (.ref a), .val .null] [(.int (0 : Int32))]))
  exact own_retZ X0 hlk hx Bd.returns (hb hby d8_27) (by decide) (by decide) e0 ⟨rfl, N, rfl⟩
theorem ef_8i (m : MethodId) (x0 : Addr) (x1 : Addr) : entryFrame m #[(.ref x0), (.ref x1)] 2 = mkF m 0 #[.val (.ref x0), .val (.ref x1)] [] := by first | (simp [entryFrame, mkF, argsToLocals, Value.category, maxLocals]; done) | rfl
def Q8i (Z : State) (a : Addr) (y : Addr) (h0 : Heap) (n0 : Nat) (v : Option Value) (h : Heap) (L : List Loc) : Prop := v = some (.int 0) ∧ Fr n0 L ∧ h = h0
set_option maxRecDepth 65536 in
set_option maxHeartbeats 40000000 in
theorem rm8i (l : Launch) (Z : State) (a0 : Array Value) (hw : ∀ d ∈ tables_1, d.before a0 Z = true) (ws : List Jvm.Cond) (a : Addr) (y : Addr) (h0 : Heap) (n0 : Nat) (Z0 : n0 ≤ h0.size) (E_y : Exa Z h0 y "java/lang/Integer") :
    MetFree l (⟨"com/example/running_lineage/runninglineage/query/NumberKey", "equals", "(Ljava/lang/Object;)Z"⟩ : MethodName) (head1 (Jvm.Cond.code (⟨"com/example/running_lineage/runninglineage/query/NumberKey", "equals", "(Ljava/lang/Object;)Z"⟩ : MethodName) prog_97_method_3_code 2 (some .boolean) :: ws) ({ frames := 0, cells := 0, slots := 0, locals := 0 } : Room)) (fun arr' U => arr' = #[(.ref a), (.ref y)] ∧ Z.Warmed39 U.vm ∧ U.heap = h0) (fun _ _ _ _ _ => True) (fun _ U o U' => ∃ v L, o = .returned v ∧ (Q8i Z a y h0 n0) v U'.heap L ∧ FrameEnd U o U' L ({ frames := 0, cells := 0, slots := 0, locals := 0 } : Room).cells ({ frames := 0, cells := 0, slots := 0, locals := 0 } : Room).slots) := by
  refine MetFree.of_bodySF pn_8 hisR ?_
  intro p e s m args below meth c s₁ Bd hml0 hP hK
  obtain ⟨rfl, hZ, hh⟩ := hP
  have hx := Bd.exec
  have hby := Bd.bytes
  have hlk : meth.locks = false := BodyLoose.notSynchronized Bd
  have hml : c.maxLocals = 2 := hml0
  have hown : s.vm.findClass "com/example/running_lineage/runninglineage/query/NumberKey" = some m.cls := findClass_of_methodNamed Bd.named
  have hnm := (name_of_methodNamed Bd.named Bd.method).1
  have X0 : Stand p l e ({ frames := 0, cells := 0, slots := 0, locals := 0 } : Room) s m #[(.ref a), (.ref y)] below meth c s₁ [] 0 0 := Stand.of_body Bd
  have e0 : s₁.heap = h0 := by rw [← hh, Bd.state]; rfl
  have N := Fr.nil n0
  have Zs := Z0
  change OwnGo p.tables e below (OwnEnd s (Q8i Z a y h0 n0) ({ frames := 0, cells := 0, slots := 0, locals := 0 } : Room).cells ({ frames := 0, cells := 0, slots := 0, locals := 0 } : Room).slots) _
  refine OwnGo.fwd (fun tq' kq' => castTop (ef_8i m a y) kq') ?_
  show OwnGo _ _ _ _ (s₁.setTop (mkF m 0 #[.val (.ref a), .val (.ref y)] []))
  refine OwnGo.fwd (fun tq' kq' => XS.aloadN X0.here hx rfl (hb hby d8_0) rfl rfl kq') ?_
  show OwnGo _ _ _ _ (s₁.setTop (mkF m 1 #[.val (.ref a), .val (.ref y)] [(.ref y)]))
  obtain ⟨T1, X1, e1, st1⟩ := instNo X0 hx hZ hown (hw _ (List.mem_of_getElem? (i := 38) rfl)) e0 E_y (own_NSno (hw _ (List.mem_of_getElem? (i := 48) rfl)) (hw _ (List.mem_of_getElem? (i := 1) rfl)) (NS.step (hw _ (List.mem_of_getElem? (i := 48) rfl)) (NS.step (hw _ (List.mem_of_getElem? (i := 49) rfl)) (own_NSroot (hw _ (List.mem_of_getElem? (i := 50) rfl)) (hw _ (List.mem_of_getElem? (i := 1) rfl)) (by decide)) (by decide)) (by decide)) (by decide)) (g := (mkF m 1 #[.val (.ref a), .val (.ref y)] [(.ref y)])) rfl rfl (hb hby d8_1)
  refine OwnGo.fwd st1 ?_
  show OwnGo _ _ _ _ (T1.setTop (mkF m 4 #[.val (.ref a), .val (.ref y)] [(.int (0 : Int32))]))
  have hc4_2 : (0 : Int) = (0 : Int) := rfl
  refine OwnGo.fwd (fun tq' kq' => XS.ifYes X1.here hx rfl (pc0 := 4) (pc' := 26) rfl (hb hby d8_4) rfl ((if0 _ _).trans (own_beq (by decide) (by decide) hc4_2).1) (by decide) (by decide) kq') ?_
  show OwnGo _ _ _ _ (T1.setTop (mkF m 26 #[.val (.ref a), .val (.ref y)] []))
  refine OwnGo.fwd (fun tq' kq' => XS.iconst X1.here hx rfl (hb hby d8_26) kq') ?_
  show OwnGo _ _ _ _ (T1.setTop (mkF m 27 #[.val (.ref a), .val (.ref y)] [(.int (0 : Int32))]))
  exact own_retZ X1 hlk hx Bd.returns (hb hby d8_27) (by decide) (by decide) e1 ⟨rfl, N, rfl⟩
theorem d11_0 : decode jdk_18_method_1_code 0 = .ok (.aload_n 0, 1) := by decide +kernel
theorem d11_1 : decode jdk_18_method_1_code 1 = .ok (.invokespecial 1, 3) := by decide +kernel
theorem d11_4 : decode jdk_18_method_1_code 4 = .ok (.return_, 1) := by decide +kernel
theorem pn_11 : plainFor (⟨"java/lang/Number", "<init>", "()V"⟩ : MethodName) = true := plainFor_of_name (by first | (simp [plainName, overriddenIn]; done) | decide +kernel)
theorem ef_11 (m : MethodId) (x0 : Addr) : entryFrame m #[(.ref x0)] 1 = mkF m 0 #[.val (.ref x0)] [] := by first | (simp [entryFrame, mkF, argsToLocals, Value.category, maxLocals]; done) | rfl
def Q11 (Z : State) (a : Addr) (h0 : Heap) (n0 : Nat) (v : Option Value) (h : Heap) (L : List Loc) : Prop := v = none ∧ Fr n0 L ∧ h = h0
set_option maxRecDepth 65536 in
set_option maxHeartbeats 40000000 in
theorem rm11 (l : Launch) (Z : State) (a0 : Array Value) (hw : ∀ d ∈ tables_1, d.before a0 Z = true) (ws : List Jvm.Cond) (a : Addr) (h0 : Heap) (n0 : Nat) (Z0 : n0 ≤ h0.size) :
    MetFree l (⟨"java/lang/Number", "<init>", "()V"⟩ : MethodName) (head1 (Jvm.Cond.code (⟨"java/lang/Number", "<init>", "()V"⟩ : MethodName) jdk_18_method_1_code 1 none :: ws) ({ frames := 1, cells := 0, slots := 0, locals := 12 } : Room)) (fun arr' U => arr' = #[(.ref a)] ∧ Z.Warmed39 U.vm ∧ U.heap = h0) (fun _ _ _ _ _ => True) (fun _ U o U' => ∃ v L, o = .returned v ∧ (Q11 Z a h0 n0) v U'.heap L ∧ FrameEnd U o U' L ({ frames := 1, cells := 0, slots := 0, locals := 12 } : Room).cells ({ frames := 1, cells := 0, slots := 0, locals := 12 } : Room).slots) := by
  refine MetFree.of_bodySF pn_11 hisR ?_
  intro p e s m args below meth c s₁ Bd hml0 hP hK
  obtain ⟨rfl, hZ, hh⟩ := hP
  have hx := Bd.exec
  have hby := Bd.bytes
  have hlk : meth.locks = false := BodyLoose.notSynchronized Bd
  have hml : c.maxLocals = 1 := hml0
  have hown : s.vm.findClass "java/lang/Number" = some m.cls := findClass_of_methodNamed Bd.named
  have hnm := (name_of_methodNamed Bd.named Bd.method).1
  have X0 : Stand p l e ({ frames := 1, cells := 0, slots := 0, locals := 12 } : Room) s m #[(.ref a)] below meth c s₁ [] 0 0 := Stand.of_body Bd
  have e0 : s₁.heap = h0 := by rw [← hh, Bd.state]; rfl
  have N := Fr.nil n0
  have Zs := Z0
  change OwnGo p.tables e below (OwnEnd s (Q11 Z a h0 n0) ({ frames := 1, cells := 0, slots := 0, locals := 12 } : Room).cells ({ frames := 1, cells := 0, slots := 0, locals := 12 } : Room).slots) _
  refine OwnGo.fwd (fun tq' kq' => castTop (ef_11 m a) kq') ?_
  show OwnGo _ _ _ _ (s₁.setTop (mkF m 0 #[.val (.ref a)] []))
  refine OwnGo.fwd (fun tq' kq' => XS.aloadN X0.here hx rfl (hb hby d11_0) rfl rfl kq') ?_
  show OwnGo _ _ _ _ (s₁.setTop (mkF m 1 #[.val (.ref a)] [(.ref a)]))
  obtain ⟨T1, X1, e1, st1⟩ := initO X0 hx hZ hown (hw _ (List.mem_of_getElem? (i := 63) rfl)) (hw _ (List.mem_of_getElem? (i := 14) rfl)) (hw _ (List.mem_of_getElem? (i := 15) rfl)) e0 (g := (mkF m 1 #[.val (.ref a)] [(.ref a)])) rfl (by rw [hml]; rfl) rfl (hb hby d11_1) (by decide) (W := 0) (by show 2 * 0 + _ ≤ _; exact Nat.le_of_eq rfl) (by decide)
  refine OwnGo.fwd st1 ?_
  show OwnGo _ _ _ _ (T1.setTop (mkF m 4 #[.val (.ref a)] []))
  exact own_retV X1 hlk hx Bd.returns (hb hby d11_4) (by decide) (by decide) e1 ⟨rfl, N, rfl⟩
theorem d10_0 : decode jdk_33_method_23_code 0 = .ok (.aload_n 0, 1) := by decide +kernel
theorem d10_1 : decode jdk_33_method_23_code 1 = .ok (.invokespecial 202, 3) := by decide +kernel
theorem d10_4 : decode jdk_33_method_23_code 4 = .ok (.aload_n 0, 1) := by decide +kernel
theorem d10_5 : decode jdk_33_method_23_code 5 = .ok (.iload_n 1, 1) := by decide +kernel
theorem d10_6 : decode jdk_33_method_23_code 6 = .ok (.putfield 205, 3) := by decide +kernel
theorem d10_9 : decode jdk_33_method_23_code 9 = .ok (.return_, 1) := by decide +kernel
theorem pn_10 : plainFor (⟨"java/lang/Integer", "<init>", "(I)V"⟩ : MethodName) = true := plainFor_of_name (by first | (simp [plainName, overriddenIn]; done) | decide +kernel)
theorem ef_10 (m : MethodId) (x0 : Addr) (x1 : Int32) : entryFrame m #[(.ref x0), (.int x1)] 2 = mkF m 0 #[.val (.ref x0), .val (.int x1)] [] := by first | (simp [entryFrame, mkF, argsToLocals, Value.category, maxLocals]; done) | rfl
def Q10 (Z : State) (a : Addr) (x : Int32) (h0 : Heap) (n0 : Nat) (v : Option Value) (h : Heap) (L : List Loc) : Prop := v = none ∧ Fr n0 L ∧ Keep h0 h [a] ∧ Exa Z h a "java/lang/Integer" ∧ Fld Z h a "java/lang/Integer" "value" "I" (.int x)
set_option maxRecDepth 65536 in
set_option maxHeartbeats 40000000 in
theorem rm10 (l : Launch) (Z : State) (a0 : Array Value) (hw : ∀ d ∈ tables_1, d.before a0 Z = true) (ws : List Jvm.Cond) (a : Addr) (x : Int32) (h0 : Heap) (n0 : Nat) (Z0 : n0 ≤ h0.size) (E_a : Exa Z h0 a "java/lang/Integer") (F_value_a : Fld Z h0 a "java/lang/Integer" "value" "I" (.int 0)) (g_a : n0 ≤ a) :
    MetFree l (⟨"java/lang/Integer", "<init>", "(I)V"⟩ : MethodName) (head1 (Jvm.Cond.code (⟨"java/lang/Integer", "<init>", "(I)V"⟩ : MethodName) jdk_33_method_23_code 2 none :: ws) ({ frames := 2, cells := 0, slots := 0, locals := 24 } : Room)) (fun arr' U => arr' = #[(.ref a), (.int x)] ∧ Z.Warmed39 U.vm ∧ U.heap = h0) (fun _ _ _ _ _ => True) (fun _ U o U' => ∃ v L, o = .returned v ∧ (Q10 Z a x h0 n0) v U'.heap L ∧ FrameEnd U o U' L ({ frames := 2, cells := 0, slots := 0, locals := 24 } : Room).cells ({ frames := 2, cells := 0, slots := 0, locals := 24 } : Room).slots) := by
  refine MetFree.of_bodySF pn_10 hisR ?_
  intro p e s m args below meth c s₁ Bd hml0 hP hK
  obtain ⟨rfl, hZ, hh⟩ := hP
  have hx := Bd.exec
  have hby := Bd.bytes
  have hlk : meth.locks = false := BodyLoose.notSynchronized Bd
  have hml : c.maxLocals = 2 := hml0
  have hown : s.vm.findClass "java/lang/Integer" = some m.cls := findClass_of_methodNamed Bd.named
  have hnm := (name_of_methodNamed Bd.named Bd.method).1
  have X0 : Stand p l e ({ frames := 2, cells := 0, slots := 0, locals := 24 } : Room) s m #[(.ref a), (.int x)] below meth c s₁ [] 0 0 := Stand.of_body Bd
  have e0 : s₁.heap = h0 := by rw [← hh, Bd.state]; rfl
  have N := Fr.nil n0
  have Zs := Z0
  change OwnGo p.tables e below (OwnEnd s (Q10 Z a x h0 n0) ({ frames := 2, cells := 0, slots := 0, locals := 24 } : Room).cells ({ frames := 2, cells := 0, slots := 0, locals := 24 } : Room).slots) _
  refine OwnGo.fwd (fun tq' kq' => castTop (ef_10 m a x) kq') ?_
  show OwnGo _ _ _ _ (s₁.setTop (mkF m 0 #[.val (.ref a), .val (.int x)] []))
  have K : Keep h0 h0 [a] := Keep.refl _ _
  refine OwnGo.fwd (fun tq' kq' => XS.aloadN X0.here hx rfl (hb hby d10_0) rfl rfl kq') ?_
  show OwnGo _ _ _ _ (s₁.setTop (mkF m 1 #[.val (.ref a), .val (.int x)] [(.ref a)]))
  obtain ⟨_, _, ⟨T1, L1, k1, n1⟩, -, X1, ⟨Lc1, hQ1, l1, y1, z1⟩, st1⟩ := X0.specialBack hx (y := (⟨"java/lang/Number", "<init>", "()V"⟩ : MethodName)) rfl hown (mvT hZ (hw _ (List.mem_of_getElem? (i := 57) rfl))) (mvT hZ (hw _ (List.mem_of_getElem? (i := 58) rfl))) (mvT hZ (hw _ (List.mem_of_getElem? (i := 62) rfl))) (by decide) (backOf (W := 0) (rm11 l Z a0 hw [] a h0 n0 Zs) hZ (hw _ (List.mem_of_getElem? (i := 62) rfl)) (hw _ (List.mem_of_getElem? (i := 61) rfl)) (by decide) (by decide)) (g := (mkF m 1 #[.val (.ref a), .val (.int x)] [(.ref a)])) rfl (by rw [hml]; rfl) (Steps.refl _) (a := a) (argsL := []) (rest := []) (lenOf pd_3 rfl) rfl (by show 2 * 0 + _ ≤ _; exact Nat.le_of_eq rfl) (hb hby d10_1) (fun _ _ => ⟨rfl, e0, (by decide : 0 + 0 ≤ _), (by decide : 0 + 0 ≤ _)⟩)
  dsimp only [Pt.U, Pt.locs, Pt.cells, Pt.slots] at X1 l1 y1 z1 st1 hQ1
  subst l1 y1 z1
  obtain ⟨rfl, N1q, e1⟩ := hQ1
  have N := Fr.app N N1q
  refine OwnGo.thru st1 ?_
  show OwnGo _ _ _ _ (T1.setTop (mkF m 4 #[.val (.ref a), .val (.int x)] []))
  refine OwnGo.fwd (fun tq' kq' => XS.aloadN X1.here hx rfl (hb hby d10_4) rfl rfl kq') ?_
  show OwnGo _ _ _ _ (T1.setTop (mkF m 5 #[.val (.ref a), .val (.int x)] [(.ref a)]))
  refine OwnGo.fwd (fun tq' kq' => XS.iloadN X1.here hx rfl (hb hby d10_5) rfl kq') ?_
  show OwnGo _ _ _ _ (T1.setTop (mkF m 6 #[.val (.ref a), .val (.int x)] [(.int x), (.ref a)]))
  obtain ⟨T2, h2, X2, e2, W2, st2⟩ := putF X1 hx hZ hown (host := "") (Or.inl (hw _ (List.mem_of_getElem? (i := 64) rfl))) Via.refl e1 F_value_a E_a (Or.inr ⟨(hw _ (List.mem_of_getElem? (i := 65) rfl)), rfl, hnm⟩) (hw _ (List.mem_of_getElem? (i := 52) rfl)) (ty := .int) (by decide) rfl rfl (g := (mkF m 6 #[.val (.ref a), .val (.int x)] [(.int x), (.ref a)])) rfl rfl (hb hby d10_6)
  have E_a := E_a.wr W2
  have F_value_a := F_value_a.same W2
  have K := K.wr W2 (Or.inl (List.mem_of_getElem? (i := 0) rfl))
  have Zs := Nat.le_trans Zs (Keep.of_wr W2).1
  have N := Fr.snoc X2 N g_a
  refine OwnGo.fwd st2 ?_
  show OwnGo _ _ _ _ (T2.setTop (mkF m 9 #[.val (.ref a), .val (.int x)] []))
  exact own_retV X2 hlk hx Bd.returns (hb hby d10_9) (by decide) (by decide) e2 ⟨rfl, N, K, E_a, F_value_a⟩
theorem d9_0 : decode jdk_33_method_22_code 0 = .ok (.iload_n 0, 1) := by decide +kernel
theorem d9_1 : decode jdk_33_method_22_code 1 = .ok (.bipush (-128), 2) := by decide +kernel
theorem d9_3 : decode jdk_33_method_22_code 3 = .ok (.if_icmp .lt 20, 3) := by decide +kernel
theorem d9_6 : decode jdk_33_method_22_code 6 = .ok (.iload_n 0, 1) := by decide +kernel
theorem d9_7 : decode jdk_33_method_22_code 7 = .ok (.getstatic 191, 3) := by decide +kernel
theorem d9_10 : decode jdk_33_method_22_code 10 = .ok (.if_icmp .gt 13, 3) := by decide +kernel
theorem d9_13 : decode jdk_33_method_22_code 13 = .ok (.getstatic 195, 3) := by decide +kernel
theorem d9_16 : decode jdk_33_method_22_code 16 = .ok (.iload_n 0, 1) := by decide +kernel
theorem d9_17 : decode jdk_33_method_22_code 17 = .ok (.sipush 128, 3) := by decide +kernel
theorem d9_20 : decode jdk_33_method_22_code 20 = .ok (.iadd, 1) := by decide +kernel
theorem d9_21 : decode jdk_33_method_22_code 21 = .ok (.aaload, 1) := by decide +kernel
theorem d9_22 : decode jdk_33_method_22_code 22 = .ok (.areturn, 1) := by decide +kernel
theorem d9_23 : decode jdk_33_method_22_code 23 = .ok (.new 1, 3) := by decide +kernel
theorem d9_26 : decode jdk_33_method_22_code 26 = .ok (.dup, 1) := by decide +kernel
theorem d9_27 : decode jdk_33_method_22_code 27 = .ok (.iload_n 0, 1) := by decide +kernel
theorem d9_28 : decode jdk_33_method_22_code 28 = .ok (.invokespecial 199, 3) := by decide +kernel
theorem d9_31 : decode jdk_33_method_22_code 31 = .ok (.areturn, 1) := by decide +kernel
theorem pn_9 : plainFor (⟨"java/lang/Integer", "valueOf", "(I)Ljava/lang/Integer;"⟩ : MethodName) = true := plainFor_of_name (by first | (simp [plainName, overriddenIn]; done) | decide +kernel)
theorem ef_9 (m : MethodId) (x0 : Int32) : entryFrame m #[(.int x0)] 1 = mkF m 0 #[.val (.int x0)] [] := by first | (simp [entryFrame, mkF, argsToLocals, Value.category, maxLocals]; done) | rfl
def Q9 (Z : State) (x : Int32) (h0 : Heap) (n0 : Nat) (v : Option Value) (h : Heap) (L : List Loc) : Prop := Fr n0 L ∧ Keep h0 h [] ∧ ∃ r, v = some (.ref r) ∧ Exa Z h r "java/lang/Integer"
set_option maxRecDepth 65536 in
set_option maxHeartbeats 40000000 in
theorem rm9 (l : Launch) (Z : State) (a0 : Array Value) (hw : ∀ d ∈ tables_1, d.before a0 Z = true) (ws : List Jvm.Cond) (x : Int32) (h0 : Heap) (n0 : Nat) (Z0 : n0 ≤ h0.size) (IC0 : OwnIC Z h0) :
    MetFree l (⟨"java/lang/Integer", "valueOf", "(I)Ljava/lang/Integer;"⟩ : MethodName) (head1 (Jvm.Cond.code (⟨"java/lang/Integer", "valueOf", "(I)Ljava/lang/Integer;"⟩ : MethodName) jdk_33_method_22_code 1 (some (.object "java/lang/Integer")) :: ws) ({ frames := 3, cells := 1, slots := 1, locals := 45 } : Room)) (fun arr' U => arr' = #[(.int x)] ∧ Z.Warmed39 U.vm ∧ U.heap = h0) (fun _ _ _ _ _ => True) (fun _ U o U' => ∃ v L, o = .returned v ∧ (Q9 Z x h0 n0) v U'.heap L ∧ FrameEnd U o U' L ({ frames := 3, cells := 1, slots := 1, locals := 45 } : Room).cells ({ frames := 3, cells := 1, slots := 1, locals := 45 } : Room).slots) := by
  refine MetFree.of_bodySF pn_9 hisR ?_
  intro p e s m args below meth c s₁ Bd hml0 hP hK
  obtain ⟨rfl, hZ, hh⟩ := hP
  have hx := Bd.exec
  have hby := Bd.bytes
  have hlk : meth.locks = false := BodyLoose.notSynchronized Bd
  have hml : c.maxLocals = 1 := hml0
  have hown : s.vm.findClass "java/lang/Integer" = some m.cls := findClass_of_methodNamed Bd.named
  have hnm := (name_of_methodNamed Bd.named Bd.method).1
  have X0 : Stand p l e ({ frames := 3, cells := 1, slots := 1, locals := 45 } : Room) s m #[(.int x)] below meth c s₁ [] 0 0 := Stand.of_body Bd
  have e0 : s₁.heap = h0 := by rw [← hh, Bd.state]; rfl
  have N := Fr.nil n0
  have Zs := Z0
  change OwnGo p.tables e below (OwnEnd s (Q9 Z x h0 n0) ({ frames := 3, cells := 1, slots := 1, locals := 45 } : Room).cells ({ frames := 3, cells := 1, slots := 1, locals := 45 } : Room).slots) _
  refine OwnGo.fwd (fun tq' kq' => castTop (ef_9 m x) kq') ?_
  show OwnGo _ _ _ _ (s₁.setTop (mkF m 0 #[.val (.int x)] []))
  obtain ⟨ca, cl, S_high, S_cache, A_ca, hsz, hel⟩ := IC0
  have K : Keep h0 h0 [] := Keep.refl _ _
  refine OwnGo.fwd (fun tq' kq' => XS.iloadN X0.here hx rfl (hb hby d9_0) rfl kq') ?_
  show OwnGo _ _ _ _ (s₁.setTop (mkF m 1 #[.val (.int x)] [(.int x)]))
  refine OwnGo.fwd (fun tq' kq' => XS.bipush X0.here hx rfl (hb hby d9_1) kq') ?_
  show OwnGo _ _ _ _ (s₁.setTop (mkF m 3 #[.val (.int x)] [(.int (-128 : Int32)), (.int x)]))
  by_cases hc3_1 : x.toInt < -128
  · refine OwnGo.fwd (fun tq' kq' => XS.icmpYes X0.here hx rfl (pc0 := 3) (pc' := 23) rfl (hb hby d9_3) rfl (own_blt rfl (by decide) hc3_1).1 (by decide) (by decide) kq') ?_
    show OwnGo _ _ _ _ (s₁.setTop (mkF m 23 #[.val (.int x)] []))
    obtain ⟨T2, h2, X2, e2, E2, A2, D2, -, st2⟩ := newO X0 hx hZ hown (hw _ (List.mem_of_getElem? (i := 51) rfl)) (hw _ (List.mem_of_getElem? (i := 52) rfl)) (hw _ (List.mem_of_getElem? (i := 43) rfl)) e0 (g := (mkF m 23 #[.val (.int x)] [])) rfl (hb hby d9_23) (by decide) (by decide)
    obtain ⟨b2, g2⟩ : ∃ z, z = h0.size := ⟨_, rfl⟩
    rw [← g2] at A2 D2 st2
    have g_b2 : n0 ≤ b2 := Nat.le_trans Zs (Nat.le_of_eq g2.symm)
    have sz_b2 : h0.size ≤ b2 := Nat.le_trans K.1 (Nat.le_of_eq g2.symm)
    have K := K.ext E2
    have Zs := Nat.le_trans Zs E2.1
    have S_high := S_high.ext E2
    have S_cache := S_cache.ext E2
    have E_b2 := A2
    have F_value_b2 : Fld Z h2 b2 "java/lang/Integer" "value" "I" (.int (0 : Int32)) := D2 (Or.inr (hw _ (List.mem_of_getElem? (i := 65) rfl))) (ty := .int) (by decide)
    refine OwnGo.fwd st2 ?_
    show OwnGo _ _ _ _ (T2.setTop (mkF m 26 #[.val (.int x)] [(.ref b2)]))
    refine OwnGo.fwd (fun tq' kq' => XS.dup X2.here hx rfl (hb hby d9_26) rfl rfl kq') ?_
    show OwnGo _ _ _ _ (T2.setTop (mkF m 27 #[.val (.int x)] [(.ref b2), (.ref b2)]))
    refine OwnGo.fwd (fun tq' kq' => XS.iloadN X2.here hx rfl (hb hby d9_27) rfl kq') ?_
    show OwnGo _ _ _ _ (T2.setTop (mkF m 28 #[.val (.int x)] [(.int x), (.ref b2), (.ref b2)]))
    obtain ⟨_, _, ⟨T3, L3, k3, n3⟩, -, X3, ⟨Lc3, hQ3, l3, y3, z3⟩, st3⟩ := X2.specialBack hx (y := (⟨"java/lang/Integer", "<init>", "(I)V"⟩ : MethodName)) rfl hown (mvT hZ (hw _ (List.mem_of_getElem? (i := 53) rfl))) (mvT hZ (hw _ (List.mem_of_getElem? (i := 54) rfl))) (mvT hZ (hw _ (List.mem_of_getElem? (i := 56) rfl))) (by decide) (backOf (W := 1) (rm10 l Z a0 hw [] b2 x h2 n0 Zs E_b2 F_value_b2 g_b2) hZ (hw _ (List.mem_of_getElem? (i := 56) rfl)) (hw _ (List.mem_of_getElem? (i := 43) rfl)) (by decide) (by decide)) (g := (mkF m 28 #[.val (.int x)] [(.int x), (.ref b2), (.ref b2)])) rfl (by rw [hml]; rfl) (Steps.refl _) (a := b2) (argsL := [(.int x)]) (rest := [(.ref b2)]) (lenOf pd_9 rfl) rfl (by show 2 * 0 + _ ≤ _; exact Nat.le_of_eq rfl) (hb hby d9_28) (fun _ _ => ⟨rfl, e2, (by decide : 1 + 0 ≤ _), (by decide : 1 + 0 ≤ _)⟩)
    dsimp only [Pt.U, Pt.locs, Pt.cells, Pt.slots] at X3 l3 y3 z3 st3 hQ3
    subst l3 y3 z3
    obtain ⟨h3, eh3⟩ : ∃ z, z = T3.heap := ⟨_, rfl⟩
    rw [← eh3] at hQ3
    obtain ⟨rfl, N3q, K3, E_b2, F_value_b2⟩ := hQ3
    have N := Fr.app N N3q
    have Zs := Nat.le_trans Zs K3.1
    have K := K.trans K3 (allS (Or.inr sz_b2) all0)
    refine OwnGo.thru st3 ?_
    show OwnGo _ _ _ _ (T3.setTop (mkF m 31 #[.val (.int x)] [(.ref b2)]))
    exact own_retA X3 hlk hx Bd.returns rfl rfl (hb hby d9_31) (by decide) (by decide) eh3.symm ⟨N, K, b2, rfl, E_b2⟩
  · refine OwnGo.fwd (fun tq' kq' => XS.icmpNo X0.here hx rfl (hb hby d9_3) rfl (own_bnlt rfl (by decide) hc3_1).1 kq') ?_
    show OwnGo _ _ _ _ (s₁.setTop (mkF m 6 #[.val (.int x)] []))
    refine OwnGo.fwd (fun tq' kq' => XS.iloadN X0.here hx rfl (hb hby d9_6) rfl kq') ?_
    show OwnGo _ _ _ _ (s₁.setTop (mkF m 7 #[.val (.int x)] [(.int x)]))
    obtain ⟨T4, X4, e4, st4⟩ := getS2 X0 hx hZ hown (host := "") (Or.inl (hw _ (List.mem_of_getElem? (i := 45) rfl))) Via.refl e0 S_high (g := (mkF m 7 #[.val (.int x)] [(.int x)])) rfl (hb hby d9_7)
    refine OwnGo.fwd st4 ?_
    show OwnGo _ _ _ _ (T4.setTop (mkF m 10 #[.val (.int x)] [(.int (127 : Int32)), (.int x)]))
    by_cases hc10_5 : 127 < x.toInt
    · refine OwnGo.fwd (fun tq' kq' => XS.icmpYes X4.here hx rfl (pc0 := 10) (pc' := 23) rfl (hb hby d9_10) rfl (own_blt (by decide) rfl hc10_5).2.2.1 (by decide) (by decide) kq') ?_
      show OwnGo _ _ _ _ (T4.setTop (mkF m 23 #[.val (.int x)] []))
      obtain ⟨T6, h6, X6, e6, E6, A6, D6, -, st6⟩ := newO X4 hx hZ hown (hw _ (List.mem_of_getElem? (i := 51) rfl)) (hw _ (List.mem_of_getElem? (i := 52) rfl)) (hw _ (List.mem_of_getElem? (i := 43) rfl)) e4 (g := (mkF m 23 #[.val (.int x)] [])) rfl (hb hby d9_23) (by decide) (by decide)
      obtain ⟨b6, g6⟩ : ∃ z, z = h0.size := ⟨_, rfl⟩
      rw [← g6] at A6 D6 st6
      have g_b6 : n0 ≤ b6 := Nat.le_trans Zs (Nat.le_of_eq g6.symm)
      have sz_b6 : h0.size ≤ b6 := Nat.le_trans K.1 (Nat.le_of_eq g6.symm)
      have K := K.ext E6
      have Zs := Nat.le_trans Zs E6.1
      have S_high := S_high.ext E6
      have S_cache := S_cache.ext E6
      have E_b6 := A6
      have F_value_b6 : Fld Z h6 b6 "java/lang/Integer" "value" "I" (.int (0 : Int32)) := D6 (Or.inr (hw _ (List.mem_of_getElem? (i := 65) rfl))) (ty := .int) (by decide)
      refine OwnGo.fwd st6 ?_
      show OwnGo _ _ _ _ (T6.setTop (mkF m 26 #[.val (.int x)] [(.ref b6)]))
      refine OwnGo.fwd (fun tq' kq' => XS.dup X6.here hx rfl (hb hby d9_26) rfl rfl kq') ?_
      show OwnGo _ _ _ _ (T6.setTop (mkF m 27 #[.val (.int x)] [(.ref b6), (.ref b6)]))
      refine OwnGo.fwd (fun tq' kq' => XS.iloadN X6.here hx rfl (hb hby d9_27) rfl kq') ?_
      show OwnGo _ _ _ _ (T6.setTop (mkF m 28 #[.val (.int x)] [(.int x), (.ref b6), (.ref b6)]))
      obtain ⟨_, _, ⟨T7, L7, k7, n7⟩, -, X7, ⟨Lc7, hQ7, l7, y7, z7⟩, st7⟩ := X6.specialBack hx (y := (⟨"java/lang/Integer", "<init>", "(I)V"⟩ : MethodName)) rfl hown (mvT hZ (hw _ (List.mem_of_getElem? (i := 53) rfl))) (mvT hZ (hw _ (List.mem_of_getElem? (i := 54) rfl))) (mvT hZ (hw _ (List.mem_of_getElem? (i := 56) rfl))) (by decide) (backOf (W := 1) (rm10 l Z a0 hw [] b6 x h6 n0 Zs E_b6 F_value_b6 g_b6) hZ (hw _ (List.mem_of_getElem? (i := 56) rfl)) (hw _ (List.mem_of_getElem? (i := 43) rfl)) (by decide) (by decide)) (g := (mkF m 28 #[.val (.int x)] [(.int x), (.ref b6), (.ref b6)])) rfl (by rw [hml]; rfl) (Steps.refl _) (a := b6) (argsL := [(.int x)]) (rest := [(.ref b6)]) (lenOf pd_9 rfl) rfl (by show 2 * 0 + _ ≤ _; exact Nat.le_of_eq rfl) (hb hby d9_28) (fun _ _ => ⟨rfl, e6, (by decide : 1 + 0 ≤ _), (by decide : 1 + 0 ≤ _)⟩)
      dsimp only [Pt.U, Pt.locs, Pt.cells, Pt.slots] at X7 l7 y7 z7 st7 hQ7
      subst l7 y7 z7
      obtain ⟨h7, eh7⟩ : ∃ z, z = T7.heap := ⟨_, rfl⟩
      rw [← eh7] at hQ7
      obtain ⟨rfl, N7q, K7, E_b6, F_value_b6⟩ := hQ7
      have N := Fr.app N N7q
      have Zs := Nat.le_trans Zs K7.1
      have K := K.trans K7 (allS (Or.inr sz_b6) all0)
      refine OwnGo.thru st7 ?_
      show OwnGo _ _ _ _ (T7.setTop (mkF m 31 #[.val (.int x)] [(.ref b6)]))
      exact own_retA X7 hlk hx Bd.returns rfl rfl (hb hby d9_31) (by decide) (by decide) eh7.symm ⟨N, K, b6, rfl, E_b6⟩
    · refine OwnGo.fwd (fun tq' kq' => XS.icmpNo X4.here hx rfl (hb hby d9_10) rfl (own_bnlt (by decide) rfl hc10_5).2.2.1 kq') ?_
      show OwnGo _ _ _ _ (T4.setTop (mkF m 13 #[.val (.int x)] []))
      obtain ⟨T8, X8, e8, st8⟩ := getS2 X4 hx hZ hown (host := "") (Or.inl (hw _ (List.mem_of_getElem? (i := 47) rfl))) Via.refl e4 S_cache (g := (mkF m 13 #[.val (.int x)] [])) rfl (hb hby d9_13)
      refine OwnGo.fwd st8 ?_
      show OwnGo _ _ _ _ (T8.setTop (mkF m 16 #[.val (.int x)] [(.ref ca)]))
      refine OwnGo.fwd (fun tq' kq' => XS.iloadN X8.here hx rfl (hb hby d9_16) rfl kq') ?_
      show OwnGo _ _ _ _ (T8.setTop (mkF m 17 #[.val (.int x)] [(.int x), (.ref ca)]))
      refine OwnGo.fwd (fun tq' kq' => XS.sipush X8.here hx rfl (hb hby d9_17) kq') ?_
      show OwnGo _ _ _ _ (T8.setTop (mkF m 20 #[.val (.int x)] [(.int (128 : Int32)), (.int x), (.ref ca)]))
      refine OwnGo.fwd (fun tq' kq' => XS.iadd X8.here hx rfl (hb hby d9_20) rfl kq') ?_
      show OwnGo _ _ _ _ (T8.setTop (mkF m 21 #[.val (.int x)] [(.int (x + (128 : Int32))), (.ref ca)]))
      obtain ⟨jj, hv_jj⟩ : ∃ q : Int32, q = (x + (128 : Int32)) := ⟨_, rfl⟩
      rw [← hv_jj]
      show OwnGo _ _ _ _ (T8.setTop (mkF m 21 #[.val (.int x)] [(.int jj), (.ref ca)]))
      have hj : jj.toInt = x.toInt + 128 := by
        have q := c_iadd x (128 : Int32)
        have e1 : (128 : Int32).toInt = 128 := by decide
        have r1 := rng32 (x + (128 : Int32))
        rw [hv_jj]; omega
      obtain ⟨i, hi⟩ : ∃ i : Nat, jj.toInt = i := ⟨jj.toInt.toNat, by omega⟩
      obtain ⟨rr, hr, E_rr⟩ := hel i (by omega)
      refine OwnGo.fwd (fun tq' kq' => X8.aaload hx (by rw [e8]; exact A_ca.1) (State.isArrayOf_alike hZ.alike A_ca.2.1) rfl A_ca.2.2 (own_inb hsz hi (by omega)) (by rw [own_clamp hi]; exact hr) (g := (mkF m 21 #[.val (.int x)] [(.int jj), (.ref ca)])) rfl rfl (hb hby d9_21) tq' kq') ?_
      show OwnGo _ _ _ _ (T8.setTop (mkF m 22 #[.val (.int x)] [(.ref rr)]))
      exact own_retA X8 hlk hx Bd.returns rfl rfl (hb hby d9_22) (by decide) (by decide) e8 ⟨N, K, rr, rfl, E_rr⟩
theorem pn_0 : plainFor (⟨"com/example/running_lineage/runninglineage/query/NumberKeyEqualsPinLaw", "law", "(IIIII)Z"⟩ : MethodName) = true := plainFor_of_name (by first | (simp [plainName, overriddenIn]; done) | decide +kernel)
theorem ef_0 (m : MethodId) (x0 : Int32) (x1 : Int32) (x2 : Int32) (x3 : Int32) (x4 : Int32) : entryFrame m #[(.int x0), (.int x1), (.int x2), (.int x3), (.int x4)] maxLocals = mkF m 0 #[.val (.int x0), .val (.int x1), .val (.int x2), .val (.int x3), .val (.int x4), .unset, .unset, .unset, .unset, .unset] [] := by first | (simp [entryFrame, mkF, argsToLocals, Value.category, maxLocals]; done) | rfl
def Q0 (Z : State) (p0 : Int32) (p1 : Int32) (p2 : Int32) (p3 : Int32) (p4 : Int32) (h0 : Heap) (n0 : Nat) (v : Option Value) (h : Heap) (L : List Loc) : Prop := v = some (.int 1) ∧ Fr n0 L
set_option maxRecDepth 65536 in
set_option maxHeartbeats 40000000 in
theorem rm0 (l : Launch) (Z : State) (a0 : Array Value) (hw : ∀ d ∈ tables_1, d.before a0 Z = true) (ws : List Jvm.Cond) (p0 : Int32) (p1 : Int32) (p2 : Int32) (p3 : Int32) (p4 : Int32) (h0 : Heap) (n0 : Nat) (Z0 : n0 ≤ h0.size) (IC0 : OwnIC Z h0) :
    MetFree l x (head1 (Jvm.Cond.code x code maxLocals ret :: ws) room_1) (fun arr' U => arr' = #[(.int p0), (.int p1), (.int p2), (.int p3), (.int p4)] ∧ Z.Warmed39 U.vm ∧ U.heap = h0) (fun _ _ _ _ _ => True) (fun _ U o U' => ∃ v L, o = .returned v ∧ (Q0 Z p0 p1 p2 p3 p4 h0 n0) v U'.heap L ∧ FrameEnd U o U' L room_1.cells room_1.slots) := by
  refine MetFree.of_bodySF pn_0 hisR ?_
  intro p e s m args below meth c s₁ Bd hml0 hP hK
  obtain ⟨rfl, hZ, hh⟩ := hP
  have hx := Bd.exec
  have hby := Bd.bytes
  have hlk : meth.locks = false := BodyLoose.notSynchronized Bd
  have hml : c.maxLocals = 10 := hml0
  have hown : s.vm.findClass "com/example/running_lineage/runninglineage/query/NumberKeyEqualsPinLaw" = some m.cls := findClass_of_methodNamed Bd.named
  have hnm := (name_of_methodNamed Bd.named Bd.method).1
  have X0 : Stand p l e room_1 s m #[(.int p0), (.int p1), (.int p2), (.int p3), (.int p4)] below meth c s₁ [] 0 0 := Stand.of_body Bd
  have e0 : s₁.heap = h0 := by rw [← hh, Bd.state]; rfl
  have N := Fr.nil n0
  have Zs := Z0
  change OwnGo p.tables e below (OwnEnd s (Q0 Z p0 p1 p2 p3 p4 h0 n0) room_1.cells room_1.slots) _
  refine OwnGo.fwd (fun tq' kq' => castTop (ef_0 m p0 p1 p2 p3 p4) kq') ?_
  show OwnGo _ _ _ _ (s₁.setTop (mkF m 0 #[.val (.int p0), .val (.int p1), .val (.int p2), .val (.int p3), .val (.int p4), .unset, .unset, .unset, .unset, .unset] []))
  have K : Keep h0 h0 [] := Keep.refl _ _
  refine OwnGo.fwd (fun tq' kq' => XS.iload X0.here hx rfl (hb hby at_0) rfl kq') ?_
  show OwnGo _ _ _ _ (s₁.setTop (mkF m 2 #[.val (.int p0), .val (.int p1), .val (.int p2), .val (.int p3), .val (.int p4), .unset, .unset, .unset, .unset, .unset] [(.int p4)]))
  refine OwnGo.fwd (fun tq' kq' => XS.iconst X0.here hx rfl (hb hby at_2) kq') ?_
  show OwnGo _ _ _ _ (s₁.setTop (mkF m 3 #[.val (.int p0), .val (.int p1), .val (.int p2), .val (.int p3), .val (.int p4), .unset, .unset, .unset, .unset, .unset] [(.int (2 : Int32)), (.int p4)]))
  refine OwnGo.fwd (fun tq' kq' => XS.ishr X0.here hx rfl (hb hby at_3) rfl kq') ?_
  show OwnGo _ _ _ _ (s₁.setTop (mkF m 4 #[.val (.int p0), .val (.int p1), .val (.int p2), .val (.int p3), .val (.int p4), .unset, .unset, .unset, .unset, .unset] [(.int (p4 >>> ((2 : Int32) &&& 31)))]))
  refine OwnGo.fwd (fun tq' kq' => XS.iconst X0.here hx rfl (hb hby at_4) kq') ?_
  show OwnGo _ _ _ _ (s₁.setTop (mkF m 5 #[.val (.int p0), .val (.int p1), .val (.int p2), .val (.int p3), .val (.int p4), .unset, .unset, .unset, .unset, .unset] [(.int (1 : Int32)), (.int (p4 >>> ((2 : Int32) &&& 31)))]))
  refine OwnGo.fwd (fun tq' kq' => XS.iand X0.here hx rfl (hb hby at_5) rfl kq') ?_
  show OwnGo _ _ _ _ (s₁.setTop (mkF m 6 #[.val (.int p0), .val (.int p1), .val (.int p2), .val (.int p3), .val (.int p4), .unset, .unset, .unset, .unset, .unset] [(.int ((p4 >>> ((2 : Int32) &&& 31)) &&& (1 : Int32)))]))
  have J14 : ∀ bb : Int32, OwnGo p.tables e below (OwnEnd s (Q0 Z p0 p1 p2 p3 p4 h0 n0) room_1.cells room_1.slots) (s₁.setTop (mkF m 14 #[.val (.int p0), .val (.int p1), .val (.int p2), .val (.int p3), .val (.int p4), .unset, .unset, .unset, .unset, .unset] [(.int bb)])) := by
    intro bb
    show OwnGo _ _ _ _ (s₁.setTop (mkF m 14 #[.val (.int p0), .val (.int p1), .val (.int p2), .val (.int p3), .val (.int p4), .unset, .unset, .unset, .unset, .unset] [(.int bb)]))
    refine OwnGo.fwd (fun tq' kq' => XS.istore X0.here hx rfl (hb hby at_14) rfl (l' := #[.val (.int p0), .val (.int p1), .val (.int p2), .val (.int p3), .val (.int p4), .val (.int bb), .unset, .unset, .unset, .unset]) rfl kq') ?_
    show OwnGo _ _ _ _ (s₁.setTop (mkF m 16 #[.val (.int p0), .val (.int p1), .val (.int p2), .val (.int p3), .val (.int p4), .val (.int bb), .unset, .unset, .unset, .unset] []))
    obtain ⟨T1, h1, X1, e1, E1, A1, D1, -, st1⟩ := newO X0 hx hZ hown (hw _ (List.mem_of_getElem? (i := 0) rfl)) (hw _ (List.mem_of_getElem? (i := 1) rfl)) (hw _ (List.mem_of_getElem? (i := 2) rfl)) e0 (g := (mkF m 16 #[.val (.int p0), .val (.int p1), .val (.int p2), .val (.int p3), .val (.int p4), .val (.int bb), .unset, .unset, .unset, .unset] [])) rfl (hb hby at_16) (by decide) (by decide)
    obtain ⟨b1, g1⟩ : ∃ z, z = h0.size := ⟨_, rfl⟩
    rw [← g1] at A1 D1 st1
    have g_b1 : n0 ≤ b1 := Nat.le_trans Zs (Nat.le_of_eq g1.symm)
    have sz_b1 : h0.size ≤ b1 := Nat.le_trans K.1 (Nat.le_of_eq g1.symm)
    have K := K.ext E1
    have Zs := Nat.le_trans Zs E1.1
    have E_b1 := A1
    have F_bits_b1 : Fld Z h1 b1 "com/example/running_lineage/runninglineage/query/NumberKey" "bits" "J" (.long (0 : Int64)) := D1 (Or.inl (hw _ (List.mem_of_getElem? (i := 32) rfl))) (ty := .long) (by decide)
    refine OwnGo.fwd st1 ?_
    show OwnGo _ _ _ _ (T1.setTop (mkF m 19 #[.val (.int p0), .val (.int p1), .val (.int p2), .val (.int p3), .val (.int p4), .val (.int bb), .unset, .unset, .unset, .unset] [(.ref b1)]))
    refine OwnGo.fwd (fun tq' kq' => XS.dup X1.here hx rfl (hb hby at_19) rfl rfl kq') ?_
    show OwnGo _ _ _ _ (T1.setTop (mkF m 20 #[.val (.int p0), .val (.int p1), .val (.int p2), .val (.int p3), .val (.int p4), .val (.int bb), .unset, .unset, .unset, .unset] [(.ref b1), (.ref b1)]))
    refine OwnGo.fwd (fun tq' kq' => XS.iloadN X1.here hx rfl (hb hby at_20) rfl kq') ?_
    show OwnGo _ _ _ _ (T1.setTop (mkF m 21 #[.val (.int p0), .val (.int p1), .val (.int p2), .val (.int p3), .val (.int p4), .val (.int bb), .unset, .unset, .unset, .unset] [(.int p0), (.ref b1), (.ref b1)]))
    refine OwnGo.fwd (fun tq' kq' => XS.iloadN X1.here hx rfl (hb hby at_21) rfl kq') ?_
    show OwnGo _ _ _ _ (T1.setTop (mkF m 22 #[.val (.int p0), .val (.int p1), .val (.int p2), .val (.int p3), .val (.int p4), .val (.int bb), .unset, .unset, .unset, .unset] [(.int p2), (.int p0), (.ref b1), (.ref b1)]))
    obtain ⟨_, _, ⟨T2, L2, k2, n2⟩, -, X2, ⟨Lc2, hQ2, l2, y2, z2⟩, st2⟩ := Jvm.LawKit.callS X1 hx (y := (⟨"com/example/running_lineage/runninglineage/query/NumberKeyEqualsPinLaw", "num", "(II)D"⟩ : MethodName)) hown (mvT hZ (hw _ (List.mem_of_getElem? (i := 3) rfl))) (mvT hZ (hw _ (List.mem_of_getElem? (i := 4) rfl))) (mvT hZ (hw _ (List.mem_of_getElem? (i := 5) rfl))) (mvT hZ (hw _ (List.mem_of_getElem? (i := 6) rfl))) (by decide) (backOf (W := 2) (rm1 l Z a0 hw [] p0 p2 h1 n0 Zs) hZ (hw _ (List.mem_of_getElem? (i := 6) rfl)) (hw _ (List.mem_of_getElem? (i := 5) rfl)) (by decide) (by decide)) (g := (mkF m 22 #[.val (.int p0), .val (.int p1), .val (.int p2), .val (.int p3), .val (.int p4), .val (.int bb), .unset, .unset, .unset, .unset] [(.int p2), (.int p0), (.ref b1), (.ref b1)])) rfl (by rw [hml]; rfl) (argsL := [(.int p0), (.int p2)]) (rest := [(.ref b1), (.ref b1)]) (lenOf pd_0 rfl) rfl (by show 2 * 0 + _ ≤ _; exact Nat.le_of_eq rfl) (hb hby at_22) (fun _ _ => ⟨rfl, e1, (by decide : 1 + 0 ≤ _), (by decide : 1 + 0 ≤ _)⟩)
    dsimp only [Pt.U, Pt.locs, Pt.cells, Pt.slots] at X2 l2 y2 z2 st2 hQ2
    subst l2 y2 z2
    obtain ⟨rfl, N2q, e2⟩ := hQ2
    have N := Fr.app N N2q
    refine OwnGo.fwd st2 ?_
    show OwnGo _ _ _ _ (T2.setTop (mkF m 25 #[.val (.int p0), .val (.int p1), .val (.int p2), .val (.int p3), .val (.int p4), .val (.int bb), .unset, .unset, .unset, .unset] [(.double (own_nb p0 p2)), (.ref b1), (.ref b1)]))
    obtain ⟨_, _, ⟨T3, L3, k3, n3⟩, -, X3, ⟨Lc3, hQ3, l3, y3, z3⟩, st3⟩ := X2.specialBack hx (y := (⟨"com/example/running_lineage/runninglineage/query/NumberKey", "<init>", "(D)V"⟩ : MethodName)) rfl hown (mvT hZ (hw _ (List.mem_of_getElem? (i := 10) rfl))) (mvT hZ (hw _ (List.mem_of_getElem? (i := 11) rfl))) (mvT hZ (hw _ (List.mem_of_getElem? (i := 12) rfl))) (by decide) (backOf (W := 1) (rm3 l Z a0 hw [] b1 (own_nb p0 p2) h1 n0 Zs E_b1 F_bits_b1 g_b1 (own_nn _ _)) hZ (hw _ (List.mem_of_getElem? (i := 12) rfl)) (hw _ (List.mem_of_getElem? (i := 2) rfl)) (by decide) (by decide)) (g := (mkF m 25 #[.val (.int p0), .val (.int p1), .val (.int p2), .val (.int p3), .val (.int p4), .val (.int bb), .unset, .unset, .unset, .unset] [(.double (own_nb p0 p2)), (.ref b1), (.ref b1)])) rfl (by rw [hml]; rfl) (Steps.refl _) (a := b1) (argsL := [(.double (own_nb p0 p2))]) (rest := [(.ref b1)]) (lenOf pd_2 rfl) rfl (by show 2 * 0 + _ ≤ _; exact Nat.le_of_eq rfl) (hb hby at_25) (fun _ _ => ⟨rfl, e2, (by decide : 1 + 0 ≤ _), (by decide : 1 + 0 ≤ _)⟩)
    dsimp only [Pt.U, Pt.locs, Pt.cells, Pt.slots] at X3 l3 y3 z3 st3 hQ3
    subst l3 y3 z3
    obtain ⟨h3, eh3⟩ : ∃ z, z = T3.heap := ⟨_, rfl⟩
    rw [← eh3] at hQ3
    obtain ⟨rfl, N3q, K3, E_b1, F_bits_b1⟩ := hQ3
    have N := Fr.app N N3q
    have Zs := Nat.le_trans Zs K3.1
    have K := K.trans K3 (allS (Or.inr sz_b1) all0)
    refine OwnGo.thru st3 ?_
    show OwnGo _ _ _ _ (T3.setTop (mkF m 28 #[.val (.int p0), .val (.int p1), .val (.int p2), .val (.int p3), .val (.int p4), .val (.int bb), .unset, .unset, .unset, .unset] [(.ref b1)]))
    refine OwnGo.fwd (fun tq' kq' => XS.astore X3.here hx rfl (hb hby at_28) rfl rfl (l' := #[.val (.int p0), .val (.int p1), .val (.int p2), .val (.int p3), .val (.int p4), .val (.int bb), .val (.ref b1), .unset, .unset, .unset]) rfl kq') ?_
    show OwnGo _ _ _ _ (T3.setTop (mkF m 30 #[.val (.int p0), .val (.int p1), .val (.int p2), .val (.int p3), .val (.int p4), .val (.int bb), .val (.ref b1), .unset, .unset, .unset] []))
    obtain ⟨T4, h4, X4, e4, E4, A4, D4, -, st4⟩ := newO X3 hx hZ hown (hw _ (List.mem_of_getElem? (i := 0) rfl)) (hw _ (List.mem_of_getElem? (i := 1) rfl)) (hw _ (List.mem_of_getElem? (i := 2) rfl)) eh3.symm (g := (mkF m 30 #[.val (.int p0), .val (.int p1), .val (.int p2), .val (.int p3), .val (.int p4), .val (.int bb), .val (.ref b1), .unset, .unset, .unset] [])) rfl (hb hby at_30) (by decide) (by decide)
    obtain ⟨b4, g4⟩ : ∃ z, z = h3.size := ⟨_, rfl⟩
    rw [← g4] at A4 D4 st4
    have ne_b1_b4 : b1 ≠ b4 := Nat.ne_of_lt (Nat.lt_of_lt_of_le E_b1.lt (Nat.le_of_eq g4.symm))
    have g_b4 : n0 ≤ b4 := Nat.le_trans Zs (Nat.le_of_eq g4.symm)
    have sz_b4 : h0.size ≤ b4 := Nat.le_trans K.1 (Nat.le_of_eq g4.symm)
    have K := K.ext E4
    have Zs := Nat.le_trans Zs E4.1
    have E_b1 := E_b1.ext E4
    have F_bits_b1 := F_bits_b1.ext E4
    have E_b4 := A4
    have F_bits_b4 : Fld Z h4 b4 "com/example/running_lineage/runninglineage/query/NumberKey" "bits" "J" (.long (0 : Int64)) := D4 (Or.inl (hw _ (List.mem_of_getElem? (i := 32) rfl))) (ty := .long) (by decide)
    refine OwnGo.fwd st4 ?_
    show OwnGo _ _ _ _ (T4.setTop (mkF m 33 #[.val (.int p0), .val (.int p1), .val (.int p2), .val (.int p3), .val (.int p4), .val (.int bb), .val (.ref b1), .unset, .unset, .unset] [(.ref b4)]))
    refine OwnGo.fwd (fun tq' kq' => XS.dup X4.here hx rfl (hb hby at_33) rfl rfl kq') ?_
    show OwnGo _ _ _ _ (T4.setTop (mkF m 34 #[.val (.int p0), .val (.int p1), .val (.int p2), .val (.int p3), .val (.int p4), .val (.int bb), .val (.ref b1), .unset, .unset, .unset] [(.ref b4), (.ref b4)]))
    refine OwnGo.fwd (fun tq' kq' => XS.iload X4.here hx rfl (hb hby at_34) rfl kq') ?_
    show OwnGo _ _ _ _ (T4.setTop (mkF m 36 #[.val (.int p0), .val (.int p1), .val (.int p2), .val (.int p3), .val (.int p4), .val (.int bb), .val (.ref b1), .unset, .unset, .unset] [(.int bb), (.ref b4), (.ref b4)]))
    refine OwnGo.fwd (fun tq' kq' => XS.iloadN X4.here hx rfl (hb hby at_36) rfl kq') ?_
    show OwnGo _ _ _ _ (T4.setTop (mkF m 37 #[.val (.int p0), .val (.int p1), .val (.int p2), .val (.int p3), .val (.int p4), .val (.int bb), .val (.ref b1), .unset, .unset, .unset] [(.int p3), (.int bb), (.ref b4), (.ref b4)]))
    obtain ⟨_, _, ⟨T5, L5, k5, n5⟩, -, X5, ⟨Lc5, hQ5, l5, y5, z5⟩, st5⟩ := Jvm.LawKit.callS X4 hx (y := (⟨"com/example/running_lineage/runninglineage/query/NumberKeyEqualsPinLaw", "num", "(II)D"⟩ : MethodName)) hown (mvT hZ (hw _ (List.mem_of_getElem? (i := 3) rfl))) (mvT hZ (hw _ (List.mem_of_getElem? (i := 4) rfl))) (mvT hZ (hw _ (List.mem_of_getElem? (i := 5) rfl))) (mvT hZ (hw _ (List.mem_of_getElem? (i := 6) rfl))) (by decide) (backOf (W := 2) (rm1 l Z a0 hw [] bb p3 h4 n0 Zs) hZ (hw _ (List.mem_of_getElem? (i := 6) rfl)) (hw _ (List.mem_of_getElem? (i := 5) rfl)) (by decide) (by decide)) (g := (mkF m 37 #[.val (.int p0), .val (.int p1), .val (.int p2), .val (.int p3), .val (.int p4), .val (.int bb), .val (.ref b1), .unset, .unset, .unset] [(.int p3), (.int bb), (.ref b4), (.ref b4)])) rfl (by rw [hml]; rfl) (argsL := [(.int bb), (.int p3)]) (rest := [(.ref b4), (.ref b4)]) (lenOf pd_0 rfl) rfl (by show 2 * 0 + _ ≤ _; exact Nat.le_of_eq rfl) (hb hby at_37) (fun _ _ => ⟨rfl, e4, (by decide : 2 + 0 ≤ _), (by decide : 2 + 0 ≤ _)⟩)
    dsimp only [Pt.U, Pt.locs, Pt.cells, Pt.slots] at X5 l5 y5 z5 st5 hQ5
    subst l5 y5 z5
    obtain ⟨rfl, N5q, e5⟩ := hQ5
    have N := Fr.app N N5q
    refine OwnGo.fwd st5 ?_
    show OwnGo _ _ _ _ (T5.setTop (mkF m 40 #[.val (.int p0), .val (.int p1), .val (.int p2), .val (.int p3), .val (.int p4), .val (.int bb), .val (.ref b1), .unset, .unset, .unset] [(.double (own_nb bb p3)), (.ref b4), (.ref b4)]))
    obtain ⟨_, _, ⟨T6, L6, k6, n6⟩, -, X6, ⟨Lc6, hQ6, l6, y6, z6⟩, st6⟩ := X5.specialBack hx (y := (⟨"com/example/running_lineage/runninglineage/query/NumberKey", "<init>", "(D)V"⟩ : MethodName)) rfl hown (mvT hZ (hw _ (List.mem_of_getElem? (i := 10) rfl))) (mvT hZ (hw _ (List.mem_of_getElem? (i := 11) rfl))) (mvT hZ (hw _ (List.mem_of_getElem? (i := 12) rfl))) (by decide) (backOf (W := 1) (rm3 l Z a0 hw [] b4 (own_nb bb p3) h4 n0 Zs E_b4 F_bits_b4 g_b4 (own_nn _ _)) hZ (hw _ (List.mem_of_getElem? (i := 12) rfl)) (hw _ (List.mem_of_getElem? (i := 2) rfl)) (by decide) (by decide)) (g := (mkF m 40 #[.val (.int p0), .val (.int p1), .val (.int p2), .val (.int p3), .val (.int p4), .val (.int bb), .val (.ref b1), .unset, .unset, .unset] [(.double (own_nb bb p3)), (.ref b4), (.ref b4)])) rfl (by rw [hml]; rfl) (Steps.refl _) (a := b4) (argsL := [(.double (own_nb bb p3))]) (rest := [(.ref b4)]) (lenOf pd_2 rfl) rfl (by show 2 * 0 + _ ≤ _; exact Nat.le_of_eq rfl) (hb hby at_40) (fun _ _ => ⟨rfl, e5, (by decide : 2 + 0 ≤ _), (by decide : 2 + 0 ≤ _)⟩)
    dsimp only [Pt.U, Pt.locs, Pt.cells, Pt.slots] at X6 l6 y6 z6 st6 hQ6
    subst l6 y6 z6
    obtain ⟨h6, eh6⟩ : ∃ z, z = T6.heap := ⟨_, rfl⟩
    rw [← eh6] at hQ6
    obtain ⟨rfl, N6q, K6, E_b4, F_bits_b4⟩ := hQ6
    have N := Fr.app N N6q
    have Zs := Nat.le_trans Zs K6.1
    have E_b1 := E_b1.keep K6
    have F_bits_b1 := F_bits_b1.keep K6 (ninS ne_b1_b4 nin0)
    have K := K.trans K6 (allS (Or.inr sz_b4) all0)
    refine OwnGo.thru st6 ?_
    show OwnGo _ _ _ _ (T6.setTop (mkF m 43 #[.val (.int p0), .val (.int p1), .val (.int p2), .val (.int p3), .val (.int p4), .val (.int bb), .val (.ref b1), .unset, .unset, .unset] [(.ref b4)]))
    refine OwnGo.fwd (fun tq' kq' => XS.astore X6.here hx rfl (hb hby at_43) rfl rfl (l' := #[.val (.int p0), .val (.int p1), .val (.int p2), .val (.int p3), .val (.int p4), .val (.int bb), .val (.ref b1), .val (.ref b4), .unset, .unset]) rfl kq') ?_
    show OwnGo _ _ _ _ (T6.setTop (mkF m 45 #[.val (.int p0), .val (.int p1), .val (.int p2), .val (.int p3), .val (.int p4), .val (.int bb), .val (.ref b1), .val (.ref b4), .unset, .unset] []))
    refine OwnGo.fwd (fun tq' kq' => XS.iloadN X6.here hx rfl (hb hby at_45) rfl kq') ?_
    show OwnGo _ _ _ _ (T6.setTop (mkF m 46 #[.val (.int p0), .val (.int p1), .val (.int p2), .val (.int p3), .val (.int p4), .val (.int bb), .val (.ref b1), .val (.ref b4), .unset, .unset] [(.int p0)]))
    refine OwnGo.fwd (fun tq' kq' => XS.iload X6.here hx rfl (hb hby at_46) rfl kq') ?_
    show OwnGo _ _ _ _ (T6.setTop (mkF m 48 #[.val (.int p0), .val (.int p1), .val (.int p2), .val (.int p3), .val (.int p4), .val (.int bb), .val (.ref b1), .val (.ref b4), .unset, .unset] [(.int bb), (.int p0)]))
    by_cases hc48_7 : p0.toInt = bb.toInt
    · refine OwnGo.fwd (fun tq' kq' => XS.icmpNo X6.here hx rfl (hb hby at_48) rfl (own_beq rfl rfl hc48_7).2 kq') ?_
      show OwnGo _ _ _ _ (T6.setTop (mkF m 51 #[.val (.int p0), .val (.int p1), .val (.int p2), .val (.int p3), .val (.int p4), .val (.int bb), .val (.ref b1), .val (.ref b4), .unset, .unset] []))
      refine OwnGo.fwd (fun tq' kq' => XS.iloadN X6.here hx rfl (hb hby at_51) rfl kq') ?_
      show OwnGo _ _ _ _ (T6.setTop (mkF m 52 #[.val (.int p0), .val (.int p1), .val (.int p2), .val (.int p3), .val (.int p4), .val (.int bb), .val (.ref b1), .val (.ref b4), .unset, .unset] [(.int p0)]))
      refine OwnGo.fwd (fun tq' kq' => XS.iloadN X6.here hx rfl (hb hby at_52) rfl kq') ?_
      show OwnGo _ _ _ _ (T6.setTop (mkF m 53 #[.val (.int p0), .val (.int p1), .val (.int p2), .val (.int p3), .val (.int p4), .val (.int bb), .val (.ref b1), .val (.ref b4), .unset, .unset] [(.int p2), (.int p0)]))
      obtain ⟨_, _, ⟨T8, L8, k8, n8⟩, -, X8, ⟨Lc8, hQ8, l8, y8, z8⟩, st8⟩ := Jvm.LawKit.callS X6 hx (y := (⟨"com/example/running_lineage/runninglineage/query/NumberKeyEqualsPinLaw", "negZero", "(II)Z"⟩ : MethodName)) hown (mvT hZ (hw _ (List.mem_of_getElem? (i := 7) rfl))) (mvT hZ (hw _ (List.mem_of_getElem? (i := 8) rfl))) (mvT hZ (hw _ (List.mem_of_getElem? (i := 5) rfl))) (mvT hZ (hw _ (List.mem_of_getElem? (i := 9) rfl))) (by decide) (backOf (W := 0) (rm2 l Z a0 hw [] p0 p2 h6 n0 Zs) hZ (hw _ (List.mem_of_getElem? (i := 9) rfl)) (hw _ (List.mem_of_getElem? (i := 5) rfl)) (by decide) (by decide)) (g := (mkF m 53 #[.val (.int p0), .val (.int p1), .val (.int p2), .val (.int p3), .val (.int p4), .val (.int bb), .val (.ref b1), .val (.ref b4), .unset, .unset] [(.int p2), (.int p0)])) rfl (by rw [hml]; rfl) (argsL := [(.int p0), (.int p2)]) (rest := []) (lenOf pd_1 rfl) rfl (by show 2 * 0 + _ ≤ _; exact Nat.le_of_eq rfl) (hb hby at_53) (fun _ _ => ⟨rfl, eh6.symm, (by decide : 2 + 0 ≤ _), (by decide : 2 + 0 ≤ _)⟩)
      dsimp only [Pt.U, Pt.locs, Pt.cells, Pt.slots] at X8 l8 y8 z8 st8 hQ8
      subst l8 y8 z8
      obtain ⟨rfl, N8q, e8⟩ := hQ8
      have N := Fr.app N N8q
      refine OwnGo.fwd st8 ?_
      show OwnGo _ _ _ _ (T8.setTop (mkF m 56 #[.val (.int p0), .val (.int p1), .val (.int p2), .val (.int p3), .val (.int p4), .val (.int bb), .val (.ref b1), .val (.ref b4), .unset, .unset] [(.int (own_ng p0 p2))]))
      refine OwnGo.fwd (fun tq' kq' => XS.iload X8.here hx rfl (hb hby at_56) rfl kq') ?_
      show OwnGo _ _ _ _ (T8.setTop (mkF m 58 #[.val (.int p0), .val (.int p1), .val (.int p2), .val (.int p3), .val (.int p4), .val (.int bb), .val (.ref b1), .val (.ref b4), .unset, .unset] [(.int bb), (.int (own_ng p0 p2))]))
      refine OwnGo.fwd (fun tq' kq' => XS.iloadN X8.here hx rfl (hb hby at_58) rfl kq') ?_
      show OwnGo _ _ _ _ (T8.setTop (mkF m 59 #[.val (.int p0), .val (.int p1), .val (.int p2), .val (.int p3), .val (.int p4), .val (.int bb), .val (.ref b1), .val (.ref b4), .unset, .unset] [(.int p3), (.int bb), (.int (own_ng p0 p2))]))
      obtain ⟨_, _, ⟨T9, L9, k9, n9⟩, -, X9, ⟨Lc9, hQ9, l9, y9, z9⟩, st9⟩ := Jvm.LawKit.callS X8 hx (y := (⟨"com/example/running_lineage/runninglineage/query/NumberKeyEqualsPinLaw", "negZero", "(II)Z"⟩ : MethodName)) hown (mvT hZ (hw _ (List.mem_of_getElem? (i := 7) rfl))) (mvT hZ (hw _ (List.mem_of_getElem? (i := 8) rfl))) (mvT hZ (hw _ (List.mem_of_getElem? (i := 5) rfl))) (mvT hZ (hw _ (List.mem_of_getElem? (i := 9) rfl))) (by decide) (backOf (W := 1) (rm2 l Z a0 hw [] bb p3 h6 n0 Zs) hZ (hw _ (List.mem_of_getElem? (i := 9) rfl)) (hw _ (List.mem_of_getElem? (i := 5) rfl)) (by decide) (by decide)) (g := (mkF m 59 #[.val (.int p0), .val (.int p1), .val (.int p2), .val (.int p3), .val (.int p4), .val (.int bb), .val (.ref b1), .val (.ref b4), .unset, .unset] [(.int p3), (.int bb), (.int (own_ng p0 p2))])) rfl (by rw [hml]; rfl) (argsL := [(.int bb), (.int p3)]) (rest := [(.int (own_ng p0 p2))]) (lenOf pd_1 rfl) rfl (by show 2 * 0 + _ ≤ _; exact Nat.le_of_eq rfl) (hb hby at_59) (fun _ _ => ⟨rfl, e8, (by decide : 2 + 0 ≤ _), (by decide : 2 + 0 ≤ _)⟩)
      dsimp only [Pt.U, Pt.locs, Pt.cells, Pt.slots] at X9 l9 y9 z9 st9 hQ9
      subst l9 y9 z9
      obtain ⟨rfl, N9q, e9⟩ := hQ9
      have N := Fr.app N N9q
      refine OwnGo.fwd st9 ?_
      show OwnGo _ _ _ _ (T9.setTop (mkF m 62 #[.val (.int p0), .val (.int p1), .val (.int p2), .val (.int p3), .val (.int p4), .val (.int bb), .val (.ref b1), .val (.ref b4), .unset, .unset] [(.int (own_ng bb p3)), (.int (own_ng p0 p2))]))
      by_cases hc62_10 : (own_ng p0 p2).toInt = (own_ng bb p3).toInt
      · refine OwnGo.fwd (fun tq' kq' => XS.icmpNo X9.here hx rfl (hb hby at_62) rfl (own_beq rfl rfl hc62_10).2 kq') ?_
        show OwnGo _ _ _ _ (T9.setTop (mkF m 65 #[.val (.int p0), .val (.int p1), .val (.int p2), .val (.int p3), .val (.int p4), .val (.int bb), .val (.ref b1), .val (.ref b4), .unset, .unset] []))
        refine OwnGo.fwd (fun tq' kq' => XS.iconst X9.here hx rfl (hb hby at_65) kq') ?_
        show OwnGo _ _ _ _ (T9.setTop (mkF m 66 #[.val (.int p0), .val (.int p1), .val (.int p2), .val (.int p3), .val (.int p4), .val (.int bb), .val (.ref b1), .val (.ref b4), .unset, .unset] [(.int (1 : Int32))]))
        refine OwnGo.fwd (fun tq' kq' => XS.goto X9.here hx rfl (pc0 := 66) (pc' := 70) rfl (hb hby at_66) (by decide) (by decide) kq') ?_
        show OwnGo _ _ _ _ (T9.setTop (mkF m 70 #[.val (.int p0), .val (.int p1), .val (.int p2), .val (.int p3), .val (.int p4), .val (.int bb), .val (.ref b1), .val (.ref b4), .unset, .unset] [(.int (1 : Int32))]))
        refine OwnGo.fwd (fun tq' kq' => XS.istore X9.here hx rfl (hb hby at_70) rfl (l' := #[.val (.int p0), .val (.int p1), .val (.int p2), .val (.int p3), .val (.int p4), .val (.int bb), .val (.ref b1), .val (.ref b4), .val (.int (1 : Int32)), .unset]) rfl kq') ?_
        show OwnGo _ _ _ _ (T9.setTop (mkF m 72 #[.val (.int p0), .val (.int p1), .val (.int p2), .val (.int p3), .val (.int p4), .val (.int bb), .val (.ref b1), .val (.ref b4), .val (.int (1 : Int32)), .unset] []))
        refine OwnGo.fwd (fun tq' kq' => XS.iload X9.here hx rfl (hb hby at_72) rfl kq') ?_
        show OwnGo _ _ _ _ (T9.setTop (mkF m 74 #[.val (.int p0), .val (.int p1), .val (.int p2), .val (.int p3), .val (.int p4), .val (.int bb), .val (.ref b1), .val (.ref b4), .val (.int (1 : Int32)), .unset] [(.int p4)]))
        refine OwnGo.fwd (fun tq' kq' => XS.iconst X9.here hx rfl (hb hby at_74) kq') ?_
        show OwnGo _ _ _ _ (T9.setTop (mkF m 75 #[.val (.int p0), .val (.int p1), .val (.int p2), .val (.int p3), .val (.int p4), .val (.int bb), .val (.ref b1), .val (.ref b4), .val (.int (1 : Int32)), .unset] [(.int (3 : Int32)), (.int p4)]))
        refine OwnGo.fwd (fun tq' kq' => XS.iand X9.here hx rfl (hb hby at_75) rfl kq') ?_
        show OwnGo _ _ _ _ (T9.setTop (mkF m 76 #[.val (.int p0), .val (.int p1), .val (.int p2), .val (.int p3), .val (.int p4), .val (.int bb), .val (.ref b1), .val (.ref b4), .val (.int (1 : Int32)), .unset] [(.int (p4 &&& (3 : Int32)))]))
        obtain ⟨sel, hv_sel⟩ : ∃ q : Int32, q = (p4 &&& (3 : Int32)) := ⟨_, rfl⟩
        rw [← hv_sel]
        show OwnGo _ _ _ _ (T9.setTop (mkF m 76 #[.val (.int p0), .val (.int p1), .val (.int p2), .val (.int p3), .val (.int p4), .val (.int bb), .val (.ref b1), .val (.ref b4), .val (.int (1 : Int32)), .unset] [(.int sel)]))
        refine OwnGo.fwd (fun tq' kq' => XS.istore X9.here hx rfl (hb hby at_76) rfl (l' := #[.val (.int p0), .val (.int p1), .val (.int p2), .val (.int p3), .val (.int p4), .val (.int bb), .val (.ref b1), .val (.ref b4), .val (.int (1 : Int32)), .val (.int sel)]) rfl kq') ?_
        show OwnGo _ _ _ _ (T9.setTop (mkF m 78 #[.val (.int p0), .val (.int p1), .val (.int p2), .val (.int p3), .val (.int p4), .val (.int bb), .val (.ref b1), .val (.ref b4), .val (.int (1 : Int32)), .val (.int sel)] []))
        refine OwnGo.fwd (fun tq' kq' => XS.iload X9.here hx rfl (hb hby at_78) rfl kq') ?_
        show OwnGo _ _ _ _ (T9.setTop (mkF m 80 #[.val (.int p0), .val (.int p1), .val (.int p2), .val (.int p3), .val (.int p4), .val (.int bb), .val (.ref b1), .val (.ref b4), .val (.int (1 : Int32)), .val (.int sel)] [(.int sel)]))
        by_cases hc80_11 : sel.toInt = 0
        · refine OwnGo.fwd (fun tq' kq' => XS.ifNo X9.here hx rfl (hb hby at_80) rfl ((if0 _ _).trans (own_beq rfl (by decide) hc80_11).2) kq') ?_
          show OwnGo _ _ _ _ (T9.setTop (mkF m 83 #[.val (.int p0), .val (.int p1), .val (.int p2), .val (.int p3), .val (.int p4), .val (.int bb), .val (.ref b1), .val (.ref b4), .val (.int (1 : Int32)), .val (.int sel)] []))
          refine OwnGo.fwd (fun tq' kq' => XS.aload X9.here hx rfl (hb hby at_83) rfl rfl kq') ?_
          show OwnGo _ _ _ _ (T9.setTop (mkF m 85 #[.val (.int p0), .val (.int p1), .val (.int p2), .val (.int p3), .val (.int p4), .val (.int bb), .val (.ref b1), .val (.ref b4), .val (.int (1 : Int32)), .val (.int sel)] [(.ref b1)]))
          refine OwnGo.fwd (fun tq' kq' => XS.aload X9.here hx rfl (hb hby at_85) rfl rfl kq') ?_
          show OwnGo _ _ _ _ (T9.setTop (mkF m 87 #[.val (.int p0), .val (.int p1), .val (.int p2), .val (.int p3), .val (.int p4), .val (.int bb), .val (.ref b1), .val (.ref b4), .val (.int (1 : Int32)), .val (.int sel)] [(.ref b4), (.ref b1)]))
          obtain ⟨cq12, kq12, q12a, q12b, q12c⟩ := isOf hZ e9 E_b1
          obtain ⟨_, _, ⟨T12, L12, k12, n12⟩, -, X12, ⟨Lc12, hQ12, l12, y12, z12⟩, st12⟩ := X9.virtualBack hx (y := (⟨"com/example/running_lineage/runninglineage/query/NumberKey", "equals", "(Ljava/lang/Object;)Z"⟩ : MethodName)) (z := (⟨"com/example/running_lineage/runninglineage/query/NumberKey", "equals", "(Ljava/lang/Object;)Z"⟩ : MethodName)) hown (mvT hZ (hw _ (List.mem_of_getElem? (i := 33) rfl))) (mvT hZ (hw _ (List.mem_of_getElem? (i := 34) rfl))) (notFace_of_selects (args := #[]) (mvT hZ (hw _ (List.mem_of_getElem? (i := 36) rfl)))) (mvT hZ (hw _ (List.mem_of_getElem? (i := 36) rfl))) (mvT hZ (hw _ (List.mem_of_getElem? (i := 35) rfl))) (by decide) (backOf (W := 0) (rm8k l Z a0 hw [] b1 b4 (own_nb p0 p2).toInt64 (own_nb bb p3).toInt64 h6 n0 Zs F_bits_b1 F_bits_b4 E_b4) hZ (hw _ (List.mem_of_getElem? (i := 37) rfl)) (hw _ (List.mem_of_getElem? (i := 2) rfl)) (by decide) (by decide)) q12a q12c (g := (mkF m 87 #[.val (.int p0), .val (.int p1), .val (.int p2), .val (.int p3), .val (.int p4), .val (.int bb), .val (.ref b1), .val (.ref b4), .val (.int (1 : Int32)), .val (.int sel)] [(.ref b4), (.ref b1)])) rfl (by rw [hml]; rfl) (Steps.refl _) (argsL := [(.ref b4)]) (rest := []) (lenOf pd_7 rfl) rfl (by show 2 * 0 + _ ≤ _; exact Nat.le_of_eq rfl) (hb hby at_87) (fun _ _ => ⟨rfl, e9, (by decide : 2 + 0 ≤ _), (by decide : 2 + 0 ≤ _)⟩)
          dsimp only [Pt.U, Pt.locs, Pt.cells, Pt.slots] at X12 l12 y12 z12 st12 hQ12
          subst l12 y12 z12
          obtain ⟨rfl, N12q, e12⟩ := hQ12
          have N := Fr.app N N12q
          refine OwnGo.thru st12 ?_
          show OwnGo _ _ _ _ (T12.setTop (mkF m 90 #[.val (.int p0), .val (.int p1), .val (.int p2), .val (.int p3), .val (.int p4), .val (.int bb), .val (.ref b1), .val (.ref b4), .val (.int (1 : Int32)), .val (.int sel)] [(.int (own_qb (own_nb p0 p2).toInt64 (own_nb bb p3).toInt64))]))
          refine OwnGo.fwd (fun tq' kq' => XS.iload X12.here hx rfl (hb hby at_90) rfl kq') ?_
          show OwnGo _ _ _ _ (T12.setTop (mkF m 92 #[.val (.int p0), .val (.int p1), .val (.int p2), .val (.int p3), .val (.int p4), .val (.int bb), .val (.ref b1), .val (.ref b4), .val (.int (1 : Int32)), .val (.int sel)] [(.int (1 : Int32)), (.int (own_qb (own_nb p0 p2).toInt64 (own_nb bb p3).toInt64))]))
          have hc92_13 : (own_qb (own_nb p0 p2).toInt64 (own_nb bb p3).toInt64).toInt = 1 := by rw [own_q1 (own_same hc48_7 hc62_10)]; decide
          refine OwnGo.fwd (fun tq' kq' => XS.icmpNo X12.here hx rfl (hb hby at_92) rfl (own_beq rfl (by decide) hc92_13).2 kq') ?_
          show OwnGo _ _ _ _ (T12.setTop (mkF m 95 #[.val (.int p0), .val (.int p1), .val (.int p2), .val (.int p3), .val (.int p4), .val (.int bb), .val (.ref b1), .val (.ref b4), .val (.int (1 : Int32)), .val (.int sel)] []))
          refine OwnGo.fwd (fun tq' kq' => XS.aload X12.here hx rfl (hb hby at_95) rfl rfl kq') ?_
          show OwnGo _ _ _ _ (T12.setTop (mkF m 97 #[.val (.int p0), .val (.int p1), .val (.int p2), .val (.int p3), .val (.int p4), .val (.int bb), .val (.ref b1), .val (.ref b4), .val (.int (1 : Int32)), .val (.int sel)] [(.ref b4)]))
          refine OwnGo.fwd (fun tq' kq' => XS.aload X12.here hx rfl (hb hby at_97) rfl rfl kq') ?_
          show OwnGo _ _ _ _ (T12.setTop (mkF m 99 #[.val (.int p0), .val (.int p1), .val (.int p2), .val (.int p3), .val (.int p4), .val (.int bb), .val (.ref b1), .val (.ref b4), .val (.int (1 : Int32)), .val (.int sel)] [(.ref b1), (.ref b4)]))
          obtain ⟨cq14, kq14, q14a, q14b, q14c⟩ := isOf hZ e12 E_b4
          obtain ⟨_, _, ⟨T14, L14, k14, n14⟩, -, X14, ⟨Lc14, hQ14, l14, y14, z14⟩, st14⟩ := X12.virtualBack hx (y := (⟨"com/example/running_lineage/runninglineage/query/NumberKey", "equals", "(Ljava/lang/Object;)Z"⟩ : MethodName)) (z := (⟨"com/example/running_lineage/runninglineage/query/NumberKey", "equals", "(Ljava/lang/Object;)Z"⟩ : MethodName)) hown (mvT hZ (hw _ (List.mem_of_getElem? (i := 33) rfl))) (mvT hZ (hw _ (List.mem_of_getElem? (i := 34) rfl))) (notFace_of_selects (args := #[]) (mvT hZ (hw _ (List.mem_of_getElem? (i := 36) rfl)))) (mvT hZ (hw _ (List.mem_of_getElem? (i := 36) rfl))) (mvT hZ (hw _ (List.mem_of_getElem? (i := 35) rfl))) (by decide) (backOf (W := 0) (rm8k l Z a0 hw [] b4 b1 (own_nb bb p3).toInt64 (own_nb p0 p2).toInt64 h6 n0 Zs F_bits_b4 F_bits_b1 E_b1) hZ (hw _ (List.mem_of_getElem? (i := 37) rfl)) (hw _ (List.mem_of_getElem? (i := 2) rfl)) (by decide) (by decide)) q14a q14c (g := (mkF m 99 #[.val (.int p0), .val (.int p1), .val (.int p2), .val (.int p3), .val (.int p4), .val (.int bb), .val (.ref b1), .val (.ref b4), .val (.int (1 : Int32)), .val (.int sel)] [(.ref b1), (.ref b4)])) rfl (by rw [hml]; rfl) (Steps.refl _) (argsL := [(.ref b1)]) (rest := []) (lenOf pd_7 rfl) rfl (by show 2 * 0 + _ ≤ _; exact Nat.le_of_eq rfl) (hb hby at_99) (fun _ _ => ⟨rfl, e12, (by decide : 2 + 0 ≤ _), (by decide : 2 + 0 ≤ _)⟩)
          dsimp only [Pt.U, Pt.locs, Pt.cells, Pt.slots] at X14 l14 y14 z14 st14 hQ14
          subst l14 y14 z14
          obtain ⟨rfl, N14q, e14⟩ := hQ14
          have N := Fr.app N N14q
          refine OwnGo.thru st14 ?_
          show OwnGo _ _ _ _ (T14.setTop (mkF m 102 #[.val (.int p0), .val (.int p1), .val (.int p2), .val (.int p3), .val (.int p4), .val (.int bb), .val (.ref b1), .val (.ref b4), .val (.int (1 : Int32)), .val (.int sel)] [(.int (own_qb (own_nb bb p3).toInt64 (own_nb p0 p2).toInt64))]))
          refine OwnGo.fwd (fun tq' kq' => XS.iload X14.here hx rfl (hb hby at_102) rfl kq') ?_
          show OwnGo _ _ _ _ (T14.setTop (mkF m 104 #[.val (.int p0), .val (.int p1), .val (.int p2), .val (.int p3), .val (.int p4), .val (.int bb), .val (.ref b1), .val (.ref b4), .val (.int (1 : Int32)), .val (.int sel)] [(.int (1 : Int32)), (.int (own_qb (own_nb bb p3).toInt64 (own_nb p0 p2).toInt64))]))
          have hc104_15 : (own_qb (own_nb bb p3).toInt64 (own_nb p0 p2).toInt64).toInt = 1 := by rw [own_q1 ((own_same hc48_7 hc62_10).symm)]; decide
          refine OwnGo.fwd (fun tq' kq' => XS.icmpNo X14.here hx rfl (hb hby at_104) rfl (own_beq rfl (by decide) hc104_15).2 kq') ?_
          show OwnGo _ _ _ _ (T14.setTop (mkF m 107 #[.val (.int p0), .val (.int p1), .val (.int p2), .val (.int p3), .val (.int p4), .val (.int bb), .val (.ref b1), .val (.ref b4), .val (.int (1 : Int32)), .val (.int sel)] []))
          refine OwnGo.fwd (fun tq' kq' => XS.iconst X14.here hx rfl (hb hby at_107) kq') ?_
          show OwnGo _ _ _ _ (T14.setTop (mkF m 108 #[.val (.int p0), .val (.int p1), .val (.int p2), .val (.int p3), .val (.int p4), .val (.int bb), .val (.ref b1), .val (.ref b4), .val (.int (1 : Int32)), .val (.int sel)] [(.int (1 : Int32))]))
          refine OwnGo.fwd (fun tq' kq' => XS.goto X14.here hx rfl (pc0 := 108) (pc' := 112) rfl (hb hby at_108) (by decide) (by decide) kq') ?_
          show OwnGo _ _ _ _ (T14.setTop (mkF m 112 #[.val (.int p0), .val (.int p1), .val (.int p2), .val (.int p3), .val (.int p4), .val (.int bb), .val (.ref b1), .val (.ref b4), .val (.int (1 : Int32)), .val (.int sel)] [(.int (1 : Int32))]))
          exact own_retZ X14 hlk hx Bd.returns (hb hby at_112) (by decide) (by decide) e14 ⟨rfl, N⟩
        · refine OwnGo.fwd (fun tq' kq' => XS.ifYes X9.here hx rfl (pc0 := 80) (pc' := 113) rfl (hb hby at_80) rfl ((if0 _ _).trans (own_bneq rfl (by decide) hc80_11).2) (by decide) (by decide) kq') ?_
          show OwnGo _ _ _ _ (T9.setTop (mkF m 113 #[.val (.int p0), .val (.int p1), .val (.int p2), .val (.int p3), .val (.int p4), .val (.int bb), .val (.ref b1), .val (.ref b4), .val (.int (1 : Int32)), .val (.int sel)] []))
          refine OwnGo.fwd (fun tq' kq' => XS.iload X9.here hx rfl (hb hby at_113) rfl kq') ?_
          show OwnGo _ _ _ _ (T9.setTop (mkF m 115 #[.val (.int p0), .val (.int p1), .val (.int p2), .val (.int p3), .val (.int p4), .val (.int bb), .val (.ref b1), .val (.ref b4), .val (.int (1 : Int32)), .val (.int sel)] [(.int sel)]))
          refine OwnGo.fwd (fun tq' kq' => XS.iconst X9.here hx rfl (hb hby at_115) kq') ?_
          show OwnGo _ _ _ _ (T9.setTop (mkF m 116 #[.val (.int p0), .val (.int p1), .val (.int p2), .val (.int p3), .val (.int p4), .val (.int bb), .val (.ref b1), .val (.ref b4), .val (.int (1 : Int32)), .val (.int sel)] [(.int (1 : Int32)), (.int sel)]))
          by_cases hc116_16 : sel.toInt = 1
          · refine OwnGo.fwd (fun tq' kq' => XS.icmpNo X9.here hx rfl (hb hby at_116) rfl (own_beq rfl (by decide) hc116_16).2 kq') ?_
            show OwnGo _ _ _ _ (T9.setTop (mkF m 119 #[.val (.int p0), .val (.int p1), .val (.int p2), .val (.int p3), .val (.int p4), .val (.int bb), .val (.ref b1), .val (.ref b4), .val (.int (1 : Int32)), .val (.int sel)] []))
            refine OwnGo.fwd (fun tq' kq' => XS.aload X9.here hx rfl (hb hby at_119) rfl rfl kq') ?_
            show OwnGo _ _ _ _ (T9.setTop (mkF m 121 #[.val (.int p0), .val (.int p1), .val (.int p2), .val (.int p3), .val (.int p4), .val (.int bb), .val (.ref b1), .val (.ref b4), .val (.int (1 : Int32)), .val (.int sel)] [(.ref b1)]))
            refine OwnGo.fwd (fun tq' kq' => XS.aconstNull X9.here hx rfl (hb hby at_121) kq') ?_
            show OwnGo _ _ _ _ (T9.setTop (mkF m 122 #[.val (.int p0), .val (.int p1), .val (.int p2), .val (.int p3), .val (.int p4), .val (.int bb), .val (.ref b1), .val (.ref b4), .val (.int (1 : Int32)), .val (.int sel)] [.null, (.ref b1)]))
            obtain ⟨cq17, kq17, q17a, q17b, q17c⟩ := isOf hZ e9 E_b1
            obtain ⟨_, _, ⟨T17, L17, k17, n17⟩, -, X17, ⟨Lc17, hQ17, l17, y17, z17⟩, st17⟩ := X9.virtualBack hx (y := (⟨"com/example/running_lineage/runninglineage/query/NumberKey", "equals", "(Ljava/lang/Object;)Z"⟩ : MethodName)) (z := (⟨"com/example/running_lineage/runninglineage/query/NumberKey", "equals", "(Ljava/lang/Object;)Z"⟩ : MethodName)) hown (mvT hZ (hw _ (List.mem_of_getElem? (i := 33) rfl))) (mvT hZ (hw _ (List.mem_of_getElem? (i := 34) rfl))) (notFace_of_selects (args := #[]) (mvT hZ (hw _ (List.mem_of_getElem? (i := 36) rfl)))) (mvT hZ (hw _ (List.mem_of_getElem? (i := 36) rfl))) (mvT hZ (hw _ (List.mem_of_getElem? (i := 35) rfl))) (by decide) (backOf (W := 0) (rm8n l Z a0 hw [] b1 h6 n0 Zs) hZ (hw _ (List.mem_of_getElem? (i := 37) rfl)) (hw _ (List.mem_of_getElem? (i := 2) rfl)) (by decide) (by decide)) q17a q17c (g := (mkF m 122 #[.val (.int p0), .val (.int p1), .val (.int p2), .val (.int p3), .val (.int p4), .val (.int bb), .val (.ref b1), .val (.ref b4), .val (.int (1 : Int32)), .val (.int sel)] [.null, (.ref b1)])) rfl (by rw [hml]; rfl) (Steps.refl _) (argsL := [.null]) (rest := []) (lenOf pd_7 rfl) rfl (by show 2 * 0 + _ ≤ _; exact Nat.le_of_eq rfl) (hb hby at_122) (fun _ _ => ⟨rfl, e9, (by decide : 2 + 0 ≤ _), (by decide : 2 + 0 ≤ _)⟩)
            dsimp only [Pt.U, Pt.locs, Pt.cells, Pt.slots] at X17 l17 y17 z17 st17 hQ17
            subst l17 y17 z17
            obtain ⟨rfl, N17q, e17⟩ := hQ17
            have N := Fr.app N N17q
            refine OwnGo.thru st17 ?_
            show OwnGo _ _ _ _ (T17.setTop (mkF m 125 #[.val (.int p0), .val (.int p1), .val (.int p2), .val (.int p3), .val (.int p4), .val (.int bb), .val (.ref b1), .val (.ref b4), .val (.int (1 : Int32)), .val (.int sel)] [(.int (0 : Int32))]))
            have hc125_18 : (0 : Int) = (0 : Int) := rfl
            refine OwnGo.fwd (fun tq' kq' => XS.ifNo X17.here hx rfl (hb hby at_125) rfl ((if0 _ _).trans (own_beq (by decide) (by decide) hc125_18).2) kq') ?_
            show OwnGo _ _ _ _ (T17.setTop (mkF m 128 #[.val (.int p0), .val (.int p1), .val (.int p2), .val (.int p3), .val (.int p4), .val (.int bb), .val (.ref b1), .val (.ref b4), .val (.int (1 : Int32)), .val (.int sel)] []))
            refine OwnGo.fwd (fun tq' kq' => XS.iconst X17.here hx rfl (hb hby at_128) kq') ?_
            show OwnGo _ _ _ _ (T17.setTop (mkF m 129 #[.val (.int p0), .val (.int p1), .val (.int p2), .val (.int p3), .val (.int p4), .val (.int bb), .val (.ref b1), .val (.ref b4), .val (.int (1 : Int32)), .val (.int sel)] [(.int (1 : Int32))]))
            refine OwnGo.fwd (fun tq' kq' => XS.goto X17.here hx rfl (pc0 := 129) (pc' := 133) rfl (hb hby at_129) (by decide) (by decide) kq') ?_
            show OwnGo _ _ _ _ (T17.setTop (mkF m 133 #[.val (.int p0), .val (.int p1), .val (.int p2), .val (.int p3), .val (.int p4), .val (.int bb), .val (.ref b1), .val (.ref b4), .val (.int (1 : Int32)), .val (.int sel)] [(.int (1 : Int32))]))
            exact own_retZ X17 hlk hx Bd.returns (hb hby at_133) (by decide) (by decide) e17 ⟨rfl, N⟩
          · refine OwnGo.fwd (fun tq' kq' => XS.icmpYes X9.here hx rfl (pc0 := 116) (pc' := 134) rfl (hb hby at_116) rfl (own_bneq rfl (by decide) hc116_16).2 (by decide) (by decide) kq') ?_
            show OwnGo _ _ _ _ (T9.setTop (mkF m 134 #[.val (.int p0), .val (.int p1), .val (.int p2), .val (.int p3), .val (.int p4), .val (.int bb), .val (.ref b1), .val (.ref b4), .val (.int (1 : Int32)), .val (.int sel)] []))
            refine OwnGo.fwd (fun tq' kq' => XS.iload X9.here hx rfl (hb hby at_134) rfl kq') ?_
            show OwnGo _ _ _ _ (T9.setTop (mkF m 136 #[.val (.int p0), .val (.int p1), .val (.int p2), .val (.int p3), .val (.int p4), .val (.int bb), .val (.ref b1), .val (.ref b4), .val (.int (1 : Int32)), .val (.int sel)] [(.int sel)]))
            refine OwnGo.fwd (fun tq' kq' => XS.iconst X9.here hx rfl (hb hby at_136) kq') ?_
            show OwnGo _ _ _ _ (T9.setTop (mkF m 137 #[.val (.int p0), .val (.int p1), .val (.int p2), .val (.int p3), .val (.int p4), .val (.int bb), .val (.ref b1), .val (.ref b4), .val (.int (1 : Int32)), .val (.int sel)] [(.int (2 : Int32)), (.int sel)]))
            by_cases hc137_19 : sel.toInt = 2
            · refine OwnGo.fwd (fun tq' kq' => XS.icmpNo X9.here hx rfl (hb hby at_137) rfl (own_beq rfl (by decide) hc137_19).2 kq') ?_
              show OwnGo _ _ _ _ (T9.setTop (mkF m 140 #[.val (.int p0), .val (.int p1), .val (.int p2), .val (.int p3), .val (.int p4), .val (.int bb), .val (.ref b1), .val (.ref b4), .val (.int (1 : Int32)), .val (.int sel)] []))
              refine OwnGo.fwd (fun tq' kq' => XS.aload X9.here hx rfl (hb hby at_140) rfl rfl kq') ?_
              show OwnGo _ _ _ _ (T9.setTop (mkF m 142 #[.val (.int p0), .val (.int p1), .val (.int p2), .val (.int p3), .val (.int p4), .val (.int bb), .val (.ref b1), .val (.ref b4), .val (.int (1 : Int32)), .val (.int sel)] [(.ref b1)]))
              refine OwnGo.fwd (fun tq' kq' => XS.iloadN X9.here hx rfl (hb hby at_142) rfl kq') ?_
              show OwnGo _ _ _ _ (T9.setTop (mkF m 143 #[.val (.int p0), .val (.int p1), .val (.int p2), .val (.int p3), .val (.int p4), .val (.int bb), .val (.ref b1), .val (.ref b4), .val (.int (1 : Int32)), .val (.int sel)] [(.int p0), (.ref b1)]))
              obtain ⟨_, _, ⟨T20, L20, k20, n20⟩, -, X20, ⟨Lc20, hQ20, l20, y20, z20⟩, st20⟩ := Jvm.LawKit.callS X9 hx (y := (⟨"java/lang/Integer", "valueOf", "(I)Ljava/lang/Integer;"⟩ : MethodName)) hown (mvT hZ (hw _ (List.mem_of_getElem? (i := 41) rfl))) (mvT hZ (hw _ (List.mem_of_getElem? (i := 42) rfl))) (mvT hZ (hw _ (List.mem_of_getElem? (i := 43) rfl))) (mvT hZ (hw _ (List.mem_of_getElem? (i := 44) rfl))) (by decide) (backOf (W := 1) (rm9 l Z a0 hw [] p0 h6 n0 Zs (IC0.ext (own_kext K))) hZ (hw _ (List.mem_of_getElem? (i := 44) rfl)) (hw _ (List.mem_of_getElem? (i := 43) rfl)) (by decide) (by decide)) (g := (mkF m 143 #[.val (.int p0), .val (.int p1), .val (.int p2), .val (.int p3), .val (.int p4), .val (.int bb), .val (.ref b1), .val (.ref b4), .val (.int (1 : Int32)), .val (.int sel)] [(.int p0), (.ref b1)])) rfl (by rw [hml]; rfl) (argsL := [(.int p0)]) (rest := [(.ref b1)]) (lenOf pd_8 rfl) rfl (by show 2 * 0 + _ ≤ _; exact Nat.le_of_eq rfl) (hb hby at_143) (fun _ _ => ⟨rfl, e9, (by decide : 2 + 1 ≤ _), (by decide : 2 + 1 ≤ _)⟩)
              dsimp only [Pt.U, Pt.locs, Pt.cells, Pt.slots] at X20 l20 y20 z20 st20 hQ20
              subst l20 y20 z20
              obtain ⟨h20, eh20⟩ : ∃ z, z = T20.heap := ⟨_, rfl⟩
              rw [← eh20] at hQ20
              obtain ⟨N20q, K20, iv20, rfl, E_iv20⟩ := hQ20
              have N := Fr.app N N20q
              have Zs := Nat.le_trans Zs K20.1
              have E_b1 := E_b1.keep K20
              have F_bits_b1 := F_bits_b1.keep K20 nin0
              have E_b4 := E_b4.keep K20
              have F_bits_b4 := F_bits_b4.keep K20 nin0
              have K := K.trans K20 all0
              refine OwnGo.fwd st20 ?_
              show OwnGo _ _ _ _ (T20.setTop (mkF m 146 #[.val (.int p0), .val (.int p1), .val (.int p2), .val (.int p3), .val (.int p4), .val (.int bb), .val (.ref b1), .val (.ref b4), .val (.int (1 : Int32)), .val (.int sel)] [(.ref iv20), (.ref b1)]))
              obtain ⟨cq21, kq21, q21a, q21b, q21c⟩ := isOf hZ eh20.symm E_b1
              obtain ⟨_, _, ⟨T21, L21, k21, n21⟩, -, X21, ⟨Lc21, hQ21, l21, y21, z21⟩, st21⟩ := X20.virtualBack hx (y := (⟨"com/example/running_lineage/runninglineage/query/NumberKey", "equals", "(Ljava/lang/Object;)Z"⟩ : MethodName)) (z := (⟨"com/example/running_lineage/runninglineage/query/NumberKey", "equals", "(Ljava/lang/Object;)Z"⟩ : MethodName)) hown (mvT hZ (hw _ (List.mem_of_getElem? (i := 33) rfl))) (mvT hZ (hw _ (List.mem_of_getElem? (i := 34) rfl))) (notFace_of_selects (args := #[]) (mvT hZ (hw _ (List.mem_of_getElem? (i := 36) rfl)))) (mvT hZ (hw _ (List.mem_of_getElem? (i := 36) rfl))) (mvT hZ (hw _ (List.mem_of_getElem? (i := 35) rfl))) (by decide) (backOf (W := 0) (rm8i l Z a0 hw [] b1 iv20 h20 n0 Zs E_iv20) hZ (hw _ (List.mem_of_getElem? (i := 37) rfl)) (hw _ (List.mem_of_getElem? (i := 2) rfl)) (by decide) (by decide)) q21a q21c (g := (mkF m 146 #[.val (.int p0), .val (.int p1), .val (.int p2), .val (.int p3), .val (.int p4), .val (.int bb), .val (.ref b1), .val (.ref b4), .val (.int (1 : Int32)), .val (.int sel)] [(.ref iv20), (.ref b1)])) rfl (by rw [hml]; rfl) (Steps.refl _) (argsL := [(.ref iv20)]) (rest := []) (lenOf pd_7 rfl) rfl (by show 2 * 0 + _ ≤ _; exact Nat.le_of_eq rfl) (hb hby at_146) (fun _ _ => ⟨rfl, eh20.symm, (by decide : 3 + 0 ≤ _), (by decide : 3 + 0 ≤ _)⟩)
              dsimp only [Pt.U, Pt.locs, Pt.cells, Pt.slots] at X21 l21 y21 z21 st21 hQ21
              subst l21 y21 z21
              obtain ⟨rfl, N21q, e21⟩ := hQ21
              have N := Fr.app N N21q
              refine OwnGo.thru st21 ?_
              show OwnGo _ _ _ _ (T21.setTop (mkF m 149 #[.val (.int p0), .val (.int p1), .val (.int p2), .val (.int p3), .val (.int p4), .val (.int bb), .val (.ref b1), .val (.ref b4), .val (.int (1 : Int32)), .val (.int sel)] [(.int (0 : Int32))]))
              have hc149_22 : (0 : Int) = (0 : Int) := rfl
              refine OwnGo.fwd (fun tq' kq' => XS.ifNo X21.here hx rfl (hb hby at_149) rfl ((if0 _ _).trans (own_beq (by decide) (by decide) hc149_22).2) kq') ?_
              show OwnGo _ _ _ _ (T21.setTop (mkF m 152 #[.val (.int p0), .val (.int p1), .val (.int p2), .val (.int p3), .val (.int p4), .val (.int bb), .val (.ref b1), .val (.ref b4), .val (.int (1 : Int32)), .val (.int sel)] []))
              refine OwnGo.fwd (fun tq' kq' => XS.iconst X21.here hx rfl (hb hby at_152) kq') ?_
              show OwnGo _ _ _ _ (T21.setTop (mkF m 153 #[.val (.int p0), .val (.int p1), .val (.int p2), .val (.int p3), .val (.int p4), .val (.int bb), .val (.ref b1), .val (.ref b4), .val (.int (1 : Int32)), .val (.int sel)] [(.int (1 : Int32))]))
              refine OwnGo.fwd (fun tq' kq' => XS.goto X21.here hx rfl (pc0 := 153) (pc' := 157) rfl (hb hby at_153) (by decide) (by decide) kq') ?_
              show OwnGo _ _ _ _ (T21.setTop (mkF m 157 #[.val (.int p0), .val (.int p1), .val (.int p2), .val (.int p3), .val (.int p4), .val (.int bb), .val (.ref b1), .val (.ref b4), .val (.int (1 : Int32)), .val (.int sel)] [(.int (1 : Int32))]))
              exact own_retZ X21 hlk hx Bd.returns (hb hby at_157) (by decide) (by decide) e21 ⟨rfl, N⟩
            · refine OwnGo.fwd (fun tq' kq' => XS.icmpYes X9.here hx rfl (pc0 := 137) (pc' := 158) rfl (hb hby at_137) rfl (own_bneq rfl (by decide) hc137_19).2 (by decide) (by decide) kq') ?_
              show OwnGo _ _ _ _ (T9.setTop (mkF m 158 #[.val (.int p0), .val (.int p1), .val (.int p2), .val (.int p3), .val (.int p4), .val (.int bb), .val (.ref b1), .val (.ref b4), .val (.int (1 : Int32)), .val (.int sel)] []))
              refine OwnGo.fwd (fun tq' kq' => XS.aload X9.here hx rfl (hb hby at_158) rfl rfl kq') ?_
              show OwnGo _ _ _ _ (T9.setTop (mkF m 160 #[.val (.int p0), .val (.int p1), .val (.int p2), .val (.int p3), .val (.int p4), .val (.int bb), .val (.ref b1), .val (.ref b4), .val (.int (1 : Int32)), .val (.int sel)] [(.ref b1)]))
              refine OwnGo.fwd (fun tq' kq' => XS.aload X9.here hx rfl (hb hby at_160) rfl rfl kq') ?_
              show OwnGo _ _ _ _ (T9.setTop (mkF m 162 #[.val (.int p0), .val (.int p1), .val (.int p2), .val (.int p3), .val (.int p4), .val (.int bb), .val (.ref b1), .val (.ref b4), .val (.int (1 : Int32)), .val (.int sel)] [(.ref b1), (.ref b1)]))
              obtain ⟨cq23, kq23, q23a, q23b, q23c⟩ := isOf hZ e9 E_b1
              obtain ⟨_, _, ⟨T23, L23, k23, n23⟩, -, X23, ⟨Lc23, hQ23, l23, y23, z23⟩, st23⟩ := X9.virtualBack hx (y := (⟨"com/example/running_lineage/runninglineage/query/NumberKey", "equals", "(Ljava/lang/Object;)Z"⟩ : MethodName)) (z := (⟨"com/example/running_lineage/runninglineage/query/NumberKey", "equals", "(Ljava/lang/Object;)Z"⟩ : MethodName)) hown (mvT hZ (hw _ (List.mem_of_getElem? (i := 33) rfl))) (mvT hZ (hw _ (List.mem_of_getElem? (i := 34) rfl))) (notFace_of_selects (args := #[]) (mvT hZ (hw _ (List.mem_of_getElem? (i := 36) rfl)))) (mvT hZ (hw _ (List.mem_of_getElem? (i := 36) rfl))) (mvT hZ (hw _ (List.mem_of_getElem? (i := 35) rfl))) (by decide) (backOf (W := 0) (rm8k l Z a0 hw [] b1 b1 (own_nb p0 p2).toInt64 (own_nb p0 p2).toInt64 h6 n0 Zs F_bits_b1 F_bits_b1 E_b1) hZ (hw _ (List.mem_of_getElem? (i := 37) rfl)) (hw _ (List.mem_of_getElem? (i := 2) rfl)) (by decide) (by decide)) q23a q23c (g := (mkF m 162 #[.val (.int p0), .val (.int p1), .val (.int p2), .val (.int p3), .val (.int p4), .val (.int bb), .val (.ref b1), .val (.ref b4), .val (.int (1 : Int32)), .val (.int sel)] [(.ref b1), (.ref b1)])) rfl (by rw [hml]; rfl) (Steps.refl _) (argsL := [(.ref b1)]) (rest := []) (lenOf pd_7 rfl) rfl (by show 2 * 0 + _ ≤ _; exact Nat.le_of_eq rfl) (hb hby at_162) (fun _ _ => ⟨rfl, e9, (by decide : 2 + 0 ≤ _), (by decide : 2 + 0 ≤ _)⟩)
              dsimp only [Pt.U, Pt.locs, Pt.cells, Pt.slots] at X23 l23 y23 z23 st23 hQ23
              subst l23 y23 z23
              obtain ⟨rfl, N23q, e23⟩ := hQ23
              have N := Fr.app N N23q
              refine OwnGo.thru st23 ?_
              show OwnGo _ _ _ _ (T23.setTop (mkF m 165 #[.val (.int p0), .val (.int p1), .val (.int p2), .val (.int p3), .val (.int p4), .val (.int bb), .val (.ref b1), .val (.ref b4), .val (.int (1 : Int32)), .val (.int sel)] [(.int (own_qb (own_nb p0 p2).toInt64 (own_nb p0 p2).toInt64))]))
              exact own_retZ X23 hlk hx Bd.returns (hb hby at_165) (by decide) (by decide) e23 ⟨by rw [own_qs]; rfl, N⟩
      · refine OwnGo.fwd (fun tq' kq' => XS.icmpYes X9.here hx rfl (pc0 := 62) (pc' := 69) rfl (hb hby at_62) rfl (own_bneq rfl rfl hc62_10).2 (by decide) (by decide) kq') ?_
        show OwnGo _ _ _ _ (T9.setTop (mkF m 69 #[.val (.int p0), .val (.int p1), .val (.int p2), .val (.int p3), .val (.int p4), .val (.int bb), .val (.ref b1), .val (.ref b4), .unset, .unset] []))
        refine OwnGo.fwd (fun tq' kq' => XS.iconst X9.here hx rfl (hb hby at_69) kq') ?_
        show OwnGo _ _ _ _ (T9.setTop (mkF m 70 #[.val (.int p0), .val (.int p1), .val (.int p2), .val (.int p3), .val (.int p4), .val (.int bb), .val (.ref b1), .val (.ref b4), .unset, .unset] [(.int (0 : Int32))]))
        refine OwnGo.fwd (fun tq' kq' => XS.istore X9.here hx rfl (hb hby at_70) rfl (l' := #[.val (.int p0), .val (.int p1), .val (.int p2), .val (.int p3), .val (.int p4), .val (.int bb), .val (.ref b1), .val (.ref b4), .val (.int (0 : Int32)), .unset]) rfl kq') ?_
        show OwnGo _ _ _ _ (T9.setTop (mkF m 72 #[.val (.int p0), .val (.int p1), .val (.int p2), .val (.int p3), .val (.int p4), .val (.int bb), .val (.ref b1), .val (.ref b4), .val (.int (0 : Int32)), .unset] []))
        refine OwnGo.fwd (fun tq' kq' => XS.iload X9.here hx rfl (hb hby at_72) rfl kq') ?_
        show OwnGo _ _ _ _ (T9.setTop (mkF m 74 #[.val (.int p0), .val (.int p1), .val (.int p2), .val (.int p3), .val (.int p4), .val (.int bb), .val (.ref b1), .val (.ref b4), .val (.int (0 : Int32)), .unset] [(.int p4)]))
        refine OwnGo.fwd (fun tq' kq' => XS.iconst X9.here hx rfl (hb hby at_74) kq') ?_
        show OwnGo _ _ _ _ (T9.setTop (mkF m 75 #[.val (.int p0), .val (.int p1), .val (.int p2), .val (.int p3), .val (.int p4), .val (.int bb), .val (.ref b1), .val (.ref b4), .val (.int (0 : Int32)), .unset] [(.int (3 : Int32)), (.int p4)]))
        refine OwnGo.fwd (fun tq' kq' => XS.iand X9.here hx rfl (hb hby at_75) rfl kq') ?_
        show OwnGo _ _ _ _ (T9.setTop (mkF m 76 #[.val (.int p0), .val (.int p1), .val (.int p2), .val (.int p3), .val (.int p4), .val (.int bb), .val (.ref b1), .val (.ref b4), .val (.int (0 : Int32)), .unset] [(.int (p4 &&& (3 : Int32)))]))
        obtain ⟨sel, hv_sel⟩ : ∃ q : Int32, q = (p4 &&& (3 : Int32)) := ⟨_, rfl⟩
        rw [← hv_sel]
        show OwnGo _ _ _ _ (T9.setTop (mkF m 76 #[.val (.int p0), .val (.int p1), .val (.int p2), .val (.int p3), .val (.int p4), .val (.int bb), .val (.ref b1), .val (.ref b4), .val (.int (0 : Int32)), .unset] [(.int sel)]))
        refine OwnGo.fwd (fun tq' kq' => XS.istore X9.here hx rfl (hb hby at_76) rfl (l' := #[.val (.int p0), .val (.int p1), .val (.int p2), .val (.int p3), .val (.int p4), .val (.int bb), .val (.ref b1), .val (.ref b4), .val (.int (0 : Int32)), .val (.int sel)]) rfl kq') ?_
        show OwnGo _ _ _ _ (T9.setTop (mkF m 78 #[.val (.int p0), .val (.int p1), .val (.int p2), .val (.int p3), .val (.int p4), .val (.int bb), .val (.ref b1), .val (.ref b4), .val (.int (0 : Int32)), .val (.int sel)] []))
        refine OwnGo.fwd (fun tq' kq' => XS.iload X9.here hx rfl (hb hby at_78) rfl kq') ?_
        show OwnGo _ _ _ _ (T9.setTop (mkF m 80 #[.val (.int p0), .val (.int p1), .val (.int p2), .val (.int p3), .val (.int p4), .val (.int bb), .val (.ref b1), .val (.ref b4), .val (.int (0 : Int32)), .val (.int sel)] [(.int sel)]))
        by_cases hc80_24 : sel.toInt = 0
        · refine OwnGo.fwd (fun tq' kq' => XS.ifNo X9.here hx rfl (hb hby at_80) rfl ((if0 _ _).trans (own_beq rfl (by decide) hc80_24).2) kq') ?_
          show OwnGo _ _ _ _ (T9.setTop (mkF m 83 #[.val (.int p0), .val (.int p1), .val (.int p2), .val (.int p3), .val (.int p4), .val (.int bb), .val (.ref b1), .val (.ref b4), .val (.int (0 : Int32)), .val (.int sel)] []))
          refine OwnGo.fwd (fun tq' kq' => XS.aload X9.here hx rfl (hb hby at_83) rfl rfl kq') ?_
          show OwnGo _ _ _ _ (T9.setTop (mkF m 85 #[.val (.int p0), .val (.int p1), .val (.int p2), .val (.int p3), .val (.int p4), .val (.int bb), .val (.ref b1), .val (.ref b4), .val (.int (0 : Int32)), .val (.int sel)] [(.ref b1)]))
          refine OwnGo.fwd (fun tq' kq' => XS.aload X9.here hx rfl (hb hby at_85) rfl rfl kq') ?_
          show OwnGo _ _ _ _ (T9.setTop (mkF m 87 #[.val (.int p0), .val (.int p1), .val (.int p2), .val (.int p3), .val (.int p4), .val (.int bb), .val (.ref b1), .val (.ref b4), .val (.int (0 : Int32)), .val (.int sel)] [(.ref b4), (.ref b1)]))
          obtain ⟨cq25, kq25, q25a, q25b, q25c⟩ := isOf hZ e9 E_b1
          obtain ⟨_, _, ⟨T25, L25, k25, n25⟩, -, X25, ⟨Lc25, hQ25, l25, y25, z25⟩, st25⟩ := X9.virtualBack hx (y := (⟨"com/example/running_lineage/runninglineage/query/NumberKey", "equals", "(Ljava/lang/Object;)Z"⟩ : MethodName)) (z := (⟨"com/example/running_lineage/runninglineage/query/NumberKey", "equals", "(Ljava/lang/Object;)Z"⟩ : MethodName)) hown (mvT hZ (hw _ (List.mem_of_getElem? (i := 33) rfl))) (mvT hZ (hw _ (List.mem_of_getElem? (i := 34) rfl))) (notFace_of_selects (args := #[]) (mvT hZ (hw _ (List.mem_of_getElem? (i := 36) rfl)))) (mvT hZ (hw _ (List.mem_of_getElem? (i := 36) rfl))) (mvT hZ (hw _ (List.mem_of_getElem? (i := 35) rfl))) (by decide) (backOf (W := 0) (rm8k l Z a0 hw [] b1 b4 (own_nb p0 p2).toInt64 (own_nb bb p3).toInt64 h6 n0 Zs F_bits_b1 F_bits_b4 E_b4) hZ (hw _ (List.mem_of_getElem? (i := 37) rfl)) (hw _ (List.mem_of_getElem? (i := 2) rfl)) (by decide) (by decide)) q25a q25c (g := (mkF m 87 #[.val (.int p0), .val (.int p1), .val (.int p2), .val (.int p3), .val (.int p4), .val (.int bb), .val (.ref b1), .val (.ref b4), .val (.int (0 : Int32)), .val (.int sel)] [(.ref b4), (.ref b1)])) rfl (by rw [hml]; rfl) (Steps.refl _) (argsL := [(.ref b4)]) (rest := []) (lenOf pd_7 rfl) rfl (by show 2 * 0 + _ ≤ _; exact Nat.le_of_eq rfl) (hb hby at_87) (fun _ _ => ⟨rfl, e9, (by decide : 2 + 0 ≤ _), (by decide : 2 + 0 ≤ _)⟩)
          dsimp only [Pt.U, Pt.locs, Pt.cells, Pt.slots] at X25 l25 y25 z25 st25 hQ25
          subst l25 y25 z25
          obtain ⟨rfl, N25q, e25⟩ := hQ25
          have N := Fr.app N N25q
          refine OwnGo.thru st25 ?_
          show OwnGo _ _ _ _ (T25.setTop (mkF m 90 #[.val (.int p0), .val (.int p1), .val (.int p2), .val (.int p3), .val (.int p4), .val (.int bb), .val (.ref b1), .val (.ref b4), .val (.int (0 : Int32)), .val (.int sel)] [(.int (own_qb (own_nb p0 p2).toInt64 (own_nb bb p3).toInt64))]))
          refine OwnGo.fwd (fun tq' kq' => XS.iload X25.here hx rfl (hb hby at_90) rfl kq') ?_
          show OwnGo _ _ _ _ (T25.setTop (mkF m 92 #[.val (.int p0), .val (.int p1), .val (.int p2), .val (.int p3), .val (.int p4), .val (.int bb), .val (.ref b1), .val (.ref b4), .val (.int (0 : Int32)), .val (.int sel)] [(.int (0 : Int32)), (.int (own_qb (own_nb p0 p2).toInt64 (own_nb bb p3).toInt64))]))
          have hc92_26 : (own_qb (own_nb p0 p2).toInt64 (own_nb bb p3).toInt64).toInt = 0 := by rw [own_q0 (own_differ (Or.inr hc62_10))]; decide
          refine OwnGo.fwd (fun tq' kq' => XS.icmpNo X25.here hx rfl (hb hby at_92) rfl (own_beq rfl (by decide) hc92_26).2 kq') ?_
          show OwnGo _ _ _ _ (T25.setTop (mkF m 95 #[.val (.int p0), .val (.int p1), .val (.int p2), .val (.int p3), .val (.int p4), .val (.int bb), .val (.ref b1), .val (.ref b4), .val (.int (0 : Int32)), .val (.int sel)] []))
          refine OwnGo.fwd (fun tq' kq' => XS.aload X25.here hx rfl (hb hby at_95) rfl rfl kq') ?_
          show OwnGo _ _ _ _ (T25.setTop (mkF m 97 #[.val (.int p0), .val (.int p1), .val (.int p2), .val (.int p3), .val (.int p4), .val (.int bb), .val (.ref b1), .val (.ref b4), .val (.int (0 : Int32)), .val (.int sel)] [(.ref b4)]))
          refine OwnGo.fwd (fun tq' kq' => XS.aload X25.here hx rfl (hb hby at_97) rfl rfl kq') ?_
          show OwnGo _ _ _ _ (T25.setTop (mkF m 99 #[.val (.int p0), .val (.int p1), .val (.int p2), .val (.int p3), .val (.int p4), .val (.int bb), .val (.ref b1), .val (.ref b4), .val (.int (0 : Int32)), .val (.int sel)] [(.ref b1), (.ref b4)]))
          obtain ⟨cq27, kq27, q27a, q27b, q27c⟩ := isOf hZ e25 E_b4
          obtain ⟨_, _, ⟨T27, L27, k27, n27⟩, -, X27, ⟨Lc27, hQ27, l27, y27, z27⟩, st27⟩ := X25.virtualBack hx (y := (⟨"com/example/running_lineage/runninglineage/query/NumberKey", "equals", "(Ljava/lang/Object;)Z"⟩ : MethodName)) (z := (⟨"com/example/running_lineage/runninglineage/query/NumberKey", "equals", "(Ljava/lang/Object;)Z"⟩ : MethodName)) hown (mvT hZ (hw _ (List.mem_of_getElem? (i := 33) rfl))) (mvT hZ (hw _ (List.mem_of_getElem? (i := 34) rfl))) (notFace_of_selects (args := #[]) (mvT hZ (hw _ (List.mem_of_getElem? (i := 36) rfl)))) (mvT hZ (hw _ (List.mem_of_getElem? (i := 36) rfl))) (mvT hZ (hw _ (List.mem_of_getElem? (i := 35) rfl))) (by decide) (backOf (W := 0) (rm8k l Z a0 hw [] b4 b1 (own_nb bb p3).toInt64 (own_nb p0 p2).toInt64 h6 n0 Zs F_bits_b4 F_bits_b1 E_b1) hZ (hw _ (List.mem_of_getElem? (i := 37) rfl)) (hw _ (List.mem_of_getElem? (i := 2) rfl)) (by decide) (by decide)) q27a q27c (g := (mkF m 99 #[.val (.int p0), .val (.int p1), .val (.int p2), .val (.int p3), .val (.int p4), .val (.int bb), .val (.ref b1), .val (.ref b4), .val (.int (0 : Int32)), .val (.int sel)] [(.ref b1), (.ref b4)])) rfl (by rw [hml]; rfl) (Steps.refl _) (argsL := [(.ref b1)]) (rest := []) (lenOf pd_7 rfl) rfl (by show 2 * 0 + _ ≤ _; exact Nat.le_of_eq rfl) (hb hby at_99) (fun _ _ => ⟨rfl, e25, (by decide : 2 + 0 ≤ _), (by decide : 2 + 0 ≤ _)⟩)
          dsimp only [Pt.U, Pt.locs, Pt.cells, Pt.slots] at X27 l27 y27 z27 st27 hQ27
          subst l27 y27 z27
          obtain ⟨rfl, N27q, e27⟩ := hQ27
          have N := Fr.app N N27q
          refine OwnGo.thru st27 ?_
          show OwnGo _ _ _ _ (T27.setTop (mkF m 102 #[.val (.int p0), .val (.int p1), .val (.int p2), .val (.int p3), .val (.int p4), .val (.int bb), .val (.ref b1), .val (.ref b4), .val (.int (0 : Int32)), .val (.int sel)] [(.int (own_qb (own_nb bb p3).toInt64 (own_nb p0 p2).toInt64))]))
          refine OwnGo.fwd (fun tq' kq' => XS.iload X27.here hx rfl (hb hby at_102) rfl kq') ?_
          show OwnGo _ _ _ _ (T27.setTop (mkF m 104 #[.val (.int p0), .val (.int p1), .val (.int p2), .val (.int p3), .val (.int p4), .val (.int bb), .val (.ref b1), .val (.ref b4), .val (.int (0 : Int32)), .val (.int sel)] [(.int (0 : Int32)), (.int (own_qb (own_nb bb p3).toInt64 (own_nb p0 p2).toInt64))]))
          have hc104_28 : (own_qb (own_nb bb p3).toInt64 (own_nb p0 p2).toInt64).toInt = 0 := by rw [own_q0 ((own_differ (Or.inr hc62_10)).symm)]; decide
          refine OwnGo.fwd (fun tq' kq' => XS.icmpNo X27.here hx rfl (hb hby at_104) rfl (own_beq rfl (by decide) hc104_28).2 kq') ?_
          show OwnGo _ _ _ _ (T27.setTop (mkF m 107 #[.val (.int p0), .val (.int p1), .val (.int p2), .val (.int p3), .val (.int p4), .val (.int bb), .val (.ref b1), .val (.ref b4), .val (.int (0 : Int32)), .val (.int sel)] []))
          refine OwnGo.fwd (fun tq' kq' => XS.iconst X27.here hx rfl (hb hby at_107) kq') ?_
          show OwnGo _ _ _ _ (T27.setTop (mkF m 108 #[.val (.int p0), .val (.int p1), .val (.int p2), .val (.int p3), .val (.int p4), .val (.int bb), .val (.ref b1), .val (.ref b4), .val (.int (0 : Int32)), .val (.int sel)] [(.int (1 : Int32))]))
          refine OwnGo.fwd (fun tq' kq' => XS.goto X27.here hx rfl (pc0 := 108) (pc' := 112) rfl (hb hby at_108) (by decide) (by decide) kq') ?_
          show OwnGo _ _ _ _ (T27.setTop (mkF m 112 #[.val (.int p0), .val (.int p1), .val (.int p2), .val (.int p3), .val (.int p4), .val (.int bb), .val (.ref b1), .val (.ref b4), .val (.int (0 : Int32)), .val (.int sel)] [(.int (1 : Int32))]))
          exact own_retZ X27 hlk hx Bd.returns (hb hby at_112) (by decide) (by decide) e27 ⟨rfl, N⟩
        · refine OwnGo.fwd (fun tq' kq' => XS.ifYes X9.here hx rfl (pc0 := 80) (pc' := 113) rfl (hb hby at_80) rfl ((if0 _ _).trans (own_bneq rfl (by decide) hc80_24).2) (by decide) (by decide) kq') ?_
          show OwnGo _ _ _ _ (T9.setTop (mkF m 113 #[.val (.int p0), .val (.int p1), .val (.int p2), .val (.int p3), .val (.int p4), .val (.int bb), .val (.ref b1), .val (.ref b4), .val (.int (0 : Int32)), .val (.int sel)] []))
          refine OwnGo.fwd (fun tq' kq' => XS.iload X9.here hx rfl (hb hby at_113) rfl kq') ?_
          show OwnGo _ _ _ _ (T9.setTop (mkF m 115 #[.val (.int p0), .val (.int p1), .val (.int p2), .val (.int p3), .val (.int p4), .val (.int bb), .val (.ref b1), .val (.ref b4), .val (.int (0 : Int32)), .val (.int sel)] [(.int sel)]))
          refine OwnGo.fwd (fun tq' kq' => XS.iconst X9.here hx rfl (hb hby at_115) kq') ?_
          show OwnGo _ _ _ _ (T9.setTop (mkF m 116 #[.val (.int p0), .val (.int p1), .val (.int p2), .val (.int p3), .val (.int p4), .val (.int bb), .val (.ref b1), .val (.ref b4), .val (.int (0 : Int32)), .val (.int sel)] [(.int (1 : Int32)), (.int sel)]))
          by_cases hc116_29 : sel.toInt = 1
          · refine OwnGo.fwd (fun tq' kq' => XS.icmpNo X9.here hx rfl (hb hby at_116) rfl (own_beq rfl (by decide) hc116_29).2 kq') ?_
            show OwnGo _ _ _ _ (T9.setTop (mkF m 119 #[.val (.int p0), .val (.int p1), .val (.int p2), .val (.int p3), .val (.int p4), .val (.int bb), .val (.ref b1), .val (.ref b4), .val (.int (0 : Int32)), .val (.int sel)] []))
            refine OwnGo.fwd (fun tq' kq' => XS.aload X9.here hx rfl (hb hby at_119) rfl rfl kq') ?_
            show OwnGo _ _ _ _ (T9.setTop (mkF m 121 #[.val (.int p0), .val (.int p1), .val (.int p2), .val (.int p3), .val (.int p4), .val (.int bb), .val (.ref b1), .val (.ref b4), .val (.int (0 : Int32)), .val (.int sel)] [(.ref b1)]))
            refine OwnGo.fwd (fun tq' kq' => XS.aconstNull X9.here hx rfl (hb hby at_121) kq') ?_
            show OwnGo _ _ _ _ (T9.setTop (mkF m 122 #[.val (.int p0), .val (.int p1), .val (.int p2), .val (.int p3), .val (.int p4), .val (.int bb), .val (.ref b1), .val (.ref b4), .val (.int (0 : Int32)), .val (.int sel)] [.null, (.ref b1)]))
            obtain ⟨cq30, kq30, q30a, q30b, q30c⟩ := isOf hZ e9 E_b1
            obtain ⟨_, _, ⟨T30, L30, k30, n30⟩, -, X30, ⟨Lc30, hQ30, l30, y30, z30⟩, st30⟩ := X9.virtualBack hx (y := (⟨"com/example/running_lineage/runninglineage/query/NumberKey", "equals", "(Ljava/lang/Object;)Z"⟩ : MethodName)) (z := (⟨"com/example/running_lineage/runninglineage/query/NumberKey", "equals", "(Ljava/lang/Object;)Z"⟩ : MethodName)) hown (mvT hZ (hw _ (List.mem_of_getElem? (i := 33) rfl))) (mvT hZ (hw _ (List.mem_of_getElem? (i := 34) rfl))) (notFace_of_selects (args := #[]) (mvT hZ (hw _ (List.mem_of_getElem? (i := 36) rfl)))) (mvT hZ (hw _ (List.mem_of_getElem? (i := 36) rfl))) (mvT hZ (hw _ (List.mem_of_getElem? (i := 35) rfl))) (by decide) (backOf (W := 0) (rm8n l Z a0 hw [] b1 h6 n0 Zs) hZ (hw _ (List.mem_of_getElem? (i := 37) rfl)) (hw _ (List.mem_of_getElem? (i := 2) rfl)) (by decide) (by decide)) q30a q30c (g := (mkF m 122 #[.val (.int p0), .val (.int p1), .val (.int p2), .val (.int p3), .val (.int p4), .val (.int bb), .val (.ref b1), .val (.ref b4), .val (.int (0 : Int32)), .val (.int sel)] [.null, (.ref b1)])) rfl (by rw [hml]; rfl) (Steps.refl _) (argsL := [.null]) (rest := []) (lenOf pd_7 rfl) rfl (by show 2 * 0 + _ ≤ _; exact Nat.le_of_eq rfl) (hb hby at_122) (fun _ _ => ⟨rfl, e9, (by decide : 2 + 0 ≤ _), (by decide : 2 + 0 ≤ _)⟩)
            dsimp only [Pt.U, Pt.locs, Pt.cells, Pt.slots] at X30 l30 y30 z30 st30 hQ30
            subst l30 y30 z30
            obtain ⟨rfl, N30q, e30⟩ := hQ30
            have N := Fr.app N N30q
            refine OwnGo.thru st30 ?_
            show OwnGo _ _ _ _ (T30.setTop (mkF m 125 #[.val (.int p0), .val (.int p1), .val (.int p2), .val (.int p3), .val (.int p4), .val (.int bb), .val (.ref b1), .val (.ref b4), .val (.int (0 : Int32)), .val (.int sel)] [(.int (0 : Int32))]))
            have hc125_31 : (0 : Int) = (0 : Int) := rfl
            refine OwnGo.fwd (fun tq' kq' => XS.ifNo X30.here hx rfl (hb hby at_125) rfl ((if0 _ _).trans (own_beq (by decide) (by decide) hc125_31).2) kq') ?_
            show OwnGo _ _ _ _ (T30.setTop (mkF m 128 #[.val (.int p0), .val (.int p1), .val (.int p2), .val (.int p3), .val (.int p4), .val (.int bb), .val (.ref b1), .val (.ref b4), .val (.int (0 : Int32)), .val (.int sel)] []))
            refine OwnGo.fwd (fun tq' kq' => XS.iconst X30.here hx rfl (hb hby at_128) kq') ?_
            show OwnGo _ _ _ _ (T30.setTop (mkF m 129 #[.val (.int p0), .val (.int p1), .val (.int p2), .val (.int p3), .val (.int p4), .val (.int bb), .val (.ref b1), .val (.ref b4), .val (.int (0 : Int32)), .val (.int sel)] [(.int (1 : Int32))]))
            refine OwnGo.fwd (fun tq' kq' => XS.goto X30.here hx rfl (pc0 := 129) (pc' := 133) rfl (hb hby at_129) (by decide) (by decide) kq') ?_
            show OwnGo _ _ _ _ (T30.setTop (mkF m 133 #[.val (.int p0), .val (.int p1), .val (.int p2), .val (.int p3), .val (.int p4), .val (.int bb), .val (.ref b1), .val (.ref b4), .val (.int (0 : Int32)), .val (.int sel)] [(.int (1 : Int32))]))
            exact own_retZ X30 hlk hx Bd.returns (hb hby at_133) (by decide) (by decide) e30 ⟨rfl, N⟩
          · refine OwnGo.fwd (fun tq' kq' => XS.icmpYes X9.here hx rfl (pc0 := 116) (pc' := 134) rfl (hb hby at_116) rfl (own_bneq rfl (by decide) hc116_29).2 (by decide) (by decide) kq') ?_
            show OwnGo _ _ _ _ (T9.setTop (mkF m 134 #[.val (.int p0), .val (.int p1), .val (.int p2), .val (.int p3), .val (.int p4), .val (.int bb), .val (.ref b1), .val (.ref b4), .val (.int (0 : Int32)), .val (.int sel)] []))
            refine OwnGo.fwd (fun tq' kq' => XS.iload X9.here hx rfl (hb hby at_134) rfl kq') ?_
            show OwnGo _ _ _ _ (T9.setTop (mkF m 136 #[.val (.int p0), .val (.int p1), .val (.int p2), .val (.int p3), .val (.int p4), .val (.int bb), .val (.ref b1), .val (.ref b4), .val (.int (0 : Int32)), .val (.int sel)] [(.int sel)]))
            refine OwnGo.fwd (fun tq' kq' => XS.iconst X9.here hx rfl (hb hby at_136) kq') ?_
            show OwnGo _ _ _ _ (T9.setTop (mkF m 137 #[.val (.int p0), .val (.int p1), .val (.int p2), .val (.int p3), .val (.int p4), .val (.int bb), .val (.ref b1), .val (.ref b4), .val (.int (0 : Int32)), .val (.int sel)] [(.int (2 : Int32)), (.int sel)]))
            by_cases hc137_32 : sel.toInt = 2
            · refine OwnGo.fwd (fun tq' kq' => XS.icmpNo X9.here hx rfl (hb hby at_137) rfl (own_beq rfl (by decide) hc137_32).2 kq') ?_
              show OwnGo _ _ _ _ (T9.setTop (mkF m 140 #[.val (.int p0), .val (.int p1), .val (.int p2), .val (.int p3), .val (.int p4), .val (.int bb), .val (.ref b1), .val (.ref b4), .val (.int (0 : Int32)), .val (.int sel)] []))
              refine OwnGo.fwd (fun tq' kq' => XS.aload X9.here hx rfl (hb hby at_140) rfl rfl kq') ?_
              show OwnGo _ _ _ _ (T9.setTop (mkF m 142 #[.val (.int p0), .val (.int p1), .val (.int p2), .val (.int p3), .val (.int p4), .val (.int bb), .val (.ref b1), .val (.ref b4), .val (.int (0 : Int32)), .val (.int sel)] [(.ref b1)]))
              refine OwnGo.fwd (fun tq' kq' => XS.iloadN X9.here hx rfl (hb hby at_142) rfl kq') ?_
              show OwnGo _ _ _ _ (T9.setTop (mkF m 143 #[.val (.int p0), .val (.int p1), .val (.int p2), .val (.int p3), .val (.int p4), .val (.int bb), .val (.ref b1), .val (.ref b4), .val (.int (0 : Int32)), .val (.int sel)] [(.int p0), (.ref b1)]))
              obtain ⟨_, _, ⟨T33, L33, k33, n33⟩, -, X33, ⟨Lc33, hQ33, l33, y33, z33⟩, st33⟩ := Jvm.LawKit.callS X9 hx (y := (⟨"java/lang/Integer", "valueOf", "(I)Ljava/lang/Integer;"⟩ : MethodName)) hown (mvT hZ (hw _ (List.mem_of_getElem? (i := 41) rfl))) (mvT hZ (hw _ (List.mem_of_getElem? (i := 42) rfl))) (mvT hZ (hw _ (List.mem_of_getElem? (i := 43) rfl))) (mvT hZ (hw _ (List.mem_of_getElem? (i := 44) rfl))) (by decide) (backOf (W := 1) (rm9 l Z a0 hw [] p0 h6 n0 Zs (IC0.ext (own_kext K))) hZ (hw _ (List.mem_of_getElem? (i := 44) rfl)) (hw _ (List.mem_of_getElem? (i := 43) rfl)) (by decide) (by decide)) (g := (mkF m 143 #[.val (.int p0), .val (.int p1), .val (.int p2), .val (.int p3), .val (.int p4), .val (.int bb), .val (.ref b1), .val (.ref b4), .val (.int (0 : Int32)), .val (.int sel)] [(.int p0), (.ref b1)])) rfl (by rw [hml]; rfl) (argsL := [(.int p0)]) (rest := [(.ref b1)]) (lenOf pd_8 rfl) rfl (by show 2 * 0 + _ ≤ _; exact Nat.le_of_eq rfl) (hb hby at_143) (fun _ _ => ⟨rfl, e9, (by decide : 2 + 1 ≤ _), (by decide : 2 + 1 ≤ _)⟩)
              dsimp only [Pt.U, Pt.locs, Pt.cells, Pt.slots] at X33 l33 y33 z33 st33 hQ33
              subst l33 y33 z33
              obtain ⟨h33, eh33⟩ : ∃ z, z = T33.heap := ⟨_, rfl⟩
              rw [← eh33] at hQ33
              obtain ⟨N33q, K33, iv33, rfl, E_iv33⟩ := hQ33
              have N := Fr.app N N33q
              have Zs := Nat.le_trans Zs K33.1
              have E_b1 := E_b1.keep K33
              have F_bits_b1 := F_bits_b1.keep K33 nin0
              have E_b4 := E_b4.keep K33
              have F_bits_b4 := F_bits_b4.keep K33 nin0
              have K := K.trans K33 all0
              refine OwnGo.fwd st33 ?_
              show OwnGo _ _ _ _ (T33.setTop (mkF m 146 #[.val (.int p0), .val (.int p1), .val (.int p2), .val (.int p3), .val (.int p4), .val (.int bb), .val (.ref b1), .val (.ref b4), .val (.int (0 : Int32)), .val (.int sel)] [(.ref iv33), (.ref b1)]))
              obtain ⟨cq34, kq34, q34a, q34b, q34c⟩ := isOf hZ eh33.symm E_b1
              obtain ⟨_, _, ⟨T34, L34, k34, n34⟩, -, X34, ⟨Lc34, hQ34, l34, y34, z34⟩, st34⟩ := X33.virtualBack hx (y := (⟨"com/example/running_lineage/runninglineage/query/NumberKey", "equals", "(Ljava/lang/Object;)Z"⟩ : MethodName)) (z := (⟨"com/example/running_lineage/runninglineage/query/NumberKey", "equals", "(Ljava/lang/Object;)Z"⟩ : MethodName)) hown (mvT hZ (hw _ (List.mem_of_getElem? (i := 33) rfl))) (mvT hZ (hw _ (List.mem_of_getElem? (i := 34) rfl))) (notFace_of_selects (args := #[]) (mvT hZ (hw _ (List.mem_of_getElem? (i := 36) rfl)))) (mvT hZ (hw _ (List.mem_of_getElem? (i := 36) rfl))) (mvT hZ (hw _ (List.mem_of_getElem? (i := 35) rfl))) (by decide) (backOf (W := 0) (rm8i l Z a0 hw [] b1 iv33 h33 n0 Zs E_iv33) hZ (hw _ (List.mem_of_getElem? (i := 37) rfl)) (hw _ (List.mem_of_getElem? (i := 2) rfl)) (by decide) (by decide)) q34a q34c (g := (mkF m 146 #[.val (.int p0), .val (.int p1), .val (.int p2), .val (.int p3), .val (.int p4), .val (.int bb), .val (.ref b1), .val (.ref b4), .val (.int (0 : Int32)), .val (.int sel)] [(.ref iv33), (.ref b1)])) rfl (by rw [hml]; rfl) (Steps.refl _) (argsL := [(.ref iv33)]) (rest := []) (lenOf pd_7 rfl) rfl (by show 2 * 0 + _ ≤ _; exact Nat.le_of_eq rfl) (hb hby at_146) (fun _ _ => ⟨rfl, eh33.symm, (by decide : 3 + 0 ≤ _), (by decide : 3 + 0 ≤ _)⟩)
              dsimp only [Pt.U, Pt.locs, Pt.cells, Pt.slots] at X34 l34 y34 z34 st34 hQ34
              subst l34 y34 z34
              obtain ⟨rfl, N34q, e34⟩ := hQ34
              have N := Fr.app N N34q
              refine OwnGo.thru st34 ?_
              show OwnGo _ _ _ _ (T34.setTop (mkF m 149 #[.val (.int p0), .val (.int p1), .val (.int p2), .val (.int p3), .val (.int p4), .val (.int bb), .val (.ref b1), .val (.ref b4), .val (.int (0 : Int32)), .val (.int sel)] [(.int (0 : Int32))]))
              have hc149_35 : (0 : Int) = (0 : Int) := rfl
              refine OwnGo.fwd (fun tq' kq' => XS.ifNo X34.here hx rfl (hb hby at_149) rfl ((if0 _ _).trans (own_beq (by decide) (by decide) hc149_35).2) kq') ?_
              show OwnGo _ _ _ _ (T34.setTop (mkF m 152 #[.val (.int p0), .val (.int p1), .val (.int p2), .val (.int p3), .val (.int p4), .val (.int bb), .val (.ref b1), .val (.ref b4), .val (.int (0 : Int32)), .val (.int sel)] []))
              refine OwnGo.fwd (fun tq' kq' => XS.iconst X34.here hx rfl (hb hby at_152) kq') ?_
              show OwnGo _ _ _ _ (T34.setTop (mkF m 153 #[.val (.int p0), .val (.int p1), .val (.int p2), .val (.int p3), .val (.int p4), .val (.int bb), .val (.ref b1), .val (.ref b4), .val (.int (0 : Int32)), .val (.int sel)] [(.int (1 : Int32))]))
              refine OwnGo.fwd (fun tq' kq' => XS.goto X34.here hx rfl (pc0 := 153) (pc' := 157) rfl (hb hby at_153) (by decide) (by decide) kq') ?_
              show OwnGo _ _ _ _ (T34.setTop (mkF m 157 #[.val (.int p0), .val (.int p1), .val (.int p2), .val (.int p3), .val (.int p4), .val (.int bb), .val (.ref b1), .val (.ref b4), .val (.int (0 : Int32)), .val (.int sel)] [(.int (1 : Int32))]))
              exact own_retZ X34 hlk hx Bd.returns (hb hby at_157) (by decide) (by decide) e34 ⟨rfl, N⟩
            · refine OwnGo.fwd (fun tq' kq' => XS.icmpYes X9.here hx rfl (pc0 := 137) (pc' := 158) rfl (hb hby at_137) rfl (own_bneq rfl (by decide) hc137_32).2 (by decide) (by decide) kq') ?_
              show OwnGo _ _ _ _ (T9.setTop (mkF m 158 #[.val (.int p0), .val (.int p1), .val (.int p2), .val (.int p3), .val (.int p4), .val (.int bb), .val (.ref b1), .val (.ref b4), .val (.int (0 : Int32)), .val (.int sel)] []))
              refine OwnGo.fwd (fun tq' kq' => XS.aload X9.here hx rfl (hb hby at_158) rfl rfl kq') ?_
              show OwnGo _ _ _ _ (T9.setTop (mkF m 160 #[.val (.int p0), .val (.int p1), .val (.int p2), .val (.int p3), .val (.int p4), .val (.int bb), .val (.ref b1), .val (.ref b4), .val (.int (0 : Int32)), .val (.int sel)] [(.ref b1)]))
              refine OwnGo.fwd (fun tq' kq' => XS.aload X9.here hx rfl (hb hby at_160) rfl rfl kq') ?_
              show OwnGo _ _ _ _ (T9.setTop (mkF m 162 #[.val (.int p0), .val (.int p1), .val (.int p2), .val (.int p3), .val (.int p4), .val (.int bb), .val (.ref b1), .val (.ref b4), .val (.int (0 : Int32)), .val (.int sel)] [(.ref b1), (.ref b1)]))
              obtain ⟨cq36, kq36, q36a, q36b, q36c⟩ := isOf hZ e9 E_b1
              obtain ⟨_, _, ⟨T36, L36, k36, n36⟩, -, X36, ⟨Lc36, hQ36, l36, y36, z36⟩, st36⟩ := X9.virtualBack hx (y := (⟨"com/example/running_lineage/runninglineage/query/NumberKey", "equals", "(Ljava/lang/Object;)Z"⟩ : MethodName)) (z := (⟨"com/example/running_lineage/runninglineage/query/NumberKey", "equals", "(Ljava/lang/Object;)Z"⟩ : MethodName)) hown (mvT hZ (hw _ (List.mem_of_getElem? (i := 33) rfl))) (mvT hZ (hw _ (List.mem_of_getElem? (i := 34) rfl))) (notFace_of_selects (args := #[]) (mvT hZ (hw _ (List.mem_of_getElem? (i := 36) rfl)))) (mvT hZ (hw _ (List.mem_of_getElem? (i := 36) rfl))) (mvT hZ (hw _ (List.mem_of_getElem? (i := 35) rfl))) (by decide) (backOf (W := 0) (rm8k l Z a0 hw [] b1 b1 (own_nb p0 p2).toInt64 (own_nb p0 p2).toInt64 h6 n0 Zs F_bits_b1 F_bits_b1 E_b1) hZ (hw _ (List.mem_of_getElem? (i := 37) rfl)) (hw _ (List.mem_of_getElem? (i := 2) rfl)) (by decide) (by decide)) q36a q36c (g := (mkF m 162 #[.val (.int p0), .val (.int p1), .val (.int p2), .val (.int p3), .val (.int p4), .val (.int bb), .val (.ref b1), .val (.ref b4), .val (.int (0 : Int32)), .val (.int sel)] [(.ref b1), (.ref b1)])) rfl (by rw [hml]; rfl) (Steps.refl _) (argsL := [(.ref b1)]) (rest := []) (lenOf pd_7 rfl) rfl (by show 2 * 0 + _ ≤ _; exact Nat.le_of_eq rfl) (hb hby at_162) (fun _ _ => ⟨rfl, e9, (by decide : 2 + 0 ≤ _), (by decide : 2 + 0 ≤ _)⟩)
              dsimp only [Pt.U, Pt.locs, Pt.cells, Pt.slots] at X36 l36 y36 z36 st36 hQ36
              subst l36 y36 z36
              obtain ⟨rfl, N36q, e36⟩ := hQ36
              have N := Fr.app N N36q
              refine OwnGo.thru st36 ?_
              show OwnGo _ _ _ _ (T36.setTop (mkF m 165 #[.val (.int p0), .val (.int p1), .val (.int p2), .val (.int p3), .val (.int p4), .val (.int bb), .val (.ref b1), .val (.ref b4), .val (.int (0 : Int32)), .val (.int sel)] [(.int (own_qb (own_nb p0 p2).toInt64 (own_nb p0 p2).toInt64))]))
              exact own_retZ X36 hlk hx Bd.returns (hb hby at_165) (by decide) (by decide) e36 ⟨by rw [own_qs]; rfl, N⟩
    · refine OwnGo.fwd (fun tq' kq' => XS.icmpYes X6.here hx rfl (pc0 := 48) (pc' := 69) rfl (hb hby at_48) rfl (own_bneq rfl rfl hc48_7).2 (by decide) (by decide) kq') ?_
      show OwnGo _ _ _ _ (T6.setTop (mkF m 69 #[.val (.int p0), .val (.int p1), .val (.int p2), .val (.int p3), .val (.int p4), .val (.int bb), .val (.ref b1), .val (.ref b4), .unset, .unset] []))
      refine OwnGo.fwd (fun tq' kq' => XS.iconst X6.here hx rfl (hb hby at_69) kq') ?_
      show OwnGo _ _ _ _ (T6.setTop (mkF m 70 #[.val (.int p0), .val (.int p1), .val (.int p2), .val (.int p3), .val (.int p4), .val (.int bb), .val (.ref b1), .val (.ref b4), .unset, .unset] [(.int (0 : Int32))]))
      refine OwnGo.fwd (fun tq' kq' => XS.istore X6.here hx rfl (hb hby at_70) rfl (l' := #[.val (.int p0), .val (.int p1), .val (.int p2), .val (.int p3), .val (.int p4), .val (.int bb), .val (.ref b1), .val (.ref b4), .val (.int (0 : Int32)), .unset]) rfl kq') ?_
      show OwnGo _ _ _ _ (T6.setTop (mkF m 72 #[.val (.int p0), .val (.int p1), .val (.int p2), .val (.int p3), .val (.int p4), .val (.int bb), .val (.ref b1), .val (.ref b4), .val (.int (0 : Int32)), .unset] []))
      refine OwnGo.fwd (fun tq' kq' => XS.iload X6.here hx rfl (hb hby at_72) rfl kq') ?_
      show OwnGo _ _ _ _ (T6.setTop (mkF m 74 #[.val (.int p0), .val (.int p1), .val (.int p2), .val (.int p3), .val (.int p4), .val (.int bb), .val (.ref b1), .val (.ref b4), .val (.int (0 : Int32)), .unset] [(.int p4)]))
      refine OwnGo.fwd (fun tq' kq' => XS.iconst X6.here hx rfl (hb hby at_74) kq') ?_
      show OwnGo _ _ _ _ (T6.setTop (mkF m 75 #[.val (.int p0), .val (.int p1), .val (.int p2), .val (.int p3), .val (.int p4), .val (.int bb), .val (.ref b1), .val (.ref b4), .val (.int (0 : Int32)), .unset] [(.int (3 : Int32)), (.int p4)]))
      refine OwnGo.fwd (fun tq' kq' => XS.iand X6.here hx rfl (hb hby at_75) rfl kq') ?_
      show OwnGo _ _ _ _ (T6.setTop (mkF m 76 #[.val (.int p0), .val (.int p1), .val (.int p2), .val (.int p3), .val (.int p4), .val (.int bb), .val (.ref b1), .val (.ref b4), .val (.int (0 : Int32)), .unset] [(.int (p4 &&& (3 : Int32)))]))
      obtain ⟨sel, hv_sel⟩ : ∃ q : Int32, q = (p4 &&& (3 : Int32)) := ⟨_, rfl⟩
      rw [← hv_sel]
      show OwnGo _ _ _ _ (T6.setTop (mkF m 76 #[.val (.int p0), .val (.int p1), .val (.int p2), .val (.int p3), .val (.int p4), .val (.int bb), .val (.ref b1), .val (.ref b4), .val (.int (0 : Int32)), .unset] [(.int sel)]))
      refine OwnGo.fwd (fun tq' kq' => XS.istore X6.here hx rfl (hb hby at_76) rfl (l' := #[.val (.int p0), .val (.int p1), .val (.int p2), .val (.int p3), .val (.int p4), .val (.int bb), .val (.ref b1), .val (.ref b4), .val (.int (0 : Int32)), .val (.int sel)]) rfl kq') ?_
      show OwnGo _ _ _ _ (T6.setTop (mkF m 78 #[.val (.int p0), .val (.int p1), .val (.int p2), .val (.int p3), .val (.int p4), .val (.int bb), .val (.ref b1), .val (.ref b4), .val (.int (0 : Int32)), .val (.int sel)] []))
      refine OwnGo.fwd (fun tq' kq' => XS.iload X6.here hx rfl (hb hby at_78) rfl kq') ?_
      show OwnGo _ _ _ _ (T6.setTop (mkF m 80 #[.val (.int p0), .val (.int p1), .val (.int p2), .val (.int p3), .val (.int p4), .val (.int bb), .val (.ref b1), .val (.ref b4), .val (.int (0 : Int32)), .val (.int sel)] [(.int sel)]))
      by_cases hc80_37 : sel.toInt = 0
      · refine OwnGo.fwd (fun tq' kq' => XS.ifNo X6.here hx rfl (hb hby at_80) rfl ((if0 _ _).trans (own_beq rfl (by decide) hc80_37).2) kq') ?_
        show OwnGo _ _ _ _ (T6.setTop (mkF m 83 #[.val (.int p0), .val (.int p1), .val (.int p2), .val (.int p3), .val (.int p4), .val (.int bb), .val (.ref b1), .val (.ref b4), .val (.int (0 : Int32)), .val (.int sel)] []))
        refine OwnGo.fwd (fun tq' kq' => XS.aload X6.here hx rfl (hb hby at_83) rfl rfl kq') ?_
        show OwnGo _ _ _ _ (T6.setTop (mkF m 85 #[.val (.int p0), .val (.int p1), .val (.int p2), .val (.int p3), .val (.int p4), .val (.int bb), .val (.ref b1), .val (.ref b4), .val (.int (0 : Int32)), .val (.int sel)] [(.ref b1)]))
        refine OwnGo.fwd (fun tq' kq' => XS.aload X6.here hx rfl (hb hby at_85) rfl rfl kq') ?_
        show OwnGo _ _ _ _ (T6.setTop (mkF m 87 #[.val (.int p0), .val (.int p1), .val (.int p2), .val (.int p3), .val (.int p4), .val (.int bb), .val (.ref b1), .val (.ref b4), .val (.int (0 : Int32)), .val (.int sel)] [(.ref b4), (.ref b1)]))
        obtain ⟨cq38, kq38, q38a, q38b, q38c⟩ := isOf hZ eh6.symm E_b1
        obtain ⟨_, _, ⟨T38, L38, k38, n38⟩, -, X38, ⟨Lc38, hQ38, l38, y38, z38⟩, st38⟩ := X6.virtualBack hx (y := (⟨"com/example/running_lineage/runninglineage/query/NumberKey", "equals", "(Ljava/lang/Object;)Z"⟩ : MethodName)) (z := (⟨"com/example/running_lineage/runninglineage/query/NumberKey", "equals", "(Ljava/lang/Object;)Z"⟩ : MethodName)) hown (mvT hZ (hw _ (List.mem_of_getElem? (i := 33) rfl))) (mvT hZ (hw _ (List.mem_of_getElem? (i := 34) rfl))) (notFace_of_selects (args := #[]) (mvT hZ (hw _ (List.mem_of_getElem? (i := 36) rfl)))) (mvT hZ (hw _ (List.mem_of_getElem? (i := 36) rfl))) (mvT hZ (hw _ (List.mem_of_getElem? (i := 35) rfl))) (by decide) (backOf (W := 0) (rm8k l Z a0 hw [] b1 b4 (own_nb p0 p2).toInt64 (own_nb bb p3).toInt64 h6 n0 Zs F_bits_b1 F_bits_b4 E_b4) hZ (hw _ (List.mem_of_getElem? (i := 37) rfl)) (hw _ (List.mem_of_getElem? (i := 2) rfl)) (by decide) (by decide)) q38a q38c (g := (mkF m 87 #[.val (.int p0), .val (.int p1), .val (.int p2), .val (.int p3), .val (.int p4), .val (.int bb), .val (.ref b1), .val (.ref b4), .val (.int (0 : Int32)), .val (.int sel)] [(.ref b4), (.ref b1)])) rfl (by rw [hml]; rfl) (Steps.refl _) (argsL := [(.ref b4)]) (rest := []) (lenOf pd_7 rfl) rfl (by show 2 * 0 + _ ≤ _; exact Nat.le_of_eq rfl) (hb hby at_87) (fun _ _ => ⟨rfl, eh6.symm, (by decide : 2 + 0 ≤ _), (by decide : 2 + 0 ≤ _)⟩)
        dsimp only [Pt.U, Pt.locs, Pt.cells, Pt.slots] at X38 l38 y38 z38 st38 hQ38
        subst l38 y38 z38
        obtain ⟨rfl, N38q, e38⟩ := hQ38
        have N := Fr.app N N38q
        refine OwnGo.thru st38 ?_
        show OwnGo _ _ _ _ (T38.setTop (mkF m 90 #[.val (.int p0), .val (.int p1), .val (.int p2), .val (.int p3), .val (.int p4), .val (.int bb), .val (.ref b1), .val (.ref b4), .val (.int (0 : Int32)), .val (.int sel)] [(.int (own_qb (own_nb p0 p2).toInt64 (own_nb bb p3).toInt64))]))
        refine OwnGo.fwd (fun tq' kq' => XS.iload X38.here hx rfl (hb hby at_90) rfl kq') ?_
        show OwnGo _ _ _ _ (T38.setTop (mkF m 92 #[.val (.int p0), .val (.int p1), .val (.int p2), .val (.int p3), .val (.int p4), .val (.int bb), .val (.ref b1), .val (.ref b4), .val (.int (0 : Int32)), .val (.int sel)] [(.int (0 : Int32)), (.int (own_qb (own_nb p0 p2).toInt64 (own_nb bb p3).toInt64))]))
        have hc92_39 : (own_qb (own_nb p0 p2).toInt64 (own_nb bb p3).toInt64).toInt = 0 := by rw [own_q0 (own_differ (Or.inl hc48_7))]; decide
        refine OwnGo.fwd (fun tq' kq' => XS.icmpNo X38.here hx rfl (hb hby at_92) rfl (own_beq rfl (by decide) hc92_39).2 kq') ?_
        show OwnGo _ _ _ _ (T38.setTop (mkF m 95 #[.val (.int p0), .val (.int p1), .val (.int p2), .val (.int p3), .val (.int p4), .val (.int bb), .val (.ref b1), .val (.ref b4), .val (.int (0 : Int32)), .val (.int sel)] []))
        refine OwnGo.fwd (fun tq' kq' => XS.aload X38.here hx rfl (hb hby at_95) rfl rfl kq') ?_
        show OwnGo _ _ _ _ (T38.setTop (mkF m 97 #[.val (.int p0), .val (.int p1), .val (.int p2), .val (.int p3), .val (.int p4), .val (.int bb), .val (.ref b1), .val (.ref b4), .val (.int (0 : Int32)), .val (.int sel)] [(.ref b4)]))
        refine OwnGo.fwd (fun tq' kq' => XS.aload X38.here hx rfl (hb hby at_97) rfl rfl kq') ?_
        show OwnGo _ _ _ _ (T38.setTop (mkF m 99 #[.val (.int p0), .val (.int p1), .val (.int p2), .val (.int p3), .val (.int p4), .val (.int bb), .val (.ref b1), .val (.ref b4), .val (.int (0 : Int32)), .val (.int sel)] [(.ref b1), (.ref b4)]))
        obtain ⟨cq40, kq40, q40a, q40b, q40c⟩ := isOf hZ e38 E_b4
        obtain ⟨_, _, ⟨T40, L40, k40, n40⟩, -, X40, ⟨Lc40, hQ40, l40, y40, z40⟩, st40⟩ := X38.virtualBack hx (y := (⟨"com/example/running_lineage/runninglineage/query/NumberKey", "equals", "(Ljava/lang/Object;)Z"⟩ : MethodName)) (z := (⟨"com/example/running_lineage/runninglineage/query/NumberKey", "equals", "(Ljava/lang/Object;)Z"⟩ : MethodName)) hown (mvT hZ (hw _ (List.mem_of_getElem? (i := 33) rfl))) (mvT hZ (hw _ (List.mem_of_getElem? (i := 34) rfl))) (notFace_of_selects (args := #[]) (mvT hZ (hw _ (List.mem_of_getElem? (i := 36) rfl)))) (mvT hZ (hw _ (List.mem_of_getElem? (i := 36) rfl))) (mvT hZ (hw _ (List.mem_of_getElem? (i := 35) rfl))) (by decide) (backOf (W := 0) (rm8k l Z a0 hw [] b4 b1 (own_nb bb p3).toInt64 (own_nb p0 p2).toInt64 h6 n0 Zs F_bits_b4 F_bits_b1 E_b1) hZ (hw _ (List.mem_of_getElem? (i := 37) rfl)) (hw _ (List.mem_of_getElem? (i := 2) rfl)) (by decide) (by decide)) q40a q40c (g := (mkF m 99 #[.val (.int p0), .val (.int p1), .val (.int p2), .val (.int p3), .val (.int p4), .val (.int bb), .val (.ref b1), .val (.ref b4), .val (.int (0 : Int32)), .val (.int sel)] [(.ref b1), (.ref b4)])) rfl (by rw [hml]; rfl) (Steps.refl _) (argsL := [(.ref b1)]) (rest := []) (lenOf pd_7 rfl) rfl (by show 2 * 0 + _ ≤ _; exact Nat.le_of_eq rfl) (hb hby at_99) (fun _ _ => ⟨rfl, e38, (by decide : 2 + 0 ≤ _), (by decide : 2 + 0 ≤ _)⟩)
        dsimp only [Pt.U, Pt.locs, Pt.cells, Pt.slots] at X40 l40 y40 z40 st40 hQ40
        subst l40 y40 z40
        obtain ⟨rfl, N40q, e40⟩ := hQ40
        have N := Fr.app N N40q
        refine OwnGo.thru st40 ?_
        show OwnGo _ _ _ _ (T40.setTop (mkF m 102 #[.val (.int p0), .val (.int p1), .val (.int p2), .val (.int p3), .val (.int p4), .val (.int bb), .val (.ref b1), .val (.ref b4), .val (.int (0 : Int32)), .val (.int sel)] [(.int (own_qb (own_nb bb p3).toInt64 (own_nb p0 p2).toInt64))]))
        refine OwnGo.fwd (fun tq' kq' => XS.iload X40.here hx rfl (hb hby at_102) rfl kq') ?_
        show OwnGo _ _ _ _ (T40.setTop (mkF m 104 #[.val (.int p0), .val (.int p1), .val (.int p2), .val (.int p3), .val (.int p4), .val (.int bb), .val (.ref b1), .val (.ref b4), .val (.int (0 : Int32)), .val (.int sel)] [(.int (0 : Int32)), (.int (own_qb (own_nb bb p3).toInt64 (own_nb p0 p2).toInt64))]))
        have hc104_41 : (own_qb (own_nb bb p3).toInt64 (own_nb p0 p2).toInt64).toInt = 0 := by rw [own_q0 ((own_differ (Or.inl hc48_7)).symm)]; decide
        refine OwnGo.fwd (fun tq' kq' => XS.icmpNo X40.here hx rfl (hb hby at_104) rfl (own_beq rfl (by decide) hc104_41).2 kq') ?_
        show OwnGo _ _ _ _ (T40.setTop (mkF m 107 #[.val (.int p0), .val (.int p1), .val (.int p2), .val (.int p3), .val (.int p4), .val (.int bb), .val (.ref b1), .val (.ref b4), .val (.int (0 : Int32)), .val (.int sel)] []))
        refine OwnGo.fwd (fun tq' kq' => XS.iconst X40.here hx rfl (hb hby at_107) kq') ?_
        show OwnGo _ _ _ _ (T40.setTop (mkF m 108 #[.val (.int p0), .val (.int p1), .val (.int p2), .val (.int p3), .val (.int p4), .val (.int bb), .val (.ref b1), .val (.ref b4), .val (.int (0 : Int32)), .val (.int sel)] [(.int (1 : Int32))]))
        refine OwnGo.fwd (fun tq' kq' => XS.goto X40.here hx rfl (pc0 := 108) (pc' := 112) rfl (hb hby at_108) (by decide) (by decide) kq') ?_
        show OwnGo _ _ _ _ (T40.setTop (mkF m 112 #[.val (.int p0), .val (.int p1), .val (.int p2), .val (.int p3), .val (.int p4), .val (.int bb), .val (.ref b1), .val (.ref b4), .val (.int (0 : Int32)), .val (.int sel)] [(.int (1 : Int32))]))
        exact own_retZ X40 hlk hx Bd.returns (hb hby at_112) (by decide) (by decide) e40 ⟨rfl, N⟩
      · refine OwnGo.fwd (fun tq' kq' => XS.ifYes X6.here hx rfl (pc0 := 80) (pc' := 113) rfl (hb hby at_80) rfl ((if0 _ _).trans (own_bneq rfl (by decide) hc80_37).2) (by decide) (by decide) kq') ?_
        show OwnGo _ _ _ _ (T6.setTop (mkF m 113 #[.val (.int p0), .val (.int p1), .val (.int p2), .val (.int p3), .val (.int p4), .val (.int bb), .val (.ref b1), .val (.ref b4), .val (.int (0 : Int32)), .val (.int sel)] []))
        refine OwnGo.fwd (fun tq' kq' => XS.iload X6.here hx rfl (hb hby at_113) rfl kq') ?_
        show OwnGo _ _ _ _ (T6.setTop (mkF m 115 #[.val (.int p0), .val (.int p1), .val (.int p2), .val (.int p3), .val (.int p4), .val (.int bb), .val (.ref b1), .val (.ref b4), .val (.int (0 : Int32)), .val (.int sel)] [(.int sel)]))
        refine OwnGo.fwd (fun tq' kq' => XS.iconst X6.here hx rfl (hb hby at_115) kq') ?_
        show OwnGo _ _ _ _ (T6.setTop (mkF m 116 #[.val (.int p0), .val (.int p1), .val (.int p2), .val (.int p3), .val (.int p4), .val (.int bb), .val (.ref b1), .val (.ref b4), .val (.int (0 : Int32)), .val (.int sel)] [(.int (1 : Int32)), (.int sel)]))
        by_cases hc116_42 : sel.toInt = 1
        · refine OwnGo.fwd (fun tq' kq' => XS.icmpNo X6.here hx rfl (hb hby at_116) rfl (own_beq rfl (by decide) hc116_42).2 kq') ?_
          show OwnGo _ _ _ _ (T6.setTop (mkF m 119 #[.val (.int p0), .val (.int p1), .val (.int p2), .val (.int p3), .val (.int p4), .val (.int bb), .val (.ref b1), .val (.ref b4), .val (.int (0 : Int32)), .val (.int sel)] []))
          refine OwnGo.fwd (fun tq' kq' => XS.aload X6.here hx rfl (hb hby at_119) rfl rfl kq') ?_
          show OwnGo _ _ _ _ (T6.setTop (mkF m 121 #[.val (.int p0), .val (.int p1), .val (.int p2), .val (.int p3), .val (.int p4), .val (.int bb), .val (.ref b1), .val (.ref b4), .val (.int (0 : Int32)), .val (.int sel)] [(.ref b1)]))
          refine OwnGo.fwd (fun tq' kq' => XS.aconstNull X6.here hx rfl (hb hby at_121) kq') ?_
          show OwnGo _ _ _ _ (T6.setTop (mkF m 122 #[.val (.int p0), .val (.int p1), .val (.int p2), .val (.int p3), .val (.int p4), .val (.int bb), .val (.ref b1), .val (.ref b4), .val (.int (0 : Int32)), .val (.int sel)] [.null, (.ref b1)]))
          obtain ⟨cq43, kq43, q43a, q43b, q43c⟩ := isOf hZ eh6.symm E_b1
          obtain ⟨_, _, ⟨T43, L43, k43, n43⟩, -, X43, ⟨Lc43, hQ43, l43, y43, z43⟩, st43⟩ := X6.virtualBack hx (y := (⟨"com/example/running_lineage/runninglineage/query/NumberKey", "equals", "(Ljava/lang/Object;)Z"⟩ : MethodName)) (z := (⟨"com/example/running_lineage/runninglineage/query/NumberKey", "equals", "(Ljava/lang/Object;)Z"⟩ : MethodName)) hown (mvT hZ (hw _ (List.mem_of_getElem? (i := 33) rfl))) (mvT hZ (hw _ (List.mem_of_getElem? (i := 34) rfl))) (notFace_of_selects (args := #[]) (mvT hZ (hw _ (List.mem_of_getElem? (i := 36) rfl)))) (mvT hZ (hw _ (List.mem_of_getElem? (i := 36) rfl))) (mvT hZ (hw _ (List.mem_of_getElem? (i := 35) rfl))) (by decide) (backOf (W := 0) (rm8n l Z a0 hw [] b1 h6 n0 Zs) hZ (hw _ (List.mem_of_getElem? (i := 37) rfl)) (hw _ (List.mem_of_getElem? (i := 2) rfl)) (by decide) (by decide)) q43a q43c (g := (mkF m 122 #[.val (.int p0), .val (.int p1), .val (.int p2), .val (.int p3), .val (.int p4), .val (.int bb), .val (.ref b1), .val (.ref b4), .val (.int (0 : Int32)), .val (.int sel)] [.null, (.ref b1)])) rfl (by rw [hml]; rfl) (Steps.refl _) (argsL := [.null]) (rest := []) (lenOf pd_7 rfl) rfl (by show 2 * 0 + _ ≤ _; exact Nat.le_of_eq rfl) (hb hby at_122) (fun _ _ => ⟨rfl, eh6.symm, (by decide : 2 + 0 ≤ _), (by decide : 2 + 0 ≤ _)⟩)
          dsimp only [Pt.U, Pt.locs, Pt.cells, Pt.slots] at X43 l43 y43 z43 st43 hQ43
          subst l43 y43 z43
          obtain ⟨rfl, N43q, e43⟩ := hQ43
          have N := Fr.app N N43q
          refine OwnGo.thru st43 ?_
          show OwnGo _ _ _ _ (T43.setTop (mkF m 125 #[.val (.int p0), .val (.int p1), .val (.int p2), .val (.int p3), .val (.int p4), .val (.int bb), .val (.ref b1), .val (.ref b4), .val (.int (0 : Int32)), .val (.int sel)] [(.int (0 : Int32))]))
          have hc125_44 : (0 : Int) = (0 : Int) := rfl
          refine OwnGo.fwd (fun tq' kq' => XS.ifNo X43.here hx rfl (hb hby at_125) rfl ((if0 _ _).trans (own_beq (by decide) (by decide) hc125_44).2) kq') ?_
          show OwnGo _ _ _ _ (T43.setTop (mkF m 128 #[.val (.int p0), .val (.int p1), .val (.int p2), .val (.int p3), .val (.int p4), .val (.int bb), .val (.ref b1), .val (.ref b4), .val (.int (0 : Int32)), .val (.int sel)] []))
          refine OwnGo.fwd (fun tq' kq' => XS.iconst X43.here hx rfl (hb hby at_128) kq') ?_
          show OwnGo _ _ _ _ (T43.setTop (mkF m 129 #[.val (.int p0), .val (.int p1), .val (.int p2), .val (.int p3), .val (.int p4), .val (.int bb), .val (.ref b1), .val (.ref b4), .val (.int (0 : Int32)), .val (.int sel)] [(.int (1 : Int32))]))
          refine OwnGo.fwd (fun tq' kq' => XS.goto X43.here hx rfl (pc0 := 129) (pc' := 133) rfl (hb hby at_129) (by decide) (by decide) kq') ?_
          show OwnGo _ _ _ _ (T43.setTop (mkF m 133 #[.val (.int p0), .val (.int p1), .val (.int p2), .val (.int p3), .val (.int p4), .val (.int bb), .val (.ref b1), .val (.ref b4), .val (.int (0 : Int32)), .val (.int sel)] [(.int (1 : Int32))]))
          exact own_retZ X43 hlk hx Bd.returns (hb hby at_133) (by decide) (by decide) e43 ⟨rfl, N⟩
        · refine OwnGo.fwd (fun tq' kq' => XS.icmpYes X6.here hx rfl (pc0 := 116) (pc' := 134) rfl (hb hby at_116) rfl (own_bneq rfl (by decide) hc116_42).2 (by decide) (by decide) kq') ?_
          show OwnGo _ _ _ _ (T6.setTop (mkF m 134 #[.val (.int p0), .val (.int p1), .val (.int p2), .val (.int p3), .val (.int p4), .val (.int bb), .val (.ref b1), .val (.ref b4), .val (.int (0 : Int32)), .val (.int sel)] []))
          refine OwnGo.fwd (fun tq' kq' => XS.iload X6.here hx rfl (hb hby at_134) rfl kq') ?_
          show OwnGo _ _ _ _ (T6.setTop (mkF m 136 #[.val (.int p0), .val (.int p1), .val (.int p2), .val (.int p3), .val (.int p4), .val (.int bb), .val (.ref b1), .val (.ref b4), .val (.int (0 : Int32)), .val (.int sel)] [(.int sel)]))
          refine OwnGo.fwd (fun tq' kq' => XS.iconst X6.here hx rfl (hb hby at_136) kq') ?_
          show OwnGo _ _ _ _ (T6.setTop (mkF m 137 #[.val (.int p0), .val (.int p1), .val (.int p2), .val (.int p3), .val (.int p4), .val (.int bb), .val (.ref b1), .val (.ref b4), .val (.int (0 : Int32)), .val (.int sel)] [(.int (2 : Int32)), (.int sel)]))
          by_cases hc137_45 : sel.toInt = 2
          · refine OwnGo.fwd (fun tq' kq' => XS.icmpNo X6.here hx rfl (hb hby at_137) rfl (own_beq rfl (by decide) hc137_45).2 kq') ?_
            show OwnGo _ _ _ _ (T6.setTop (mkF m 140 #[.val (.int p0), .val (.int p1), .val (.int p2), .val (.int p3), .val (.int p4), .val (.int bb), .val (.ref b1), .val (.ref b4), .val (.int (0 : Int32)), .val (.int sel)] []))
            refine OwnGo.fwd (fun tq' kq' => XS.aload X6.here hx rfl (hb hby at_140) rfl rfl kq') ?_
            show OwnGo _ _ _ _ (T6.setTop (mkF m 142 #[.val (.int p0), .val (.int p1), .val (.int p2), .val (.int p3), .val (.int p4), .val (.int bb), .val (.ref b1), .val (.ref b4), .val (.int (0 : Int32)), .val (.int sel)] [(.ref b1)]))
            refine OwnGo.fwd (fun tq' kq' => XS.iloadN X6.here hx rfl (hb hby at_142) rfl kq') ?_
            show OwnGo _ _ _ _ (T6.setTop (mkF m 143 #[.val (.int p0), .val (.int p1), .val (.int p2), .val (.int p3), .val (.int p4), .val (.int bb), .val (.ref b1), .val (.ref b4), .val (.int (0 : Int32)), .val (.int sel)] [(.int p0), (.ref b1)]))
            obtain ⟨_, _, ⟨T46, L46, k46, n46⟩, -, X46, ⟨Lc46, hQ46, l46, y46, z46⟩, st46⟩ := Jvm.LawKit.callS X6 hx (y := (⟨"java/lang/Integer", "valueOf", "(I)Ljava/lang/Integer;"⟩ : MethodName)) hown (mvT hZ (hw _ (List.mem_of_getElem? (i := 41) rfl))) (mvT hZ (hw _ (List.mem_of_getElem? (i := 42) rfl))) (mvT hZ (hw _ (List.mem_of_getElem? (i := 43) rfl))) (mvT hZ (hw _ (List.mem_of_getElem? (i := 44) rfl))) (by decide) (backOf (W := 1) (rm9 l Z a0 hw [] p0 h6 n0 Zs (IC0.ext (own_kext K))) hZ (hw _ (List.mem_of_getElem? (i := 44) rfl)) (hw _ (List.mem_of_getElem? (i := 43) rfl)) (by decide) (by decide)) (g := (mkF m 143 #[.val (.int p0), .val (.int p1), .val (.int p2), .val (.int p3), .val (.int p4), .val (.int bb), .val (.ref b1), .val (.ref b4), .val (.int (0 : Int32)), .val (.int sel)] [(.int p0), (.ref b1)])) rfl (by rw [hml]; rfl) (argsL := [(.int p0)]) (rest := [(.ref b1)]) (lenOf pd_8 rfl) rfl (by show 2 * 0 + _ ≤ _; exact Nat.le_of_eq rfl) (hb hby at_143) (fun _ _ => ⟨rfl, eh6.symm, (by decide : 2 + 1 ≤ _), (by decide : 2 + 1 ≤ _)⟩)
            dsimp only [Pt.U, Pt.locs, Pt.cells, Pt.slots] at X46 l46 y46 z46 st46 hQ46
            subst l46 y46 z46
            obtain ⟨h46, eh46⟩ : ∃ z, z = T46.heap := ⟨_, rfl⟩
            rw [← eh46] at hQ46
            obtain ⟨N46q, K46, iv46, rfl, E_iv46⟩ := hQ46
            have N := Fr.app N N46q
            have Zs := Nat.le_trans Zs K46.1
            have E_b1 := E_b1.keep K46
            have F_bits_b1 := F_bits_b1.keep K46 nin0
            have E_b4 := E_b4.keep K46
            have F_bits_b4 := F_bits_b4.keep K46 nin0
            have K := K.trans K46 all0
            refine OwnGo.fwd st46 ?_
            show OwnGo _ _ _ _ (T46.setTop (mkF m 146 #[.val (.int p0), .val (.int p1), .val (.int p2), .val (.int p3), .val (.int p4), .val (.int bb), .val (.ref b1), .val (.ref b4), .val (.int (0 : Int32)), .val (.int sel)] [(.ref iv46), (.ref b1)]))
            obtain ⟨cq47, kq47, q47a, q47b, q47c⟩ := isOf hZ eh46.symm E_b1
            obtain ⟨_, _, ⟨T47, L47, k47, n47⟩, -, X47, ⟨Lc47, hQ47, l47, y47, z47⟩, st47⟩ := X46.virtualBack hx (y := (⟨"com/example/running_lineage/runninglineage/query/NumberKey", "equals", "(Ljava/lang/Object;)Z"⟩ : MethodName)) (z := (⟨"com/example/running_lineage/runninglineage/query/NumberKey", "equals", "(Ljava/lang/Object;)Z"⟩ : MethodName)) hown (mvT hZ (hw _ (List.mem_of_getElem? (i := 33) rfl))) (mvT hZ (hw _ (List.mem_of_getElem? (i := 34) rfl))) (notFace_of_selects (args := #[]) (mvT hZ (hw _ (List.mem_of_getElem? (i := 36) rfl)))) (mvT hZ (hw _ (List.mem_of_getElem? (i := 36) rfl))) (mvT hZ (hw _ (List.mem_of_getElem? (i := 35) rfl))) (by decide) (backOf (W := 0) (rm8i l Z a0 hw [] b1 iv46 h46 n0 Zs E_iv46) hZ (hw _ (List.mem_of_getElem? (i := 37) rfl)) (hw _ (List.mem_of_getElem? (i := 2) rfl)) (by decide) (by decide)) q47a q47c (g := (mkF m 146 #[.val (.int p0), .val (.int p1), .val (.int p2), .val (.int p3), .val (.int p4), .val (.int bb), .val (.ref b1), .val (.ref b4), .val (.int (0 : Int32)), .val (.int sel)] [(.ref iv46), (.ref b1)])) rfl (by rw [hml]; rfl) (Steps.refl _) (argsL := [(.ref iv46)]) (rest := []) (lenOf pd_7 rfl) rfl (by show 2 * 0 + _ ≤ _; exact Nat.le_of_eq rfl) (hb hby at_146) (fun _ _ => ⟨rfl, eh46.symm, (by decide : 3 + 0 ≤ _), (by decide : 3 + 0 ≤ _)⟩)
            dsimp only [Pt.U, Pt.locs, Pt.cells, Pt.slots] at X47 l47 y47 z47 st47 hQ47
            subst l47 y47 z47
            obtain ⟨rfl, N47q, e47⟩ := hQ47
            have N := Fr.app N N47q
            refine OwnGo.thru st47 ?_
            show OwnGo _ _ _ _ (T47.setTop (mkF m 149 #[.val (.int p0), .val (.int p1), .val (.int p2), .val (.int p3), .val (.int p4), .val (.int bb), .val (.ref b1), .val (.ref b4), .val (.int (0 : Int32)), .val (.int sel)] [(.int (0 : Int32))]))
            have hc149_48 : (0 : Int) = (0 : Int) := rfl
            refine OwnGo.fwd (fun tq' kq' => XS.ifNo X47.here hx rfl (hb hby at_149) rfl ((if0 _ _).trans (own_beq (by decide) (by decide) hc149_48).2) kq') ?_
            show OwnGo _ _ _ _ (T47.setTop (mkF m 152 #[.val (.int p0), .val (.int p1), .val (.int p2), .val (.int p3), .val (.int p4), .val (.int bb), .val (.ref b1), .val (.ref b4), .val (.int (0 : Int32)), .val (.int sel)] []))
            refine OwnGo.fwd (fun tq' kq' => XS.iconst X47.here hx rfl (hb hby at_152) kq') ?_
            show OwnGo _ _ _ _ (T47.setTop (mkF m 153 #[.val (.int p0), .val (.int p1), .val (.int p2), .val (.int p3), .val (.int p4), .val (.int bb), .val (.ref b1), .val (.ref b4), .val (.int (0 : Int32)), .val (.int sel)] [(.int (1 : Int32))]))
            refine OwnGo.fwd (fun tq' kq' => XS.goto X47.here hx rfl (pc0 := 153) (pc' := 157) rfl (hb hby at_153) (by decide) (by decide) kq') ?_
            show OwnGo _ _ _ _ (T47.setTop (mkF m 157 #[.val (.int p0), .val (.int p1), .val (.int p2), .val (.int p3), .val (.int p4), .val (.int bb), .val (.ref b1), .val (.ref b4), .val (.int (0 : Int32)), .val (.int sel)] [(.int (1 : Int32))]))
            exact own_retZ X47 hlk hx Bd.returns (hb hby at_157) (by decide) (by decide) e47 ⟨rfl, N⟩
          · refine OwnGo.fwd (fun tq' kq' => XS.icmpYes X6.here hx rfl (pc0 := 137) (pc' := 158) rfl (hb hby at_137) rfl (own_bneq rfl (by decide) hc137_45).2 (by decide) (by decide) kq') ?_
            show OwnGo _ _ _ _ (T6.setTop (mkF m 158 #[.val (.int p0), .val (.int p1), .val (.int p2), .val (.int p3), .val (.int p4), .val (.int bb), .val (.ref b1), .val (.ref b4), .val (.int (0 : Int32)), .val (.int sel)] []))
            refine OwnGo.fwd (fun tq' kq' => XS.aload X6.here hx rfl (hb hby at_158) rfl rfl kq') ?_
            show OwnGo _ _ _ _ (T6.setTop (mkF m 160 #[.val (.int p0), .val (.int p1), .val (.int p2), .val (.int p3), .val (.int p4), .val (.int bb), .val (.ref b1), .val (.ref b4), .val (.int (0 : Int32)), .val (.int sel)] [(.ref b1)]))
            refine OwnGo.fwd (fun tq' kq' => XS.aload X6.here hx rfl (hb hby at_160) rfl rfl kq') ?_
            show OwnGo _ _ _ _ (T6.setTop (mkF m 162 #[.val (.int p0), .val (.int p1), .val (.int p2), .val (.int p3), .val (.int p4), .val (.int bb), .val (.ref b1), .val (.ref b4), .val (.int (0 : Int32)), .val (.int sel)] [(.ref b1), (.ref b1)]))
            obtain ⟨cq49, kq49, q49a, q49b, q49c⟩ := isOf hZ eh6.symm E_b1
            obtain ⟨_, _, ⟨T49, L49, k49, n49⟩, -, X49, ⟨Lc49, hQ49, l49, y49, z49⟩, st49⟩ := X6.virtualBack hx (y := (⟨"com/example/running_lineage/runninglineage/query/NumberKey", "equals", "(Ljava/lang/Object;)Z"⟩ : MethodName)) (z := (⟨"com/example/running_lineage/runninglineage/query/NumberKey", "equals", "(Ljava/lang/Object;)Z"⟩ : MethodName)) hown (mvT hZ (hw _ (List.mem_of_getElem? (i := 33) rfl))) (mvT hZ (hw _ (List.mem_of_getElem? (i := 34) rfl))) (notFace_of_selects (args := #[]) (mvT hZ (hw _ (List.mem_of_getElem? (i := 36) rfl)))) (mvT hZ (hw _ (List.mem_of_getElem? (i := 36) rfl))) (mvT hZ (hw _ (List.mem_of_getElem? (i := 35) rfl))) (by decide) (backOf (W := 0) (rm8k l Z a0 hw [] b1 b1 (own_nb p0 p2).toInt64 (own_nb p0 p2).toInt64 h6 n0 Zs F_bits_b1 F_bits_b1 E_b1) hZ (hw _ (List.mem_of_getElem? (i := 37) rfl)) (hw _ (List.mem_of_getElem? (i := 2) rfl)) (by decide) (by decide)) q49a q49c (g := (mkF m 162 #[.val (.int p0), .val (.int p1), .val (.int p2), .val (.int p3), .val (.int p4), .val (.int bb), .val (.ref b1), .val (.ref b4), .val (.int (0 : Int32)), .val (.int sel)] [(.ref b1), (.ref b1)])) rfl (by rw [hml]; rfl) (Steps.refl _) (argsL := [(.ref b1)]) (rest := []) (lenOf pd_7 rfl) rfl (by show 2 * 0 + _ ≤ _; exact Nat.le_of_eq rfl) (hb hby at_162) (fun _ _ => ⟨rfl, eh6.symm, (by decide : 2 + 0 ≤ _), (by decide : 2 + 0 ≤ _)⟩)
            dsimp only [Pt.U, Pt.locs, Pt.cells, Pt.slots] at X49 l49 y49 z49 st49 hQ49
            subst l49 y49 z49
            obtain ⟨rfl, N49q, e49⟩ := hQ49
            have N := Fr.app N N49q
            refine OwnGo.thru st49 ?_
            show OwnGo _ _ _ _ (T49.setTop (mkF m 165 #[.val (.int p0), .val (.int p1), .val (.int p2), .val (.int p3), .val (.int p4), .val (.int bb), .val (.ref b1), .val (.ref b4), .val (.int (0 : Int32)), .val (.int sel)] [(.int (own_qb (own_nb p0 p2).toInt64 (own_nb p0 p2).toInt64))]))
            exact own_retZ X49 hlk hx Bd.returns (hb hby at_165) (by decide) (by decide) e49 ⟨by rw [own_qs]; rfl, N⟩
  by_cases hc6_50 : ((p4 >>> ((2 : Int32) &&& 31)) &&& (1 : Int32)).toInt = 0
  · refine OwnGo.fwd (fun tq' kq' => XS.ifYes X0.here hx rfl (pc0 := 6) (pc' := 13) rfl (hb hby at_6) rfl ((if0 _ _).trans (own_beq rfl (by decide) hc6_50).1) (by decide) (by decide) kq') ?_
    show OwnGo _ _ _ _ (s₁.setTop (mkF m 13 #[.val (.int p0), .val (.int p1), .val (.int p2), .val (.int p3), .val (.int p4), .unset, .unset, .unset, .unset, .unset] []))
    refine OwnGo.fwd (fun tq' kq' => XS.iloadN X0.here hx rfl (hb hby at_13) rfl kq') ?_
    show OwnGo _ _ _ _ (s₁.setTop (mkF m 14 #[.val (.int p0), .val (.int p1), .val (.int p2), .val (.int p3), .val (.int p4), .unset, .unset, .unset, .unset, .unset] [(.int p1)]))
    exact J14 _
  · refine OwnGo.fwd (fun tq' kq' => XS.ifNo X0.here hx rfl (hb hby at_6) rfl ((if0 _ _).trans (own_bneq rfl (by decide) hc6_50).1) kq') ?_
    show OwnGo _ _ _ _ (s₁.setTop (mkF m 9 #[.val (.int p0), .val (.int p1), .val (.int p2), .val (.int p3), .val (.int p4), .unset, .unset, .unset, .unset, .unset] []))
    refine OwnGo.fwd (fun tq' kq' => XS.iloadN X0.here hx rfl (hb hby at_9) rfl kq') ?_
    show OwnGo _ _ _ _ (s₁.setTop (mkF m 10 #[.val (.int p0), .val (.int p1), .val (.int p2), .val (.int p3), .val (.int p4), .unset, .unset, .unset, .unset, .unset] [(.int p0)]))
    refine OwnGo.fwd (fun tq' kq' => XS.goto X0.here hx rfl (pc0 := 10) (pc' := 14) rfl (hb hby at_10) (by decide) (by decide) kq') ?_
    show OwnGo _ _ _ _ (s₁.setTop (mkF m 14 #[.val (.int p0), .val (.int p1), .val (.int p2), .val (.int p3), .val (.int p4), .unset, .unset, .unset, .unset, .unset] [(.int p0)]))
    exact J14 _
set_option maxRecDepth 65536 in
set_option maxHeartbeats 40000000 in
theorem comes_1 {Post : Tables → Env → Array Value → State → Outcome → State → Prop} (hpost : ∀ tb e args s v u, (limb_1_1.after args s (.returned v) u = true ∧ limb_1_2.after args s (.returned v) u = true ∧ True) → FrameEnd s (.returned v) u (Jvm.fieldLocs frame_1_writes args s ++ Jvm.arrayLocs frame_1_arrays args s ++ Jvm.staticLocs frame_1_statics s) 16 128 → Post tb e args s (.returned v) u) :
    ArmFor flags0 classFile x code maxLocals ret World_1 tables_1 room_1 Calls_1 rest_1 Pre_1 Post := by
  intro l hfl _ _ p e ha hc hk s m args below hf hA hF happ hP
  obtain ⟨hcalls, hrest, hpre⟩ := hP
  obtain ⟨-, -, -, hnamed, -, -, -, hat⟩ := (Spec.applies_iff hf).mp happ
  obtain ⟨hg, hn⟩ := and_e (Cond.before_iff.mp (show (Jvm.Cond.and given_1 narrow_1).before args s = true from hpre))
  obtain ⟨gc, gr0⟩ := and_e hg
  obtain ⟨ga0, gr1⟩ := and_e gr0
  obtain ⟨ga1, gr2⟩ := and_e gr1
  obtain ⟨ga2, gr3⟩ := and_e gr2
  obtain ⟨ga3, gr4⟩ := and_e gr3
  obtain ⟨w0, w1, w2, w3, w4, rfl⟩ : ∃ w0 w1 w2 w3 w4 : Value, args = #[w0, w1, w2, w3, w4] := by
    have hs : args.size = 5 := by simpa [Cond.value, given_1] using gc
    obtain ⟨L⟩ := args
    match L, hs with
    | [w0, w1, w2, w3, w4], _ => exact ⟨w0, w1, w2, w3, w4, rfl⟩
  have hw := fun d (hd : d ∈ tables_1) => atoms_spec (ws := Jvm.Cond.code x code maxLocals ret :: tables_1) hat d (List.mem_cons_of_mem _ hd)
  have hfit : Fit s := fun {y c} hc i hi => by
    obtain ⟨ha, rfl⟩ := Array.getElem?_eq_some_iff.mp hc
    have q := List.all_eq_true.mp ((Array.all_eq_true_iff_forall_mem.mp hF) _ (Array.getElem_mem ha)) i (List.mem_range.mpr hi)
    simpa [Array.getElem?_eq_getElem hi] using q
  obtain ⟨i0, ei0⟩ := is_v ga0
  obtain rfl : w0 = (.int i0) := Option.some.inj ei0
  obtain ⟨i1, ei1⟩ := is_v ga1
  obtain rfl : w1 = (.int i1) := Option.some.inj ei1
  obtain ⟨i2, ei2⟩ := is_v ga2
  obtain rfl : w2 = (.int i2) := Option.some.inj ei2
  obtain ⟨i3, ei3⟩ := is_v ga3
  obtain rfl : w3 = (.int i3) := Option.some.inj ei3
  obtain ⟨i4, ei4⟩ := is_v gr4
  obtain rfl : w4 = (.int i4) := Option.some.inj ei4
  obtain ⟨hsets, hown0⟩ := atoms_of _ (rest_1_c_eq ▸ (show rest_1_c.before _ s = true from hrest))
  have IC0 : OwnIC s s.heap := own_ICstart (hsets _ (List.mem_of_getElem? (i := 1) rfl)) (hsets _ (List.mem_of_getElem? (i := 2) rfl)) (hsets _ (List.mem_of_getElem? (i := 3) rfl)) (hsets _ (List.mem_of_getElem? (i := 4) rfl)) (hsets _ (List.mem_of_getElem? (i := 6) rfl)) (hsets _ (List.mem_of_getElem? (i := 7) rfl)) (hw _ (List.mem_of_getElem? (i := 46) rfl))
  obtain ⟨n, o, h1, h2, h3, _, L, rfl, ⟨rfl, N⟩, hq⟩ := rm0 l s _ hw tables_1 i0 i1 i2 i3 i4 s.heap s.heap.size (Nat.le_refl _) IC0 p e ha hc hk s m _ below hf ((Spec.applies_iff_loose hf).mp happ).1 ⟨rfl, State.Warmed39.refl s, rfl⟩ trivial
  refine ⟨n, _, h1, h2, h3, hpost _ _ _ _ _ _ ⟨Cond.after_iff.mpr rfl, Cond.after_iff.mpr (eq_i res_at (Term.int_eval (1)) rfl), trivial⟩ ⟨hq.1, hq.2.1, (hq.2.2.sift fun y hy => Or.inr (N y hy)).mono (by decide) (by decide)⟩⟩
theorem main_1_1 : Claimed_1_1 := comes_1 fun _ _ _ _ _ _ h hF => ⟨h.1, hF⟩
theorem main_1_2 : Claimed_1_2 := comes_1 fun _ _ _ _ _ _ h hF => ⟨h.2.1, hF⟩
end Jvm.Pilot.@@N@@
namespace Jvm.Pilot.@@N@@
open Jvm Jvm.ClassFile Sem Op Lib Jvm.Free Jvm.Stand Jvm.Pilot.@@N@@.Jvm.D
/-! MADE BY PROGRAM (witnessworld.py) out of the Statement's table words and the real class files: 17 classes; the members and pool entries that the words name. The judged class is class 1, her method 3. -/
namespace start1
open Jvm.ClassFile
def u (s : String) : CpInfo := .utf8 (stringToUtf16 s)
/-- a pool by its gaps: so many unusable entries, then the entry; so many at the end -/
def gap : Nat → List CpInfo → List CpInfo
  | 0, r => r
  | n + 1, r => .unusable :: gap n r
def poolList (es : List (Nat × CpInfo)) (last : Nat) : List CpInfo := es.foldr (fun e r => gap e.1 (e.2 :: r)) (gap last [])
def pool (es : List (Nat × CpInfo)) (last : Nat) : Array CpInfo := ⟨poolList es last⟩
def fileOf (pool : Array CpInfo) (this : Nat) (attrs : Array Attribute := #[]) (ms : Array MethodInfo := #[]) (fl : Nat := 33) (sup : Nat := 0) (ifs : Array Nat := #[]) (fds : Array FieldInfo := #[]) : ClassFile where
  minorVersion := 0
  majorVersion := 65
  constantPool := pool
  accessFlags := fl
  thisClass := this
  superClass := sup
  interfaces := ifs
  fields := fds
  methods := ms
  attributes := attrs
def plain (name : String) (sup : Option ClassId) : Class where
  name := name
  kind := .ordinary
  loader := none
  accessFlags := 33
  super := sup
  interfaces := #[]
  cf := none
  fields := #[]
  methods := #[]
  instanceTypes := #[]
  staticTypes := #[]
  resolved := #[]
  callSites := []
  init := .initialized
  statics := none
  mirror := none

def pool0 : Array CpInfo := pool [(5, u "<init>"), (0, u "()V"), (1, .class_ 10), (1, u "java/lang/Object")] 113

def k0c0 : Code := { maxStack := 0, maxLocals := 1, code := object_method_1_code, exceptionTable := #[], attributes := #[] }
def k0m0 : Method := { name := "<init>", desc := "()V", sig := { parameters := [], returnType := none }, accessFlags := 1, code := some k0c0 }
/-- java/lang/Object -/
def k0 : Class := { plain "java/lang/Object" none with
  accessFlags := 33
  interfaces := #[]
  cf := some (fileOf pool0 8 #[] #[{ accessFlags := 1, nameIndex := 5, descriptorIndex := 6, attributes := #[] }] 33 0 #[] #[])
  fields := #[]
  methods := #[k0m0]
  instanceTypes := #[]
  staticTypes := #[]
  resolved := Array.replicate 124 none
  statics := none }

def pool1 : Array CpInfo := pool [(2, .class_ 4), (1, u "java/lang/Object"), (0, u "<init>"), (0, u "()V"), (0, .methodref 8 9), (0, .class_ 10), (0, .nameAndType 11 12), (0, u "com/example/running_lineage/runninglineage/query/NumberKeyEqualsPinLaw"), (0, u "negZero"), (0, u "(II)Z"), (0, .double 9223372036854775808), (1, .class_ 16), (0, u "com/example/running_lineage/runninglineage/query/NumberKey"), (0, .methodref 8 18), (0, .nameAndType 19 20), (0, u "num"), (0, u "(II)D"), (0, .methodref 15 22), (0, .nameAndType 5 23), (0, u "(D)V"), (0, .methodref 15 25), (0, .nameAndType 26 27), (0, u "equals"), (0, u "(Ljava/lang/Object;)Z"), (0, .methodref 29 30), (0, .class_ 31), (0, .nameAndType 32 33), (0, u "java/lang/Integer"), (0, u "valueOf"), (0, u "(I)Ljava/lang/Integer;"), (3, u "law"), (0, u "(IIIII)Z")] 2

def k1m0 : Method := { name := "<init>", desc := "()V", sig := { parameters := [], returnType := none }, accessFlags := 1, code := none }
def k1c1 : Code := { maxStack := 2, maxLocals := 2, code := method_2_code, exceptionTable := #[], attributes := #[] }
def k1m1 : Method := { name := "negZero", desc := "(II)Z", sig := { parameters := [.int, .int], returnType := some .boolean }, accessFlags := 10, code := some k1c1 }
def k1c2 : Code := { maxStack := 2, maxLocals := 2, code := method_3_code, exceptionTable := #[], attributes := #[] }
def k1m2 : Method := { name := "num", desc := "(II)D", sig := { parameters := [.int, .int], returnType := some .double }, accessFlags := 10, code := some k1c2 }
def k1c3 : Code := { maxStack := 4, maxLocals := 10, code := code, exceptionTable := #[], attributes := #[] }
def k1m3 : Method := { name := "law", desc := "(IIIII)Z", sig := { parameters := [.int, .int, .int, .int, .int], returnType := some .boolean }, accessFlags := 9, code := some k1c3 }
/-- com/example/running_lineage/runninglineage/query/NumberKeyEqualsPinLaw -/
def k1 : Class := { plain "com/example/running_lineage/runninglineage/query/NumberKeyEqualsPinLaw" (some 0) with
  accessFlags := 49
  interfaces := #[]
  cf := some (fileOf pool1 8 #[] #[{ accessFlags := 1, nameIndex := 5, descriptorIndex := 6, attributes := #[] }, { accessFlags := 10, nameIndex := 11, descriptorIndex := 12, attributes := #[] }, { accessFlags := 10, nameIndex := 19, descriptorIndex := 20, attributes := #[] }, { accessFlags := 9, nameIndex := 37, descriptorIndex := 38, attributes := #[] }] 49 2 #[] #[])
  fields := #[]
  methods := #[k1m0, k1m1, k1m2, k1m3]
  instanceTypes := #[]
  staticTypes := #[]
  resolved := Array.replicate 41 none
  statics := none }

def pool2 : Array CpInfo := pool [(1, .methodref 2 3), (0, .class_ 4), (0, .nameAndType 5 6), (0, u "java/lang/Object"), (0, u "<init>"), (0, u "()V"), (0, .methodref 8 9), (0, .class_ 10), (0, .nameAndType 11 12), (0, u "com/example/running_lineage/runninglineage/query/NumberKey"), (0, u "set"), (0, u "(D)Lcom/example/running_lineage/runninglineage/query/NumberKey;"), (0, .methodref 14 15), (0, .class_ 16), (0, .nameAndType 17 18), (0, u "java/lang/Double"), (0, u "doubleToLongBits"), (0, u "(D)J"), (0, .fieldref 8 20), (0, .nameAndType 21 22), (0, u "bits"), (0, u "J"), (4, u "(D)V"), (2, u "equals"), (0, u "(Ljava/lang/Object;)Z")] 5

def k2c0 : Code := { maxStack := 3, maxLocals := 3, code := prog_97_method_1_code, exceptionTable := #[], attributes := #[] }
def k2m0 : Method := { name := "<init>", desc := "(D)V", sig := { parameters := [.double], returnType := none }, accessFlags := 0, code := some k2c0 }
def k2c1 : Code := { maxStack := 3, maxLocals := 3, code := prog_97_method_2_code, exceptionTable := #[], attributes := #[] }
def k2m1 : Method := { name := "set", desc := "(D)Lcom/example/running_lineage/runninglineage/query/NumberKey;", sig := { parameters := [.double], returnType := some (.object "com/example/running_lineage/runninglineage/query/NumberKey") }, accessFlags := 0, code := some k2c1 }
def k2c2 : Code := { maxStack := 4, maxLocals := 2, code := prog_97_method_3_code, exceptionTable := #[], attributes := #[] }
def k2m2 : Method := { name := "equals", desc := "(Ljava/lang/Object;)Z", sig := { parameters := [(.object "java/lang/Object")], returnType := some .boolean }, accessFlags := 1, code := some k2c2 }
/-- com/example/running_lineage/runninglineage/query/NumberKey -/
def k2 : Class := { plain "com/example/running_lineage/runninglineage/query/NumberKey" (some 0) with
  accessFlags := 48
  interfaces := #[]
  cf := some (fileOf pool2 8 #[] #[{ accessFlags := 0, nameIndex := 5, descriptorIndex := 27, attributes := #[] }, { accessFlags := 0, nameIndex := 11, descriptorIndex := 12, attributes := #[] }, { accessFlags := 1, nameIndex := 30, descriptorIndex := 31, attributes := #[] }] 48 2 #[] #[{ accessFlags := 2, nameIndex := 21, descriptorIndex := 22, attributes := #[] }])
  fields := #[{ name := "bits", type := .long, accessFlags := 2, slot := 0, constantValue := 0 }]
  methods := #[k2m0, k2m1, k2m2]
  instanceTypes := #[.long]
  staticTypes := #[]
  resolved := Array.replicate 37 none
  statics := none }

def pool3 : Array CpInfo := pool [(1, .class_ 2), (0, u "java/io/Serializable"), (0, .class_ 4), (0, u "java/lang/Object")] 2

/-- java/io/Serializable -/
def k3 : Class := { plain "java/io/Serializable" (some 0) with
  accessFlags := 1537
  interfaces := #[]
  cf := some (fileOf pool3 1 #[] #[] 1537 3 #[] #[])
  fields := #[]
  methods := #[]
  instanceTypes := #[]
  staticTypes := #[]
  resolved := Array.replicate 7 none
  statics := none }

def pool4 : Array CpInfo := pool [(1, .methodref 2 3), (0, .class_ 4), (0, .nameAndType 5 6), (0, u "java/lang/Object"), (0, u "<init>"), (0, u "()V"), (1, .class_ 10), (1, u "java/lang/Number"), (2, .class_ 14), (0, u "java/io/Serializable"), (0, u "serialVersionUID"), (0, u "J")] 20

def k4c0 : Code := { maxStack := 1, maxLocals := 1, code := jdk_18_method_1_code, exceptionTable := #[], attributes := #[] }
def k4m0 : Method := { name := "<init>", desc := "()V", sig := { parameters := [], returnType := none }, accessFlags := 1, code := some k4c0 }
/-- java/lang/Number -/
def k4 : Class := { plain "java/lang/Number" (some 0) with
  accessFlags := 1057
  interfaces := #[3]
  cf := some (fileOf pool4 8 #[] #[{ accessFlags := 1, nameIndex := 5, descriptorIndex := 6, attributes := #[] }] 1057 2 #[13] #[{ accessFlags := 26, nameIndex := 15, descriptorIndex := 16, attributes := #[] }])
  fields := #[{ name := "serialVersionUID", type := .long, accessFlags := 26, slot := 0, constantValue := 0 }]
  methods := #[k4m0]
  instanceTypes := #[]
  staticTypes := #[.long]
  resolved := Array.replicate 37 none
  statics := none }

def pool5 : Array CpInfo := pool [(1, .class_ 2), (0, u "java/lang/Comparable"), (0, .class_ 4), (0, u "java/lang/Object")] 7

/-- java/lang/Comparable -/
def k5 : Class := { plain "java/lang/Comparable" (some 0) with
  accessFlags := 1537
  interfaces := #[]
  cf := some (fileOf pool5 1 #[] #[] 1537 3 #[] #[])
  fields := #[]
  methods := #[]
  instanceTypes := #[]
  staticTypes := #[]
  resolved := Array.replicate 12 none
  statics := none }

def pool6 : Array CpInfo := pool [(1, .class_ 2), (0, u "java/lang/constant/Constable"), (0, .class_ 4), (0, u "java/lang/Object")] 6

/-- java/lang/constant/Constable -/
def k6 : Class := { plain "java/lang/constant/Constable" (some 0) with
  accessFlags := 1537
  interfaces := #[]
  cf := some (fileOf pool6 1 #[] #[] 1537 3 #[] #[])
  fields := #[]
  methods := #[]
  instanceTypes := #[]
  staticTypes := #[]
  resolved := Array.replicate 11 none
  statics := none }

def pool7 : Array CpInfo := pool [(1, .class_ 2), (0, u "java/lang/constant/ConstantDesc"), (0, .class_ 4), (0, u "java/lang/Object")] 32

/-- java/lang/constant/ConstantDesc -/
def k7 : Class := { plain "java/lang/constant/ConstantDesc" (some 0) with
  accessFlags := 1537
  interfaces := #[]
  cf := some (fileOf pool7 1 #[] #[] 1537 3 #[] #[])
  fields := #[]
  methods := #[]
  instanceTypes := #[]
  staticTypes := #[]
  resolved := Array.replicate 37 none
  statics := none }

def pool8 : Array CpInfo := pool [(1, .class_ 2), (0, u "java/lang/Double"), (11, u "(D)Z"), (33, u "doubleToLongBits"), (0, u "(D)J"), (64, .class_ 116), (1, u "java/lang/Number"), (3, u "value"), (0, u "D"), (0, .methodref 1 123), (0, .nameAndType 124 14), (0, u "isNaN"), (9, .methodref 1 135), (0, .nameAndType 136 49), (0, u "doubleToRawLongBits"), (36, u "TYPE"), (0, u "Ljava/lang/Class;"), (0, .class_ 176), (0, u "java/lang/Comparable"), (0, .class_ 178), (0, u "java/lang/constant/Constable"), (0, .class_ 180), (0, u "java/lang/constant/ConstantDesc"), (0, u "POSITIVE_INFINITY"), (3, u "NEGATIVE_INFINITY"), (2, u "NaN"), (2, u "MAX_VALUE"), (0, u "MIN_NORMAL"), (0, u "MIN_VALUE"), (2, u "SIZE"), (0, u "I"), (1, u "PRECISION"), (1, u "MAX_EXPONENT"), (1, u "MIN_EXPONENT"), (1, u "BYTES"), (3, u "serialVersionUID"), (0, u "J")] 79

def k8c0 : Code := { maxStack := 4, maxLocals := 2, code := jdk_117_method_6_code, exceptionTable := #[], attributes := #[] }
def k8m0 : Method := { name := "isNaN", desc := "(D)Z", sig := { parameters := [.double], returnType := some .boolean }, accessFlags := 9, code := some k8c0 }
def k8c1 : Code := { maxStack := 2, maxLocals := 2, code := jdk_117_method_23_code, exceptionTable := #[], attributes := #[] }
def k8m1 : Method := { name := "doubleToLongBits", desc := "(D)J", sig := { parameters := [.double], returnType := some .long }, accessFlags := 9, code := some k8c1 }
def k8m2 : Method := { name := "doubleToRawLongBits", desc := "(D)J", sig := { parameters := [.double], returnType := some .long }, accessFlags := 265, code := none }
/-- java/lang/Double -/
def k8 : Class := { plain "java/lang/Double" (some 4) with
  accessFlags := 49
  interfaces := #[5, 6, 7]
  cf := some (fileOf pool8 1 #[] #[{ accessFlags := 9, nameIndex := 124, descriptorIndex := 14, attributes := #[] }, { accessFlags := 9, nameIndex := 48, descriptorIndex := 49, attributes := #[] }, { accessFlags := 265, nameIndex := 136, descriptorIndex := 49, attributes := #[] }] 49 114 #[175, 177, 179] #[{ accessFlags := 25, nameIndex := 181, descriptorIndex := 121, attributes := #[] }, { accessFlags := 25, nameIndex := 185, descriptorIndex := 121, attributes := #[] }, { accessFlags := 25, nameIndex := 188, descriptorIndex := 121, attributes := #[] }, { accessFlags := 25, nameIndex := 191, descriptorIndex := 121, attributes := #[] }, { accessFlags := 25, nameIndex := 192, descriptorIndex := 121, attributes := #[] }, { accessFlags := 25, nameIndex := 193, descriptorIndex := 121, attributes := #[] }, { accessFlags := 25, nameIndex := 196, descriptorIndex := 197, attributes := #[] }, { accessFlags := 25, nameIndex := 199, descriptorIndex := 197, attributes := #[] }, { accessFlags := 25, nameIndex := 201, descriptorIndex := 197, attributes := #[] }, { accessFlags := 25, nameIndex := 203, descriptorIndex := 197, attributes := #[] }, { accessFlags := 25, nameIndex := 205, descriptorIndex := 197, attributes := #[] }, { accessFlags := 25, nameIndex := 173, descriptorIndex := 174, attributes := #[] }, { accessFlags := 18, nameIndex := 120, descriptorIndex := 121, attributes := #[] }, { accessFlags := 26, nameIndex := 209, descriptorIndex := 210, attributes := #[] }])
  fields := #[{ name := "POSITIVE_INFINITY", type := .double, accessFlags := 25, slot := 0, constantValue := 0 }, { name := "NEGATIVE_INFINITY", type := .double, accessFlags := 25, slot := 1, constantValue := 0 }, { name := "NaN", type := .double, accessFlags := 25, slot := 2, constantValue := 0 }, { name := "MAX_VALUE", type := .double, accessFlags := 25, slot := 3, constantValue := 0 }, { name := "MIN_NORMAL", type := .double, accessFlags := 25, slot := 4, constantValue := 0 }, { name := "MIN_VALUE", type := .double, accessFlags := 25, slot := 5, constantValue := 0 }, { name := "SIZE", type := .int, accessFlags := 25, slot := 6, constantValue := 0 }, { name := "PRECISION", type := .int, accessFlags := 25, slot := 7, constantValue := 0 }, { name := "MAX_EXPONENT", type := .int, accessFlags := 25, slot := 8, constantValue := 0 }, { name := "MIN_EXPONENT", type := .int, accessFlags := 25, slot := 9, constantValue := 0 }, { name := "BYTES", type := .int, accessFlags := 25, slot := 10, constantValue := 0 }, { name := "TYPE", type := (.object "java/lang/Class"), accessFlags := 25, slot := 11, constantValue := 0 }, { name := "value", type := .double, accessFlags := 18, slot := 0, constantValue := 0 }, { name := "serialVersionUID", type := .long, accessFlags := 26, slot := 12, constantValue := 0 }]
  methods := #[k8m0, k8m1, k8m2]
  instanceTypes := #[.double]
  staticTypes := #[.double, .double, .double, .double, .double, .double, .int, .int, .int, .int, .int, (.object "java/lang/Class"), .long]
  resolved := Array.replicate 290 none
  statics := none }

def pool9 : Array CpInfo := pool [(1, .class_ 2), (0, u "java/lang/Integer"), (16, u "digits"), (0, u "[C"), (46, u "<init>"), (17, u "DigitOnes"), (0, u "[B"), (2, u "DigitTens"), (10, .nameAndType 67 101), (0, u "()V"), (85, u "valueOf"), (0, u "(I)Ljava/lang/Integer;"), (0, .class_ 190), (0, u "java/lang/Integer$IntegerCache"), (0, .fieldref 189 192), (0, .nameAndType 193 194), (0, u "high"), (0, u "I"), (0, .fieldref 189 196), (0, .nameAndType 197 198), (0, u "cache"), (0, u "[Ljava/lang/Integer;"), (0, .methodref 1 200), (0, .nameAndType 67 201), (0, u "(I)V"), (0, .methodref 203 100), (0, .class_ 204), (0, u "java/lang/Number"), (0, .fieldref 1 206), (0, .nameAndType 207 194), (0, u "value"), (94, u "TYPE"), (0, u "Ljava/lang/Class;"), (0, .class_ 305), (0, u "java/lang/Comparable"), (0, .class_ 307), (0, u "java/lang/constant/Constable"), (0, .class_ 309), (0, u "java/lang/constant/ConstantDesc"), (0, u "MIN_VALUE"), (1, u "MAX_VALUE"), (3, u "SIZE"), (1, u "BYTES"), (1, u "serialVersionUID"), (0, u "J")] 131

def k9c0 : Code := { maxStack := 3, maxLocals := 1, code := jdk_33_method_22_code, exceptionTable := #[], attributes := #[] }
def k9m0 : Method := { name := "valueOf", desc := "(I)Ljava/lang/Integer;", sig := { parameters := [.int], returnType := some (.object "java/lang/Integer") }, accessFlags := 9, code := some k9c0 }
def k9c1 : Code := { maxStack := 2, maxLocals := 2, code := jdk_33_method_23_code, exceptionTable := #[], attributes := #[] }
def k9m1 : Method := { name := "<init>", desc := "(I)V", sig := { parameters := [.int], returnType := none }, accessFlags := 1, code := some k9c1 }
/-- java/lang/Integer -/
def k9 : Class := { plain "java/lang/Integer" (some 4) with
  accessFlags := 49
  interfaces := #[5, 6, 7]
  cf := some (fileOf pool9 1 #[.nestMembers #[189]] #[{ accessFlags := 9, nameIndex := 187, descriptorIndex := 188, attributes := #[] }, { accessFlags := 1, nameIndex := 67, descriptorIndex := 201, attributes := #[] }] 49 203 #[304, 306, 308] #[{ accessFlags := 25, nameIndex := 310, descriptorIndex := 194, attributes := #[] }, { accessFlags := 25, nameIndex := 312, descriptorIndex := 194, attributes := #[] }, { accessFlags := 25, nameIndex := 302, descriptorIndex := 303, attributes := #[] }, { accessFlags := 24, nameIndex := 19, descriptorIndex := 20, attributes := #[] }, { accessFlags := 24, nameIndex := 89, descriptorIndex := 86, attributes := #[] }, { accessFlags := 24, nameIndex := 85, descriptorIndex := 86, attributes := #[] }, { accessFlags := 18, nameIndex := 207, descriptorIndex := 194, attributes := #[] }, { accessFlags := 25, nameIndex := 316, descriptorIndex := 194, attributes := #[] }, { accessFlags := 25, nameIndex := 318, descriptorIndex := 194, attributes := #[] }, { accessFlags := 26, nameIndex := 320, descriptorIndex := 321, attributes := #[] }])
  fields := #[{ name := "MIN_VALUE", type := .int, accessFlags := 25, slot := 0, constantValue := 0 }, { name := "MAX_VALUE", type := .int, accessFlags := 25, slot := 1, constantValue := 0 }, { name := "TYPE", type := (.object "java/lang/Class"), accessFlags := 25, slot := 2, constantValue := 0 }, { name := "digits", type := (.array .char), accessFlags := 24, slot := 3, constantValue := 0 }, { name := "DigitTens", type := (.array .byte), accessFlags := 24, slot := 4, constantValue := 0 }, { name := "DigitOnes", type := (.array .byte), accessFlags := 24, slot := 5, constantValue := 0 }, { name := "value", type := .int, accessFlags := 18, slot := 0, constantValue := 0 }, { name := "SIZE", type := .int, accessFlags := 25, slot := 6, constantValue := 0 }, { name := "BYTES", type := .int, accessFlags := 25, slot := 7, constantValue := 0 }, { name := "serialVersionUID", type := .long, accessFlags := 26, slot := 8, constantValue := 0 }]
  methods := #[k9m0, k9m1]
  instanceTypes := #[.int]
  staticTypes := #[.int, .int, (.object "java/lang/Class"), (.array .char), (.array .byte), (.array .byte), .int, .int, .long]
  resolved := Array.replicate 453 none
  statics := none }

def pool10 : Array CpInfo := pool [(2, .class_ 4), (1, u "java/lang/Object"), (0, u "<init>"), (0, u "()V"), (0, .class_ 8), (0, u "java/lang/Integer"), (7, .class_ 18), (1, u "java/lang/Integer$IntegerCache"), (0, u "$assertionsDisabled"), (0, u "Z"), (26, u "high"), (0, u "I"), (8, u "archivedCache"), (0, u "[Ljava/lang/Integer;"), (12, u "cache"), (0, u "low")] 27

def k10m0 : Method := { name := "<init>", desc := "()V", sig := { parameters := [], returnType := none }, accessFlags := 2, code := none }
/-- java/lang/Integer$IntegerCache -/
def k10 : Class := { plain "java/lang/Integer$IntegerCache" (some 0) with
  accessFlags := 48
  interfaces := #[]
  cf := some (fileOf pool10 16 #[.nestHost 7] #[{ accessFlags := 2, nameIndex := 5, descriptorIndex := 6, attributes := #[] }] 48 2 #[] #[{ accessFlags := 24, nameIndex := 72, descriptorIndex := 48, attributes := #[] }, { accessFlags := 24, nameIndex := 47, descriptorIndex := 48, attributes := #[] }, { accessFlags := 24, nameIndex := 71, descriptorIndex := 58, attributes := #[] }, { accessFlags := 8, nameIndex := 57, descriptorIndex := 58, attributes := #[] }, { accessFlags := 4120, nameIndex := 19, descriptorIndex := 20, attributes := #[] }])
  fields := #[{ name := "low", type := .int, accessFlags := 24, slot := 0, constantValue := 0 }, { name := "high", type := .int, accessFlags := 24, slot := 1, constantValue := 0 }, { name := "cache", type := (.array (.object "java/lang/Integer")), accessFlags := 24, slot := 2, constantValue := 0 }, { name := "archivedCache", type := (.array (.object "java/lang/Integer")), accessFlags := 8, slot := 3, constantValue := 0 }, { name := "$assertionsDisabled", type := .boolean, accessFlags := 4120, slot := 4, constantValue := 0 }]
  methods := #[k10m0]
  instanceTypes := #[]
  staticTypes := #[.int, .int, (.array (.object "java/lang/Integer")), (.array (.object "java/lang/Integer")), .boolean]
  resolved := Array.replicate 100 none
  statics := some 0 }

def pool11 : Array CpInfo := pool [(1, u "java/lang/Cloneable"), (0, .class_ 1), (0, u "java/lang/Object"), (0, .class_ 3)] 3

/-- java/lang/Cloneable -/
def k11 : Class := { plain "java/lang/Cloneable" (some 0) with
  accessFlags := 1537
  interfaces := #[]
  cf := some (fileOf pool11 2 #[] #[] 1537 4 #[] #[])
  fields := #[]
  methods := #[]
  instanceTypes := #[]
  staticTypes := #[]
  resolved := Array.replicate 8 none
  statics := none }

/-- the primitive byte -/
def k12 : Class := { plain "byte" none with kind := .primitive 'B', accessFlags := 0x411 }
/-- [B -/
def k13 : Class := { plain "[B" (some 0) with kind := .array 12 .byte, interfaces := #[11, 3], accessFlags := 1041 }

/-- the primitive int -/
def k14 : Class := { plain "int" none with kind := .primitive 'I', accessFlags := 0x411 }
/-- [I -/
def k15 : Class := { plain "[I" (some 0) with kind := .array 14 .int, interfaces := #[11, 3], accessFlags := 1041 }

/-- [Ljava/lang/Integer; -/
def k16 : Class := { plain "[Ljava/lang/Integer;" (some 0) with kind := .array 9 (.object "java/lang/Integer"), interfaces := #[11, 3], accessFlags := 1041 }

def heap : Heap := #[{ cls := 10, slots := #[.int 0, .int 127, .ref 1, .null, .int 0], vm := .statics 10 },
  { cls := 16, slots := #[.ref 2, .ref 3, .ref 4, .ref 5, .ref 6, .ref 7, .ref 8, .ref 9, .ref 10, .ref 11, .ref 12, .ref 13, .ref 14, .ref 15, .ref 16, .ref 17, .ref 18, .ref 19, .ref 20, .ref 21, .ref 22, .ref 23, .ref 24, .ref 25, .ref 26, .ref 27, .ref 28, .ref 29, .ref 30, .ref 31, .ref 32, .ref 33, .ref 34, .ref 35, .ref 36, .ref 37, .ref 38, .ref 39, .ref 40, .ref 41, .ref 42, .ref 43, .ref 44, .ref 45, .ref 46, .ref 47, .ref 48, .ref 49, .ref 50, .ref 51, .ref 52, .ref 53, .ref 54, .ref 55, .ref 56, .ref 57, .ref 58, .ref 59, .ref 60, .ref 61, .ref 62, .ref 63, .ref 64, .ref 65, .ref 66, .ref 67, .ref 68, .ref 69, .ref 70, .ref 71, .ref 72, .ref 73, .ref 74, .ref 75, .ref 76, .ref 77, .ref 78, .ref 79, .ref 80, .ref 81, .ref 82, .ref 83, .ref 84, .ref 85, .ref 86, .ref 87, .ref 88, .ref 89, .ref 90, .ref 91, .ref 92, .ref 93, .ref 94, .ref 95, .ref 96, .ref 97, .ref 98, .ref 99, .ref 100, .ref 101, .ref 102, .ref 103, .ref 104, .ref 105, .ref 106, .ref 107, .ref 108, .ref 109, .ref 110, .ref 111, .ref 112, .ref 113, .ref 114, .ref 115, .ref 116, .ref 117, .ref 118, .ref 119, .ref 120, .ref 121, .ref 122, .ref 123, .ref 124, .ref 125, .ref 126, .ref 127, .ref 128, .ref 129, .ref 130, .ref 131, .ref 132, .ref 133, .ref 134, .ref 135, .ref 136, .ref 137, .ref 138, .ref 139, .ref 140, .ref 141, .ref 142, .ref 143, .ref 144, .ref 145, .ref 146, .ref 147, .ref 148, .ref 149, .ref 150, .ref 151, .ref 152, .ref 153, .ref 154, .ref 155, .ref 156, .ref 157, .ref 158, .ref 159, .ref 160, .ref 161, .ref 162, .ref 163, .ref 164, .ref 165, .ref 166, .ref 167, .ref 168, .ref 169, .ref 170, .ref 171, .ref 172, .ref 173, .ref 174, .ref 175, .ref 176, .ref 177, .ref 178, .ref 179, .ref 180, .ref 181, .ref 182, .ref 183, .ref 184, .ref 185, .ref 186, .ref 187, .ref 188, .ref 189, .ref 190, .ref 191, .ref 192, .ref 193, .ref 194, .ref 195, .ref 196, .ref 197, .ref 198, .ref 199, .ref 200, .ref 201, .ref 202, .ref 203, .ref 204, .ref 205, .ref 206, .ref 207, .ref 208, .ref 209, .ref 210, .ref 211, .ref 212, .ref 213, .ref 214, .ref 215, .ref 216, .ref 217, .ref 218, .ref 219, .ref 220, .ref 221, .ref 222, .ref 223, .ref 224, .ref 225, .ref 226, .ref 227, .ref 228, .ref 229, .ref 230, .ref 231, .ref 232, .ref 233, .ref 234, .ref 235, .ref 236, .ref 237, .ref 238, .ref 239, .ref 240, .ref 241, .ref 242, .ref 243, .ref 244, .ref 245, .ref 246, .ref 247, .ref 248, .ref 249, .ref 250, .ref 251, .ref 252, .ref 253, .ref 254, .ref 255, .ref 256, .ref 257], vm := .none },
  { cls := 9, slots := #[.int (-128)], vm := .none },
  { cls := 9, slots := #[.int (-127)], vm := .none },
  { cls := 9, slots := #[.int (-126)], vm := .none },
  { cls := 9, slots := #[.int (-125)], vm := .none },
  { cls := 9, slots := #[.int (-124)], vm := .none },
  { cls := 9, slots := #[.int (-123)], vm := .none },
  { cls := 9, slots := #[.int (-122)], vm := .none },
  { cls := 9, slots := #[.int (-121)], vm := .none },
  { cls := 9, slots := #[.int (-120)], vm := .none },
  { cls := 9, slots := #[.int (-119)], vm := .none },
  { cls := 9, slots := #[.int (-118)], vm := .none },
  { cls := 9, slots := #[.int (-117)], vm := .none },
  { cls := 9, slots := #[.int (-116)], vm := .none },
  { cls := 9, slots := #[.int (-115)], vm := .none },
  { cls := 9, slots := #[.int (-114)], vm := .none },
  { cls := 9, slots := #[.int (-113)], vm := .none },
  { cls := 9, slots := #[.int (-112)], vm := .none },
  { cls := 9, slots := #[.int (-111)], vm := .none },
  { cls := 9, slots := #[.int (-110)], vm := .none },
  { cls := 9, slots := #[.int (-109)], vm := .none },
  { cls := 9, slots := #[.int (-108)], vm := .none },
  { cls := 9, slots := #[.int (-107)], vm := .none },
  { cls := 9, slots := #[.int (-106)], vm := .none },
  { cls := 9, slots := #[.int (-105)], vm := .none },
  { cls := 9, slots := #[.int (-104)], vm := .none },
  { cls := 9, slots := #[.int (-103)], vm := .none },
  { cls := 9, slots := #[.int (-102)], vm := .none },
  { cls := 9, slots := #[.int (-101)], vm := .none },
  { cls := 9, slots := #[.int (-100)], vm := .none },
  { cls := 9, slots := #[.int (-99)], vm := .none },
  { cls := 9, slots := #[.int (-98)], vm := .none },
  { cls := 9, slots := #[.int (-97)], vm := .none },
  { cls := 9, slots := #[.int (-96)], vm := .none },
  { cls := 9, slots := #[.int (-95)], vm := .none },
  { cls := 9, slots := #[.int (-94)], vm := .none },
  { cls := 9, slots := #[.int (-93)], vm := .none },
  { cls := 9, slots := #[.int (-92)], vm := .none },
  { cls := 9, slots := #[.int (-91)], vm := .none },
  { cls := 9, slots := #[.int (-90)], vm := .none },
  { cls := 9, slots := #[.int (-89)], vm := .none },
  { cls := 9, slots := #[.int (-88)], vm := .none },
  { cls := 9, slots := #[.int (-87)], vm := .none },
  { cls := 9, slots := #[.int (-86)], vm := .none },
  { cls := 9, slots := #[.int (-85)], vm := .none },
  { cls := 9, slots := #[.int (-84)], vm := .none },
  { cls := 9, slots := #[.int (-83)], vm := .none },
  { cls := 9, slots := #[.int (-82)], vm := .none },
  { cls := 9, slots := #[.int (-81)], vm := .none },
  { cls := 9, slots := #[.int (-80)], vm := .none },
  { cls := 9, slots := #[.int (-79)], vm := .none },
  { cls := 9, slots := #[.int (-78)], vm := .none },
  { cls := 9, slots := #[.int (-77)], vm := .none },
  { cls := 9, slots := #[.int (-76)], vm := .none },
  { cls := 9, slots := #[.int (-75)], vm := .none },
  { cls := 9, slots := #[.int (-74)], vm := .none },
  { cls := 9, slots := #[.int (-73)], vm := .none },
  { cls := 9, slots := #[.int (-72)], vm := .none },
  { cls := 9, slots := #[.int (-71)], vm := .none },
  { cls := 9, slots := #[.int (-70)], vm := .none },
  { cls := 9, slots := #[.int (-69)], vm := .none },
  { cls := 9, slots := #[.int (-68)], vm := .none },
  { cls := 9, slots := #[.int (-67)], vm := .none },
  { cls := 9, slots := #[.int (-66)], vm := .none },
  { cls := 9, slots := #[.int (-65)], vm := .none },
  { cls := 9, slots := #[.int (-64)], vm := .none },
  { cls := 9, slots := #[.int (-63)], vm := .none },
  { cls := 9, slots := #[.int (-62)], vm := .none },
  { cls := 9, slots := #[.int (-61)], vm := .none },
  { cls := 9, slots := #[.int (-60)], vm := .none },
  { cls := 9, slots := #[.int (-59)], vm := .none },
  { cls := 9, slots := #[.int (-58)], vm := .none },
  { cls := 9, slots := #[.int (-57)], vm := .none },
  { cls := 9, slots := #[.int (-56)], vm := .none },
  { cls := 9, slots := #[.int (-55)], vm := .none },
  { cls := 9, slots := #[.int (-54)], vm := .none },
  { cls := 9, slots := #[.int (-53)], vm := .none },
  { cls := 9, slots := #[.int (-52)], vm := .none },
  { cls := 9, slots := #[.int (-51)], vm := .none },
  { cls := 9, slots := #[.int (-50)], vm := .none },
  { cls := 9, slots := #[.int (-49)], vm := .none },
  { cls := 9, slots := #[.int (-48)], vm := .none },
  { cls := 9, slots := #[.int (-47)], vm := .none },
  { cls := 9, slots := #[.int (-46)], vm := .none },
  { cls := 9, slots := #[.int (-45)], vm := .none },
  { cls := 9, slots := #[.int (-44)], vm := .none },
  { cls := 9, slots := #[.int (-43)], vm := .none },
  { cls := 9, slots := #[.int (-42)], vm := .none },
  { cls := 9, slots := #[.int (-41)], vm := .none },
  { cls := 9, slots := #[.int (-40)], vm := .none },
  { cls := 9, slots := #[.int (-39)], vm := .none },
  { cls := 9, slots := #[.int (-38)], vm := .none },
  { cls := 9, slots := #[.int (-37)], vm := .none },
  { cls := 9, slots := #[.int (-36)], vm := .none },
  { cls := 9, slots := #[.int (-35)], vm := .none },
  { cls := 9, slots := #[.int (-34)], vm := .none },
  { cls := 9, slots := #[.int (-33)], vm := .none },
  { cls := 9, slots := #[.int (-32)], vm := .none },
  { cls := 9, slots := #[.int (-31)], vm := .none },
  { cls := 9, slots := #[.int (-30)], vm := .none },
  { cls := 9, slots := #[.int (-29)], vm := .none },
  { cls := 9, slots := #[.int (-28)], vm := .none },
  { cls := 9, slots := #[.int (-27)], vm := .none },
  { cls := 9, slots := #[.int (-26)], vm := .none },
  { cls := 9, slots := #[.int (-25)], vm := .none },
  { cls := 9, slots := #[.int (-24)], vm := .none },
  { cls := 9, slots := #[.int (-23)], vm := .none },
  { cls := 9, slots := #[.int (-22)], vm := .none },
  { cls := 9, slots := #[.int (-21)], vm := .none },
  { cls := 9, slots := #[.int (-20)], vm := .none },
  { cls := 9, slots := #[.int (-19)], vm := .none },
  { cls := 9, slots := #[.int (-18)], vm := .none },
  { cls := 9, slots := #[.int (-17)], vm := .none },
  { cls := 9, slots := #[.int (-16)], vm := .none },
  { cls := 9, slots := #[.int (-15)], vm := .none },
  { cls := 9, slots := #[.int (-14)], vm := .none },
  { cls := 9, slots := #[.int (-13)], vm := .none },
  { cls := 9, slots := #[.int (-12)], vm := .none },
  { cls := 9, slots := #[.int (-11)], vm := .none },
  { cls := 9, slots := #[.int (-10)], vm := .none },
  { cls := 9, slots := #[.int (-9)], vm := .none },
  { cls := 9, slots := #[.int (-8)], vm := .none },
  { cls := 9, slots := #[.int (-7)], vm := .none },
  { cls := 9, slots := #[.int (-6)], vm := .none },
  { cls := 9, slots := #[.int (-5)], vm := .none },
  { cls := 9, slots := #[.int (-4)], vm := .none },
  { cls := 9, slots := #[.int (-3)], vm := .none },
  { cls := 9, slots := #[.int (-2)], vm := .none },
  { cls := 9, slots := #[.int (-1)], vm := .none },
  { cls := 9, slots := #[.int 0], vm := .none },
  { cls := 9, slots := #[.int 1], vm := .none },
  { cls := 9, slots := #[.int 2], vm := .none },
  { cls := 9, slots := #[.int 3], vm := .none },
  { cls := 9, slots := #[.int 4], vm := .none },
  { cls := 9, slots := #[.int 5], vm := .none },
  { cls := 9, slots := #[.int 6], vm := .none },
  { cls := 9, slots := #[.int 7], vm := .none },
  { cls := 9, slots := #[.int 8], vm := .none },
  { cls := 9, slots := #[.int 9], vm := .none },
  { cls := 9, slots := #[.int 10], vm := .none },
  { cls := 9, slots := #[.int 11], vm := .none },
  { cls := 9, slots := #[.int 12], vm := .none },
  { cls := 9, slots := #[.int 13], vm := .none },
  { cls := 9, slots := #[.int 14], vm := .none },
  { cls := 9, slots := #[.int 15], vm := .none },
  { cls := 9, slots := #[.int 16], vm := .none },
  { cls := 9, slots := #[.int 17], vm := .none },
  { cls := 9, slots := #[.int 18], vm := .none },
  { cls := 9, slots := #[.int 19], vm := .none },
  { cls := 9, slots := #[.int 20], vm := .none },
  { cls := 9, slots := #[.int 21], vm := .none },
  { cls := 9, slots := #[.int 22], vm := .none },
  { cls := 9, slots := #[.int 23], vm := .none },
  { cls := 9, slots := #[.int 24], vm := .none },
  { cls := 9, slots := #[.int 25], vm := .none },
  { cls := 9, slots := #[.int 26], vm := .none },
  { cls := 9, slots := #[.int 27], vm := .none },
  { cls := 9, slots := #[.int 28], vm := .none },
  { cls := 9, slots := #[.int 29], vm := .none },
  { cls := 9, slots := #[.int 30], vm := .none },
  { cls := 9, slots := #[.int 31], vm := .none },
  { cls := 9, slots := #[.int 32], vm := .none },
  { cls := 9, slots := #[.int 33], vm := .none },
  { cls := 9, slots := #[.int 34], vm := .none },
  { cls := 9, slots := #[.int 35], vm := .none },
  { cls := 9, slots := #[.int 36], vm := .none },
  { cls := 9, slots := #[.int 37], vm := .none },
  { cls := 9, slots := #[.int 38], vm := .none },
  { cls := 9, slots := #[.int 39], vm := .none },
  { cls := 9, slots := #[.int 40], vm := .none },
  { cls := 9, slots := #[.int 41], vm := .none },
  { cls := 9, slots := #[.int 42], vm := .none },
  { cls := 9, slots := #[.int 43], vm := .none },
  { cls := 9, slots := #[.int 44], vm := .none },
  { cls := 9, slots := #[.int 45], vm := .none },
  { cls := 9, slots := #[.int 46], vm := .none },
  { cls := 9, slots := #[.int 47], vm := .none },
  { cls := 9, slots := #[.int 48], vm := .none },
  { cls := 9, slots := #[.int 49], vm := .none },
  { cls := 9, slots := #[.int 50], vm := .none },
  { cls := 9, slots := #[.int 51], vm := .none },
  { cls := 9, slots := #[.int 52], vm := .none },
  { cls := 9, slots := #[.int 53], vm := .none },
  { cls := 9, slots := #[.int 54], vm := .none },
  { cls := 9, slots := #[.int 55], vm := .none },
  { cls := 9, slots := #[.int 56], vm := .none },
  { cls := 9, slots := #[.int 57], vm := .none },
  { cls := 9, slots := #[.int 58], vm := .none },
  { cls := 9, slots := #[.int 59], vm := .none },
  { cls := 9, slots := #[.int 60], vm := .none },
  { cls := 9, slots := #[.int 61], vm := .none },
  { cls := 9, slots := #[.int 62], vm := .none },
  { cls := 9, slots := #[.int 63], vm := .none },
  { cls := 9, slots := #[.int 64], vm := .none },
  { cls := 9, slots := #[.int 65], vm := .none },
  { cls := 9, slots := #[.int 66], vm := .none },
  { cls := 9, slots := #[.int 67], vm := .none },
  { cls := 9, slots := #[.int 68], vm := .none },
  { cls := 9, slots := #[.int 69], vm := .none },
  { cls := 9, slots := #[.int 70], vm := .none },
  { cls := 9, slots := #[.int 71], vm := .none },
  { cls := 9, slots := #[.int 72], vm := .none },
  { cls := 9, slots := #[.int 73], vm := .none },
  { cls := 9, slots := #[.int 74], vm := .none },
  { cls := 9, slots := #[.int 75], vm := .none },
  { cls := 9, slots := #[.int 76], vm := .none },
  { cls := 9, slots := #[.int 77], vm := .none },
  { cls := 9, slots := #[.int 78], vm := .none },
  { cls := 9, slots := #[.int 79], vm := .none },
  { cls := 9, slots := #[.int 80], vm := .none },
  { cls := 9, slots := #[.int 81], vm := .none },
  { cls := 9, slots := #[.int 82], vm := .none },
  { cls := 9, slots := #[.int 83], vm := .none },
  { cls := 9, slots := #[.int 84], vm := .none },
  { cls := 9, slots := #[.int 85], vm := .none },
  { cls := 9, slots := #[.int 86], vm := .none },
  { cls := 9, slots := #[.int 87], vm := .none },
  { cls := 9, slots := #[.int 88], vm := .none },
  { cls := 9, slots := #[.int 89], vm := .none },
  { cls := 9, slots := #[.int 90], vm := .none },
  { cls := 9, slots := #[.int 91], vm := .none },
  { cls := 9, slots := #[.int 92], vm := .none },
  { cls := 9, slots := #[.int 93], vm := .none },
  { cls := 9, slots := #[.int 94], vm := .none },
  { cls := 9, slots := #[.int 95], vm := .none },
  { cls := 9, slots := #[.int 96], vm := .none },
  { cls := 9, slots := #[.int 97], vm := .none },
  { cls := 9, slots := #[.int 98], vm := .none },
  { cls := 9, slots := #[.int 99], vm := .none },
  { cls := 9, slots := #[.int 100], vm := .none },
  { cls := 9, slots := #[.int 101], vm := .none },
  { cls := 9, slots := #[.int 102], vm := .none },
  { cls := 9, slots := #[.int 103], vm := .none },
  { cls := 9, slots := #[.int 104], vm := .none },
  { cls := 9, slots := #[.int 105], vm := .none },
  { cls := 9, slots := #[.int 106], vm := .none },
  { cls := 9, slots := #[.int 107], vm := .none },
  { cls := 9, slots := #[.int 108], vm := .none },
  { cls := 9, slots := #[.int 109], vm := .none },
  { cls := 9, slots := #[.int 110], vm := .none },
  { cls := 9, slots := #[.int 111], vm := .none },
  { cls := 9, slots := #[.int 112], vm := .none },
  { cls := 9, slots := #[.int 113], vm := .none },
  { cls := 9, slots := #[.int 114], vm := .none },
  { cls := 9, slots := #[.int 115], vm := .none },
  { cls := 9, slots := #[.int 116], vm := .none },
  { cls := 9, slots := #[.int 117], vm := .none },
  { cls := 9, slots := #[.int 118], vm := .none },
  { cls := 9, slots := #[.int 119], vm := .none },
  { cls := 9, slots := #[.int 120], vm := .none },
  { cls := 9, slots := #[.int 121], vm := .none },
  { cls := 9, slots := #[.int 122], vm := .none },
  { cls := 9, slots := #[.int 123], vm := .none },
  { cls := 9, slots := #[.int 124], vm := .none },
  { cls := 9, slots := #[.int 125], vm := .none },
  { cls := 9, slots := #[.int 126], vm := .none },
  { cls := 9, slots := #[.int 127], vm := .none }]
def classes : Array Class := #[k0, k1, k2, k3, k4, k5, k6, k7, k8, k9, k10, k11, k12, k13, k14, k15, k16]
def interned : List (Array UInt16 × Addr) := []
def slotsUsed : Nat := 517
def theMethod : MethodId := ⟨1, 3⟩
def args0 : Array Value := #[.int 3, .int 5, .int 1, .int 1, .int 2]
def aboutOver (below : List Frame) : State where
  vm := { classes := classes, interned := interned.toArray }
  heap := heap
  slotsUsed := slotsUsed
  threads := #[{ frames := .invoking theMethod args0 :: below }]
def below0 : List Frame := [.native { method := ⟨0, 0⟩, args := #[] }]
def about1 : State := aboutOver below0
def p0 : Program := .bare "" "" ""
def e0 : Env := launch0.env 0 0 0
theorem w_frames : about1.frames = Frame.invoking theMethod args0 :: below0 := rfl
set_option maxRecDepth 65536 in
theorem w_args : argsFit about1.vm theMethod args0 = true := by decide +kernel
set_option maxRecDepth 65536 in
theorem w_heap : heapFits about1 = true := by decide +kernel
set_option maxRecDepth 65536 in
theorem w_runnable : about1.curStatus? = some .runnable := by decide +kernel
set_option maxRecDepth 65536 in
theorem w_alone : about1.alone = true := by decide +kernel
set_option maxRecDepth 65536 in
theorem w_named : about1.methodNamed? x = some theMethod := by decide +kernel
set_option maxRecDepth 65536 in
theorem w_hears : about1.hears theMethod below0 = true := by decide +kernel
set_option maxRecDepth 65536 in
theorem w_ripe : about1.ripe theMethod args0 below0 = true := by decide +kernel
theorem w_running : about1.status = .running := rfl
set_option maxRecDepth 65536 in
theorem w_room : about1.hasRoom e0.platform room_1 = true :=
  launch0.hasRoom_least _ room_1 (by decide +kernel) (by decide +kernel) (by decide +kernel) (by decide +kernel) (by decide +kernel) (by decide +kernel)
theorem allAtoms_all (ts : List Jvm.Cond) (a : Array Jvm.Value) (st : Jvm.State) : (allAtoms ts).before a st = ts.all (fun c => c.before a st) := by
  induction ts with
  | nil => rfl
  | cons c t ih =>
    show (Jvm.Cond.and c (allAtoms t)).before a st = _
    rw [Jvm.Cond.before_and, ih, List.all_cons]
def words1 : List Jvm.Cond := Jvm.Cond.code x code maxLocals ret :: tables_1
/-- a 'code' word, met by the world's own term for the bytes: nothing is compared byte by byte -/
theorem code_word {y : MethodName} {bytes : ByteArray} {mx : Nat} {rt : Option FieldType} {a : Array Value} {s : State} {m : MethodId} {meth : Method} {c : Code} (h1 : s.methodNamed? y = some m) (h2 : s.vm.method? m = some meth) (h3 : meth.code = some c) (h4 : c.code = bytes)
    (h5 : (c.maxLocals == mx && c.exceptionTable.isEmpty && decide (c.maxStack ≤ mostOperands) && decide (meth.sig.returnType = rt) && !meth.locks && decide (parseMethodDescriptor y.desc = some meth.sig)) = true) : (Jvm.Cond.code y bytes mx rt).before a s = true := by
  simp only [Bool.and_eq_true, beq_iff_eq, Bool.not_eq_true', decide_eq_true_eq] at h5
  obtain ⟨⟨⟨⟨⟨g1, g2⟩, g3⟩, g4⟩, g5⟩, g6⟩ := h5
  simp [Cond.before, Cond.holds, Cond.value, h1, h2, h3, h4, g1, g2, g3, g4, g5, g6]
def isCode : Jvm.Cond → Bool
  | .code _ _ _ _ => true
  | _ => false
theorem all_split {L : List Jvm.Cond} {P : Jvm.Cond → Bool} (h1 : L.all (fun c => isCode c || P c) = true) (h2 : ∀ c ∈ L.filter isCode, P c = true) : L.all P = true := by
  refine List.all_eq_true.mpr fun c hc => ?_
  have h := List.all_eq_true.mp h1 c hc
  rcases Bool.eq_false_or_eq_true (isCode c) with hi | hi
  · exact h2 c (List.mem_filter.mpr ⟨hc, hi⟩)
  · simpa [hi] using h
set_option maxRecDepth 65536 in
theorem w_c0 : (Jvm.Cond.code x code maxLocals ret).before args0 about1 = true := code_word (m := ⟨1, 3⟩) (meth := k1m3) (c := k1c3) (by decide +kernel) rfl rfl rfl (by decide +kernel)
set_option maxRecDepth 65536 in
theorem w_c1 : (Jvm.Cond.code ({ cls := "com/example/running_lineage/runninglineage/query/NumberKeyEqualsPinLaw", name := "num", desc := "(II)D" } : Jvm.MethodName) method_3_code (2 : Nat) (Option.some Jvm.ClassFile.FieldType.double)).before args0 about1 = true := code_word (m := ⟨1, 2⟩) (meth := k1m2) (c := k1c2) (by decide +kernel) rfl rfl rfl (by decide +kernel)
set_option maxRecDepth 65536 in
theorem w_c2 : (Jvm.Cond.code ({ cls := "com/example/running_lineage/runninglineage/query/NumberKeyEqualsPinLaw", name := "negZero", desc := "(II)Z" } : Jvm.MethodName) method_2_code (2 : Nat) (Option.some Jvm.ClassFile.FieldType.boolean)).before args0 about1 = true := code_word (m := ⟨1, 1⟩) (meth := k1m1) (c := k1c1) (by decide +kernel) rfl rfl rfl (by decide +kernel)
set_option maxRecDepth 65536 in
theorem w_c3 : (Jvm.Cond.code ({ cls := "com/example/running_lineage/runninglineage/query/NumberKey", name := "<init>", desc := "(D)V" } : Jvm.MethodName) prog_97_method_1_code (3 : Nat) (Option.none : Option Jvm.ClassFile.FieldType)).before args0 about1 = true := code_word (m := ⟨2, 0⟩) (meth := k2m0) (c := k2c0) (by decide +kernel) rfl rfl rfl (by decide +kernel)
set_option maxRecDepth 65536 in
theorem w_c4 : (Jvm.Cond.code ({ cls := "java/lang/Object", name := "<init>", desc := "()V" } : Jvm.MethodName) object_method_1_code (1 : Nat) (Option.none : Option Jvm.ClassFile.FieldType)).before args0 about1 = true := code_word (m := ⟨0, 0⟩) (meth := k0m0) (c := k0c0) (by decide +kernel) rfl rfl rfl (by decide +kernel)
set_option maxRecDepth 65536 in
theorem w_c5 : (Jvm.Cond.code ({ cls := "com/example/running_lineage/runninglineage/query/NumberKey", name := "set", desc := "(D)Lcom/example/running_lineage/runninglineage/query/NumberKey;" } : Jvm.MethodName) prog_97_method_2_code (3 : Nat) (Option.some (Jvm.ClassFile.FieldType.object "com/example/running_lineage/runninglineage/query/NumberKey"))).before args0 about1 = true := code_word (m := ⟨2, 1⟩) (meth := k2m1) (c := k2c1) (by decide +kernel) rfl rfl rfl (by decide +kernel)
set_option maxRecDepth 65536 in
theorem w_c6 : (Jvm.Cond.code ({ cls := "java/lang/Double", name := "doubleToLongBits", desc := "(D)J" } : Jvm.MethodName) jdk_117_method_23_code (2 : Nat) (Option.some Jvm.ClassFile.FieldType.long)).before args0 about1 = true := code_word (m := ⟨8, 1⟩) (meth := k8m1) (c := k8c1) (by decide +kernel) rfl rfl rfl (by decide +kernel)
set_option maxRecDepth 65536 in
theorem w_c7 : (Jvm.Cond.code ({ cls := "java/lang/Double", name := "isNaN", desc := "(D)Z" } : Jvm.MethodName) jdk_117_method_6_code (2 : Nat) (Option.some Jvm.ClassFile.FieldType.boolean)).before args0 about1 = true := code_word (m := ⟨8, 0⟩) (meth := k8m0) (c := k8c0) (by decide +kernel) rfl rfl rfl (by decide +kernel)
set_option maxRecDepth 65536 in
theorem w_c8 : (Jvm.Cond.code ({ cls := "com/example/running_lineage/runninglineage/query/NumberKey", name := "equals", desc := "(Ljava/lang/Object;)Z" } : Jvm.MethodName) prog_97_method_3_code (2 : Nat) (Option.some Jvm.ClassFile.FieldType.boolean)).before args0 about1 = true := code_word (m := ⟨2, 2⟩) (meth := k2m2) (c := k2c2) (by decide +kernel) rfl rfl rfl (by decide +kernel)
set_option maxRecDepth 65536 in
theorem w_c9 : (Jvm.Cond.code ({ cls := "java/lang/Integer", name := "valueOf", desc := "(I)Ljava/lang/Integer;" } : Jvm.MethodName) jdk_33_method_22_code (1 : Nat) (Option.some (Jvm.ClassFile.FieldType.object "java/lang/Integer"))).before args0 about1 = true := code_word (m := ⟨9, 0⟩) (meth := k9m0) (c := k9c0) (by decide +kernel) rfl rfl rfl (by decide +kernel)
set_option maxRecDepth 65536 in
theorem w_c10 : (Jvm.Cond.code ({ cls := "java/lang/Integer", name := "<init>", desc := "(I)V" } : Jvm.MethodName) jdk_33_method_23_code (2 : Nat) (Option.none : Option Jvm.ClassFile.FieldType)).before args0 about1 = true := code_word (m := ⟨9, 1⟩) (meth := k9m1) (c := k9c1) (by decide +kernel) rfl rfl rfl (by decide +kernel)
set_option maxRecDepth 65536 in
theorem w_c11 : (Jvm.Cond.code ({ cls := "java/lang/Number", name := "<init>", desc := "()V" } : Jvm.MethodName) jdk_18_method_1_code (1 : Nat) (Option.none : Option Jvm.ClassFile.FieldType)).before args0 about1 = true := code_word (m := ⟨4, 0⟩) (meth := k4m0) (c := k4c0) (by decide +kernel) rfl rfl rfl (by decide +kernel)
def codes1 : List Jvm.Cond := [Jvm.Cond.code x code maxLocals ret, Jvm.Cond.code ({ cls := "com/example/running_lineage/runninglineage/query/NumberKeyEqualsPinLaw", name := "num", desc := "(II)D" } : Jvm.MethodName) method_3_code (2 : Nat) (Option.some Jvm.ClassFile.FieldType.double), Jvm.Cond.code ({ cls := "com/example/running_lineage/runninglineage/query/NumberKeyEqualsPinLaw", name := "negZero", desc := "(II)Z" } : Jvm.MethodName) method_2_code (2 : Nat) (Option.some Jvm.ClassFile.FieldType.boolean), Jvm.Cond.code ({ cls := "com/example/running_lineage/runninglineage/query/NumberKey", name := "<init>", desc := "(D)V" } : Jvm.MethodName) prog_97_method_1_code (3 : Nat) (Option.none : Option Jvm.ClassFile.FieldType), Jvm.Cond.code ({ cls := "java/lang/Object", name := "<init>", desc := "()V" } : Jvm.MethodName) object_method_1_code (1 : Nat) (Option.none : Option Jvm.ClassFile.FieldType), Jvm.Cond.code ({ cls := "com/example/running_lineage/runninglineage/query/NumberKey", name := "set", desc := "(D)Lcom/example/running_lineage/runninglineage/query/NumberKey;" } : Jvm.MethodName) prog_97_method_2_code (3 : Nat) (Option.some (Jvm.ClassFile.FieldType.object "com/example/running_lineage/runninglineage/query/NumberKey")), Jvm.Cond.code ({ cls := "java/lang/Double", name := "doubleToLongBits", desc := "(D)J" } : Jvm.MethodName) jdk_117_method_23_code (2 : Nat) (Option.some Jvm.ClassFile.FieldType.long), Jvm.Cond.code ({ cls := "java/lang/Double", name := "isNaN", desc := "(D)Z" } : Jvm.MethodName) jdk_117_method_6_code (2 : Nat) (Option.some Jvm.ClassFile.FieldType.boolean), Jvm.Cond.code ({ cls := "com/example/running_lineage/runninglineage/query/NumberKey", name := "equals", desc := "(Ljava/lang/Object;)Z" } : Jvm.MethodName) prog_97_method_3_code (2 : Nat) (Option.some Jvm.ClassFile.FieldType.boolean), Jvm.Cond.code ({ cls := "java/lang/Integer", name := "valueOf", desc := "(I)Ljava/lang/Integer;" } : Jvm.MethodName) jdk_33_method_22_code (1 : Nat) (Option.some (Jvm.ClassFile.FieldType.object "java/lang/Integer")), Jvm.Cond.code ({ cls := "java/lang/Integer", name := "<init>", desc := "(I)V" } : Jvm.MethodName) jdk_33_method_23_code (2 : Nat) (Option.none : Option Jvm.ClassFile.FieldType), Jvm.Cond.code ({ cls := "java/lang/Number", name := "<init>", desc := "()V" } : Jvm.MethodName) jdk_18_method_1_code (1 : Nat) (Option.none : Option Jvm.ClassFile.FieldType)]
set_option maxRecDepth 65536 in
theorem codes_eq : words1.filter isCode = codes1 := rfl
theorem w_codes : ∀ c ∈ words1.filter isCode, c.before args0 about1 = true := by
  rw [codes_eq]
  intro c hc
  simp only [codes1, List.mem_cons, List.not_mem_nil, or_false] at hc
  rcases hc with rfl | rfl | rfl | rfl | rfl | rfl | rfl | rfl | rfl | rfl | rfl | rfl
  · exact w_c0
  · exact w_c1
  · exact w_c2
  · exact w_c3
  · exact w_c4
  · exact w_c5
  · exact w_c6
  · exact w_c7
  · exact w_c8
  · exact w_c9
  · exact w_c10
  · exact w_c11
set_option maxRecDepth 65536 in
theorem w_t1 : (words1.take 24).all (fun c => isCode c || c.before args0 about1) = true := by decide +kernel
set_option maxRecDepth 65536 in
theorem w_t2 : ((words1.drop 24).take 24).all (fun c => isCode c || c.before args0 about1) = true := by decide +kernel
set_option maxRecDepth 65536 in
theorem w_t3 : ((words1.drop 24).drop 24).all (fun c => isCode c || c.before args0 about1) = true := by decide +kernel
theorem w_tables : (allAtoms (Jvm.Cond.code x code maxLocals ret :: tables_1)).before args0 about1 = true := by
  rw [allAtoms_all]
  show words1.all (fun c => c.before args0 about1) = true
  refine all_split ?_ w_codes
  rw [← List.take_append_drop 24 words1, List.all_append, w_t1, ← List.take_append_drop 24 (words1.drop 24), List.all_append, w_t2, w_t3]
  rfl
set_option maxRecDepth 65536 in
theorem w_rest : rest_1_c.before args0 about1 = true := by decide +kernel
set_option maxRecDepth 65536 in
theorem w_case : (Jvm.Cond.and given_1 narrow_1).before args0 about1 = true := by decide +kernel
theorem w_applies : (headSpec (Jvm.Cond.code x code maxLocals ret :: tables_1) room_1).applies x e0.platform about1 = true :=
  (Spec.applies_iff w_frames).mpr ⟨w_running, w_runnable, w_alone, w_named, w_hears, w_ripe, w_room, w_tables⟩
theorem atStart : AtStart classFile x code maxLocals ret World_1 tables_1 room_1 Calls_1 rest_1 Pre_1 launch0 p0 e0 about1 theMethod args0 below0 :=
  ⟨lists_1, trivial, launch0.admits_env _ _ _, launch0.least_env, fairChoices_fair.cas, fairChoices_fair.clock, w_frames, w_args, w_heap, w_applies, trivial, w_rest, w_case⟩
end start1
theorem witness_1 : WitnessClaimed_1 := ⟨start1.p0, start1.e0, start1.about1, start1.theMethod, start1.args0, start1.below0, start1.atStart⟩
end Jvm.Pilot.@@N@@

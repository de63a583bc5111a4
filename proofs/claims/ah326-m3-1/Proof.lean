import JvmDerived
import JvmDerived.Pilot.@@N@@Statement
import JvmDerived.Pilot.@@N@@Code
set_option linter.unusedVariables false
set_option linter.unusedSimpArgs false
namespace Jvm.RoadKit
open Sem ClassFile Op Lib Jvm.Stand Jvm.Free Jvm.LawKit
/-- own: from A the walk comes to its end, and there R holds -/
def OwnGo (tb : Tables) (e : Env) (below : List Frame) (R : State → Outcome → Prop) (A : State) : Prop := ∃ s₂ o, Steps tb e below A s₂ ∧ s₂.status = .running ∧ Ended s₂ below o ∧ R s₂ o
theorem OwnGo.fwd {tb : Tables} {e : Env} {below : List Frame} {R : State → Outcome → Prop} {A B : State} (h : ∀ t, Steps tb e below B t → Steps tb e below A t) (k : OwnGo tb e below R B) : OwnGo tb e below R A := by
  obtain ⟨s, o, h1, h2⟩ := k
  exact ⟨s, o, h s h1, h2⟩
theorem OwnGo.thru {tb : Tables} {e : Env} {below : List Frame} {R : State → Outcome → Prop} {A B : State} (h : Steps tb e below A B) (k : OwnGo tb e below R B) : OwnGo tb e below R A := k.fwd fun _ q => h.trans q
/-- own: what a body leaves -/
def OwnEnd (s : State) (Q : Option Value → Heap → List Loc → Prop) (k n : Nat) : State → Outcome → Prop := fun U o => ∃ v L, o = .returned v ∧ Q v U.heap L ∧ FrameEnd s o U L k n
section OwnLeaf
variable {p : Program} {l : Launch} {e : Env} {R : Room} {s : State} {m : MethodId} {args : Array Value} {below : List Frame} {meth : Method} {c : Code} {T : State} {locs : List Loc} {cells slots : Nat} {Z : State} {a0 : Array Value} {h : Heap} {Q : Option Value → Heap → List Loc → Prop} {k n : Nat}
theorem own_leaf (X : Stand p l e R s m args below meth c T locs cells slots) (hlk : meth.locks = false) {v : Option Value} (hv : meth.sig.returnType = none → v = none) {g : JFrame} (hc : cells ≤ k) (hs : slots ≤ n) (eT : T.heap = h) (hQ : Q v h locs)
    (hl : ∀ fs, (∀ (f : JFrame) (acts : List Action), f.method = m → f.locked = none → f.entered = [] → (doReturn e (T.setTop f) acts v).1 = T.setFrames fs) → Steps p.tables e below (T.setTop g) (T.setFrames fs)) :
    OwnGo p.tables e below (OwnEnd s Q k n) (T.setTop g) := by
  obtain ⟨fs, hr, hrun, hended, hW, hsame⟩ := X.leave (v := v) hv hlk
  refine ⟨_, _, hl fs hr, hrun, hended, _, _, rfl, ?_, ⟨_, rfl⟩, hW, hsame.mono hc hs⟩
  show Q v T.heap locs
  rw [eT]; exact hQ
theorem own_retI (X : Stand p l e R s m args below meth c T locs cells slots) (hlk : meth.locks = false) (hx : p.tables.exec = Jvm.exec) {pc : Nat} {Ls : Array Slot} {z : Int32} {rest : List Value} (hret : meth.sig.returnType = some .int) (hd : decode c.code pc = .ok (.ireturn, 1)) (hc : cells ≤ k) (hs : slots ≤ n) (eT : T.heap = h) (hQ : Q (some (.int z)) h locs) :
    OwnGo p.tables e below (OwnEnd s Q k n) (T.setTop (mkF m pc Ls (.int z :: rest))) := by
  refine own_leaf X hlk (fun q => by rw [hret] at q; cases q) hc hs eT hQ fun fs hl => ?_
  have hm' : T.vm.method? m = some meth := X.method'
  have hn : narrow .int (.int z) = .int z := rfl
  show Steps p.tables e below (T.setTop { method := m, pc := pc, locals := Ls, stack := _ :: rest, locked := none }) _
  jvm_step X.here [X.here.top, hx, hd, hm', hret, hn]
  first | (intro acts; rw [hl _ acts rfl rfl rfl]) | rw [hl _ _ rfl rfl rfl]
  exact Steps.refl _
theorem own_retZ (X : Stand p l e R s m args below meth c T locs cells slots) (hlk : meth.locks = false) (hx : p.tables.exec = Jvm.exec) {pc : Nat} {Ls : Array Slot} {z : Int32} {rest : List Value} (hret : meth.sig.returnType = some .boolean) (hd : decode c.code pc = .ok (.ireturn, 1)) (hc : cells ≤ k) (hs : slots ≤ n) (eT : T.heap = h) (hQ : Q (some (.int (nar .boolean z))) h locs) :
    OwnGo p.tables e below (OwnEnd s Q k n) (T.setTop (mkF m pc Ls (.int z :: rest))) :=
  own_leaf X hlk (fun q => by rw [hret] at q; cases q) hc hs eT hQ fun fs hl => retN X hx (t := .boolean) hret (by simp) hd hl
theorem own_retJ (X : Stand p l e R s m args below meth c T locs cells slots) (hlk : meth.locks = false) (hx : p.tables.exec = Jvm.exec) {pc : Nat} {Ls : Array Slot} {z : Int64} (hret : meth.sig.returnType = some .long) (hd : decode c.code pc = .ok (.lreturn, 1)) (hc : cells ≤ k) (hs : slots ≤ n) (eT : T.heap = h) (hQ : Q (some (.long z)) h locs) :
    OwnGo p.tables e below (OwnEnd s Q k n) (T.setTop (mkF m pc Ls [.long z])) :=
  own_leaf X hlk (fun q => by rw [hret] at q; cases q) hc hs eT hQ fun fs hl => X.lreturnOut hx hret hd hl
theorem own_retV (X : Stand p l e R s m args below meth c T locs cells slots) (hlk : meth.locks = false) (hx : p.tables.exec = Jvm.exec) {pc : Nat} {Ls : Array Slot} (hret : meth.sig.returnType = none) (hd : decode c.code pc = .ok (.return_, 1)) (hc : cells ≤ k) (hs : slots ≤ n) (eT : T.heap = h) (hQ : Q none h locs) :
    OwnGo p.tables e below (OwnEnd s Q k n) (T.setTop (mkF m pc Ls [])) :=
  own_leaf X hlk (fun _ => rfl) hc hs eT hQ fun fs hl => X.returnOut hx hret hd hl
theorem own_retA (X : Stand p l e R s m args below meth c T locs cells slots) (hlk : meth.locks = false) (hx : p.tables.exec = Jvm.exec) {pc : Nat} {Ls : Array Slot} {w : Value} {rest : List Value} {t : FieldType} (hret : meth.sig.returnType = some t) (ht : t.isReference = true) (hw : w.isRef = true) (hd : decode c.code pc = .ok (.areturn, 1)) (hc : cells ≤ k) (hs : slots ≤ n) (eT : T.heap = h) (hQ : Q (some w) h locs) :
    OwnGo p.tables e below (OwnEnd s Q k n) (T.setTop (mkF m pc Ls (w :: rest))) :=
  own_leaf X hlk (fun q => by rw [hret] at q; cases q) hc hs eT hQ fun fs hl => retOut X hx hret (by cases t <;> first | (cases ht; done) | rfl) (Or.inr (Or.inr (Or.inr (Or.inr ⟨rfl, ht, hw⟩)))) hd hl
/-! own: int arrays, by a function of the place -/
def OwnIA (Z : State) (h : Heap) (a : Addr) (n : Nat) (f : Nat → Int32) : Prop := ∃ c : Cell, Arr Z h a c .int ∧ c.slots.size = n ∧ n < 2147483648 ∧ ∀ i, i < n → c.slots[i]? = some (.int (f i))
theorem OwnIA.lt {a : Addr} {n : Nat} {f : Nat → Int32} (F : OwnIA Z h a n f) : a < h.size := by obtain ⟨c, A, -⟩ := F; exact A.lt
theorem OwnIA.ext {h' : Heap} {a : Addr} {n : Nat} {f : Nat → Int32} (F : OwnIA Z h a n f) (E : Ext h h') : OwnIA Z h' a n f := by obtain ⟨c, A, r⟩ := F; exact ⟨c, A.ext E, r⟩
theorem OwnIA.other {h' : Heap} {a b : Addr} {n sl : Nat} {v : Value} {f : Nat → Int32} (F : OwnIA Z h b n f) (W : Wr h h' a sl v) (q : b ≠ a) : OwnIA Z h' b n f := by obtain ⟨c, A, r⟩ := F; exact ⟨c, A.other W q, r⟩
theorem OwnIA.keep {h' : Heap} {ws : List Addr} {a : Addr} {n : Nat} {f : Nat → Int32} (F : OwnIA Z h a n f) (K : Keep h h' ws) (q : a ∉ ws) : OwnIA Z h' a n f := by obtain ⟨c, A, r⟩ := F; exact ⟨c, ⟨K.2.1 a c A.1 q, A.2⟩, r⟩
theorem OwnIA.eqv {a : Addr} {n : Nat} {f f' : Nat → Int32} (F : OwnIA Z h a n f) (q : ∀ i, i < n → f i = f' i) : OwnIA Z h a n f' := by obtain ⟨c, A, r1, r2, r3⟩ := F; exact ⟨c, A, r1, r2, fun i hi => by rw [r3 i hi, q i hi]⟩
theorem own_clamp {j : Int32} {i : Nat} (hj : j.toInt = i) : j.toNatClampNeg = i := by simp only [Int32.toNatClampNeg]; omega
theorem own_inb {c : Cell} {j : Int32} {i n : Nat} (S : c.slots.size = n) (hj : j.toInt = i) (hi : i < n) : ¬ (j < 0 ∨ c.slots.size ≤ j.toNatClampNeg) := by
  rw [own_clamp hj, S]; simp only [Int32.lt_iff_toInt_lt, Int32.reduceToInt]; omega
theorem OwnIA.new {a : Addr} {k : ClassId} {z : Int32} {i : Nat} (A : Arr Z h a (newA k .int z) .int) (hz : z.toInt = i) : OwnIA Z h a i (fun _ => 0) := by
  have q := own_clamp hz
  have r := rng32 z
  exact ⟨_, A, by rw [sz_new]; exact q, by omega, fun j hj => by simp [newA, q, hj, defaultValue]⟩
theorem own_len (X : Stand p l e R s m args below meth c T locs cells slots) (hx : p.tables.exec = Jvm.exec) (hZ : Z.Warmed39 s.vm) (eT : T.heap = h) {a : Addr} {n : Nat} {f : Nat → Int32} (V : OwnIA Z h a n f) {g : JFrame} (hg : g.method = m) {rest : List Value} (hs : g.stack = .ref a :: rest) (hd : decode c.code g.pc = .ok (.arraylength, 1)) :
    ∀ target, Steps p.tables e below (T.setTop { g with pc := g.pc + 1, stack := .int (Int32.ofNat n) :: rest }) target → Steps p.tables e below (T.setTop g) target := by
  obtain ⟨cl, A, S, -⟩ := V
  subst S
  exact X.arraylength hx (by rw [eT]; exact A.1) (State.isArrayOf_alike hZ.alike A.2.1) hg hs hd
theorem own_iaload (X : Stand p l e R s m args below meth c T locs cells slots) (hx : p.tables.exec = Jvm.exec) (hZ : Z.Warmed39 s.vm) (eT : T.heap = h) {a : Addr} {n : Nat} {f : Nat → Int32} (V : OwnIA Z h a n f) {j : Int32} {i : Nat} (hj : j.toInt = i) (hi : i < n) {g : JFrame} (hg : g.method = m) {rest : List Value} (hs : g.stack = .int j :: .ref a :: rest) (hd : decode c.code g.pc = .ok (.iaload, 1)) :
    ∀ target, Steps p.tables e below (T.setTop { g with pc := g.pc + 1, stack := .int (f i) :: rest }) target → Steps p.tables e below (T.setTop g) target := by
  obtain ⟨cl, A, S, -, H⟩ := V
  exact X.iaload hx (by rw [eT]; exact A.1) (State.isArrayOf_alike hZ.alike A.2.1) A.2.2 (own_inb S hj hi) (by rw [own_clamp hj]; exact H i hi) hg hs hd
theorem own_iastore (X : Stand p l e R s m args below meth c T locs cells slots) (hx : p.tables.exec = Jvm.exec) (hZ : Z.Warmed39 s.vm) (eT : T.heap = h) {a : Addr} {n : Nat} {f : Nat → Int32} (V : OwnIA Z h a n f) {j x : Int32} {i : Nat} (hj : j.toInt = i) (hi : i < n) {g : JFrame} (hg : g.method = m) {rest : List Value} (hs : g.stack = .int x :: .int j :: .ref a :: rest) (hd : decode c.code g.pc = .ok (.iastore, 1)) :
    ∃ T' h', Stand p l e R s m args below meth c T' (locs ++ [⟨a, i⟩]) cells slots ∧ T'.heap = h' ∧ Wr h h' a i (.int x) ∧ OwnIA Z h' a n (fun k => if k = i then x else f k) ∧ ∀ target, Steps p.tables e below (T'.setTop { g with pc := g.pc + 1, stack := rest }) target → Steps p.tables e below (T.setTop g) target := by
  obtain ⟨cl, A, S, N, H⟩ := V
  obtain ⟨T', h', X', e', W, st⟩ := stI X hx hZ eT A (own_inb S hj hi) hg hs hd
  rw [own_clamp hj] at X' W
  refine ⟨T', h', X', e', W, ⟨_, A.same W, by rw [sz_set]; exact S, N, fun k hk => ?_⟩, st⟩
  by_cases q : k = i
  · subst q; simp [Cell.setSlot, S, hk]
  · simp only [Cell.setSlot, if_neg q]; rw [Array.getElem?_setIfInBounds_ne (Ne.symm q)]; exact H k hk
theorem own_newI (X : Stand p l e R s m args below meth c T locs cells slots) (hx : p.tables.exec = Jvm.exec) (hZ : Z.Warmed39 s.vm) (w : (Cond.arrayClass .int).before a0 Z = true) (eT : T.heap = h) {g : JFrame} (hg : g.method = m) (hd : decode c.code g.pc = .ok (.newarray .int, 2)) {z : Int32} {i : Nat} {rest : List Value} (hs : g.stack = .int z :: rest)
    (hz : z.toInt = i) {cap : Nat} (hcap : i ≤ cap) (hb : cap * 8 ≤ 536870912) (hc : cells + 1 ≤ R.cells) (hl : slots + cap ≤ R.slots) :
    ∃ T' h' a, Stand p l e R s m args below meth c T' locs (cells + 1) (slots + cap) ∧ T'.heap = h' ∧ Ext h h' ∧ a = h.size ∧ OwnIA Z h' a i (fun _ => 0) ∧ ∀ target, Steps p.tables e below (T'.setTop { g with pc := g.pc + 2, stack := .ref a :: rest }) target → Steps p.tables e below (T.setTop g) target := by
  have q := own_clamp hz
  obtain ⟨T', h', cA, X', e', E, A, st⟩ := newP X hx hZ (aty := .int) w eT hg hd hs (by simp only [Int32.lt_iff_toInt_lt, Int32.reduceToInt]; omega) (cap := cap) (by omega) hb hc hl
  exact ⟨T', h', _, X', e', E, rfl, OwnIA.new A hz, st⟩
end OwnLeaf
/-! own: branches, by the ints' own numbers -/
theorem own_blt {x y : Int32} {a b : Int} (hx : x.toInt = a) (hy : y.toInt = b) (h : a < b) : if_icmp.holds .lt x y = true ∧ if_icmp.holds .ge x y = false ∧ if_icmp.holds .gt y x = true ∧ if_icmp.holds .le y x = false := tlt (by rw [Int32.lt_iff_toInt_lt]; omega)
theorem own_bnlt {x y : Int32} {a b : Int} (hx : x.toInt = a) (hy : y.toInt = b) (h : ¬ a < b) : if_icmp.holds .lt x y = false ∧ if_icmp.holds .ge x y = true ∧ if_icmp.holds .gt y x = false ∧ if_icmp.holds .le y x = true := flt (by rw [Int32.lt_iff_toInt_lt]; omega)
theorem own_beq {x y : Int32} {a b : Int} (hx : x.toInt = a) (hy : y.toInt = b) (h : a = b) : if_icmp.holds .eq x y = true ∧ if_icmp.holds .ne x y = false := teq (Int32.toInt_inj.mp (by omega))
theorem own_bneq {x y : Int32} {a b : Int} (hx : x.toInt = a) (hy : y.toInt = b) (h : ¬ a = b) : if_icmp.holds .eq x y = false ∧ if_icmp.holds .ne x y = true := feq fun q => h (by rw [← hx, ← hy, q])
theorem own_Llt {x y : Int64} {a b : Int} (hx : x.toInt = a) (hy : y.toInt = b) (h : a < b) : ifCond.holds .lt (lcmpW x y) = true ∧ ifCond.holds .ge (lcmpW x y) = false := by
  have q : x < y := by rw [Int64.lt_iff_toInt_lt]; omega
  rw [if0, if0]; exact ⟨(tlt ((lw_lt x y).mpr q)).1, (tlt ((lw_lt x y).mpr q)).2.1⟩
theorem own_Lnlt {x y : Int64} {a b : Int} (hx : x.toInt = a) (hy : y.toInt = b) (h : ¬ a < b) : ifCond.holds .lt (lcmpW x y) = false ∧ ifCond.holds .ge (lcmpW x y) = true := by
  have q : ¬ x < y := by rw [Int64.lt_iff_toInt_lt]; omega
  rw [if0, if0]; exact ⟨(flt (fun r => q ((lw_lt x y).mp r))).1, (flt (fun r => q ((lw_lt x y).mp r))).2.1⟩
theorem own_Lgt {x y : Int64} {a b : Int} (hx : x.toInt = a) (hy : y.toInt = b) (h : b < a) : ifCond.holds .gt (lcmpW x y) = true ∧ ifCond.holds .le (lcmpW x y) = false := by
  have q : y < x := by rw [Int64.lt_iff_toInt_lt]; omega
  rw [if0, if0]; exact ⟨(tlt ((lw_gt x y).mpr q)).2.2.1, (tlt ((lw_gt x y).mpr q)).2.2.2⟩
theorem own_Lngt {x y : Int64} {a b : Int} (hx : x.toInt = a) (hy : y.toInt = b) (h : ¬ b < a) : ifCond.holds .gt (lcmpW x y) = false ∧ ifCond.holds .le (lcmpW x y) = true := by
  have q : ¬ y < x := by rw [Int64.lt_iff_toInt_lt]; omega
  rw [if0, if0]; exact ⟨(flt (fun r => q ((lw_gt x y).mp r))).2.2.1, (flt (fun r => q ((lw_gt x y).mp r))).2.2.2⟩
theorem own_Leq {x y : Int64} {a b : Int} (hx : x.toInt = a) (hy : y.toInt = b) (h : a = b) : ifCond.holds .eq (lcmpW x y) = true ∧ ifCond.holds .ne (lcmpW x y) = false := by
  have q : x = y := Int64.toInt_inj.mp (by omega)
  rw [if0, if0]; exact teq ((lw_eq x y).mpr q)
theorem own_Lneq {x y : Int64} {a b : Int} (hx : x.toInt = a) (hy : y.toInt = b) (h : ¬ a = b) : ifCond.holds .eq (lcmpW x y) = false ∧ ifCond.holds .ne (lcmpW x y) = true := by
  have q : ¬ x = y := fun r => h (by rw [← hx, ← hy, r])
  rw [if0, if0]; exact feq fun r => q ((lw_eq x y).mp r)
theorem own_ofNat {i : Nat} (h : i < 2147483648) : (Int32.ofNat i).toInt = (i : Int) := Int32.toInt_ofNat_small h
theorem own_ofNatS (i : Nat) : Int32.ofNat i + 1 = Int32.ofNat (i + 1) := (Int32.ofNat_add i 1).symm
theorem own_fieldInt {args : Array Value} {s : State} {t : Term} {C n d : String} {k : Int32} {w : Addr} (ht : t.eval args s none [] s = some (.ref w)) (h : (Jvm.Cond.eq (.field t C n d) (.int k)).value args s none s [] = some true) : Fld s s.heap w C n d (.int k) := by
  apply Fld.start
  obtain ⟨x, y, hx, hy, -, k2⟩ := cmp_v (Or.inl h)
  have hy' : y = .int k := Option.some.inj (hy.symm.trans (Term.int_eval k))
  subst hy'
  obtain ⟨z, rfl⟩ : ∃ z, x = .int z := k2
  have q := gotT (Cond.eq_ints hx hy) h
  subst q
  rw [← fld_at ht]; exact hx
end Jvm.RoadKit
namespace Jvm.Pilot.@@N@@
open Jvm Jvm.ClassFile Sem Op Lib Jvm.Free Jvm.Stand Jvm.LawKit Jvm.RoadKit Bundle Jvm.Pilot.@@N@@.Jvm.D
theorem pd_0 : parseMethodDescriptor "(I)Lorg/axiswarp/tree/NodeKind;" = some ⟨[.int], some (.object "org/axiswarp/tree/NodeKind")⟩ := by decide +kernel
theorem pd_1 : parseMethodDescriptor "()Z" = some ⟨[], some .boolean⟩ := by decide +kernel
theorem d1_0 : decode method_3_code 0 = .ok (.iload_n 0, 1) := by decide +kernel
theorem d1_1 : decode method_3_code 1 = .ok (.ifCond .ne 7, 3) := by decide +kernel
theorem d1_4 : decode method_3_code 4 = .ok (.getstatic 33, 3) := by decide +kernel
theorem d1_7 : decode method_3_code 7 = .ok (.areturn, 1) := by decide +kernel
theorem d1_8 : decode method_3_code 8 = .ok (.iload_n 0, 1) := by decide +kernel
theorem d1_9 : decode method_3_code 9 = .ok (.iconst 1, 1) := by decide +kernel
theorem d1_10 : decode method_3_code 10 = .ok (.if_icmp .ne 7, 3) := by decide +kernel
theorem d1_13 : decode method_3_code 13 = .ok (.getstatic 14, 3) := by decide +kernel
theorem d1_16 : decode method_3_code 16 = .ok (.areturn, 1) := by decide +kernel
theorem d1_17 : decode method_3_code 17 = .ok (.iload_n 0, 1) := by decide +kernel
theorem d1_18 : decode method_3_code 18 = .ok (.iconst 2, 1) := by decide +kernel
theorem d1_19 : decode method_3_code 19 = .ok (.if_icmp .ne 7, 3) := by decide +kernel
theorem d1_22 : decode method_3_code 22 = .ok (.getstatic 36, 3) := by decide +kernel
theorem d1_25 : decode method_3_code 25 = .ok (.areturn, 1) := by decide +kernel
theorem d1_26 : decode method_3_code 26 = .ok (.iload_n 0, 1) := by decide +kernel
theorem d1_27 : decode method_3_code 27 = .ok (.iconst 3, 1) := by decide +kernel
theorem d1_28 : decode method_3_code 28 = .ok (.if_icmp .ne 7, 3) := by decide +kernel
theorem d1_31 : decode method_3_code 31 = .ok (.getstatic 39, 3) := by decide +kernel
theorem d1_34 : decode method_3_code 34 = .ok (.areturn, 1) := by decide +kernel
theorem d1_35 : decode method_3_code 35 = .ok (.iload_n 0, 1) := by decide +kernel
theorem d1_36 : decode method_3_code 36 = .ok (.iconst 4, 1) := by decide +kernel
theorem d1_37 : decode method_3_code 37 = .ok (.if_icmp .ne 7, 3) := by decide +kernel
theorem d1_40 : decode method_3_code 40 = .ok (.getstatic 20, 3) := by decide +kernel
theorem d1_43 : decode method_3_code 43 = .ok (.areturn, 1) := by decide +kernel
theorem d1_44 : decode method_3_code 44 = .ok (.iload_n 0, 1) := by decide +kernel
theorem d1_45 : decode method_3_code 45 = .ok (.iconst 5, 1) := by decide +kernel
theorem d1_46 : decode method_3_code 46 = .ok (.if_icmp .ne 7, 3) := by decide +kernel
theorem d1_49 : decode method_3_code 49 = .ok (.getstatic 23, 3) := by decide +kernel
theorem d1_52 : decode method_3_code 52 = .ok (.areturn, 1) := by decide +kernel
theorem d1_53 : decode method_3_code 53 = .ok (.getstatic 26, 3) := by decide +kernel
theorem d1_56 : decode method_3_code 56 = .ok (.areturn, 1) := by decide +kernel
theorem pn_1 : plainName "org/axiswarp/tree/NodeKindIsChildPinLaw" = true := by first | (simp [plainName, overriddenIn]; done) | decide +kernel
theorem ef_1DOCUMENT (m : MethodId) (x0 : Int32) : entryFrame m #[(.int x0)] 1 = mkF m 0 #[.val (.int x0)] [] := by first | (simp [entryFrame, mkF, argsToLocals, Value.category, maxLocals]; done) | rfl
def Q1DOCUMENT (Z : State) (w_DOCUMENT : Addr) (w_ELEMENT : Addr) (w_ATTRIBUTE : Addr) (w_NAMESPACE : Addr) (w_TEXT : Addr) (w_COMMENT : Addr) (w_PROCESSING_INSTRUCTION : Addr) (h0 : Heap) (n0 : Nat) (v : Option Value) (h : Heap) (L : List Loc) : Prop := v = some (.ref w_DOCUMENT) ∧ Fr n0 L ∧ h = h0
set_option maxRecDepth 65536 in
set_option maxHeartbeats 40000000 in
theorem rm1DOCUMENT (l : Launch) (Z : State) (a0 : Array Value) (hw : ∀ d ∈ tables_1, d.before a0 Z = true) (ws : List Jvm.Cond) (w_DOCUMENT : Addr) (w_ELEMENT : Addr) (w_ATTRIBUTE : Addr) (w_NAMESPACE : Addr) (w_TEXT : Addr) (w_COMMENT : Addr) (w_PROCESSING_INSTRUCTION : Addr) (h0 : Heap) (n0 : Nat) (Z0 : n0 ≤ h0.size) (S_DOCUMENT : Sta Z h0 "org/axiswarp/tree/NodeKind" "DOCUMENT" "Lorg/axiswarp/tree/NodeKind;" (.ref w_DOCUMENT)) (E_w_DOCUMENT : Exa Z h0 w_DOCUMENT "org/axiswarp/tree/NodeKind") (O_DOCUMENT : Fld Z h0 w_DOCUMENT "java/lang/Enum" "ordinal" "I" (.int 0)) (S_ELEMENT : Sta Z h0 "org/axiswarp/tree/NodeKind" "ELEMENT" "Lorg/axiswarp/tree/NodeKind;" (.ref w_ELEMENT)) (E_w_ELEMENT : Exa Z h0 w_ELEMENT "org/axiswarp/tree/NodeKind") (O_ELEMENT : Fld Z h0 w_ELEMENT "java/lang/Enum" "ordinal" "I" (.int 1)) (S_ATTRIBUTE : Sta Z h0 "org/axiswarp/tree/NodeKind" "ATTRIBUTE" "Lorg/axiswarp/tree/NodeKind;" (.ref w_ATTRIBUTE)) (E_w_ATTRIBUTE : Exa Z h0 w_ATTRIBUTE "org/axiswarp/tree/NodeKind") (O_ATTRIBUTE : Fld Z h0 w_ATTRIBUTE "java/lang/Enum" "ordinal" "I" (.int 2)) (S_NAMESPACE : Sta Z h0 "org/axiswarp/tree/NodeKind" "NAMESPACE" "Lorg/axiswarp/tree/NodeKind;" (.ref w_NAMESPACE)) (E_w_NAMESPACE : Exa Z h0 w_NAMESPACE "org/axiswarp/tree/NodeKind") (O_NAMESPACE : Fld Z h0 w_NAMESPACE "java/lang/Enum" "ordinal" "I" (.int 3)) (S_TEXT : Sta Z h0 "org/axiswarp/tree/NodeKind" "TEXT" "Lorg/axiswarp/tree/NodeKind;" (.ref w_TEXT)) (E_w_TEXT : Exa Z h0 w_TEXT "org/axiswarp/tree/NodeKind") (O_TEXT : Fld Z h0 w_TEXT "java/lang/Enum" "ordinal" "I" (.int 4)) (S_COMMENT : Sta Z h0 "org/axiswarp/tree/NodeKind" "COMMENT" "Lorg/axiswarp/tree/NodeKind;" (.ref w_COMMENT)) (E_w_COMMENT : Exa Z h0 w_COMMENT "org/axiswarp/tree/NodeKind") (O_COMMENT : Fld Z h0 w_COMMENT "java/lang/Enum" "ordinal" "I" (.int 5)) (S_PROCESSING_INSTRUCTION : Sta Z h0 "org/axiswarp/tree/NodeKind" "PROCESSING_INSTRUCTION" "Lorg/axiswarp/tree/NodeKind;" (.ref w_PROCESSING_INSTRUCTION)) (E_w_PROCESSING_INSTRUCTION : Exa Z h0 w_PROCESSING_INSTRUCTION "org/axiswarp/tree/NodeKind") (O_PROCESSING_INSTRUCTION : Fld Z h0 w_PROCESSING_INSTRUCTION "java/lang/Enum" "ordinal" "I" (.int 6)) :
    MetFree l (⟨"org/axiswarp/tree/NodeKindIsChildPinLaw", "pick", "(I)Lorg/axiswarp/tree/NodeKind;"⟩ : MethodName) (head1 (Jvm.Cond.code (⟨"org/axiswarp/tree/NodeKindIsChildPinLaw", "pick", "(I)Lorg/axiswarp/tree/NodeKind;"⟩ : MethodName) method_3_code 1 (some (.object "org/axiswarp/tree/NodeKind")) :: ws) ({ frames := 0, cells := 0, slots := 0, locals := 0 } : Room)) (fun a U => a = #[(.int (0 : Int32))] ∧ Z.Warmed39 U.vm ∧ U.heap = h0) (fun _ _ _ _ _ => True) (fun _ U o U' => ∃ v L, o = .returned v ∧ (Q1DOCUMENT Z w_DOCUMENT w_ELEMENT w_ATTRIBUTE w_NAMESPACE w_TEXT w_COMMENT w_PROCESSING_INSTRUCTION h0 n0) v U'.heap L ∧ FrameEnd U o U' L ({ frames := 0, cells := 0, slots := 0, locals := 0 } : Room).cells ({ frames := 0, cells := 0, slots := 0, locals := 0 } : Room).slots) := by
  refine MetFree.of_bodySF (plainFor_of_name pn_1) hisR ?_
  intro p e s m args below meth c s₁ Bd hml0 hP hK
  obtain ⟨rfl, hZ, hh⟩ := hP
  have hx := Bd.exec
  have hby := Bd.bytes
  have hlk : meth.locks = false := BodyLoose.notSynchronized Bd
  have hml : c.maxLocals = 1 := hml0
  have hown : s.vm.findClass "org/axiswarp/tree/NodeKindIsChildPinLaw" = some m.cls := findClass_of_methodNamed Bd.named
  have hnm := (name_of_methodNamed Bd.named Bd.method).1
  have X0 : Stand p l e ({ frames := 0, cells := 0, slots := 0, locals := 0 } : Room) s m #[(.int (0 : Int32))] below meth c s₁ [] 0 0 := Stand.of_body Bd
  have e0 : s₁.heap = h0 := by rw [← hh, Bd.state]; rfl
  have N := Fr.nil n0
  have Zs := Z0
  change OwnGo p.tables e below (OwnEnd s (Q1DOCUMENT Z w_DOCUMENT w_ELEMENT w_ATTRIBUTE w_NAMESPACE w_TEXT w_COMMENT w_PROCESSING_INSTRUCTION h0 n0) ({ frames := 0, cells := 0, slots := 0, locals := 0 } : Room).cells ({ frames := 0, cells := 0, slots := 0, locals := 0 } : Room).slots) _
  refine OwnGo.fwd (fun t k => castTop (ef_1DOCUMENT m (0 : Int32)) k) ?_
  show OwnGo _ _ _ _ (s₁.setTop (mkF m 0 #[.val (.int (0 : Int32))] []))
  refine OwnGo.fwd (fun t k => XS.iloadN X0.here hx rfl (hb hby d1_0) rfl k) ?_
  show OwnGo _ _ _ _ (s₁.setTop (mkF m 1 #[.val (.int (0 : Int32))] [(.int (0 : Int32))]))
  have hc1_1 : (0 : Int) = (0 : Int) := rfl
  refine OwnGo.fwd (fun t k => XS.ifNo X0.here hx rfl (hb hby d1_1) rfl ((if0 _ _).trans (own_beq (by decide) (by decide) hc1_1).2) k) ?_
  show OwnGo _ _ _ _ (s₁.setTop (mkF m 4 #[.val (.int (0 : Int32))] []))
  obtain ⟨T2, X2, e2, st2⟩ := getS2 X0 hx hZ hown (host := "") (Or.inl (hw _ (List.mem_of_getElem? (i := 5) rfl))) Via.refl e0 S_DOCUMENT (g := (mkF m 4 #[.val (.int (0 : Int32))] [])) rfl (hb hby d1_4)
  refine OwnGo.fwd st2 ?_
  show OwnGo _ _ _ _ (T2.setTop (mkF m 7 #[.val (.int (0 : Int32))] [(.ref w_DOCUMENT)]))
  exact own_retA X2 hlk hx Bd.returns rfl rfl (hb hby d1_7) (by decide) (by decide) e2 ⟨rfl, N, rfl⟩
theorem d2_0 : decode prog_32_method_4_code 0 = .ok (.aload_n 0, 1) := by decide +kernel
theorem d2_1 : decode prog_32_method_4_code 1 = .ok (.getstatic 3, 3) := by decide +kernel
theorem d2_4 : decode prog_32_method_4_code 4 = .ok (.if_acmp .eq 21, 3) := by decide +kernel
theorem d2_7 : decode prog_32_method_4_code 7 = .ok (.aload_n 0, 1) := by decide +kernel
theorem d2_8 : decode prog_32_method_4_code 8 = .ok (.getstatic 10, 3) := by decide +kernel
theorem d2_11 : decode prog_32_method_4_code 11 = .ok (.if_acmp .eq 14, 3) := by decide +kernel
theorem d2_14 : decode prog_32_method_4_code 14 = .ok (.aload_n 0, 1) := by decide +kernel
theorem d2_15 : decode prog_32_method_4_code 15 = .ok (.getstatic 13, 3) := by decide +kernel
theorem d2_18 : decode prog_32_method_4_code 18 = .ok (.if_acmp .eq 7, 3) := by decide +kernel
theorem d2_21 : decode prog_32_method_4_code 21 = .ok (.iconst 1, 1) := by decide +kernel
theorem d2_22 : decode prog_32_method_4_code 22 = .ok (.goto 4, 3) := by decide +kernel
theorem d2_25 : decode prog_32_method_4_code 25 = .ok (.iconst 0, 1) := by decide +kernel
theorem d2_26 : decode prog_32_method_4_code 26 = .ok (.ireturn, 1) := by decide +kernel
theorem pn_2 : plainName "org/axiswarp/tree/NodeKind" = true := by first | (simp [plainName, overriddenIn]; done) | decide +kernel
theorem ef_2DOCUMENT (m : MethodId) (x0 : Addr) : entryFrame m #[(.ref x0)] 1 = mkF m 0 #[.val (.ref x0)] [] := by first | (simp [entryFrame, mkF, argsToLocals, Value.category, maxLocals]; done) | rfl
def Q2DOCUMENT (Z : State) (w_DOCUMENT : Addr) (w_ELEMENT : Addr) (w_ATTRIBUTE : Addr) (w_NAMESPACE : Addr) (w_TEXT : Addr) (w_COMMENT : Addr) (w_PROCESSING_INSTRUCTION : Addr) (h0 : Heap) (n0 : Nat) (v : Option Value) (h : Heap) (L : List Loc) : Prop := v = some (.int 0) ∧ Fr n0 L ∧ h = h0
set_option maxRecDepth 65536 in
set_option maxHeartbeats 40000000 in
theorem rm2DOCUMENT (l : Launch) (Z : State) (a0 : Array Value) (hw : ∀ d ∈ tables_1, d.before a0 Z = true) (ws : List Jvm.Cond) (w_DOCUMENT : Addr) (w_ELEMENT : Addr) (w_ATTRIBUTE : Addr) (w_NAMESPACE : Addr) (w_TEXT : Addr) (w_COMMENT : Addr) (w_PROCESSING_INSTRUCTION : Addr) (h0 : Heap) (n0 : Nat) (Z0 : n0 ≤ h0.size) (S_DOCUMENT : Sta Z h0 "org/axiswarp/tree/NodeKind" "DOCUMENT" "Lorg/axiswarp/tree/NodeKind;" (.ref w_DOCUMENT)) (E_w_DOCUMENT : Exa Z h0 w_DOCUMENT "org/axiswarp/tree/NodeKind") (O_DOCUMENT : Fld Z h0 w_DOCUMENT "java/lang/Enum" "ordinal" "I" (.int 0)) (S_ELEMENT : Sta Z h0 "org/axiswarp/tree/NodeKind" "ELEMENT" "Lorg/axiswarp/tree/NodeKind;" (.ref w_ELEMENT)) (E_w_ELEMENT : Exa Z h0 w_ELEMENT "org/axiswarp/tree/NodeKind") (O_ELEMENT : Fld Z h0 w_ELEMENT "java/lang/Enum" "ordinal" "I" (.int 1)) (S_ATTRIBUTE : Sta Z h0 "org/axiswarp/tree/NodeKind" "ATTRIBUTE" "Lorg/axiswarp/tree/NodeKind;" (.ref w_ATTRIBUTE)) (E_w_ATTRIBUTE : Exa Z h0 w_ATTRIBUTE "org/axiswarp/tree/NodeKind") (O_ATTRIBUTE : Fld Z h0 w_ATTRIBUTE "java/lang/Enum" "ordinal" "I" (.int 2)) (S_NAMESPACE : Sta Z h0 "org/axiswarp/tree/NodeKind" "NAMESPACE" "Lorg/axiswarp/tree/NodeKind;" (.ref w_NAMESPACE)) (E_w_NAMESPACE : Exa Z h0 w_NAMESPACE "org/axiswarp/tree/NodeKind") (O_NAMESPACE : Fld Z h0 w_NAMESPACE "java/lang/Enum" "ordinal" "I" (.int 3)) (S_TEXT : Sta Z h0 "org/axiswarp/tree/NodeKind" "TEXT" "Lorg/axiswarp/tree/NodeKind;" (.ref w_TEXT)) (E_w_TEXT : Exa Z h0 w_TEXT "org/axiswarp/tree/NodeKind") (O_TEXT : Fld Z h0 w_TEXT "java/lang/Enum" "ordinal" "I" (.int 4)) (S_COMMENT : Sta Z h0 "org/axiswarp/tree/NodeKind" "COMMENT" "Lorg/axiswarp/tree/NodeKind;" (.ref w_COMMENT)) (E_w_COMMENT : Exa Z h0 w_COMMENT "org/axiswarp/tree/NodeKind") (O_COMMENT : Fld Z h0 w_COMMENT "java/lang/Enum" "ordinal" "I" (.int 5)) (S_PROCESSING_INSTRUCTION : Sta Z h0 "org/axiswarp/tree/NodeKind" "PROCESSING_INSTRUCTION" "Lorg/axiswarp/tree/NodeKind;" (.ref w_PROCESSING_INSTRUCTION)) (E_w_PROCESSING_INSTRUCTION : Exa Z h0 w_PROCESSING_INSTRUCTION "org/axiswarp/tree/NodeKind") (O_PROCESSING_INSTRUCTION : Fld Z h0 w_PROCESSING_INSTRUCTION "java/lang/Enum" "ordinal" "I" (.int 6)) :
    MetFree l (⟨"org/axiswarp/tree/NodeKind", "isChild", "()Z"⟩ : MethodName) (head1 (Jvm.Cond.code (⟨"org/axiswarp/tree/NodeKind", "isChild", "()Z"⟩ : MethodName) prog_32_method_4_code 1 (some .boolean) :: ws) ({ frames := 0, cells := 0, slots := 0, locals := 0 } : Room)) (fun a U => a = #[(.ref w_DOCUMENT)] ∧ Z.Warmed39 U.vm ∧ U.heap = h0) (fun _ _ _ _ _ => True) (fun _ U o U' => ∃ v L, o = .returned v ∧ (Q2DOCUMENT Z w_DOCUMENT w_ELEMENT w_ATTRIBUTE w_NAMESPACE w_TEXT w_COMMENT w_PROCESSING_INSTRUCTION h0 n0) v U'.heap L ∧ FrameEnd U o U' L ({ frames := 0, cells := 0, slots := 0, locals := 0 } : Room).cells ({ frames := 0, cells := 0, slots := 0, locals := 0 } : Room).slots) := by
  refine MetFree.of_bodySF (plainFor_of_name pn_2) hisR ?_
  intro p e s m args below meth c s₁ Bd hml0 hP hK
  obtain ⟨rfl, hZ, hh⟩ := hP
  have hx := Bd.exec
  have hby := Bd.bytes
  have hlk : meth.locks = false := BodyLoose.notSynchronized Bd
  have hml : c.maxLocals = 1 := hml0
  have hown : s.vm.findClass "org/axiswarp/tree/NodeKind" = some m.cls := findClass_of_methodNamed Bd.named
  have hnm := (name_of_methodNamed Bd.named Bd.method).1
  have X0 : Stand p l e ({ frames := 0, cells := 0, slots := 0, locals := 0 } : Room) s m #[(.ref w_DOCUMENT)] below meth c s₁ [] 0 0 := Stand.of_body Bd
  have e0 : s₁.heap = h0 := by rw [← hh, Bd.state]; rfl
  have N := Fr.nil n0
  have Zs := Z0
  change OwnGo p.tables e below (OwnEnd s (Q2DOCUMENT Z w_DOCUMENT w_ELEMENT w_ATTRIBUTE w_NAMESPACE w_TEXT w_COMMENT w_PROCESSING_INSTRUCTION h0 n0) ({ frames := 0, cells := 0, slots := 0, locals := 0 } : Room).cells ({ frames := 0, cells := 0, slots := 0, locals := 0 } : Room).slots) _
  refine OwnGo.fwd (fun t k => castTop (ef_2DOCUMENT m w_DOCUMENT) k) ?_
  show OwnGo _ _ _ _ (s₁.setTop (mkF m 0 #[.val (.ref w_DOCUMENT)] []))
  have ne_DOCUMENT_ELEMENT : w_DOCUMENT ≠ w_ELEMENT := Fld.ne O_DOCUMENT O_ELEMENT (by decide)
  have ne_DOCUMENT_ATTRIBUTE : w_DOCUMENT ≠ w_ATTRIBUTE := Fld.ne O_DOCUMENT O_ATTRIBUTE (by decide)
  have ne_DOCUMENT_NAMESPACE : w_DOCUMENT ≠ w_NAMESPACE := Fld.ne O_DOCUMENT O_NAMESPACE (by decide)
  have ne_DOCUMENT_TEXT : w_DOCUMENT ≠ w_TEXT := Fld.ne O_DOCUMENT O_TEXT (by decide)
  have ne_DOCUMENT_COMMENT : w_DOCUMENT ≠ w_COMMENT := Fld.ne O_DOCUMENT O_COMMENT (by decide)
  have ne_DOCUMENT_PROCESSING_INSTRUCTION : w_DOCUMENT ≠ w_PROCESSING_INSTRUCTION := Fld.ne O_DOCUMENT O_PROCESSING_INSTRUCTION (by decide)
  have ne_ELEMENT_ATTRIBUTE : w_ELEMENT ≠ w_ATTRIBUTE := Fld.ne O_ELEMENT O_ATTRIBUTE (by decide)
  have ne_ELEMENT_NAMESPACE : w_ELEMENT ≠ w_NAMESPACE := Fld.ne O_ELEMENT O_NAMESPACE (by decide)
  have ne_ELEMENT_TEXT : w_ELEMENT ≠ w_TEXT := Fld.ne O_ELEMENT O_TEXT (by decide)
  have ne_ELEMENT_COMMENT : w_ELEMENT ≠ w_COMMENT := Fld.ne O_ELEMENT O_COMMENT (by decide)
  have ne_ELEMENT_PROCESSING_INSTRUCTION : w_ELEMENT ≠ w_PROCESSING_INSTRUCTION := Fld.ne O_ELEMENT O_PROCESSING_INSTRUCTION (by decide)
  have ne_ATTRIBUTE_NAMESPACE : w_ATTRIBUTE ≠ w_NAMESPACE := Fld.ne O_ATTRIBUTE O_NAMESPACE (by decide)
  have ne_ATTRIBUTE_TEXT : w_ATTRIBUTE ≠ w_TEXT := Fld.ne O_ATTRIBUTE O_TEXT (by decide)
  have ne_ATTRIBUTE_COMMENT : w_ATTRIBUTE ≠ w_COMMENT := Fld.ne O_ATTRIBUTE O_COMMENT (by decide)
  have ne_ATTRIBUTE_PROCESSING_INSTRUCTION : w_ATTRIBUTE ≠ w_PROCESSING_INSTRUCTION := Fld.ne O_ATTRIBUTE O_PROCESSING_INSTRUCTION (by decide)
  have ne_NAMESPACE_TEXT : w_NAMESPACE ≠ w_TEXT := Fld.ne O_NAMESPACE O_TEXT (by decide)
  have ne_NAMESPACE_COMMENT : w_NAMESPACE ≠ w_COMMENT := Fld.ne O_NAMESPACE O_COMMENT (by decide)
  have ne_NAMESPACE_PROCESSING_INSTRUCTION : w_NAMESPACE ≠ w_PROCESSING_INSTRUCTION := Fld.ne O_NAMESPACE O_PROCESSING_INSTRUCTION (by decide)
  have ne_TEXT_COMMENT : w_TEXT ≠ w_COMMENT := Fld.ne O_TEXT O_COMMENT (by decide)
  have ne_TEXT_PROCESSING_INSTRUCTION : w_TEXT ≠ w_PROCESSING_INSTRUCTION := Fld.ne O_TEXT O_PROCESSING_INSTRUCTION (by decide)
  have ne_COMMENT_PROCESSING_INSTRUCTION : w_COMMENT ≠ w_PROCESSING_INSTRUCTION := Fld.ne O_COMMENT O_PROCESSING_INSTRUCTION (by decide)
  refine OwnGo.fwd (fun t k => XS.aloadN X0.here hx rfl (hb hby d2_0) rfl rfl k) ?_
  show OwnGo _ _ _ _ (s₁.setTop (mkF m 1 #[.val (.ref w_DOCUMENT)] [(.ref w_DOCUMENT)]))
  obtain ⟨T1, X1, e1, st1⟩ := getS2 X0 hx hZ hown (host := "") (Or.inl (hw _ (List.mem_of_getElem? (i := 21) rfl))) Via.refl e0 S_DOCUMENT (g := (mkF m 1 #[.val (.ref w_DOCUMENT)] [(.ref w_DOCUMENT)])) rfl (hb hby d2_1)
  refine OwnGo.fwd st1 ?_
  show OwnGo _ _ _ _ (T1.setTop (mkF m 4 #[.val (.ref w_DOCUMENT)] [(.ref w_DOCUMENT), (.ref w_DOCUMENT)]))
  refine OwnGo.fwd (fun t k => Jvm.RoadKit.acmp (g := (mkF m 4 #[.val (.ref w_DOCUMENT)] [(.ref w_DOCUMENT), (.ref w_DOCUMENT)])) X1 hx rfl rfl rfl (pc0 := 4) (pc' := 25) (same := true) rfl (hb hby d2_4) rfl (decide_eq_true rfl) (by decide) (by decide) k) ?_
  show OwnGo _ _ _ _ (T1.setTop (mkF m 25 #[.val (.ref w_DOCUMENT)] []))
  refine OwnGo.fwd (fun t k => XS.iconst X1.here hx rfl (hb hby d2_25) k) ?_
  show OwnGo _ _ _ _ (T1.setTop (mkF m 26 #[.val (.ref w_DOCUMENT)] [(.int (0 : Int32))]))
  exact own_retZ X1 hlk hx Bd.returns (hb hby d2_26) (by decide) (by decide) e1 ⟨rfl, N, rfl⟩
theorem ef_1ELEMENT (m : MethodId) (x0 : Int32) : entryFrame m #[(.int x0)] 1 = mkF m 0 #[.val (.int x0)] [] := by first | (simp [entryFrame, mkF, argsToLocals, Value.category, maxLocals]; done) | rfl
def Q1ELEMENT (Z : State) (w_DOCUMENT : Addr) (w_ELEMENT : Addr) (w_ATTRIBUTE : Addr) (w_NAMESPACE : Addr) (w_TEXT : Addr) (w_COMMENT : Addr) (w_PROCESSING_INSTRUCTION : Addr) (h0 : Heap) (n0 : Nat) (v : Option Value) (h : Heap) (L : List Loc) : Prop := v = some (.ref w_ELEMENT) ∧ Fr n0 L ∧ h = h0
set_option maxRecDepth 65536 in
set_option maxHeartbeats 40000000 in
theorem rm1ELEMENT (l : Launch) (Z : State) (a0 : Array Value) (hw : ∀ d ∈ tables_1, d.before a0 Z = true) (ws : List Jvm.Cond) (w_DOCUMENT : Addr) (w_ELEMENT : Addr) (w_ATTRIBUTE : Addr) (w_NAMESPACE : Addr) (w_TEXT : Addr) (w_COMMENT : Addr) (w_PROCESSING_INSTRUCTION : Addr) (h0 : Heap) (n0 : Nat) (Z0 : n0 ≤ h0.size) (S_DOCUMENT : Sta Z h0 "org/axiswarp/tree/NodeKind" "DOCUMENT" "Lorg/axiswarp/tree/NodeKind;" (.ref w_DOCUMENT)) (E_w_DOCUMENT : Exa Z h0 w_DOCUMENT "org/axiswarp/tree/NodeKind") (O_DOCUMENT : Fld Z h0 w_DOCUMENT "java/lang/Enum" "ordinal" "I" (.int 0)) (S_ELEMENT : Sta Z h0 "org/axiswarp/tree/NodeKind" "ELEMENT" "Lorg/axiswarp/tree/NodeKind;" (.ref w_ELEMENT)) (E_w_ELEMENT : Exa Z h0 w_ELEMENT "org/axiswarp/tree/NodeKind") (O_ELEMENT : Fld Z h0 w_ELEMENT "java/lang/Enum" "ordinal" "I" (.int 1)) (S_ATTRIBUTE : Sta Z h0 "org/axiswarp/tree/NodeKind" "ATTRIBUTE" "Lorg/axiswarp/tree/NodeKind;" (.ref w_ATTRIBUTE)) (E_w_ATTRIBUTE : Exa Z h0 w_ATTRIBUTE "org/axiswarp/tree/NodeKind") (O_ATTRIBUTE : Fld Z h0 w_ATTRIBUTE "java/lang/Enum" "ordinal" "I" (.int 2)) (S_NAMESPACE : Sta Z h0 "org/axiswarp/tree/NodeKind" "NAMESPACE" "Lorg/axiswarp/tree/NodeKind;" (.ref w_NAMESPACE)) (E_w_NAMESPACE : Exa Z h0 w_NAMESPACE "org/axiswarp/tree/NodeKind") (O_NAMESPACE : Fld Z h0 w_NAMESPACE "java/lang/Enum" "ordinal" "I" (.int 3)) (S_TEXT : Sta Z h0 "org/axiswarp/tree/NodeKind" "TEXT" "Lorg/axiswarp/tree/NodeKind;" (.ref w_TEXT)) (E_w_TEXT : Exa Z h0 w_TEXT "org/axiswarp/tree/NodeKind") (O_TEXT : Fld Z h0 w_TEXT "java/lang/Enum" "ordinal" "I" (.int 4)) (S_COMMENT : Sta Z h0 "org/axiswarp/tree/NodeKind" "COMMENT" "Lorg/axiswarp/tree/NodeKind;" (.ref w_COMMENT)) (E_w_COMMENT : Exa Z h0 w_COMMENT "org/axiswarp/tree/NodeKind") (O_COMMENT : Fld Z h0 w_COMMENT "java/lang/Enum" "ordinal" "I" (.int 5)) (S_PROCESSING_INSTRUCTION : Sta Z h0 "org/axiswarp/tree/NodeKind" "PROCESSING_INSTRUCTION" "Lorg/axiswarp/tree/NodeKind;" (.ref w_PROCESSING_INSTRUCTION)) (E_w_PROCESSING_INSTRUCTION : Exa Z h0 w_PROCESSING_INSTRUCTION "org/axiswarp/tree/NodeKind") (O_PROCESSING_INSTRUCTION : Fld Z h0 w_PROCESSING_INSTRUCTION "java/lang/Enum" "ordinal" "I" (.int 6)) :
    MetFree l (⟨"org/axiswarp/tree/NodeKindIsChildPinLaw", "pick", "(I)Lorg/axiswarp/tree/NodeKind;"⟩ : MethodName) (head1 (Jvm.Cond.code (⟨"org/axiswarp/tree/NodeKindIsChildPinLaw", "pick", "(I)Lorg/axiswarp/tree/NodeKind;"⟩ : MethodName) method_3_code 1 (some (.object "org/axiswarp/tree/NodeKind")) :: ws) ({ frames := 0, cells := 0, slots := 0, locals := 0 } : Room)) (fun a U => a = #[(.int (1 : Int32))] ∧ Z.Warmed39 U.vm ∧ U.heap = h0) (fun _ _ _ _ _ => True) (fun _ U o U' => ∃ v L, o = .returned v ∧ (Q1ELEMENT Z w_DOCUMENT w_ELEMENT w_ATTRIBUTE w_NAMESPACE w_TEXT w_COMMENT w_PROCESSING_INSTRUCTION h0 n0) v U'.heap L ∧ FrameEnd U o U' L ({ frames := 0, cells := 0, slots := 0, locals := 0 } : Room).cells ({ frames := 0, cells := 0, slots := 0, locals := 0 } : Room).slots) := by
  refine MetFree.of_bodySF (plainFor_of_name pn_1) hisR ?_
  intro p e s m args below meth c s₁ Bd hml0 hP hK
  obtain ⟨rfl, hZ, hh⟩ := hP
  have hx := Bd.exec
  have hby := Bd.bytes
  have hlk : meth.locks = false := BodyLoose.notSynchronized Bd
  have hml : c.maxLocals = 1 := hml0
  have hown : s.vm.findClass "org/axiswarp/tree/NodeKindIsChildPinLaw" = some m.cls := findClass_of_methodNamed Bd.named
  have hnm := (name_of_methodNamed Bd.named Bd.method).1
  have X0 : Stand p l e ({ frames := 0, cells := 0, slots := 0, locals := 0 } : Room) s m #[(.int (1 : Int32))] below meth c s₁ [] 0 0 := Stand.of_body Bd
  have e0 : s₁.heap = h0 := by rw [← hh, Bd.state]; rfl
  have N := Fr.nil n0
  have Zs := Z0
  change OwnGo p.tables e below (OwnEnd s (Q1ELEMENT Z w_DOCUMENT w_ELEMENT w_ATTRIBUTE w_NAMESPACE w_TEXT w_COMMENT w_PROCESSING_INSTRUCTION h0 n0) ({ frames := 0, cells := 0, slots := 0, locals := 0 } : Room).cells ({ frames := 0, cells := 0, slots := 0, locals := 0 } : Room).slots) _
  refine OwnGo.fwd (fun t k => castTop (ef_1ELEMENT m (1 : Int32)) k) ?_
  show OwnGo _ _ _ _ (s₁.setTop (mkF m 0 #[.val (.int (1 : Int32))] []))
  refine OwnGo.fwd (fun t k => XS.iloadN X0.here hx rfl (hb hby d1_0) rfl k) ?_
  show OwnGo _ _ _ _ (s₁.setTop (mkF m 1 #[.val (.int (1 : Int32))] [(.int (1 : Int32))]))
  have hc1_1 : ¬ ((1 : Int) = (0 : Int)) := by decide
  refine OwnGo.fwd (fun t k => XS.ifYes X0.here hx rfl (pc0 := 1) (pc' := 8) rfl (hb hby d1_1) rfl ((if0 _ _).trans (own_bneq (by decide) (by decide) hc1_1).2) (by decide) (by decide) k) ?_
  show OwnGo _ _ _ _ (s₁.setTop (mkF m 8 #[.val (.int (1 : Int32))] []))
  refine OwnGo.fwd (fun t k => XS.iloadN X0.here hx rfl (hb hby d1_8) rfl k) ?_
  show OwnGo _ _ _ _ (s₁.setTop (mkF m 9 #[.val (.int (1 : Int32))] [(.int (1 : Int32))]))
  refine OwnGo.fwd (fun t k => XS.iconst X0.here hx rfl (hb hby d1_9) k) ?_
  show OwnGo _ _ _ _ (s₁.setTop (mkF m 10 #[.val (.int (1 : Int32))] [(.int (1 : Int32)), (.int (1 : Int32))]))
  have hc10_2 : (1 : Int) = (1 : Int) := rfl
  refine OwnGo.fwd (fun t k => XS.icmpNo X0.here hx rfl (hb hby d1_10) rfl (own_beq (by decide) (by decide) hc10_2).2 k) ?_
  show OwnGo _ _ _ _ (s₁.setTop (mkF m 13 #[.val (.int (1 : Int32))] []))
  obtain ⟨T3, X3, e3, st3⟩ := getS2 X0 hx hZ hown (host := "") (Or.inl (hw _ (List.mem_of_getElem? (i := 8) rfl))) Via.refl e0 S_ELEMENT (g := (mkF m 13 #[.val (.int (1 : Int32))] [])) rfl (hb hby d1_13)
  refine OwnGo.fwd st3 ?_
  show OwnGo _ _ _ _ (T3.setTop (mkF m 16 #[.val (.int (1 : Int32))] [(.ref w_ELEMENT)]))
  exact own_retA X3 hlk hx Bd.returns rfl rfl (hb hby d1_16) (by decide) (by decide) e3 ⟨rfl, N, rfl⟩
theorem ef_2ELEMENT (m : MethodId) (x0 : Addr) : entryFrame m #[(.ref x0)] 1 = mkF m 0 #[.val (.ref x0)] [] := by first | (simp [entryFrame, mkF, argsToLocals, Value.category, maxLocals]; done) | rfl
def Q2ELEMENT (Z : State) (w_DOCUMENT : Addr) (w_ELEMENT : Addr) (w_ATTRIBUTE : Addr) (w_NAMESPACE : Addr) (w_TEXT : Addr) (w_COMMENT : Addr) (w_PROCESSING_INSTRUCTION : Addr) (h0 : Heap) (n0 : Nat) (v : Option Value) (h : Heap) (L : List Loc) : Prop := v = some (.int 1) ∧ Fr n0 L ∧ h = h0
set_option maxRecDepth 65536 in
set_option maxHeartbeats 40000000 in
theorem rm2ELEMENT (l : Launch) (Z : State) (a0 : Array Value) (hw : ∀ d ∈ tables_1, d.before a0 Z = true) (ws : List Jvm.Cond) (w_DOCUMENT : Addr) (w_ELEMENT : Addr) (w_ATTRIBUTE : Addr) (w_NAMESPACE : Addr) (w_TEXT : Addr) (w_COMMENT : Addr) (w_PROCESSING_INSTRUCTION : Addr) (h0 : Heap) (n0 : Nat) (Z0 : n0 ≤ h0.size) (S_DOCUMENT : Sta Z h0 "org/axiswarp/tree/NodeKind" "DOCUMENT" "Lorg/axiswarp/tree/NodeKind;" (.ref w_DOCUMENT)) (E_w_DOCUMENT : Exa Z h0 w_DOCUMENT "org/axiswarp/tree/NodeKind") (O_DOCUMENT : Fld Z h0 w_DOCUMENT "java/lang/Enum" "ordinal" "I" (.int 0)) (S_ELEMENT : Sta Z h0 "org/axiswarp/tree/NodeKind" "ELEMENT" "Lorg/axiswarp/tree/NodeKind;" (.ref w_ELEMENT)) (E_w_ELEMENT : Exa Z h0 w_ELEMENT "org/axiswarp/tree/NodeKind") (O_ELEMENT : Fld Z h0 w_ELEMENT "java/lang/Enum" "ordinal" "I" (.int 1)) (S_ATTRIBUTE : Sta Z h0 "org/axiswarp/tree/NodeKind" "ATTRIBUTE" "Lorg/axiswarp/tree/NodeKind;" (.ref w_ATTRIBUTE)) (E_w_ATTRIBUTE : Exa Z h0 w_ATTRIBUTE "org/axiswarp/tree/NodeKind") (O_ATTRIBUTE : Fld Z h0 w_ATTRIBUTE "java/lang/Enum" "ordinal" "I" (.int 2)) (S_NAMESPACE : Sta Z h0 "org/axiswarp/tree/NodeKind" "NAMESPACE" "Lorg/axiswarp/tree/NodeKind;" (.ref w_NAMESPACE)) (E_w_NAMESPACE : Exa Z h0 w_NAMESPACE "org/axiswarp/tree/NodeKind") (O_NAMESPACE : Fld Z h0 w_NAMESPACE "java/lang/Enum" "ordinal" "I" (.int 3)) (S_TEXT : Sta Z h0 "org/axiswarp/tree/NodeKind" "TEXT" "Lorg/axiswarp/tree/NodeKind;" (.ref w_TEXT)) (E_w_TEXT : Exa Z h0 w_TEXT "org/axiswarp/tree/NodeKind") (O_TEXT : Fld Z h0 w_TEXT "java/lang/Enum" "ordinal" "I" (.int 4)) (S_COMMENT : Sta Z h0 "org/axiswarp/tree/NodeKind" "COMMENT" "Lorg/axiswarp/tree/NodeKind;" (.ref w_COMMENT)) (E_w_COMMENT : Exa Z h0 w_COMMENT "org/axiswarp/tree/NodeKind") (O_COMMENT : Fld Z h0 w_COMMENT "java/lang/Enum" "ordinal" "I" (.int 5)) (S_PROCESSING_INSTRUCTION : Sta Z h0 "org/axiswarp/tree/NodeKind" "PROCESSING_INSTRUCTION" "Lorg/axiswarp/tree/NodeKind;" (.ref w_PROCESSING_INSTRUCTION)) (E_w_PROCESSING_INSTRUCTION : Exa Z h0 w_PROCESSING_INSTRUCTION "org/axiswarp/tree/NodeKind") (O_PROCESSING_INSTRUCTION : Fld Z h0 w_PROCESSING_INSTRUCTION "java/lang/Enum" "ordinal" "I" (.int 6)) :
    MetFree l (⟨"org/axiswarp/tree/NodeKind", "isChild", "()Z"⟩ : MethodName) (head1 (Jvm.Cond.code (⟨"org/axiswarp/tree/NodeKind", "isChild", "()Z"⟩ : MethodName) prog_32_method_4_code 1 (some .boolean) :: ws) ({ frames := 0, cells := 0, slots := 0, locals := 0 } : Room)) (fun a U => a = #[(.ref w_ELEMENT)] ∧ Z.Warmed39 U.vm ∧ U.heap = h0) (fun _ _ _ _ _ => True) (fun _ U o U' => ∃ v L, o = .returned v ∧ (Q2ELEMENT Z w_DOCUMENT w_ELEMENT w_ATTRIBUTE w_NAMESPACE w_TEXT w_COMMENT w_PROCESSING_INSTRUCTION h0 n0) v U'.heap L ∧ FrameEnd U o U' L ({ frames := 0, cells := 0, slots := 0, locals := 0 } : Room).cells ({ frames := 0, cells := 0, slots := 0, locals := 0 } : Room).slots) := by
  refine MetFree.of_bodySF (plainFor_of_name pn_2) hisR ?_
  intro p e s m args below meth c s₁ Bd hml0 hP hK
  obtain ⟨rfl, hZ, hh⟩ := hP
  have hx := Bd.exec
  have hby := Bd.bytes
  have hlk : meth.locks = false := BodyLoose.notSynchronized Bd
  have hml : c.maxLocals = 1 := hml0
  have hown : s.vm.findClass "org/axiswarp/tree/NodeKind" = some m.cls := findClass_of_methodNamed Bd.named
  have hnm := (name_of_methodNamed Bd.named Bd.method).1
  have X0 : Stand p l e ({ frames := 0, cells := 0, slots := 0, locals := 0 } : Room) s m #[(.ref w_ELEMENT)] below meth c s₁ [] 0 0 := Stand.of_body Bd
  have e0 : s₁.heap = h0 := by rw [← hh, Bd.state]; rfl
  have N := Fr.nil n0
  have Zs := Z0
  change OwnGo p.tables e below (OwnEnd s (Q2ELEMENT Z w_DOCUMENT w_ELEMENT w_ATTRIBUTE w_NAMESPACE w_TEXT w_COMMENT w_PROCESSING_INSTRUCTION h0 n0) ({ frames := 0, cells := 0, slots := 0, locals := 0 } : Room).cells ({ frames := 0, cells := 0, slots := 0, locals := 0 } : Room).slots) _
  refine OwnGo.fwd (fun t k => castTop (ef_2ELEMENT m w_ELEMENT) k) ?_
  show OwnGo _ _ _ _ (s₁.setTop (mkF m 0 #[.val (.ref w_ELEMENT)] []))
  have ne_DOCUMENT_ELEMENT : w_DOCUMENT ≠ w_ELEMENT := Fld.ne O_DOCUMENT O_ELEMENT (by decide)
  have ne_DOCUMENT_ATTRIBUTE : w_DOCUMENT ≠ w_ATTRIBUTE := Fld.ne O_DOCUMENT O_ATTRIBUTE (by decide)
  have ne_DOCUMENT_NAMESPACE : w_DOCUMENT ≠ w_NAMESPACE := Fld.ne O_DOCUMENT O_NAMESPACE (by decide)
  have ne_DOCUMENT_TEXT : w_DOCUMENT ≠ w_TEXT := Fld.ne O_DOCUMENT O_TEXT (by decide)
  have ne_DOCUMENT_COMMENT : w_DOCUMENT ≠ w_COMMENT := Fld.ne O_DOCUMENT O_COMMENT (by decide)
  have ne_DOCUMENT_PROCESSING_INSTRUCTION : w_DOCUMENT ≠ w_PROCESSING_INSTRUCTION := Fld.ne O_DOCUMENT O_PROCESSING_INSTRUCTION (by decide)
  have ne_ELEMENT_ATTRIBUTE : w_ELEMENT ≠ w_ATTRIBUTE := Fld.ne O_ELEMENT O_ATTRIBUTE (by decide)
  have ne_ELEMENT_NAMESPACE : w_ELEMENT ≠ w_NAMESPACE := Fld.ne O_ELEMENT O_NAMESPACE (by decide)
  have ne_ELEMENT_TEXT : w_ELEMENT ≠ w_TEXT := Fld.ne O_ELEMENT O_TEXT (by decide)
  have ne_ELEMENT_COMMENT : w_ELEMENT ≠ w_COMMENT := Fld.ne O_ELEMENT O_COMMENT (by decide)
  have ne_ELEMENT_PROCESSING_INSTRUCTION : w_ELEMENT ≠ w_PROCESSING_INSTRUCTION := Fld.ne O_ELEMENT O_PROCESSING_INSTRUCTION (by decide)
  have ne_ATTRIBUTE_NAMESPACE : w_ATTRIBUTE ≠ w_NAMESPACE := Fld.ne O_ATTRIBUTE O_NAMESPACE (by decide)
  have ne_ATTRIBUTE_TEXT : w_ATTRIBUTE ≠ w_TEXT := Fld.ne O_ATTRIBUTE O_TEXT (by decide)
  have ne_ATTRIBUTE_COMMENT : w_ATTRIBUTE ≠ w_COMMENT := Fld.ne O_ATTRIBUTE O_COMMENT (by decide)
  have ne_ATTRIBUTE_PROCESSING_INSTRUCTION : w_ATTRIBUTE ≠ w_PROCESSING_INSTRUCTION := Fld.ne O_ATTRIBUTE O_PROCESSING_INSTRUCTION (by decide)
  have ne_NAMESPACE_TEXT : w_NAMESPACE ≠ w_TEXT := Fld.ne O_NAMESPACE O_TEXT (by decide)
  have ne_NAMESPACE_COMMENT : w_NAMESPACE ≠ w_COMMENT := Fld.ne O_NAMESPACE O_COMMENT (by decide)
  have ne_NAMESPACE_PROCESSING_INSTRUCTION : w_NAMESPACE ≠ w_PROCESSING_INSTRUCTION := Fld.ne O_NAMESPACE O_PROCESSING_INSTRUCTION (by decide)
  have ne_TEXT_COMMENT : w_TEXT ≠ w_COMMENT := Fld.ne O_TEXT O_COMMENT (by decide)
  have ne_TEXT_PROCESSING_INSTRUCTION : w_TEXT ≠ w_PROCESSING_INSTRUCTION := Fld.ne O_TEXT O_PROCESSING_INSTRUCTION (by decide)
  have ne_COMMENT_PROCESSING_INSTRUCTION : w_COMMENT ≠ w_PROCESSING_INSTRUCTION := Fld.ne O_COMMENT O_PROCESSING_INSTRUCTION (by decide)
  refine OwnGo.fwd (fun t k => XS.aloadN X0.here hx rfl (hb hby d2_0) rfl rfl k) ?_
  show OwnGo _ _ _ _ (s₁.setTop (mkF m 1 #[.val (.ref w_ELEMENT)] [(.ref w_ELEMENT)]))
  obtain ⟨T1, X1, e1, st1⟩ := getS2 X0 hx hZ hown (host := "") (Or.inl (hw _ (List.mem_of_getElem? (i := 21) rfl))) Via.refl e0 S_DOCUMENT (g := (mkF m 1 #[.val (.ref w_ELEMENT)] [(.ref w_ELEMENT)])) rfl (hb hby d2_1)
  refine OwnGo.fwd st1 ?_
  show OwnGo _ _ _ _ (T1.setTop (mkF m 4 #[.val (.ref w_ELEMENT)] [(.ref w_DOCUMENT), (.ref w_ELEMENT)]))
  refine OwnGo.fwd (fun t k => Jvm.RoadKit.acmp (g := (mkF m 4 #[.val (.ref w_ELEMENT)] [(.ref w_DOCUMENT), (.ref w_ELEMENT)])) X1 hx rfl rfl rfl (pc0 := 4) (pc' := 7) (same := false) rfl (hb hby d2_4) rfl (decide_eq_false fun q => (Ne.symm ne_DOCUMENT_ELEMENT) (Value.ref.inj q)) (by decide) (by decide) k) ?_
  show OwnGo _ _ _ _ (T1.setTop (mkF m 7 #[.val (.ref w_ELEMENT)] []))
  refine OwnGo.fwd (fun t k => XS.aloadN X1.here hx rfl (hb hby d2_7) rfl rfl k) ?_
  show OwnGo _ _ _ _ (T1.setTop (mkF m 8 #[.val (.ref w_ELEMENT)] [(.ref w_ELEMENT)]))
  obtain ⟨T2, X2, e2, st2⟩ := getS2 X1 hx hZ hown (host := "") (Or.inl (hw _ (List.mem_of_getElem? (i := 24) rfl))) Via.refl e1 S_ATTRIBUTE (g := (mkF m 8 #[.val (.ref w_ELEMENT)] [(.ref w_ELEMENT)])) rfl (hb hby d2_8)
  refine OwnGo.fwd st2 ?_
  show OwnGo _ _ _ _ (T2.setTop (mkF m 11 #[.val (.ref w_ELEMENT)] [(.ref w_ATTRIBUTE), (.ref w_ELEMENT)]))
  refine OwnGo.fwd (fun t k => Jvm.RoadKit.acmp (g := (mkF m 11 #[.val (.ref w_ELEMENT)] [(.ref w_ATTRIBUTE), (.ref w_ELEMENT)])) X2 hx rfl rfl rfl (pc0 := 11) (pc' := 14) (same := false) rfl (hb hby d2_11) rfl (decide_eq_false fun q => ne_ELEMENT_ATTRIBUTE (Value.ref.inj q)) (by decide) (by decide) k) ?_
  show OwnGo _ _ _ _ (T2.setTop (mkF m 14 #[.val (.ref w_ELEMENT)] []))
  refine OwnGo.fwd (fun t k => XS.aloadN X2.here hx rfl (hb hby d2_14) rfl rfl k) ?_
  show OwnGo _ _ _ _ (T2.setTop (mkF m 15 #[.val (.ref w_ELEMENT)] [(.ref w_ELEMENT)]))
  obtain ⟨T3, X3, e3, st3⟩ := getS2 X2 hx hZ hown (host := "") (Or.inl (hw _ (List.mem_of_getElem? (i := 26) rfl))) Via.refl e2 S_NAMESPACE (g := (mkF m 15 #[.val (.ref w_ELEMENT)] [(.ref w_ELEMENT)])) rfl (hb hby d2_15)
  refine OwnGo.fwd st3 ?_
  show OwnGo _ _ _ _ (T3.setTop (mkF m 18 #[.val (.ref w_ELEMENT)] [(.ref w_NAMESPACE), (.ref w_ELEMENT)]))
  refine OwnGo.fwd (fun t k => Jvm.RoadKit.acmp (g := (mkF m 18 #[.val (.ref w_ELEMENT)] [(.ref w_NAMESPACE), (.ref w_ELEMENT)])) X3 hx rfl rfl rfl (pc0 := 18) (pc' := 21) (same := false) rfl (hb hby d2_18) rfl (decide_eq_false fun q => ne_ELEMENT_NAMESPACE (Value.ref.inj q)) (by decide) (by decide) k) ?_
  show OwnGo _ _ _ _ (T3.setTop (mkF m 21 #[.val (.ref w_ELEMENT)] []))
  refine OwnGo.fwd (fun t k => XS.iconst X3.here hx rfl (hb hby d2_21) k) ?_
  show OwnGo _ _ _ _ (T3.setTop (mkF m 22 #[.val (.ref w_ELEMENT)] [(.int (1 : Int32))]))
  refine OwnGo.fwd (fun t k => XS.goto X3.here hx rfl (pc0 := 22) (pc' := 26) rfl (hb hby d2_22) (by decide) (by decide) k) ?_
  show OwnGo _ _ _ _ (T3.setTop (mkF m 26 #[.val (.ref w_ELEMENT)] [(.int (1 : Int32))]))
  exact own_retZ X3 hlk hx Bd.returns (hb hby d2_26) (by decide) (by decide) e3 ⟨rfl, N, rfl⟩
theorem ef_1ATTRIBUTE (m : MethodId) (x0 : Int32) : entryFrame m #[(.int x0)] 1 = mkF m 0 #[.val (.int x0)] [] := by first | (simp [entryFrame, mkF, argsToLocals, Value.category, maxLocals]; done) | rfl
def Q1ATTRIBUTE (Z : State) (w_DOCUMENT : Addr) (w_ELEMENT : Addr) (w_ATTRIBUTE : Addr) (w_NAMESPACE : Addr) (w_TEXT : Addr) (w_COMMENT : Addr) (w_PROCESSING_INSTRUCTION : Addr) (h0 : Heap) (n0 : Nat) (v : Option Value) (h : Heap) (L : List Loc) : Prop := v = some (.ref w_ATTRIBUTE) ∧ Fr n0 L ∧ h = h0
set_option maxRecDepth 65536 in
set_option maxHeartbeats 40000000 in
theorem rm1ATTRIBUTE (l : Launch) (Z : State) (a0 : Array Value) (hw : ∀ d ∈ tables_1, d.before a0 Z = true) (ws : List Jvm.Cond) (w_DOCUMENT : Addr) (w_ELEMENT : Addr) (w_ATTRIBUTE : Addr) (w_NAMESPACE : Addr) (w_TEXT : Addr) (w_COMMENT : Addr) (w_PROCESSING_INSTRUCTION : Addr) (h0 : Heap) (n0 : Nat) (Z0 : n0 ≤ h0.size) (S_DOCUMENT : Sta Z h0 "org/axiswarp/tree/NodeKind" "DOCUMENT" "Lorg/axiswarp/tree/NodeKind;" (.ref w_DOCUMENT)) (E_w_DOCUMENT : Exa Z h0 w_DOCUMENT "org/axiswarp/tree/NodeKind") (O_DOCUMENT : Fld Z h0 w_DOCUMENT "java/lang/Enum" "ordinal" "I" (.int 0)) (S_ELEMENT : Sta Z h0 "org/axiswarp/tree/NodeKind" "ELEMENT" "Lorg/axiswarp/tree/NodeKind;" (.ref w_ELEMENT)) (E_w_ELEMENT : Exa Z h0 w_ELEMENT "org/axiswarp/tree/NodeKind") (O_ELEMENT : Fld Z h0 w_ELEMENT "java/lang/Enum" "ordinal" "I" (.int 1)) (S_ATTRIBUTE : Sta Z h0 "org/axiswarp/tree/NodeKind" "ATTRIBUTE" "Lorg/axiswarp/tree/NodeKind;" (.ref w_ATTRIBUTE)) (E_w_ATTRIBUTE : Exa Z h0 w_ATTRIBUTE "org/axiswarp/tree/NodeKind") (O_ATTRIBUTE : Fld Z h0 w_ATTRIBUTE "java/lang/Enum" "ordinal" "I" (.int 2)) (S_NAMESPACE : Sta Z h0 "org/axiswarp/tree/NodeKind" "NAMESPACE" "Lorg/axiswarp/tree/NodeKind;" (.ref w_NAMESPACE)) (E_w_NAMESPACE : Exa Z h0 w_NAMESPACE "org/axiswarp/tree/NodeKind") (O_NAMESPACE : Fld Z h0 w_NAMESPACE "java/lang/Enum" "ordinal" "I" (.int 3)) (S_TEXT : Sta Z h0 "org/axiswarp/tree/NodeKind" "TEXT" "Lorg/axiswarp/tree/NodeKind;" (.ref w_TEXT)) (E_w_TEXT : Exa Z h0 w_TEXT "org/axiswarp/tree/NodeKind") (O_TEXT : Fld Z h0 w_TEXT "java/lang/Enum" "ordinal" "I" (.int 4)) (S_COMMENT : Sta Z h0 "org/axiswarp/tree/NodeKind" "COMMENT" "Lorg/axiswarp/tree/NodeKind;" (.ref w_COMMENT)) (E_w_COMMENT : Exa Z h0 w_COMMENT "org/axiswarp/tree/NodeKind") (O_COMMENT : Fld Z h0 w_COMMENT "java/lang/Enum" "ordinal" "I" (.int 5)) (S_PROCESSING_INSTRUCTION : Sta Z h0 "org/axiswarp/tree/NodeKind" "PROCESSING_INSTRUCTION" "Lorg/axiswarp/tree/NodeKind;" (.ref w_PROCESSING_INSTRUCTION)) (E_w_PROCESSING_INSTRUCTION : Exa Z h0 w_PROCESSING_INSTRUCTION "org/axiswarp/tree/NodeKind") (O_PROCESSING_INSTRUCTION : Fld Z h0 w_PROCESSING_INSTRUCTION "java/lang/Enum" "ordinal" "I" (.int 6)) :
    MetFree l (⟨"org/axiswarp/tree/NodeKindIsChildPinLaw", "pick", "(I)Lorg/axiswarp/tree/NodeKind;"⟩ : MethodName) (head1 (Jvm.Cond.code (⟨"org/axiswarp/tree/NodeKindIsChildPinLaw", "pick", "(I)Lorg/axiswarp/tree/NodeKind;"⟩ : MethodName) method_3_code 1 (some (.object "org/axiswarp/tree/NodeKind")) :: ws) ({ frames := 0, cells := 0, slots := 0, locals := 0 } : Room)) (fun a U => a = #[(.int (2 : Int32))] ∧ Z.Warmed39 U.vm ∧ U.heap = h0) (fun _ _ _ _ _ => True) (fun _ U o U' => ∃ v L, o = .returned v ∧ (Q1ATTRIBUTE Z w_DOCUMENT w_ELEMENT w_ATTRIBUTE w_NAMESPACE w_TEXT w_COMMENT w_PROCESSING_INSTRUCTION h0 n0) v U'.heap L ∧ FrameEnd U o U' L ({ frames := 0, cells := 0, slots := 0, locals := 0 } : Room).cells ({ frames := 0, cells := 0, slots := 0, locals := 0 } : Room).slots) := by
  refine MetFree.of_bodySF (plainFor_of_name pn_1) hisR ?_
  intro p e s m args below meth c s₁ Bd hml0 hP hK
  obtain ⟨rfl, hZ, hh⟩ := hP
  have hx := Bd.exec
  have hby := Bd.bytes
  have hlk : meth.locks = false := BodyLoose.notSynchronized Bd
  have hml : c.maxLocals = 1 := hml0
  have hown : s.vm.findClass "org/axiswarp/tree/NodeKindIsChildPinLaw" = some m.cls := findClass_of_methodNamed Bd.named
  have hnm := (name_of_methodNamed Bd.named Bd.method).1
  have X0 : Stand p l e ({ frames := 0, cells := 0, slots := 0, locals := 0 } : Room) s m #[(.int (2 : Int32))] below meth c s₁ [] 0 0 := Stand.of_body Bd
  have e0 : s₁.heap = h0 := by rw [← hh, Bd.state]; rfl
  have N := Fr.nil n0
  have Zs := Z0
  change OwnGo p.tables e below (OwnEnd s (Q1ATTRIBUTE Z w_DOCUMENT w_ELEMENT w_ATTRIBUTE w_NAMESPACE w_TEXT w_COMMENT w_PROCESSING_INSTRUCTION h0 n0) ({ frames := 0, cells := 0, slots := 0, locals := 0 } : Room).cells ({ frames := 0, cells := 0, slots := 0, locals := 0 } : Room).slots) _
  refine OwnGo.fwd (fun t k => castTop (ef_1ATTRIBUTE m (2 : Int32)) k) ?_
  show OwnGo _ _ _ _ (s₁.setTop (mkF m 0 #[.val (.int (2 : Int32))] []))
  refine OwnGo.fwd (fun t k => XS.iloadN X0.here hx rfl (hb hby d1_0) rfl k) ?_
  show OwnGo _ _ _ _ (s₁.setTop (mkF m 1 #[.val (.int (2 : Int32))] [(.int (2 : Int32))]))
  have hc1_1 : ¬ ((2 : Int) = (0 : Int)) := by decide
  refine OwnGo.fwd (fun t k => XS.ifYes X0.here hx rfl (pc0 := 1) (pc' := 8) rfl (hb hby d1_1) rfl ((if0 _ _).trans (own_bneq (by decide) (by decide) hc1_1).2) (by decide) (by decide) k) ?_
  show OwnGo _ _ _ _ (s₁.setTop (mkF m 8 #[.val (.int (2 : Int32))] []))
  refine OwnGo.fwd (fun t k => XS.iloadN X0.here hx rfl (hb hby d1_8) rfl k) ?_
  show OwnGo _ _ _ _ (s₁.setTop (mkF m 9 #[.val (.int (2 : Int32))] [(.int (2 : Int32))]))
  refine OwnGo.fwd (fun t k => XS.iconst X0.here hx rfl (hb hby d1_9) k) ?_
  show OwnGo _ _ _ _ (s₁.setTop (mkF m 10 #[.val (.int (2 : Int32))] [(.int (1 : Int32)), (.int (2 : Int32))]))
  have hc10_2 : ¬ ((2 : Int) = (1 : Int)) := by decide
  refine OwnGo.fwd (fun t k => XS.icmpYes X0.here hx rfl (pc0 := 10) (pc' := 17) rfl (hb hby d1_10) rfl (own_bneq (by decide) (by decide) hc10_2).2 (by decide) (by decide) k) ?_
  show OwnGo _ _ _ _ (s₁.setTop (mkF m 17 #[.val (.int (2 : Int32))] []))
  refine OwnGo.fwd (fun t k => XS.iloadN X0.here hx rfl (hb hby d1_17) rfl k) ?_
  show OwnGo _ _ _ _ (s₁.setTop (mkF m 18 #[.val (.int (2 : Int32))] [(.int (2 : Int32))]))
  refine OwnGo.fwd (fun t k => XS.iconst X0.here hx rfl (hb hby d1_18) k) ?_
  show OwnGo _ _ _ _ (s₁.setTop (mkF m 19 #[.val (.int (2 : Int32))] [(.int (2 : Int32)), (.int (2 : Int32))]))
  have hc19_3 : (2 : Int) = (2 : Int) := rfl
  refine OwnGo.fwd (fun t k => XS.icmpNo X0.here hx rfl (hb hby d1_19) rfl (own_beq (by decide) (by decide) hc19_3).2 k) ?_
  show OwnGo _ _ _ _ (s₁.setTop (mkF m 22 #[.val (.int (2 : Int32))] []))
  obtain ⟨T4, X4, e4, st4⟩ := getS2 X0 hx hZ hown (host := "") (Or.inl (hw _ (List.mem_of_getElem? (i := 27) rfl))) Via.refl e0 S_ATTRIBUTE (g := (mkF m 22 #[.val (.int (2 : Int32))] [])) rfl (hb hby d1_22)
  refine OwnGo.fwd st4 ?_
  show OwnGo _ _ _ _ (T4.setTop (mkF m 25 #[.val (.int (2 : Int32))] [(.ref w_ATTRIBUTE)]))
  exact own_retA X4 hlk hx Bd.returns rfl rfl (hb hby d1_25) (by decide) (by decide) e4 ⟨rfl, N, rfl⟩
theorem ef_2ATTRIBUTE (m : MethodId) (x0 : Addr) : entryFrame m #[(.ref x0)] 1 = mkF m 0 #[.val (.ref x0)] [] := by first | (simp [entryFrame, mkF, argsToLocals, Value.category, maxLocals]; done) | rfl
def Q2ATTRIBUTE (Z : State) (w_DOCUMENT : Addr) (w_ELEMENT : Addr) (w_ATTRIBUTE : Addr) (w_NAMESPACE : Addr) (w_TEXT : Addr) (w_COMMENT : Addr) (w_PROCESSING_INSTRUCTION : Addr) (h0 : Heap) (n0 : Nat) (v : Option Value) (h : Heap) (L : List Loc) : Prop := v = some (.int 0) ∧ Fr n0 L ∧ h = h0
set_option maxRecDepth 65536 in
set_option maxHeartbeats 40000000 in
theorem rm2ATTRIBUTE (l : Launch) (Z : State) (a0 : Array Value) (hw : ∀ d ∈ tables_1, d.before a0 Z = true) (ws : List Jvm.Cond) (w_DOCUMENT : Addr) (w_ELEMENT : Addr) (w_ATTRIBUTE : Addr) (w_NAMESPACE : Addr) (w_TEXT : Addr) (w_COMMENT : Addr) (w_PROCESSING_INSTRUCTION : Addr) (h0 : Heap) (n0 : Nat) (Z0 : n0 ≤ h0.size) (S_DOCUMENT : Sta Z h0 "org/axiswarp/tree/NodeKind" "DOCUMENT" "Lorg/axiswarp/tree/NodeKind;" (.ref w_DOCUMENT)) (E_w_DOCUMENT : Exa Z h0 w_DOCUMENT "org/axiswarp/tree/NodeKind") (O_DOCUMENT : Fld Z h0 w_DOCUMENT "java/lang/Enum" "ordinal" "I" (.int 0)) (S_ELEMENT : Sta Z h0 "org/axiswarp/tree/NodeKind" "ELEMENT" "Lorg/axiswarp/tree/NodeKind;" (.ref w_ELEMENT)) (E_w_ELEMENT : Exa Z h0 w_ELEMENT "org/axiswarp/tree/NodeKind") (O_ELEMENT : Fld Z h0 w_ELEMENT "java/lang/Enum" "ordinal" "I" (.int 1)) (S_ATTRIBUTE : Sta Z h0 "org/axiswarp/tree/NodeKind" "ATTRIBUTE" "Lorg/axiswarp/tree/NodeKind;" (.ref w_ATTRIBUTE)) (E_w_ATTRIBUTE : Exa Z h0 w_ATTRIBUTE "org/axiswarp/tree/NodeKind") (O_ATTRIBUTE : Fld Z h0 w_ATTRIBUTE "java/lang/Enum" "ordinal" "I" (.int 2)) (S_NAMESPACE : Sta Z h0 "org/axiswarp/tree/NodeKind" "NAMESPACE" "Lorg/axiswarp/tree/NodeKind;" (.ref w_NAMESPACE)) (E_w_NAMESPACE : Exa Z h0 w_NAMESPACE "org/axiswarp/tree/NodeKind") (O_NAMESPACE : Fld Z h0 w_NAMESPACE "java/lang/Enum" "ordinal" "I" (.int 3)) (S_TEXT : Sta Z h0 "org/axiswarp/tree/NodeKind" "TEXT" "Lorg/axiswarp/tree/NodeKind;" (.ref w_TEXT)) (E_w_TEXT : Exa Z h0 w_TEXT "org/axiswarp/tree/NodeKind") (O_TEXT : Fld Z h0 w_TEXT "java/lang/Enum" "ordinal" "I" (.int 4)) (S_COMMENT : Sta Z h0 "org/axiswarp/tree/NodeKind" "COMMENT" "Lorg/axiswarp/tree/NodeKind;" (.ref w_COMMENT)) (E_w_COMMENT : Exa Z h0 w_COMMENT "org/axiswarp/tree/NodeKind") (O_COMMENT : Fld Z h0 w_COMMENT "java/lang/Enum" "ordinal" "I" (.int 5)) (S_PROCESSING_INSTRUCTION : Sta Z h0 "org/axiswarp/tree/NodeKind" "PROCESSING_INSTRUCTION" "Lorg/axiswarp/tree/NodeKind;" (.ref w_PROCESSING_INSTRUCTION)) (E_w_PROCESSING_INSTRUCTION : Exa Z h0 w_PROCESSING_INSTRUCTION "org/axiswarp/tree/NodeKind") (O_PROCESSING_INSTRUCTION : Fld Z h0 w_PROCESSING_INSTRUCTION "java/lang/Enum" "ordinal" "I" (.int 6)) :
    MetFree l (⟨"org/axiswarp/tree/NodeKind", "isChild", "()Z"⟩ : MethodName) (head1 (Jvm.Cond.code (⟨"org/axiswarp/tree/NodeKind", "isChild", "()Z"⟩ : MethodName) prog_32_method_4_code 1 (some .boolean) :: ws) ({ frames := 0, cells := 0, slots := 0, locals := 0 } : Room)) (fun a U => a = #[(.ref w_ATTRIBUTE)] ∧ Z.Warmed39 U.vm ∧ U.heap = h0) (fun _ _ _ _ _ => True) (fun _ U o U' => ∃ v L, o = .returned v ∧ (Q2ATTRIBUTE Z w_DOCUMENT w_ELEMENT w_ATTRIBUTE w_NAMESPACE w_TEXT w_COMMENT w_PROCESSING_INSTRUCTION h0 n0) v U'.heap L ∧ FrameEnd U o U' L ({ frames := 0, cells := 0, slots := 0, locals := 0 } : Room).cells ({ frames := 0, cells := 0, slots := 0, locals := 0 } : Room).slots) := by
  refine MetFree.of_bodySF (plainFor_of_name pn_2) hisR ?_
  intro p e s m args below meth c s₁ Bd hml0 hP hK
  obtain ⟨rfl, hZ, hh⟩ := hP
  have hx := Bd.exec
  have hby := Bd.bytes
  have hlk : meth.locks = false := BodyLoose.notSynchronized Bd
  have hml : c.maxLocals = 1 := hml0
  have hown : s.vm.findClass "org/axiswarp/tree/NodeKind" = some m.cls := findClass_of_methodNamed Bd.named
  have hnm := (name_of_methodNamed Bd.named Bd.method).1
  have X0 : Stand p l e ({ frames := 0, cells := 0, slots := 0, locals := 0 } : Room) s m #[(.ref w_ATTRIBUTE)] below meth c s₁ [] 0 0 := Stand.of_body Bd
  have e0 : s₁.heap = h0 := by rw [← hh, Bd.state]; rfl
  have N := Fr.nil n0
  have Zs := Z0
  change OwnGo p.tables e below (OwnEnd s (Q2ATTRIBUTE Z w_DOCUMENT w_ELEMENT w_ATTRIBUTE w_NAMESPACE w_TEXT w_COMMENT w_PROCESSING_INSTRUCTION h0 n0) ({ frames := 0, cells := 0, slots := 0, locals := 0 } : Room).cells ({ frames := 0, cells := 0, slots := 0, locals := 0 } : Room).slots) _
  refine OwnGo.fwd (fun t k => castTop (ef_2ATTRIBUTE m w_ATTRIBUTE) k) ?_
  show OwnGo _ _ _ _ (s₁.setTop (mkF m 0 #[.val (.ref w_ATTRIBUTE)] []))
  have ne_DOCUMENT_ELEMENT : w_DOCUMENT ≠ w_ELEMENT := Fld.ne O_DOCUMENT O_ELEMENT (by decide)
  have ne_DOCUMENT_ATTRIBUTE : w_DOCUMENT ≠ w_ATTRIBUTE := Fld.ne O_DOCUMENT O_ATTRIBUTE (by decide)
  have ne_DOCUMENT_NAMESPACE : w_DOCUMENT ≠ w_NAMESPACE := Fld.ne O_DOCUMENT O_NAMESPACE (by decide)
  have ne_DOCUMENT_TEXT : w_DOCUMENT ≠ w_TEXT := Fld.ne O_DOCUMENT O_TEXT (by decide)
  have ne_DOCUMENT_COMMENT : w_DOCUMENT ≠ w_COMMENT := Fld.ne O_DOCUMENT O_COMMENT (by decide)
  have ne_DOCUMENT_PROCESSING_INSTRUCTION : w_DOCUMENT ≠ w_PROCESSING_INSTRUCTION := Fld.ne O_DOCUMENT O_PROCESSING_INSTRUCTION (by decide)
  have ne_ELEMENT_ATTRIBUTE : w_ELEMENT ≠ w_ATTRIBUTE := Fld.ne O_ELEMENT O_ATTRIBUTE (by decide)
  have ne_ELEMENT_NAMESPACE : w_ELEMENT ≠ w_NAMESPACE := Fld.ne O_ELEMENT O_NAMESPACE (by decide)
  have ne_ELEMENT_TEXT : w_ELEMENT ≠ w_TEXT := Fld.ne O_ELEMENT O_TEXT (by decide)
  have ne_ELEMENT_COMMENT : w_ELEMENT ≠ w_COMMENT := Fld.ne O_ELEMENT O_COMMENT (by decide)
  have ne_ELEMENT_PROCESSING_INSTRUCTION : w_ELEMENT ≠ w_PROCESSING_INSTRUCTION := Fld.ne O_ELEMENT O_PROCESSING_INSTRUCTION (by decide)
  have ne_ATTRIBUTE_NAMESPACE : w_ATTRIBUTE ≠ w_NAMESPACE := Fld.ne O_ATTRIBUTE O_NAMESPACE (by decide)
  have ne_ATTRIBUTE_TEXT : w_ATTRIBUTE ≠ w_TEXT := Fld.ne O_ATTRIBUTE O_TEXT (by decide)
  have ne_ATTRIBUTE_COMMENT : w_ATTRIBUTE ≠ w_COMMENT := Fld.ne O_ATTRIBUTE O_COMMENT (by decide)
  have ne_ATTRIBUTE_PROCESSING_INSTRUCTION : w_ATTRIBUTE ≠ w_PROCESSING_INSTRUCTION := Fld.ne O_ATTRIBUTE O_PROCESSING_INSTRUCTION (by decide)
  have ne_NAMESPACE_TEXT : w_NAMESPACE ≠ w_TEXT := Fld.ne O_NAMESPACE O_TEXT (by decide)
  have ne_NAMESPACE_COMMENT : w_NAMESPACE ≠ w_COMMENT := Fld.ne O_NAMESPACE O_COMMENT (by decide)
  have ne_NAMESPACE_PROCESSING_INSTRUCTION : w_NAMESPACE ≠ w_PROCESSING_INSTRUCTION := Fld.ne O_NAMESPACE O_PROCESSING_INSTRUCTION (by decide)
  have ne_TEXT_COMMENT : w_TEXT ≠ w_COMMENT := Fld.ne O_TEXT O_COMMENT (by decide)
  have ne_TEXT_PROCESSING_INSTRUCTION : w_TEXT ≠ w_PROCESSING_INSTRUCTION := Fld.ne O_TEXT O_PROCESSING_INSTRUCTION (by decide)
  have ne_COMMENT_PROCESSING_INSTRUCTION : w_COMMENT ≠ w_PROCESSING_INSTRUCTION := Fld.ne O_COMMENT O_PROCESSING_INSTRUCTION (by decide)
  refine OwnGo.fwd (fun t k => XS.aloadN X0.here hx rfl (hb hby d2_0) rfl rfl k) ?_
  show OwnGo _ _ _ _ (s₁.setTop (mkF m 1 #[.val (.ref w_ATTRIBUTE)] [(.ref w_ATTRIBUTE)]))
  obtain ⟨T1, X1, e1, st1⟩ := getS2 X0 hx hZ hown (host := "") (Or.inl (hw _ (List.mem_of_getElem? (i := 21) rfl))) Via.refl e0 S_DOCUMENT (g := (mkF m 1 #[.val (.ref w_ATTRIBUTE)] [(.ref w_ATTRIBUTE)])) rfl (hb hby d2_1)
  refine OwnGo.fwd st1 ?_
  show OwnGo _ _ _ _ (T1.setTop (mkF m 4 #[.val (.ref w_ATTRIBUTE)] [(.ref w_DOCUMENT), (.ref w_ATTRIBUTE)]))
  refine OwnGo.fwd (fun t k => Jvm.RoadKit.acmp (g := (mkF m 4 #[.val (.ref w_ATTRIBUTE)] [(.ref w_DOCUMENT), (.ref w_ATTRIBUTE)])) X1 hx rfl rfl rfl (pc0 := 4) (pc' := 7) (same := false) rfl (hb hby d2_4) rfl (decide_eq_false fun q => (Ne.symm ne_DOCUMENT_ATTRIBUTE) (Value.ref.inj q)) (by decide) (by decide) k) ?_
  show OwnGo _ _ _ _ (T1.setTop (mkF m 7 #[.val (.ref w_ATTRIBUTE)] []))
  refine OwnGo.fwd (fun t k => XS.aloadN X1.here hx rfl (hb hby d2_7) rfl rfl k) ?_
  show OwnGo _ _ _ _ (T1.setTop (mkF m 8 #[.val (.ref w_ATTRIBUTE)] [(.ref w_ATTRIBUTE)]))
  obtain ⟨T2, X2, e2, st2⟩ := getS2 X1 hx hZ hown (host := "") (Or.inl (hw _ (List.mem_of_getElem? (i := 24) rfl))) Via.refl e1 S_ATTRIBUTE (g := (mkF m 8 #[.val (.ref w_ATTRIBUTE)] [(.ref w_ATTRIBUTE)])) rfl (hb hby d2_8)
  refine OwnGo.fwd st2 ?_
  show OwnGo _ _ _ _ (T2.setTop (mkF m 11 #[.val (.ref w_ATTRIBUTE)] [(.ref w_ATTRIBUTE), (.ref w_ATTRIBUTE)]))
  refine OwnGo.fwd (fun t k => Jvm.RoadKit.acmp (g := (mkF m 11 #[.val (.ref w_ATTRIBUTE)] [(.ref w_ATTRIBUTE), (.ref w_ATTRIBUTE)])) X2 hx rfl rfl rfl (pc0 := 11) (pc' := 25) (same := true) rfl (hb hby d2_11) rfl (decide_eq_true rfl) (by decide) (by decide) k) ?_
  show OwnGo _ _ _ _ (T2.setTop (mkF m 25 #[.val (.ref w_ATTRIBUTE)] []))
  refine OwnGo.fwd (fun t k => XS.iconst X2.here hx rfl (hb hby d2_25) k) ?_
  show OwnGo _ _ _ _ (T2.setTop (mkF m 26 #[.val (.ref w_ATTRIBUTE)] [(.int (0 : Int32))]))
  exact own_retZ X2 hlk hx Bd.returns (hb hby d2_26) (by decide) (by decide) e2 ⟨rfl, N, rfl⟩
theorem ef_1NAMESPACE (m : MethodId) (x0 : Int32) : entryFrame m #[(.int x0)] 1 = mkF m 0 #[.val (.int x0)] [] := by first | (simp [entryFrame, mkF, argsToLocals, Value.category, maxLocals]; done) | rfl
def Q1NAMESPACE (Z : State) (w_DOCUMENT : Addr) (w_ELEMENT : Addr) (w_ATTRIBUTE : Addr) (w_NAMESPACE : Addr) (w_TEXT : Addr) (w_COMMENT : Addr) (w_PROCESSING_INSTRUCTION : Addr) (h0 : Heap) (n0 : Nat) (v : Option Value) (h : Heap) (L : List Loc) : Prop := v = some (.ref w_NAMESPACE) ∧ Fr n0 L ∧ h = h0
set_option maxRecDepth 65536 in
set_option maxHeartbeats 40000000 in
theorem rm1NAMESPACE (l : Launch) (Z : State) (a0 : Array Value) (hw : ∀ d ∈ tables_1, d.before a0 Z = true) (ws : List Jvm.Cond) (w_DOCUMENT : Addr) (w_ELEMENT : Addr) (w_ATTRIBUTE : Addr) (w_NAMESPACE : Addr) (w_TEXT : Addr) (w_COMMENT : Addr) (w_PROCESSING_INSTRUCTION : Addr) (h0 : Heap) (n0 : Nat) (Z0 : n0 ≤ h0.size) (S_DOCUMENT : Sta Z h0 "org/axiswarp/tree/NodeKind" "DOCUMENT" "Lorg/axiswarp/tree/NodeKind;" (.ref w_DOCUMENT)) (E_w_DOCUMENT : Exa Z h0 w_DOCUMENT "org/axiswarp/tree/NodeKind") (O_DOCUMENT : Fld Z h0 w_DOCUMENT "java/lang/Enum" "ordinal" "I" (.int 0)) (S_ELEMENT : Sta Z h0 "org/axiswarp/tree/NodeKind" "ELEMENT" "Lorg/axiswarp/tree/NodeKind;" (.ref w_ELEMENT)) (E_w_ELEMENT : Exa Z h0 w_ELEMENT "org/axiswarp/tree/NodeKind") (O_ELEMENT : Fld Z h0 w_ELEMENT "java/lang/Enum" "ordinal" "I" (.int 1)) (S_ATTRIBUTE : Sta Z h0 "org/axiswarp/tree/NodeKind" "ATTRIBUTE" "Lorg/axiswarp/tree/NodeKind;" (.ref w_ATTRIBUTE)) (E_w_ATTRIBUTE : Exa Z h0 w_ATTRIBUTE "org/axiswarp/tree/NodeKind") (O_ATTRIBUTE : Fld Z h0 w_ATTRIBUTE "java/lang/Enum" "ordinal" "I" (.int 2)) (S_NAMESPACE : Sta Z h0 "org/axiswarp/tree/NodeKind" "NAMESPACE" "Lorg/axiswarp/tree/NodeKind;" (.ref w_NAMESPACE)) (E_w_NAMESPACE : Exa Z h0 w_NAMESPACE "org/axiswarp/tree/NodeKind") (O_NAMESPACE : Fld Z h0 w_NAMESPACE "java/lang/Enum" "ordinal" "I" (.int 3)) (S_TEXT : Sta Z h0 "org/axiswarp/tree/NodeKind" "TEXT" "Lorg/axiswarp/tree/NodeKind;" (.ref w_TEXT)) (E_w_TEXT : Exa Z h0 w_TEXT "org/axiswarp/tree/NodeKind") (O_TEXT : Fld Z h0 w_TEXT "java/lang/Enum" "ordinal" "I" (.int 4)) (S_COMMENT : Sta Z h0 "org/axiswarp/tree/NodeKind" "COMMENT" "Lorg/axiswarp/tree/NodeKind;" (.ref w_COMMENT)) (E_w_COMMENT : Exa Z h0 w_COMMENT "org/axiswarp/tree/NodeKind") (O_COMMENT : Fld Z h0 w_COMMENT "java/lang/Enum" "ordinal" "I" (.int 5)) (S_PROCESSING_INSTRUCTION : Sta Z h0 "org/axiswarp/tree/NodeKind" "PROCESSING_INSTRUCTION" "Lorg/axiswarp/tree/NodeKind;" (.ref w_PROCESSING_INSTRUCTION)) (E_w_PROCESSING_INSTRUCTION : Exa Z h0 w_PROCESSING_INSTRUCTION "org/axiswarp/tree/NodeKind") (O_PROCESSING_INSTRUCTION : Fld Z h0 w_PROCESSING_INSTRUCTION "java/lang/Enum" "ordinal" "I" (.int 6)) :
    MetFree l (⟨"org/axiswarp/tree/NodeKindIsChildPinLaw", "pick", "(I)Lorg/axiswarp/tree/NodeKind;"⟩ : MethodName) (head1 (Jvm.Cond.code (⟨"org/axiswarp/tree/NodeKindIsChildPinLaw", "pick", "(I)Lorg/axiswarp/tree/NodeKind;"⟩ : MethodName) method_3_code 1 (some (.object "org/axiswarp/tree/NodeKind")) :: ws) ({ frames := 0, cells := 0, slots := 0, locals := 0 } : Room)) (fun a U => a = #[(.int (3 : Int32))] ∧ Z.Warmed39 U.vm ∧ U.heap = h0) (fun _ _ _ _ _ => True) (fun _ U o U' => ∃ v L, o = .returned v ∧ (Q1NAMESPACE Z w_DOCUMENT w_ELEMENT w_ATTRIBUTE w_NAMESPACE w_TEXT w_COMMENT w_PROCESSING_INSTRUCTION h0 n0) v U'.heap L ∧ FrameEnd U o U' L ({ frames := 0, cells := 0, slots := 0, locals := 0 } : Room).cells ({ frames := 0, cells := 0, slots := 0, locals := 0 } : Room).slots) := by
  refine MetFree.of_bodySF (plainFor_of_name pn_1) hisR ?_
  intro p e s m args below meth c s₁ Bd hml0 hP hK
  obtain ⟨rfl, hZ, hh⟩ := hP
  have hx := Bd.exec
  have hby := Bd.bytes
  have hlk : meth.locks = false := BodyLoose.notSynchronized Bd
  have hml : c.maxLocals = 1 := hml0
  have hown : s.vm.findClass "org/axiswarp/tree/NodeKindIsChildPinLaw" = some m.cls := findClass_of_methodNamed Bd.named
  have hnm := (name_of_methodNamed Bd.named Bd.method).1
  have X0 : Stand p l e ({ frames := 0, cells := 0, slots := 0, locals := 0 } : Room) s m #[(.int (3 : Int32))] below meth c s₁ [] 0 0 := Stand.of_body Bd
  have e0 : s₁.heap = h0 := by rw [← hh, Bd.state]; rfl
  have N := Fr.nil n0
  have Zs := Z0
  change OwnGo p.tables e below (OwnEnd s (Q1NAMESPACE Z w_DOCUMENT w_ELEMENT w_ATTRIBUTE w_NAMESPACE w_TEXT w_COMMENT w_PROCESSING_INSTRUCTION h0 n0) ({ frames := 0, cells := 0, slots := 0, locals := 0 } : Room).cells ({ frames := 0, cells := 0, slots := 0, locals := 0 } : Room).slots) _
  refine OwnGo.fwd (fun t k => castTop (ef_1NAMESPACE m (3 : Int32)) k) ?_
  show OwnGo _ _ _ _ (s₁.setTop (mkF m 0 #[.val (.int (3 : Int32))] []))
  refine OwnGo.fwd (fun t k => XS.iloadN X0.here hx rfl (hb hby d1_0) rfl k) ?_
  show OwnGo _ _ _ _ (s₁.setTop (mkF m 1 #[.val (.int (3 : Int32))] [(.int (3 : Int32))]))
  have hc1_1 : ¬ ((3 : Int) = (0 : Int)) := by decide
  refine OwnGo.fwd (fun t k => XS.ifYes X0.here hx rfl (pc0 := 1) (pc' := 8) rfl (hb hby d1_1) rfl ((if0 _ _).trans (own_bneq (by decide) (by decide) hc1_1).2) (by decide) (by decide) k) ?_
  show OwnGo _ _ _ _ (s₁.setTop (mkF m 8 #[.val (.int (3 : Int32))] []))
  refine OwnGo.fwd (fun t k => XS.iloadN X0.here hx rfl (hb hby d1_8) rfl k) ?_
  show OwnGo _ _ _ _ (s₁.setTop (mkF m 9 #[.val (.int (3 : Int32))] [(.int (3 : Int32))]))
  refine OwnGo.fwd (fun t k => XS.iconst X0.here hx rfl (hb hby d1_9) k) ?_
  show OwnGo _ _ _ _ (s₁.setTop (mkF m 10 #[.val (.int (3 : Int32))] [(.int (1 : Int32)), (.int (3 : Int32))]))
  have hc10_2 : ¬ ((3 : Int) = (1 : Int)) := by decide
  refine OwnGo.fwd (fun t k => XS.icmpYes X0.here hx rfl (pc0 := 10) (pc' := 17) rfl (hb hby d1_10) rfl (own_bneq (by decide) (by decide) hc10_2).2 (by decide) (by decide) k) ?_
  show OwnGo _ _ _ _ (s₁.setTop (mkF m 17 #[.val (.int (3 : Int32))] []))
  refine OwnGo.fwd (fun t k => XS.iloadN X0.here hx rfl (hb hby d1_17) rfl k) ?_
  show OwnGo _ _ _ _ (s₁.setTop (mkF m 18 #[.val (.int (3 : Int32))] [(.int (3 : Int32))]))
  refine OwnGo.fwd (fun t k => XS.iconst X0.here hx rfl (hb hby d1_18) k) ?_
  show OwnGo _ _ _ _ (s₁.setTop (mkF m 19 #[.val (.int (3 : Int32))] [(.int (2 : Int32)), (.int (3 : Int32))]))
  have hc19_3 : ¬ ((3 : Int) = (2 : Int)) := by decide
  refine OwnGo.fwd (fun t k => XS.icmpYes X0.here hx rfl (pc0 := 19) (pc' := 26) rfl (hb hby d1_19) rfl (own_bneq (by decide) (by decide) hc19_3).2 (by decide) (by decide) k) ?_
  show OwnGo _ _ _ _ (s₁.setTop (mkF m 26 #[.val (.int (3 : Int32))] []))
  refine OwnGo.fwd (fun t k => XS.iloadN X0.here hx rfl (hb hby d1_26) rfl k) ?_
  show OwnGo _ _ _ _ (s₁.setTop (mkF m 27 #[.val (.int (3 : Int32))] [(.int (3 : Int32))]))
  refine OwnGo.fwd (fun t k => XS.iconst X0.here hx rfl (hb hby d1_27) k) ?_
  show OwnGo _ _ _ _ (s₁.setTop (mkF m 28 #[.val (.int (3 : Int32))] [(.int (3 : Int32)), (.int (3 : Int32))]))
  have hc28_4 : (3 : Int) = (3 : Int) := rfl
  refine OwnGo.fwd (fun t k => XS.icmpNo X0.here hx rfl (hb hby d1_28) rfl (own_beq (by decide) (by decide) hc28_4).2 k) ?_
  show OwnGo _ _ _ _ (s₁.setTop (mkF m 31 #[.val (.int (3 : Int32))] []))
  obtain ⟨T5, X5, e5, st5⟩ := getS2 X0 hx hZ hown (host := "") (Or.inl (hw _ (List.mem_of_getElem? (i := 22) rfl))) Via.refl e0 S_NAMESPACE (g := (mkF m 31 #[.val (.int (3 : Int32))] [])) rfl (hb hby d1_31)
  refine OwnGo.fwd st5 ?_
  show OwnGo _ _ _ _ (T5.setTop (mkF m 34 #[.val (.int (3 : Int32))] [(.ref w_NAMESPACE)]))
  exact own_retA X5 hlk hx Bd.returns rfl rfl (hb hby d1_34) (by decide) (by decide) e5 ⟨rfl, N, rfl⟩
theorem ef_2NAMESPACE (m : MethodId) (x0 : Addr) : entryFrame m #[(.ref x0)] 1 = mkF m 0 #[.val (.ref x0)] [] := by first | (simp [entryFrame, mkF, argsToLocals, Value.category, maxLocals]; done) | rfl
def Q2NAMESPACE (Z : State) (w_DOCUMENT : Addr) (w_ELEMENT : Addr) (w_ATTRIBUTE : Addr) (w_NAMESPACE : Addr) (w_TEXT : Addr) (w_COMMENT : Addr) (w_PROCESSING_INSTRUCTION : Addr) (h0 : Heap) (n0 : Nat) (v : Option Value) (h : Heap) (L : List Loc) : Prop := v = some (.int 0) ∧ Fr n0 L ∧ h = h0
set_option maxRecDepth 65536 in
set_option maxHeartbeats 40000000 in
theorem rm2NAMESPACE (l : Launch) (Z : State) (a0 : Array Value) (hw : ∀ d ∈ tables_1, d.before a0 Z = true) (ws : List Jvm.Cond) (w_DOCUMENT : Addr) (w_ELEMENT : Addr) (w_ATTRIBUTE : Addr) (w_NAMESPACE : Addr) (w_TEXT : Addr) (w_COMMENT : Addr) (w_PROCESSING_INSTRUCTION : Addr) (h0 : Heap) (n0 : Nat) (Z0 : n0 ≤ h0.size) (S_DOCUMENT : Sta Z h0 "org/axiswarp/tree/NodeKind" "DOCUMENT" "Lorg/axiswarp/tree/NodeKind;" (.ref w_DOCUMENT)) (E_w_DOCUMENT : Exa Z h0 w_DOCUMENT "org/axiswarp/tree/NodeKind") (O_DOCUMENT : Fld Z h0 w_DOCUMENT "java/lang/Enum" "ordinal" "I" (.int 0)) (S_ELEMENT : Sta Z h0 "org/axiswarp/tree/NodeKind" "ELEMENT" "Lorg/axiswarp/tree/NodeKind;" (.ref w_ELEMENT)) (E_w_ELEMENT : Exa Z h0 w_ELEMENT "org/axiswarp/tree/NodeKind") (O_ELEMENT : Fld Z h0 w_ELEMENT "java/lang/Enum" "ordinal" "I" (.int 1)) (S_ATTRIBUTE : Sta Z h0 "org/axiswarp/tree/NodeKind" "ATTRIBUTE" "Lorg/axiswarp/tree/NodeKind;" (.ref w_ATTRIBUTE)) (E_w_ATTRIBUTE : Exa Z h0 w_ATTRIBUTE "org/axiswarp/tree/NodeKind") (O_ATTRIBUTE : Fld Z h0 w_ATTRIBUTE "java/lang/Enum" "ordinal" "I" (.int 2)) (S_NAMESPACE : Sta Z h0 "org/axiswarp/tree/NodeKind" "NAMESPACE" "Lorg/axiswarp/tree/NodeKind;" (.ref w_NAMESPACE)) (E_w_NAMESPACE : Exa Z h0 w_NAMESPACE "org/axiswarp/tree/NodeKind") (O_NAMESPACE : Fld Z h0 w_NAMESPACE "java/lang/Enum" "ordinal" "I" (.int 3)) (S_TEXT : Sta Z h0 "org/axiswarp/tree/NodeKind" "TEXT" "Lorg/axiswarp/tree/NodeKind;" (.ref w_TEXT)) (E_w_TEXT : Exa Z h0 w_TEXT "org/axiswarp/tree/NodeKind") (O_TEXT : Fld Z h0 w_TEXT "java/lang/Enum" "ordinal" "I" (.int 4)) (S_COMMENT : Sta Z h0 "org/axiswarp/tree/NodeKind" "COMMENT" "Lorg/axiswarp/tree/NodeKind;" (.ref w_COMMENT)) (E_w_COMMENT : Exa Z h0 w_COMMENT "org/axiswarp/tree/NodeKind") (O_COMMENT : Fld Z h0 w_COMMENT "java/lang/Enum" "ordinal" "I" (.int 5)) (S_PROCESSING_INSTRUCTION : Sta Z h0 "org/axiswarp/tree/NodeKind" "PROCESSING_INSTRUCTION" "Lorg/axiswarp/tree/NodeKind;" (.ref w_PROCESSING_INSTRUCTION)) (E_w_PROCESSING_INSTRUCTION : Exa Z h0 w_PROCESSING_INSTRUCTION "org/axiswarp/tree/NodeKind") (O_PROCESSING_INSTRUCTION : Fld Z h0 w_PROCESSING_INSTRUCTION "java/lang/Enum" "ordinal" "I" (.int 6)) :
    MetFree l (⟨"org/axiswarp/tree/NodeKind", "isChild", "()Z"⟩ : MethodName) (head1 (Jvm.Cond.code (⟨"org/axiswarp/tree/NodeKind", "isChild", "()Z"⟩ : MethodName) prog_32_method_4_code 1 (some .boolean) :: ws) ({ frames := 0, cells := 0, slots := 0, locals := 0 } : Room)) (fun a U => a = #[(.ref w_NAMESPACE)] ∧ Z.Warmed39 U.vm ∧ U.heap = h0) (fun _ _ _ _ _ => True) (fun _ U o U' => ∃ v L, o = .returned v ∧ (Q2NAMESPACE Z w_DOCUMENT w_ELEMENT w_ATTRIBUTE w_NAMESPACE w_TEXT w_COMMENT w_PROCESSING_INSTRUCTION h0 n0) v U'.heap L ∧ FrameEnd U o U' L ({ frames := 0, cells := 0, slots := 0, locals := 0 } : Room).cells ({ frames := 0, cells := 0, slots := 0, locals := 0 } : Room).slots) := by
  refine MetFree.of_bodySF (plainFor_of_name pn_2) hisR ?_
  intro p e s m args below meth c s₁ Bd hml0 hP hK
  obtain ⟨rfl, hZ, hh⟩ := hP
  have hx := Bd.exec
  have hby := Bd.bytes
  have hlk : meth.locks = false := BodyLoose.notSynchronized Bd
  have hml : c.maxLocals = 1 := hml0
  have hown : s.vm.findClass "org/axiswarp/tree/NodeKind" = some m.cls := findClass_of_methodNamed Bd.named
  have hnm := (name_of_methodNamed Bd.named Bd.method).1
  have X0 : Stand p l e ({ frames := 0, cells := 0, slots := 0, locals := 0 } : Room) s m #[(.ref w_NAMESPACE)] below meth c s₁ [] 0 0 := Stand.of_body Bd
  have e0 : s₁.heap = h0 := by rw [← hh, Bd.state]; rfl
  have N := Fr.nil n0
  have Zs := Z0
  change OwnGo p.tables e below (OwnEnd s (Q2NAMESPACE Z w_DOCUMENT w_ELEMENT w_ATTRIBUTE w_NAMESPACE w_TEXT w_COMMENT w_PROCESSING_INSTRUCTION h0 n0) ({ frames := 0, cells := 0, slots := 0, locals := 0 } : Room).cells ({ frames := 0, cells := 0, slots := 0, locals := 0 } : Room).slots) _
  refine OwnGo.fwd (fun t k => castTop (ef_2NAMESPACE m w_NAMESPACE) k) ?_
  show OwnGo _ _ _ _ (s₁.setTop (mkF m 0 #[.val (.ref w_NAMESPACE)] []))
  have ne_DOCUMENT_ELEMENT : w_DOCUMENT ≠ w_ELEMENT := Fld.ne O_DOCUMENT O_ELEMENT (by decide)
  have ne_DOCUMENT_ATTRIBUTE : w_DOCUMENT ≠ w_ATTRIBUTE := Fld.ne O_DOCUMENT O_ATTRIBUTE (by decide)
  have ne_DOCUMENT_NAMESPACE : w_DOCUMENT ≠ w_NAMESPACE := Fld.ne O_DOCUMENT O_NAMESPACE (by decide)
  have ne_DOCUMENT_TEXT : w_DOCUMENT ≠ w_TEXT := Fld.ne O_DOCUMENT O_TEXT (by decide)
  have ne_DOCUMENT_COMMENT : w_DOCUMENT ≠ w_COMMENT := Fld.ne O_DOCUMENT O_COMMENT (by decide)
  have ne_DOCUMENT_PROCESSING_INSTRUCTION : w_DOCUMENT ≠ w_PROCESSING_INSTRUCTION := Fld.ne O_DOCUMENT O_PROCESSING_INSTRUCTION (by decide)
  have ne_ELEMENT_ATTRIBUTE : w_ELEMENT ≠ w_ATTRIBUTE := Fld.ne O_ELEMENT O_ATTRIBUTE (by decide)
  have ne_ELEMENT_NAMESPACE : w_ELEMENT ≠ w_NAMESPACE := Fld.ne O_ELEMENT O_NAMESPACE (by decide)
  have ne_ELEMENT_TEXT : w_ELEMENT ≠ w_TEXT := Fld.ne O_ELEMENT O_TEXT (by decide)
  have ne_ELEMENT_COMMENT : w_ELEMENT ≠ w_COMMENT := Fld.ne O_ELEMENT O_COMMENT (by decide)
  have ne_ELEMENT_PROCESSING_INSTRUCTION : w_ELEMENT ≠ w_PROCESSING_INSTRUCTION := Fld.ne O_ELEMENT O_PROCESSING_INSTRUCTION (by decide)
  have ne_ATTRIBUTE_NAMESPACE : w_ATTRIBUTE ≠ w_NAMESPACE := Fld.ne O_ATTRIBUTE O_NAMESPACE (by decide)
  have ne_ATTRIBUTE_TEXT : w_ATTRIBUTE ≠ w_TEXT := Fld.ne O_ATTRIBUTE O_TEXT (by decide)
  have ne_ATTRIBUTE_COMMENT : w_ATTRIBUTE ≠ w_COMMENT := Fld.ne O_ATTRIBUTE O_COMMENT (by decide)
  have ne_ATTRIBUTE_PROCESSING_INSTRUCTION : w_ATTRIBUTE ≠ w_PROCESSING_INSTRUCTION := Fld.ne O_ATTRIBUTE O_PROCESSING_INSTRUCTION (by decide)
  have ne_NAMESPACE_TEXT : w_NAMESPACE ≠ w_TEXT := Fld.ne O_NAMESPACE O_TEXT (by decide)
  have ne_NAMESPACE_COMMENT : w_NAMESPACE ≠ w_COMMENT := Fld.ne O_NAMESPACE O_COMMENT (by decide)
  have ne_NAMESPACE_PROCESSING_INSTRUCTION : w_NAMESPACE ≠ w_PROCESSING_INSTRUCTION := Fld.ne O_NAMESPACE O_PROCESSING_INSTRUCTION (by decide)
  have ne_TEXT_COMMENT : w_TEXT ≠ w_COMMENT := Fld.ne O_TEXT O_COMMENT (by decide)
  have ne_TEXT_PROCESSING_INSTRUCTION : w_TEXT ≠ w_PROCESSING_INSTRUCTION := Fld.ne O_TEXT O_PROCESSING_INSTRUCTION (by decide)
  have ne_COMMENT_PROCESSING_INSTRUCTION : w_COMMENT ≠ w_PROCESSING_INSTRUCTION := Fld.ne O_COMMENT O_PROCESSING_INSTRUCTION (by decide)
  refine OwnGo.fwd (fun t k => XS.aloadN X0.here hx rfl (hb hby d2_0) rfl rfl k) ?_
  show OwnGo _ _ _ _ (s₁.setTop (mkF m 1 #[.val (.ref w_NAMESPACE)] [(.ref w_NAMESPACE)]))
  obtain ⟨T1, X1, e1, st1⟩ := getS2 X0 hx hZ hown (host := "") (Or.inl (hw _ (List.mem_of_getElem? (i := 21) rfl))) Via.refl e0 S_DOCUMENT (g := (mkF m 1 #[.val (.ref w_NAMESPACE)] [(.ref w_NAMESPACE)])) rfl (hb hby d2_1)
  refine OwnGo.fwd st1 ?_
  show OwnGo _ _ _ _ (T1.setTop (mkF m 4 #[.val (.ref w_NAMESPACE)] [(.ref w_DOCUMENT), (.ref w_NAMESPACE)]))
  refine OwnGo.fwd (fun t k => Jvm.RoadKit.acmp (g := (mkF m 4 #[.val (.ref w_NAMESPACE)] [(.ref w_DOCUMENT), (.ref w_NAMESPACE)])) X1 hx rfl rfl rfl (pc0 := 4) (pc' := 7) (same := false) rfl (hb hby d2_4) rfl (decide_eq_false fun q => (Ne.symm ne_DOCUMENT_NAMESPACE) (Value.ref.inj q)) (by decide) (by decide) k) ?_
  show OwnGo _ _ _ _ (T1.setTop (mkF m 7 #[.val (.ref w_NAMESPACE)] []))
  refine OwnGo.fwd (fun t k => XS.aloadN X1.here hx rfl (hb hby d2_7) rfl rfl k) ?_
  show OwnGo _ _ _ _ (T1.setTop (mkF m 8 #[.val (.ref w_NAMESPACE)] [(.ref w_NAMESPACE)]))
  obtain ⟨T2, X2, e2, st2⟩ := getS2 X1 hx hZ hown (host := "") (Or.inl (hw _ (List.mem_of_getElem? (i := 24) rfl))) Via.refl e1 S_ATTRIBUTE (g := (mkF m 8 #[.val (.ref w_NAMESPACE)] [(.ref w_NAMESPACE)])) rfl (hb hby d2_8)
  refine OwnGo.fwd st2 ?_
  show OwnGo _ _ _ _ (T2.setTop (mkF m 11 #[.val (.ref w_NAMESPACE)] [(.ref w_ATTRIBUTE), (.ref w_NAMESPACE)]))
  refine OwnGo.fwd (fun t k => Jvm.RoadKit.acmp (g := (mkF m 11 #[.val (.ref w_NAMESPACE)] [(.ref w_ATTRIBUTE), (.ref w_NAMESPACE)])) X2 hx rfl rfl rfl (pc0 := 11) (pc' := 14) (same := false) rfl (hb hby d2_11) rfl (decide_eq_false fun q => (Ne.symm ne_ATTRIBUTE_NAMESPACE) (Value.ref.inj q)) (by decide) (by decide) k) ?_
  show OwnGo _ _ _ _ (T2.setTop (mkF m 14 #[.val (.ref w_NAMESPACE)] []))
  refine OwnGo.fwd (fun t k => XS.aloadN X2.here hx rfl (hb hby d2_14) rfl rfl k) ?_
  show OwnGo _ _ _ _ (T2.setTop (mkF m 15 #[.val (.ref w_NAMESPACE)] [(.ref w_NAMESPACE)]))
  obtain ⟨T3, X3, e3, st3⟩ := getS2 X2 hx hZ hown (host := "") (Or.inl (hw _ (List.mem_of_getElem? (i := 26) rfl))) Via.refl e2 S_NAMESPACE (g := (mkF m 15 #[.val (.ref w_NAMESPACE)] [(.ref w_NAMESPACE)])) rfl (hb hby d2_15)
  refine OwnGo.fwd st3 ?_
  show OwnGo _ _ _ _ (T3.setTop (mkF m 18 #[.val (.ref w_NAMESPACE)] [(.ref w_NAMESPACE), (.ref w_NAMESPACE)]))
  refine OwnGo.fwd (fun t k => Jvm.RoadKit.acmp (g := (mkF m 18 #[.val (.ref w_NAMESPACE)] [(.ref w_NAMESPACE), (.ref w_NAMESPACE)])) X3 hx rfl rfl rfl (pc0 := 18) (pc' := 25) (same := true) rfl (hb hby d2_18) rfl (decide_eq_true rfl) (by decide) (by decide) k) ?_
  show OwnGo _ _ _ _ (T3.setTop (mkF m 25 #[.val (.ref w_NAMESPACE)] []))
  refine OwnGo.fwd (fun t k => XS.iconst X3.here hx rfl (hb hby d2_25) k) ?_
  show OwnGo _ _ _ _ (T3.setTop (mkF m 26 #[.val (.ref w_NAMESPACE)] [(.int (0 : Int32))]))
  exact own_retZ X3 hlk hx Bd.returns (hb hby d2_26) (by decide) (by decide) e3 ⟨rfl, N, rfl⟩
theorem ef_1TEXT (m : MethodId) (x0 : Int32) : entryFrame m #[(.int x0)] 1 = mkF m 0 #[.val (.int x0)] [] := by first | (simp [entryFrame, mkF, argsToLocals, Value.category, maxLocals]; done) | rfl
def Q1TEXT (Z : State) (w_DOCUMENT : Addr) (w_ELEMENT : Addr) (w_ATTRIBUTE : Addr) (w_NAMESPACE : Addr) (w_TEXT : Addr) (w_COMMENT : Addr) (w_PROCESSING_INSTRUCTION : Addr) (h0 : Heap) (n0 : Nat) (v : Option Value) (h : Heap) (L : List Loc) : Prop := v = some (.ref w_TEXT) ∧ Fr n0 L ∧ h = h0
set_option maxRecDepth 65536 in
set_option maxHeartbeats 40000000 in
theorem rm1TEXT (l : Launch) (Z : State) (a0 : Array Value) (hw : ∀ d ∈ tables_1, d.before a0 Z = true) (ws : List Jvm.Cond) (w_DOCUMENT : Addr) (w_ELEMENT : Addr) (w_ATTRIBUTE : Addr) (w_NAMESPACE : Addr) (w_TEXT : Addr) (w_COMMENT : Addr) (w_PROCESSING_INSTRUCTION : Addr) (h0 : Heap) (n0 : Nat) (Z0 : n0 ≤ h0.size) (S_DOCUMENT : Sta Z h0 "org/axiswarp/tree/NodeKind" "DOCUMENT" "Lorg/axiswarp/tree/NodeKind;" (.ref w_DOCUMENT)) (E_w_DOCUMENT : Exa Z h0 w_DOCUMENT "org/axiswarp/tree/NodeKind") (O_DOCUMENT : Fld Z h0 w_DOCUMENT "java/lang/Enum" "ordinal" "I" (.int 0)) (S_ELEMENT : Sta Z h0 "org/axiswarp/tree/NodeKind" "ELEMENT" "Lorg/axiswarp/tree/NodeKind;" (.ref w_ELEMENT)) (E_w_ELEMENT : Exa Z h0 w_ELEMENT "org/axiswarp/tree/NodeKind") (O_ELEMENT : Fld Z h0 w_ELEMENT "java/lang/Enum" "ordinal" "I" (.int 1)) (S_ATTRIBUTE : Sta Z h0 "org/axiswarp/tree/NodeKind" "ATTRIBUTE" "Lorg/axiswarp/tree/NodeKind;" (.ref w_ATTRIBUTE)) (E_w_ATTRIBUTE : Exa Z h0 w_ATTRIBUTE "org/axiswarp/tree/NodeKind") (O_ATTRIBUTE : Fld Z h0 w_ATTRIBUTE "java/lang/Enum" "ordinal" "I" (.int 2)) (S_NAMESPACE : Sta Z h0 "org/axiswarp/tree/NodeKind" "NAMESPACE" "Lorg/axiswarp/tree/NodeKind;" (.ref w_NAMESPACE)) (E_w_NAMESPACE : Exa Z h0 w_NAMESPACE "org/axiswarp/tree/NodeKind") (O_NAMESPACE : Fld Z h0 w_NAMESPACE "java/lang/Enum" "ordinal" "I" (.int 3)) (S_TEXT : Sta Z h0 "org/axiswarp/tree/NodeKind" "TEXT" "Lorg/axiswarp/tree/NodeKind;" (.ref w_TEXT)) (E_w_TEXT : Exa Z h0 w_TEXT "org/axiswarp/tree/NodeKind") (O_TEXT : Fld Z h0 w_TEXT "java/lang/Enum" "ordinal" "I" (.int 4)) (S_COMMENT : Sta Z h0 "org/axiswarp/tree/NodeKind" "COMMENT" "Lorg/axiswarp/tree/NodeKind;" (.ref w_COMMENT)) (E_w_COMMENT : Exa Z h0 w_COMMENT "org/axiswarp/tree/NodeKind") (O_COMMENT : Fld Z h0 w_COMMENT "java/lang/Enum" "ordinal" "I" (.int 5)) (S_PROCESSING_INSTRUCTION : Sta Z h0 "org/axiswarp/tree/NodeKind" "PROCESSING_INSTRUCTION" "Lorg/axiswarp/tree/NodeKind;" (.ref w_PROCESSING_INSTRUCTION)) (E_w_PROCESSING_INSTRUCTION : Exa Z h0 w_PROCESSING_INSTRUCTION "org/axiswarp/tree/NodeKind") (O_PROCESSING_INSTRUCTION : Fld Z h0 w_PROCESSING_INSTRUCTION "java/lang/Enum" "ordinal" "I" (.int 6)) :
    MetFree l (⟨"org/axiswarp/tree/NodeKindIsChildPinLaw", "pick", "(I)Lorg/axiswarp/tree/NodeKind;"⟩ : MethodName) (head1 (Jvm.Cond.code (⟨"org/axiswarp/tree/NodeKindIsChildPinLaw", "pick", "(I)Lorg/axiswarp/tree/NodeKind;"⟩ : MethodName) method_3_code 1 (some (.object "org/axiswarp/tree/NodeKind")) :: ws) ({ frames := 0, cells := 0, slots := 0, locals := 0 } : Room)) (fun a U => a = #[(.int (4 : Int32))] ∧ Z.Warmed39 U.vm ∧ U.heap = h0) (fun _ _ _ _ _ => True) (fun _ U o U' => ∃ v L, o = .returned v ∧ (Q1TEXT Z w_DOCUMENT w_ELEMENT w_ATTRIBUTE w_NAMESPACE w_TEXT w_COMMENT w_PROCESSING_INSTRUCTION h0 n0) v U'.heap L ∧ FrameEnd U o U' L ({ frames := 0, cells := 0, slots := 0, locals := 0 } : Room).cells ({ frames := 0, cells := 0, slots := 0, locals := 0 } : Room).slots) := by
  refine MetFree.of_bodySF (plainFor_of_name pn_1) hisR ?_
  intro p e s m args below meth c s₁ Bd hml0 hP hK
  obtain ⟨rfl, hZ, hh⟩ := hP
  have hx := Bd.exec
  have hby := Bd.bytes
  have hlk : meth.locks = false := BodyLoose.notSynchronized Bd
  have hml : c.maxLocals = 1 := hml0
  have hown : s.vm.findClass "org/axiswarp/tree/NodeKindIsChildPinLaw" = some m.cls := findClass_of_methodNamed Bd.named
  have hnm := (name_of_methodNamed Bd.named Bd.method).1
  have X0 : Stand p l e ({ frames := 0, cells := 0, slots := 0, locals := 0 } : Room) s m #[(.int (4 : Int32))] below meth c s₁ [] 0 0 := Stand.of_body Bd
  have e0 : s₁.heap = h0 := by rw [← hh, Bd.state]; rfl
  have N := Fr.nil n0
  have Zs := Z0
  change OwnGo p.tables e below (OwnEnd s (Q1TEXT Z w_DOCUMENT w_ELEMENT w_ATTRIBUTE w_NAMESPACE w_TEXT w_COMMENT w_PROCESSING_INSTRUCTION h0 n0) ({ frames := 0, cells := 0, slots := 0, locals := 0 } : Room).cells ({ frames := 0, cells := 0, slots := 0, locals := 0 } : Room).slots) _
  refine OwnGo.fwd (fun t k => castTop (ef_1TEXT m (4 : Int32)) k) ?_
  show OwnGo _ _ _ _ (s₁.setTop (mkF m 0 #[.val (.int (4 : Int32))] []))
  refine OwnGo.fwd (fun t k => XS.iloadN X0.here hx rfl (hb hby d1_0) rfl k) ?_
  show OwnGo _ _ _ _ (s₁.setTop (mkF m 1 #[.val (.int (4 : Int32))] [(.int (4 : Int32))]))
  have hc1_1 : ¬ ((4 : Int) = (0 : Int)) := by decide
  refine OwnGo.fwd (fun t k => XS.ifYes X0.here hx rfl (pc0 := 1) (pc' := 8) rfl (hb hby d1_1) rfl ((if0 _ _).trans (own_bneq (by decide) (by decide) hc1_1).2) (by decide) (by decide) k) ?_
  show OwnGo _ _ _ _ (s₁.setTop (mkF m 8 #[.val (.int (4 : Int32))] []))
  refine OwnGo.fwd (fun t k => XS.iloadN X0.here hx rfl (hb hby d1_8) rfl k) ?_
  show OwnGo _ _ _ _ (s₁.setTop (mkF m 9 #[.val (.int (4 : Int32))] [(.int (4 : Int32))]))
  refine OwnGo.fwd (fun t k => XS.iconst X0.here hx rfl (hb hby d1_9) k) ?_
  show OwnGo _ _ _ _ (s₁.setTop (mkF m 10 #[.val (.int (4 : Int32))] [(.int (1 : Int32)), (.int (4 : Int32))]))
  have hc10_2 : ¬ ((4 : Int) = (1 : Int)) := by decide
  refine OwnGo.fwd (fun t k => XS.icmpYes X0.here hx rfl (pc0 := 10) (pc' := 17) rfl (hb hby d1_10) rfl (own_bneq (by decide) (by decide) hc10_2).2 (by decide) (by decide) k) ?_
  show OwnGo _ _ _ _ (s₁.setTop (mkF m 17 #[.val (.int (4 : Int32))] []))
  refine OwnGo.fwd (fun t k => XS.iloadN X0.here hx rfl (hb hby d1_17) rfl k) ?_
  show OwnGo _ _ _ _ (s₁.setTop (mkF m 18 #[.val (.int (4 : Int32))] [(.int (4 : Int32))]))
  refine OwnGo.fwd (fun t k => XS.iconst X0.here hx rfl (hb hby d1_18) k) ?_
  show OwnGo _ _ _ _ (s₁.setTop (mkF m 19 #[.val (.int (4 : Int32))] [(.int (2 : Int32)), (.int (4 : Int32))]))
  have hc19_3 : ¬ ((4 : Int) = (2 : Int)) := by decide
  refine OwnGo.fwd (fun t k => XS.icmpYes X0.here hx rfl (pc0 := 19) (pc' := 26) rfl (hb hby d1_19) rfl (own_bneq (by decide) (by decide) hc19_3).2 (by decide) (by decide) k) ?_
  show OwnGo _ _ _ _ (s₁.setTop (mkF m 26 #[.val (.int (4 : Int32))] []))
  refine OwnGo.fwd (fun t k => XS.iloadN X0.here hx rfl (hb hby d1_26) rfl k) ?_
  show OwnGo _ _ _ _ (s₁.setTop (mkF m 27 #[.val (.int (4 : Int32))] [(.int (4 : Int32))]))
  refine OwnGo.fwd (fun t k => XS.iconst X0.here hx rfl (hb hby d1_27) k) ?_
  show OwnGo _ _ _ _ (s₁.setTop (mkF m 28 #[.val (.int (4 : Int32))] [(.int (3 : Int32)), (.int (4 : Int32))]))
  have hc28_4 : ¬ ((4 : Int) = (3 : Int)) := by decide
  refine OwnGo.fwd (fun t k => XS.icmpYes X0.here hx rfl (pc0 := 28) (pc' := 35) rfl (hb hby d1_28) rfl (own_bneq (by decide) (by decide) hc28_4).2 (by decide) (by decide) k) ?_
  show OwnGo _ _ _ _ (s₁.setTop (mkF m 35 #[.val (.int (4 : Int32))] []))
  refine OwnGo.fwd (fun t k => XS.iloadN X0.here hx rfl (hb hby d1_35) rfl k) ?_
  show OwnGo _ _ _ _ (s₁.setTop (mkF m 36 #[.val (.int (4 : Int32))] [(.int (4 : Int32))]))
  refine OwnGo.fwd (fun t k => XS.iconst X0.here hx rfl (hb hby d1_36) k) ?_
  show OwnGo _ _ _ _ (s₁.setTop (mkF m 37 #[.val (.int (4 : Int32))] [(.int (4 : Int32)), (.int (4 : Int32))]))
  have hc37_5 : (4 : Int) = (4 : Int) := rfl
  refine OwnGo.fwd (fun t k => XS.icmpNo X0.here hx rfl (hb hby d1_37) rfl (own_beq (by decide) (by decide) hc37_5).2 k) ?_
  show OwnGo _ _ _ _ (s₁.setTop (mkF m 40 #[.val (.int (4 : Int32))] []))
  obtain ⟨T6, X6, e6, st6⟩ := getS2 X0 hx hZ hown (host := "") (Or.inl (hw _ (List.mem_of_getElem? (i := 10) rfl))) Via.refl e0 S_TEXT (g := (mkF m 40 #[.val (.int (4 : Int32))] [])) rfl (hb hby d1_40)
  refine OwnGo.fwd st6 ?_
  show OwnGo _ _ _ _ (T6.setTop (mkF m 43 #[.val (.int (4 : Int32))] [(.ref w_TEXT)]))
  exact own_retA X6 hlk hx Bd.returns rfl rfl (hb hby d1_43) (by decide) (by decide) e6 ⟨rfl, N, rfl⟩
theorem ef_2TEXT (m : MethodId) (x0 : Addr) : entryFrame m #[(.ref x0)] 1 = mkF m 0 #[.val (.ref x0)] [] := by first | (simp [entryFrame, mkF, argsToLocals, Value.category, maxLocals]; done) | rfl
def Q2TEXT (Z : State) (w_DOCUMENT : Addr) (w_ELEMENT : Addr) (w_ATTRIBUTE : Addr) (w_NAMESPACE : Addr) (w_TEXT : Addr) (w_COMMENT : Addr) (w_PROCESSING_INSTRUCTION : Addr) (h0 : Heap) (n0 : Nat) (v : Option Value) (h : Heap) (L : List Loc) : Prop := v = some (.int 1) ∧ Fr n0 L ∧ h = h0
set_option maxRecDepth 65536 in
set_option maxHeartbeats 40000000 in
theorem rm2TEXT (l : Launch) (Z : State) (a0 : Array Value) (hw : ∀ d ∈ tables_1, d.before a0 Z = true) (ws : List Jvm.Cond) (w_DOCUMENT : Addr) (w_ELEMENT : Addr) (w_ATTRIBUTE : Addr) (w_NAMESPACE : Addr) (w_TEXT : Addr) (w_COMMENT : Addr) (w_PROCESSING_INSTRUCTION : Addr) (h0 : Heap) (n0 : Nat) (Z0 : n0 ≤ h0.size) (S_DOCUMENT : Sta Z h0 "org/axiswarp/tree/NodeKind" "DOCUMENT" "Lorg/axiswarp/tree/NodeKind;" (.ref w_DOCUMENT)) (E_w_DOCUMENT : Exa Z h0 w_DOCUMENT "org/axiswarp/tree/NodeKind") (O_DOCUMENT : Fld Z h0 w_DOCUMENT "java/lang/Enum" "ordinal" "I" (.int 0)) (S_ELEMENT : Sta Z h0 "org/axiswarp/tree/NodeKind" "ELEMENT" "Lorg/axiswarp/tree/NodeKind;" (.ref w_ELEMENT)) (E_w_ELEMENT : Exa Z h0 w_ELEMENT "org/axiswarp/tree/NodeKind") (O_ELEMENT : Fld Z h0 w_ELEMENT "java/lang/Enum" "ordinal" "I" (.int 1)) (S_ATTRIBUTE : Sta Z h0 "org/axiswarp/tree/NodeKind" "ATTRIBUTE" "Lorg/axiswarp/tree/NodeKind;" (.ref w_ATTRIBUTE)) (E_w_ATTRIBUTE : Exa Z h0 w_ATTRIBUTE "org/axiswarp/tree/NodeKind") (O_ATTRIBUTE : Fld Z h0 w_ATTRIBUTE "java/lang/Enum" "ordinal" "I" (.int 2)) (S_NAMESPACE : Sta Z h0 "org/axiswarp/tree/NodeKind" "NAMESPACE" "Lorg/axiswarp/tree/NodeKind;" (.ref w_NAMESPACE)) (E_w_NAMESPACE : Exa Z h0 w_NAMESPACE "org/axiswarp/tree/NodeKind") (O_NAMESPACE : Fld Z h0 w_NAMESPACE "java/lang/Enum" "ordinal" "I" (.int 3)) (S_TEXT : Sta Z h0 "org/axiswarp/tree/NodeKind" "TEXT" "Lorg/axiswarp/tree/NodeKind;" (.ref w_TEXT)) (E_w_TEXT : Exa Z h0 w_TEXT "org/axiswarp/tree/NodeKind") (O_TEXT : Fld Z h0 w_TEXT "java/lang/Enum" "ordinal" "I" (.int 4)) (S_COMMENT : Sta Z h0 "org/axiswarp/tree/NodeKind" "COMMENT" "Lorg/axiswarp/tree/NodeKind;" (.ref w_COMMENT)) (E_w_COMMENT : Exa Z h0 w_COMMENT "org/axiswarp/tree/NodeKind") (O_COMMENT : Fld Z h0 w_COMMENT "java/lang/Enum" "ordinal" "I" (.int 5)) (S_PROCESSING_INSTRUCTION : Sta Z h0 "org/axiswarp/tree/NodeKind" "PROCESSING_INSTRUCTION" "Lorg/axiswarp/tree/NodeKind;" (.ref w_PROCESSING_INSTRUCTION)) (E_w_PROCESSING_INSTRUCTION : Exa Z h0 w_PROCESSING_INSTRUCTION "org/axiswarp/tree/NodeKind") (O_PROCESSING_INSTRUCTION : Fld Z h0 w_PROCESSING_INSTRUCTION "java/lang/Enum" "ordinal" "I" (.int 6)) :
    MetFree l (⟨"org/axiswarp/tree/NodeKind", "isChild", "()Z"⟩ : MethodName) (head1 (Jvm.Cond.code (⟨"org/axiswarp/tree/NodeKind", "isChild", "()Z"⟩ : MethodName) prog_32_method_4_code 1 (some .boolean) :: ws) ({ frames := 0, cells := 0, slots := 0, locals := 0 } : Room)) (fun a U => a = #[(.ref w_TEXT)] ∧ Z.Warmed39 U.vm ∧ U.heap = h0) (fun _ _ _ _ _ => True) (fun _ U o U' => ∃ v L, o = .returned v ∧ (Q2TEXT Z w_DOCUMENT w_ELEMENT w_ATTRIBUTE w_NAMESPACE w_TEXT w_COMMENT w_PROCESSING_INSTRUCTION h0 n0) v U'.heap L ∧ FrameEnd U o U' L ({ frames := 0, cells := 0, slots := 0, locals := 0 } : Room).cells ({ frames := 0, cells := 0, slots := 0, locals := 0 } : Room).slots) := by
  refine MetFree.of_bodySF (plainFor_of_name pn_2) hisR ?_
  intro p e s m args below meth c s₁ Bd hml0 hP hK
  obtain ⟨rfl, hZ, hh⟩ := hP
  have hx := Bd.exec
  have hby := Bd.bytes
  have hlk : meth.locks = false := BodyLoose.notSynchronized Bd
  have hml : c.maxLocals = 1 := hml0
  have hown : s.vm.findClass "org/axiswarp/tree/NodeKind" = some m.cls := findClass_of_methodNamed Bd.named
  have hnm := (name_of_methodNamed Bd.named Bd.method).1
  have X0 : Stand p l e ({ frames := 0, cells := 0, slots := 0, locals := 0 } : Room) s m #[(.ref w_TEXT)] below meth c s₁ [] 0 0 := Stand.of_body Bd
  have e0 : s₁.heap = h0 := by rw [← hh, Bd.state]; rfl
  have N := Fr.nil n0
  have Zs := Z0
  change OwnGo p.tables e below (OwnEnd s (Q2TEXT Z w_DOCUMENT w_ELEMENT w_ATTRIBUTE w_NAMESPACE w_TEXT w_COMMENT w_PROCESSING_INSTRUCTION h0 n0) ({ frames := 0, cells := 0, slots := 0, locals := 0 } : Room).cells ({ frames := 0, cells := 0, slots := 0, locals := 0 } : Room).slots) _
  refine OwnGo.fwd (fun t k => castTop (ef_2TEXT m w_TEXT) k) ?_
  show OwnGo _ _ _ _ (s₁.setTop (mkF m 0 #[.val (.ref w_TEXT)] []))
  have ne_DOCUMENT_ELEMENT : w_DOCUMENT ≠ w_ELEMENT := Fld.ne O_DOCUMENT O_ELEMENT (by decide)
  have ne_DOCUMENT_ATTRIBUTE : w_DOCUMENT ≠ w_ATTRIBUTE := Fld.ne O_DOCUMENT O_ATTRIBUTE (by decide)
  have ne_DOCUMENT_NAMESPACE : w_DOCUMENT ≠ w_NAMESPACE := Fld.ne O_DOCUMENT O_NAMESPACE (by decide)
  have ne_DOCUMENT_TEXT : w_DOCUMENT ≠ w_TEXT := Fld.ne O_DOCUMENT O_TEXT (by decide)
  have ne_DOCUMENT_COMMENT : w_DOCUMENT ≠ w_COMMENT := Fld.ne O_DOCUMENT O_COMMENT (by decide)
  have ne_DOCUMENT_PROCESSING_INSTRUCTION : w_DOCUMENT ≠ w_PROCESSING_INSTRUCTION := Fld.ne O_DOCUMENT O_PROCESSING_INSTRUCTION (by decide)
  have ne_ELEMENT_ATTRIBUTE : w_ELEMENT ≠ w_ATTRIBUTE := Fld.ne O_ELEMENT O_ATTRIBUTE (by decide)
  have ne_ELEMENT_NAMESPACE : w_ELEMENT ≠ w_NAMESPACE := Fld.ne O_ELEMENT O_NAMESPACE (by decide)
  have ne_ELEMENT_TEXT : w_ELEMENT ≠ w_TEXT := Fld.ne O_ELEMENT O_TEXT (by decide)
  have ne_ELEMENT_COMMENT : w_ELEMENT ≠ w_COMMENT := Fld.ne O_ELEMENT O_COMMENT (by decide)
  have ne_ELEMENT_PROCESSING_INSTRUCTION : w_ELEMENT ≠ w_PROCESSING_INSTRUCTION := Fld.ne O_ELEMENT O_PROCESSING_INSTRUCTION (by decide)
  have ne_ATTRIBUTE_NAMESPACE : w_ATTRIBUTE ≠ w_NAMESPACE := Fld.ne O_ATTRIBUTE O_NAMESPACE (by decide)
  have ne_ATTRIBUTE_TEXT : w_ATTRIBUTE ≠ w_TEXT := Fld.ne O_ATTRIBUTE O_TEXT (by decide)
  have ne_ATTRIBUTE_COMMENT : w_ATTRIBUTE ≠ w_COMMENT := Fld.ne O_ATTRIBUTE O_COMMENT (by decide)
  have ne_ATTRIBUTE_PROCESSING_INSTRUCTION : w_ATTRIBUTE ≠ w_PROCESSING_INSTRUCTION := Fld.ne O_ATTRIBUTE O_PROCESSING_INSTRUCTION (by decide)
  have ne_NAMESPACE_TEXT : w_NAMESPACE ≠ w_TEXT := Fld.ne O_NAMESPACE O_TEXT (by decide)
  have ne_NAMESPACE_COMMENT : w_NAMESPACE ≠ w_COMMENT := Fld.ne O_NAMESPACE O_COMMENT (by decide)
  have ne_NAMESPACE_PROCESSING_INSTRUCTION : w_NAMESPACE ≠ w_PROCESSING_INSTRUCTION := Fld.ne O_NAMESPACE O_PROCESSING_INSTRUCTION (by decide)
  have ne_TEXT_COMMENT : w_TEXT ≠ w_COMMENT := Fld.ne O_TEXT O_COMMENT (by decide)
  have ne_TEXT_PROCESSING_INSTRUCTION : w_TEXT ≠ w_PROCESSING_INSTRUCTION := Fld.ne O_TEXT O_PROCESSING_INSTRUCTION (by decide)
  have ne_COMMENT_PROCESSING_INSTRUCTION : w_COMMENT ≠ w_PROCESSING_INSTRUCTION := Fld.ne O_COMMENT O_PROCESSING_INSTRUCTION (by decide)
  refine OwnGo.fwd (fun t k => XS.aloadN X0.here hx rfl (hb hby d2_0) rfl rfl k) ?_
  show OwnGo _ _ _ _ (s₁.setTop (mkF m 1 #[.val (.ref w_TEXT)] [(.ref w_TEXT)]))
  obtain ⟨T1, X1, e1, st1⟩ := getS2 X0 hx hZ hown (host := "") (Or.inl (hw _ (List.mem_of_getElem? (i := 21) rfl))) Via.refl e0 S_DOCUMENT (g := (mkF m 1 #[.val (.ref w_TEXT)] [(.ref w_TEXT)])) rfl (hb hby d2_1)
  refine OwnGo.fwd st1 ?_
  show OwnGo _ _ _ _ (T1.setTop (mkF m 4 #[.val (.ref w_TEXT)] [(.ref w_DOCUMENT), (.ref w_TEXT)]))
  refine OwnGo.fwd (fun t k => Jvm.RoadKit.acmp (g := (mkF m 4 #[.val (.ref w_TEXT)] [(.ref w_DOCUMENT), (.ref w_TEXT)])) X1 hx rfl rfl rfl (pc0 := 4) (pc' := 7) (same := false) rfl (hb hby d2_4) rfl (decide_eq_false fun q => (Ne.symm ne_DOCUMENT_TEXT) (Value.ref.inj q)) (by decide) (by decide) k) ?_
  show OwnGo _ _ _ _ (T1.setTop (mkF m 7 #[.val (.ref w_TEXT)] []))
  refine OwnGo.fwd (fun t k => XS.aloadN X1.here hx rfl (hb hby d2_7) rfl rfl k) ?_
  show OwnGo _ _ _ _ (T1.setTop (mkF m 8 #[.val (.ref w_TEXT)] [(.ref w_TEXT)]))
  obtain ⟨T2, X2, e2, st2⟩ := getS2 X1 hx hZ hown (host := "") (Or.inl (hw _ (List.mem_of_getElem? (i := 24) rfl))) Via.refl e1 S_ATTRIBUTE (g := (mkF m 8 #[.val (.ref w_TEXT)] [(.ref w_TEXT)])) rfl (hb hby d2_8)
  refine OwnGo.fwd st2 ?_
  show OwnGo _ _ _ _ (T2.setTop (mkF m 11 #[.val (.ref w_TEXT)] [(.ref w_ATTRIBUTE), (.ref w_TEXT)]))
  refine OwnGo.fwd (fun t k => Jvm.RoadKit.acmp (g := (mkF m 11 #[.val (.ref w_TEXT)] [(.ref w_ATTRIBUTE), (.ref w_TEXT)])) X2 hx rfl rfl rfl (pc0 := 11) (pc' := 14) (same := false) rfl (hb hby d2_11) rfl (decide_eq_false fun q => (Ne.symm ne_ATTRIBUTE_TEXT) (Value.ref.inj q)) (by decide) (by decide) k) ?_
  show OwnGo _ _ _ _ (T2.setTop (mkF m 14 #[.val (.ref w_TEXT)] []))
  refine OwnGo.fwd (fun t k => XS.aloadN X2.here hx rfl (hb hby d2_14) rfl rfl k) ?_
  show OwnGo _ _ _ _ (T2.setTop (mkF m 15 #[.val (.ref w_TEXT)] [(.ref w_TEXT)]))
  obtain ⟨T3, X3, e3, st3⟩ := getS2 X2 hx hZ hown (host := "") (Or.inl (hw _ (List.mem_of_getElem? (i := 26) rfl))) Via.refl e2 S_NAMESPACE (g := (mkF m 15 #[.val (.ref w_TEXT)] [(.ref w_TEXT)])) rfl (hb hby d2_15)
  refine OwnGo.fwd st3 ?_
  show OwnGo _ _ _ _ (T3.setTop (mkF m 18 #[.val (.ref w_TEXT)] [(.ref w_NAMESPACE), (.ref w_TEXT)]))
  refine OwnGo.fwd (fun t k => Jvm.RoadKit.acmp (g := (mkF m 18 #[.val (.ref w_TEXT)] [(.ref w_NAMESPACE), (.ref w_TEXT)])) X3 hx rfl rfl rfl (pc0 := 18) (pc' := 21) (same := false) rfl (hb hby d2_18) rfl (decide_eq_false fun q => (Ne.symm ne_NAMESPACE_TEXT) (Value.ref.inj q)) (by decide) (by decide) k) ?_
  show OwnGo _ _ _ _ (T3.setTop (mkF m 21 #[.val (.ref w_TEXT)] []))
  refine OwnGo.fwd (fun t k => XS.iconst X3.here hx rfl (hb hby d2_21) k) ?_
  show OwnGo _ _ _ _ (T3.setTop (mkF m 22 #[.val (.ref w_TEXT)] [(.int (1 : Int32))]))
  refine OwnGo.fwd (fun t k => XS.goto X3.here hx rfl (pc0 := 22) (pc' := 26) rfl (hb hby d2_22) (by decide) (by decide) k) ?_
  show OwnGo _ _ _ _ (T3.setTop (mkF m 26 #[.val (.ref w_TEXT)] [(.int (1 : Int32))]))
  exact own_retZ X3 hlk hx Bd.returns (hb hby d2_26) (by decide) (by decide) e3 ⟨rfl, N, rfl⟩
theorem ef_1COMMENT (m : MethodId) (x0 : Int32) : entryFrame m #[(.int x0)] 1 = mkF m 0 #[.val (.int x0)] [] := by first | (simp [entryFrame, mkF, argsToLocals, Value.category, maxLocals]; done) | rfl
def Q1COMMENT (Z : State) (w_DOCUMENT : Addr) (w_ELEMENT : Addr) (w_ATTRIBUTE : Addr) (w_NAMESPACE : Addr) (w_TEXT : Addr) (w_COMMENT : Addr) (w_PROCESSING_INSTRUCTION : Addr) (h0 : Heap) (n0 : Nat) (v : Option Value) (h : Heap) (L : List Loc) : Prop := v = some (.ref w_COMMENT) ∧ Fr n0 L ∧ h = h0
set_option maxRecDepth 65536 in
set_option maxHeartbeats 40000000 in
theorem rm1COMMENT (l : Launch) (Z : State) (a0 : Array Value) (hw : ∀ d ∈ tables_1, d.before a0 Z = true) (ws : List Jvm.Cond) (w_DOCUMENT : Addr) (w_ELEMENT : Addr) (w_ATTRIBUTE : Addr) (w_NAMESPACE : Addr) (w_TEXT : Addr) (w_COMMENT : Addr) (w_PROCESSING_INSTRUCTION : Addr) (h0 : Heap) (n0 : Nat) (Z0 : n0 ≤ h0.size) (S_DOCUMENT : Sta Z h0 "org/axiswarp/tree/NodeKind" "DOCUMENT" "Lorg/axiswarp/tree/NodeKind;" (.ref w_DOCUMENT)) (E_w_DOCUMENT : Exa Z h0 w_DOCUMENT "org/axiswarp/tree/NodeKind") (O_DOCUMENT : Fld Z h0 w_DOCUMENT "java/lang/Enum" "ordinal" "I" (.int 0)) (S_ELEMENT : Sta Z h0 "org/axiswarp/tree/NodeKind" "ELEMENT" "Lorg/axiswarp/tree/NodeKind;" (.ref w_ELEMENT)) (E_w_ELEMENT : Exa Z h0 w_ELEMENT "org/axiswarp/tree/NodeKind") (O_ELEMENT : Fld Z h0 w_ELEMENT "java/lang/Enum" "ordinal" "I" (.int 1)) (S_ATTRIBUTE : Sta Z h0 "org/axiswarp/tree/NodeKind" "ATTRIBUTE" "Lorg/axiswarp/tree/NodeKind;" (.ref w_ATTRIBUTE)) (E_w_ATTRIBUTE : Exa Z h0 w_ATTRIBUTE "org/axiswarp/tree/NodeKind") (O_ATTRIBUTE : Fld Z h0 w_ATTRIBUTE "java/lang/Enum" "ordinal" "I" (.int 2)) (S_NAMESPACE : Sta Z h0 "org/axiswarp/tree/NodeKind" "NAMESPACE" "Lorg/axiswarp/tree/NodeKind;" (.ref w_NAMESPACE)) (E_w_NAMESPACE : Exa Z h0 w_NAMESPACE "org/axiswarp/tree/NodeKind") (O_NAMESPACE : Fld Z h0 w_NAMESPACE "java/lang/Enum" "ordinal" "I" (.int 3)) (S_TEXT : Sta Z h0 "org/axiswarp/tree/NodeKind" "TEXT" "Lorg/axiswarp/tree/NodeKind;" (.ref w_TEXT)) (E_w_TEXT : Exa Z h0 w_TEXT "org/axiswarp/tree/NodeKind") (O_TEXT : Fld Z h0 w_TEXT "java/lang/Enum" "ordinal" "I" (.int 4)) (S_COMMENT : Sta Z h0 "org/axiswarp/tree/NodeKind" "COMMENT" "Lorg/axiswarp/tree/NodeKind;" (.ref w_COMMENT)) (E_w_COMMENT : Exa Z h0 w_COMMENT "org/axiswarp/tree/NodeKind") (O_COMMENT : Fld Z h0 w_COMMENT "java/lang/Enum" "ordinal" "I" (.int 5)) (S_PROCESSING_INSTRUCTION : Sta Z h0 "org/axiswarp/tree/NodeKind" "PROCESSING_INSTRUCTION" "Lorg/axiswarp/tree/NodeKind;" (.ref w_PROCESSING_INSTRUCTION)) (E_w_PROCESSING_INSTRUCTION : Exa Z h0 w_PROCESSING_INSTRUCTION "org/axiswarp/tree/NodeKind") (O_PROCESSING_INSTRUCTION : Fld Z h0 w_PROCESSING_INSTRUCTION "java/lang/Enum" "ordinal" "I" (.int 6)) :
    MetFree l (⟨"org/axiswarp/tree/NodeKindIsChildPinLaw", "pick", "(I)Lorg/axiswarp/tree/NodeKind;"⟩ : MethodName) (head1 (Jvm.Cond.code (⟨"org/axiswarp/tree/NodeKindIsChildPinLaw", "pick", "(I)Lorg/axiswarp/tree/NodeKind;"⟩ : MethodName) method_3_code 1 (some (.object "org/axiswarp/tree/NodeKind")) :: ws) ({ frames := 0, cells := 0, slots := 0, locals := 0 } : Room)) (fun a U => a = #[(.int (5 : Int32))] ∧ Z.Warmed39 U.vm ∧ U.heap = h0) (fun _ _ _ _ _ => True) (fun _ U o U' => ∃ v L, o = .returned v ∧ (Q1COMMENT Z w_DOCUMENT w_ELEMENT w_ATTRIBUTE w_NAMESPACE w_TEXT w_COMMENT w_PROCESSING_INSTRUCTION h0 n0) v U'.heap L ∧ FrameEnd U o U' L ({ frames := 0, cells := 0, slots := 0, locals := 0 } : Room).cells ({ frames := 0, cells := 0, slots := 0, locals := 0 } : Room).slots) := by
  refine MetFree.of_bodySF (plainFor_of_name pn_1) hisR ?_
  intro p e s m args below meth c s₁ Bd hml0 hP hK
  obtain ⟨rfl, hZ, hh⟩ := hP
  have hx := Bd.exec
  have hby := Bd.bytes
  have hlk : meth.locks = false := BodyLoose.notSynchronized Bd
  have hml : c.maxLocals = 1 := hml0
  have hown : s.vm.findClass "org/axiswarp/tree/NodeKindIsChildPinLaw" = some m.cls := findClass_of_methodNamed Bd.named
  have hnm := (name_of_methodNamed Bd.named Bd.method).1
  have X0 : Stand p l e ({ frames := 0, cells := 0, slots := 0, locals := 0 } : Room) s m #[(.int (5 : Int32))] below meth c s₁ [] 0 0 := Stand.of_body Bd
  have e0 : s₁.heap = h0 := by rw [← hh, Bd.state]; rfl
  have N := Fr.nil n0
  have Zs := Z0
  change OwnGo p.tables e below (OwnEnd s (Q1COMMENT Z w_DOCUMENT w_ELEMENT w_ATTRIBUTE w_NAMESPACE w_TEXT w_COMMENT w_PROCESSING_INSTRUCTION h0 n0) ({ frames := 0, cells := 0, slots := 0, locals := 0 } : Room).cells ({ frames := 0, cells := 0, slots := 0, locals := 0 } : Room).slots) _
  refine OwnGo.fwd (fun t k => castTop (ef_1COMMENT m (5 : Int32)) k) ?_
  show OwnGo _ _ _ _ (s₁.setTop (mkF m 0 #[.val (.int (5 : Int32))] []))
  refine OwnGo.fwd (fun t k => XS.iloadN X0.here hx rfl (hb hby d1_0) rfl k) ?_
  show OwnGo _ _ _ _ (s₁.setTop (mkF m 1 #[.val (.int (5 : Int32))] [(.int (5 : Int32))]))
  have hc1_1 : ¬ ((5 : Int) = (0 : Int)) := by decide
  refine OwnGo.fwd (fun t k => XS.ifYes X0.here hx rfl (pc0 := 1) (pc' := 8) rfl (hb hby d1_1) rfl ((if0 _ _).trans (own_bneq (by decide) (by decide) hc1_1).2) (by decide) (by decide) k) ?_
  show OwnGo _ _ _ _ (s₁.setTop (mkF m 8 #[.val (.int (5 : Int32))] []))
  refine OwnGo.fwd (fun t k => XS.iloadN X0.here hx rfl (hb hby d1_8) rfl k) ?_
  show OwnGo _ _ _ _ (s₁.setTop (mkF m 9 #[.val (.int (5 : Int32))] [(.int (5 : Int32))]))
  refine OwnGo.fwd (fun t k => XS.iconst X0.here hx rfl (hb hby d1_9) k) ?_
  show OwnGo _ _ _ _ (s₁.setTop (mkF m 10 #[.val (.int (5 : Int32))] [(.int (1 : Int32)), (.int (5 : Int32))]))
  have hc10_2 : ¬ ((5 : Int) = (1 : Int)) := by decide
  refine OwnGo.fwd (fun t k => XS.icmpYes X0.here hx rfl (pc0 := 10) (pc' := 17) rfl (hb hby d1_10) rfl (own_bneq (by decide) (by decide) hc10_2).2 (by decide) (by decide) k) ?_
  show OwnGo _ _ _ _ (s₁.setTop (mkF m 17 #[.val (.int (5 : Int32))] []))
  refine OwnGo.fwd (fun t k => XS.iloadN X0.here hx rfl (hb hby d1_17) rfl k) ?_
  show OwnGo _ _ _ _ (s₁.setTop (mkF m 18 #[.val (.int (5 : Int32))] [(.int (5 : Int32))]))
  refine OwnGo.fwd (fun t k => XS.iconst X0.here hx rfl (hb hby d1_18) k) ?_
  show OwnGo _ _ _ _ (s₁.setTop (mkF m 19 #[.val (.int (5 : Int32))] [(.int (2 : Int32)), (.int (5 : Int32))]))
  have hc19_3 : ¬ ((5 : Int) = (2 : Int)) := by decide
  refine OwnGo.fwd (fun t k => XS.icmpYes X0.here hx rfl (pc0 := 19) (pc' := 26) rfl (hb hby d1_19) rfl (own_bneq (by decide) (by decide) hc19_3).2 (by decide) (by decide) k) ?_
  show OwnGo _ _ _ _ (s₁.setTop (mkF m 26 #[.val (.int (5 : Int32))] []))
  refine OwnGo.fwd (fun t k => XS.iloadN X0.here hx rfl (hb hby d1_26) rfl k) ?_
  show OwnGo _ _ _ _ (s₁.setTop (mkF m 27 #[.val (.int (5 : Int32))] [(.int (5 : Int32))]))
  refine OwnGo.fwd (fun t k => XS.iconst X0.here hx rfl (hb hby d1_27) k) ?_
  show OwnGo _ _ _ _ (s₁.setTop (mkF m 28 #[.val (.int (5 : Int32))] [(.int (3 : Int32)), (.int (5 : Int32))]))
  have hc28_4 : ¬ ((5 : Int) = (3 : Int)) := by decide
  refine OwnGo.fwd (fun t k => XS.icmpYes X0.here hx rfl (pc0 := 28) (pc' := 35) rfl (hb hby d1_28) rfl (own_bneq (by decide) (by decide) hc28_4).2 (by decide) (by decide) k) ?_
  show OwnGo _ _ _ _ (s₁.setTop (mkF m 35 #[.val (.int (5 : Int32))] []))
  refine OwnGo.fwd (fun t k => XS.iloadN X0.here hx rfl (hb hby d1_35) rfl k) ?_
  show OwnGo _ _ _ _ (s₁.setTop (mkF m 36 #[.val (.int (5 : Int32))] [(.int (5 : Int32))]))
  refine OwnGo.fwd (fun t k => XS.iconst X0.here hx rfl (hb hby d1_36) k) ?_
  show OwnGo _ _ _ _ (s₁.setTop (mkF m 37 #[.val (.int (5 : Int32))] [(.int (4 : Int32)), (.int (5 : Int32))]))
  have hc37_5 : ¬ ((5 : Int) = (4 : Int)) := by decide
  refine OwnGo.fwd (fun t k => XS.icmpYes X0.here hx rfl (pc0 := 37) (pc' := 44) rfl (hb hby d1_37) rfl (own_bneq (by decide) (by decide) hc37_5).2 (by decide) (by decide) k) ?_
  show OwnGo _ _ _ _ (s₁.setTop (mkF m 44 #[.val (.int (5 : Int32))] []))
  refine OwnGo.fwd (fun t k => XS.iloadN X0.here hx rfl (hb hby d1_44) rfl k) ?_
  show OwnGo _ _ _ _ (s₁.setTop (mkF m 45 #[.val (.int (5 : Int32))] [(.int (5 : Int32))]))
  refine OwnGo.fwd (fun t k => XS.iconst X0.here hx rfl (hb hby d1_45) k) ?_
  show OwnGo _ _ _ _ (s₁.setTop (mkF m 46 #[.val (.int (5 : Int32))] [(.int (5 : Int32)), (.int (5 : Int32))]))
  have hc46_6 : (5 : Int) = (5 : Int) := rfl
  refine OwnGo.fwd (fun t k => XS.icmpNo X0.here hx rfl (hb hby d1_46) rfl (own_beq (by decide) (by decide) hc46_6).2 k) ?_
  show OwnGo _ _ _ _ (s₁.setTop (mkF m 49 #[.val (.int (5 : Int32))] []))
  obtain ⟨T7, X7, e7, st7⟩ := getS2 X0 hx hZ hown (host := "") (Or.inl (hw _ (List.mem_of_getElem? (i := 12) rfl))) Via.refl e0 S_COMMENT (g := (mkF m 49 #[.val (.int (5 : Int32))] [])) rfl (hb hby d1_49)
  refine OwnGo.fwd st7 ?_
  show OwnGo _ _ _ _ (T7.setTop (mkF m 52 #[.val (.int (5 : Int32))] [(.ref w_COMMENT)]))
  exact own_retA X7 hlk hx Bd.returns rfl rfl (hb hby d1_52) (by decide) (by decide) e7 ⟨rfl, N, rfl⟩
theorem ef_2COMMENT (m : MethodId) (x0 : Addr) : entryFrame m #[(.ref x0)] 1 = mkF m 0 #[.val (.ref x0)] [] := by first | (simp [entryFrame, mkF, argsToLocals, Value.category, maxLocals]; done) | rfl
def Q2COMMENT (Z : State) (w_DOCUMENT : Addr) (w_ELEMENT : Addr) (w_ATTRIBUTE : Addr) (w_NAMESPACE : Addr) (w_TEXT : Addr) (w_COMMENT : Addr) (w_PROCESSING_INSTRUCTION : Addr) (h0 : Heap) (n0 : Nat) (v : Option Value) (h : Heap) (L : List Loc) : Prop := v = some (.int 1) ∧ Fr n0 L ∧ h = h0
set_option maxRecDepth 65536 in
set_option maxHeartbeats 40000000 in
theorem rm2COMMENT (l : Launch) (Z : State) (a0 : Array Value) (hw : ∀ d ∈ tables_1, d.before a0 Z = true) (ws : List Jvm.Cond) (w_DOCUMENT : Addr) (w_ELEMENT : Addr) (w_ATTRIBUTE : Addr) (w_NAMESPACE : Addr) (w_TEXT : Addr) (w_COMMENT : Addr) (w_PROCESSING_INSTRUCTION : Addr) (h0 : Heap) (n0 : Nat) (Z0 : n0 ≤ h0.size) (S_DOCUMENT : Sta Z h0 "org/axiswarp/tree/NodeKind" "DOCUMENT" "Lorg/axiswarp/tree/NodeKind;" (.ref w_DOCUMENT)) (E_w_DOCUMENT : Exa Z h0 w_DOCUMENT "org/axiswarp/tree/NodeKind") (O_DOCUMENT : Fld Z h0 w_DOCUMENT "java/lang/Enum" "ordinal" "I" (.int 0)) (S_ELEMENT : Sta Z h0 "org/axiswarp/tree/NodeKind" "ELEMENT" "Lorg/axiswarp/tree/NodeKind;" (.ref w_ELEMENT)) (E_w_ELEMENT : Exa Z h0 w_ELEMENT "org/axiswarp/tree/NodeKind") (O_ELEMENT : Fld Z h0 w_ELEMENT "java/lang/Enum" "ordinal" "I" (.int 1)) (S_ATTRIBUTE : Sta Z h0 "org/axiswarp/tree/NodeKind" "ATTRIBUTE" "Lorg/axiswarp/tree/NodeKind;" (.ref w_ATTRIBUTE)) (E_w_ATTRIBUTE : Exa Z h0 w_ATTRIBUTE "org/axiswarp/tree/NodeKind") (O_ATTRIBUTE : Fld Z h0 w_ATTRIBUTE "java/lang/Enum" "ordinal" "I" (.int 2)) (S_NAMESPACE : Sta Z h0 "org/axiswarp/tree/NodeKind" "NAMESPACE" "Lorg/axiswarp/tree/NodeKind;" (.ref w_NAMESPACE)) (E_w_NAMESPACE : Exa Z h0 w_NAMESPACE "org/axiswarp/tree/NodeKind") (O_NAMESPACE : Fld Z h0 w_NAMESPACE "java/lang/Enum" "ordinal" "I" (.int 3)) (S_TEXT : Sta Z h0 "org/axiswarp/tree/NodeKind" "TEXT" "Lorg/axiswarp/tree/NodeKind;" (.ref w_TEXT)) (E_w_TEXT : Exa Z h0 w_TEXT "org/axiswarp/tree/NodeKind") (O_TEXT : Fld Z h0 w_TEXT "java/lang/Enum" "ordinal" "I" (.int 4)) (S_COMMENT : Sta Z h0 "org/axiswarp/tree/NodeKind" "COMMENT" "Lorg/axiswarp/tree/NodeKind;" (.ref w_COMMENT)) (E_w_COMMENT : Exa Z h0 w_COMMENT "org/axiswarp/tree/NodeKind") (O_COMMENT : Fld Z h0 w_COMMENT "java/lang/Enum" "ordinal" "I" (.int 5)) (S_PROCESSING_INSTRUCTION : Sta Z h0 "org/axiswarp/tree/NodeKind" "PROCESSING_INSTRUCTION" "Lorg/axiswarp/tree/NodeKind;" (.ref w_PROCESSING_INSTRUCTION)) (E_w_PROCESSING_INSTRUCTION : Exa Z h0 w_PROCESSING_INSTRUCTION "org/axiswarp/tree/NodeKind") (O_PROCESSING_INSTRUCTION : Fld Z h0 w_PROCESSING_INSTRUCTION "java/lang/Enum" "ordinal" "I" (.int 6)) :
    MetFree l (⟨"org/axiswarp/tree/NodeKind", "isChild", "()Z"⟩ : MethodName) (head1 (Jvm.Cond.code (⟨"org/axiswarp/tree/NodeKind", "isChild", "()Z"⟩ : MethodName) prog_32_method_4_code 1 (some .boolean) :: ws) ({ frames := 0, cells := 0, slots := 0, locals := 0 } : Room)) (fun a U => a = #[(.ref w_COMMENT)] ∧ Z.Warmed39 U.vm ∧ U.heap = h0) (fun _ _ _ _ _ => True) (fun _ U o U' => ∃ v L, o = .returned v ∧ (Q2COMMENT Z w_DOCUMENT w_ELEMENT w_ATTRIBUTE w_NAMESPACE w_TEXT w_COMMENT w_PROCESSING_INSTRUCTION h0 n0) v U'.heap L ∧ FrameEnd U o U' L ({ frames := 0, cells := 0, slots := 0, locals := 0 } : Room).cells ({ frames := 0, cells := 0, slots := 0, locals := 0 } : Room).slots) := by
  refine MetFree.of_bodySF (plainFor_of_name pn_2) hisR ?_
  intro p e s m args below meth c s₁ Bd hml0 hP hK
  obtain ⟨rfl, hZ, hh⟩ := hP
  have hx := Bd.exec
  have hby := Bd.bytes
  have hlk : meth.locks = false := BodyLoose.notSynchronized Bd
  have hml : c.maxLocals = 1 := hml0
  have hown : s.vm.findClass "org/axiswarp/tree/NodeKind" = some m.cls := findClass_of_methodNamed Bd.named
  have hnm := (name_of_methodNamed Bd.named Bd.method).1
  have X0 : Stand p l e ({ frames := 0, cells := 0, slots := 0, locals := 0 } : Room) s m #[(.ref w_COMMENT)] below meth c s₁ [] 0 0 := Stand.of_body Bd
  have e0 : s₁.heap = h0 := by rw [← hh, Bd.state]; rfl
  have N := Fr.nil n0
  have Zs := Z0
  change OwnGo p.tables e below (OwnEnd s (Q2COMMENT Z w_DOCUMENT w_ELEMENT w_ATTRIBUTE w_NAMESPACE w_TEXT w_COMMENT w_PROCESSING_INSTRUCTION h0 n0) ({ frames := 0, cells := 0, slots := 0, locals := 0 } : Room).cells ({ frames := 0, cells := 0, slots := 0, locals := 0 } : Room).slots) _
  refine OwnGo.fwd (fun t k => castTop (ef_2COMMENT m w_COMMENT) k) ?_
  show OwnGo _ _ _ _ (s₁.setTop (mkF m 0 #[.val (.ref w_COMMENT)] []))
  have ne_DOCUMENT_ELEMENT : w_DOCUMENT ≠ w_ELEMENT := Fld.ne O_DOCUMENT O_ELEMENT (by decide)
  have ne_DOCUMENT_ATTRIBUTE : w_DOCUMENT ≠ w_ATTRIBUTE := Fld.ne O_DOCUMENT O_ATTRIBUTE (by decide)
  have ne_DOCUMENT_NAMESPACE : w_DOCUMENT ≠ w_NAMESPACE := Fld.ne O_DOCUMENT O_NAMESPACE (by decide)
  have ne_DOCUMENT_TEXT : w_DOCUMENT ≠ w_TEXT := Fld.ne O_DOCUMENT O_TEXT (by decide)
  have ne_DOCUMENT_COMMENT : w_DOCUMENT ≠ w_COMMENT := Fld.ne O_DOCUMENT O_COMMENT (by decide)
  have ne_DOCUMENT_PROCESSING_INSTRUCTION : w_DOCUMENT ≠ w_PROCESSING_INSTRUCTION := Fld.ne O_DOCUMENT O_PROCESSING_INSTRUCTION (by decide)
  have ne_ELEMENT_ATTRIBUTE : w_ELEMENT ≠ w_ATTRIBUTE := Fld.ne O_ELEMENT O_ATTRIBUTE (by decide)
  have ne_ELEMENT_NAMESPACE : w_ELEMENT ≠ w_NAMESPACE := Fld.ne O_ELEMENT O_NAMESPACE (by decide)
  have ne_ELEMENT_TEXT : w_ELEMENT ≠ w_TEXT := Fld.ne O_ELEMENT O_TEXT (by decide)
  have ne_ELEMENT_COMMENT : w_ELEMENT ≠ w_COMMENT := Fld.ne O_ELEMENT O_COMMENT (by decide)
  have ne_ELEMENT_PROCESSING_INSTRUCTION : w_ELEMENT ≠ w_PROCESSING_INSTRUCTION := Fld.ne O_ELEMENT O_PROCESSING_INSTRUCTION (by decide)
  have ne_ATTRIBUTE_NAMESPACE : w_ATTRIBUTE ≠ w_NAMESPACE := Fld.ne O_ATTRIBUTE O_NAMESPACE (by decide)
  have ne_ATTRIBUTE_TEXT : w_ATTRIBUTE ≠ w_TEXT := Fld.ne O_ATTRIBUTE O_TEXT (by decide)
  have ne_ATTRIBUTE_COMMENT : w_ATTRIBUTE ≠ w_COMMENT := Fld.ne O_ATTRIBUTE O_COMMENT (by decide)
  have ne_ATTRIBUTE_PROCESSING_INSTRUCTION : w_ATTRIBUTE ≠ w_PROCESSING_INSTRUCTION := Fld.ne O_ATTRIBUTE O_PROCESSING_INSTRUCTION (by decide)
  have ne_NAMESPACE_TEXT : w_NAMESPACE ≠ w_TEXT := Fld.ne O_NAMESPACE O_TEXT (by decide)
  have ne_NAMESPACE_COMMENT : w_NAMESPACE ≠ w_COMMENT := Fld.ne O_NAMESPACE O_COMMENT (by decide)
  have ne_NAMESPACE_PROCESSING_INSTRUCTION : w_NAMESPACE ≠ w_PROCESSING_INSTRUCTION := Fld.ne O_NAMESPACE O_PROCESSING_INSTRUCTION (by decide)
  have ne_TEXT_COMMENT : w_TEXT ≠ w_COMMENT := Fld.ne O_TEXT O_COMMENT (by decide)
  have ne_TEXT_PROCESSING_INSTRUCTION : w_TEXT ≠ w_PROCESSING_INSTRUCTION := Fld.ne O_TEXT O_PROCESSING_INSTRUCTION (by decide)
  have ne_COMMENT_PROCESSING_INSTRUCTION : w_COMMENT ≠ w_PROCESSING_INSTRUCTION := Fld.ne O_COMMENT O_PROCESSING_INSTRUCTION (by decide)
  refine OwnGo.fwd (fun t k => XS.aloadN X0.here hx rfl (hb hby d2_0) rfl rfl k) ?_
  show OwnGo _ _ _ _ (s₁.setTop (mkF m 1 #[.val (.ref w_COMMENT)] [(.ref w_COMMENT)]))
  obtain ⟨T1, X1, e1, st1⟩ := getS2 X0 hx hZ hown (host := "") (Or.inl (hw _ (List.mem_of_getElem? (i := 21) rfl))) Via.refl e0 S_DOCUMENT (g := (mkF m 1 #[.val (.ref w_COMMENT)] [(.ref w_COMMENT)])) rfl (hb hby d2_1)
  refine OwnGo.fwd st1 ?_
  show OwnGo _ _ _ _ (T1.setTop (mkF m 4 #[.val (.ref w_COMMENT)] [(.ref w_DOCUMENT), (.ref w_COMMENT)]))
  refine OwnGo.fwd (fun t k => Jvm.RoadKit.acmp (g := (mkF m 4 #[.val (.ref w_COMMENT)] [(.ref w_DOCUMENT), (.ref w_COMMENT)])) X1 hx rfl rfl rfl (pc0 := 4) (pc' := 7) (same := false) rfl (hb hby d2_4) rfl (decide_eq_false fun q => (Ne.symm ne_DOCUMENT_COMMENT) (Value.ref.inj q)) (by decide) (by decide) k) ?_
  show OwnGo _ _ _ _ (T1.setTop (mkF m 7 #[.val (.ref w_COMMENT)] []))
  refine OwnGo.fwd (fun t k => XS.aloadN X1.here hx rfl (hb hby d2_7) rfl rfl k) ?_
  show OwnGo _ _ _ _ (T1.setTop (mkF m 8 #[.val (.ref w_COMMENT)] [(.ref w_COMMENT)]))
  obtain ⟨T2, X2, e2, st2⟩ := getS2 X1 hx hZ hown (host := "") (Or.inl (hw _ (List.mem_of_getElem? (i := 24) rfl))) Via.refl e1 S_ATTRIBUTE (g := (mkF m 8 #[.val (.ref w_COMMENT)] [(.ref w_COMMENT)])) rfl (hb hby d2_8)
  refine OwnGo.fwd st2 ?_
  show OwnGo _ _ _ _ (T2.setTop (mkF m 11 #[.val (.ref w_COMMENT)] [(.ref w_ATTRIBUTE), (.ref w_COMMENT)]))
  refine OwnGo.fwd (fun t k => Jvm.RoadKit.acmp (g := (mkF m 11 #[.val (.ref w_COMMENT)] [(.ref w_ATTRIBUTE), (.ref w_COMMENT)])) X2 hx rfl rfl rfl (pc0 := 11) (pc' := 14) (same := false) rfl (hb hby d2_11) rfl (decide_eq_false fun q => (Ne.symm ne_ATTRIBUTE_COMMENT) (Value.ref.inj q)) (by decide) (by decide) k) ?_
  show OwnGo _ _ _ _ (T2.setTop (mkF m 14 #[.val (.ref w_COMMENT)] []))
  refine OwnGo.fwd (fun t k => XS.aloadN X2.here hx rfl (hb hby d2_14) rfl rfl k) ?_
  show OwnGo _ _ _ _ (T2.setTop (mkF m 15 #[.val (.ref w_COMMENT)] [(.ref w_COMMENT)]))
  obtain ⟨T3, X3, e3, st3⟩ := getS2 X2 hx hZ hown (host := "") (Or.inl (hw _ (List.mem_of_getElem? (i := 26) rfl))) Via.refl e2 S_NAMESPACE (g := (mkF m 15 #[.val (.ref w_COMMENT)] [(.ref w_COMMENT)])) rfl (hb hby d2_15)
  refine OwnGo.fwd st3 ?_
  show OwnGo _ _ _ _ (T3.setTop (mkF m 18 #[.val (.ref w_COMMENT)] [(.ref w_NAMESPACE), (.ref w_COMMENT)]))
  refine OwnGo.fwd (fun t k => Jvm.RoadKit.acmp (g := (mkF m 18 #[.val (.ref w_COMMENT)] [(.ref w_NAMESPACE), (.ref w_COMMENT)])) X3 hx rfl rfl rfl (pc0 := 18) (pc' := 21) (same := false) rfl (hb hby d2_18) rfl (decide_eq_false fun q => (Ne.symm ne_NAMESPACE_COMMENT) (Value.ref.inj q)) (by decide) (by decide) k) ?_
  show OwnGo _ _ _ _ (T3.setTop (mkF m 21 #[.val (.ref w_COMMENT)] []))
  refine OwnGo.fwd (fun t k => XS.iconst X3.here hx rfl (hb hby d2_21) k) ?_
  show OwnGo _ _ _ _ (T3.setTop (mkF m 22 #[.val (.ref w_COMMENT)] [(.int (1 : Int32))]))
  refine OwnGo.fwd (fun t k => XS.goto X3.here hx rfl (pc0 := 22) (pc' := 26) rfl (hb hby d2_22) (by decide) (by decide) k) ?_
  show OwnGo _ _ _ _ (T3.setTop (mkF m 26 #[.val (.ref w_COMMENT)] [(.int (1 : Int32))]))
  exact own_retZ X3 hlk hx Bd.returns (hb hby d2_26) (by decide) (by decide) e3 ⟨rfl, N, rfl⟩
theorem ef_1PROCESSING_INSTRUCTION (m : MethodId) (x0 : Int32) : entryFrame m #[(.int x0)] 1 = mkF m 0 #[.val (.int x0)] [] := by first | (simp [entryFrame, mkF, argsToLocals, Value.category, maxLocals]; done) | rfl
def Q1PROCESSING_INSTRUCTION (Z : State) (w_DOCUMENT : Addr) (w_ELEMENT : Addr) (w_ATTRIBUTE : Addr) (w_NAMESPACE : Addr) (w_TEXT : Addr) (w_COMMENT : Addr) (w_PROCESSING_INSTRUCTION : Addr) (h0 : Heap) (n0 : Nat) (v : Option Value) (h : Heap) (L : List Loc) : Prop := v = some (.ref w_PROCESSING_INSTRUCTION) ∧ Fr n0 L ∧ h = h0
set_option maxRecDepth 65536 in
set_option maxHeartbeats 40000000 in
theorem rm1PROCESSING_INSTRUCTION (l : Launch) (Z : State) (a0 : Array Value) (hw : ∀ d ∈ tables_1, d.before a0 Z = true) (ws : List Jvm.Cond) (w_DOCUMENT : Addr) (w_ELEMENT : Addr) (w_ATTRIBUTE : Addr) (w_NAMESPACE : Addr) (w_TEXT : Addr) (w_COMMENT : Addr) (w_PROCESSING_INSTRUCTION : Addr) (h0 : Heap) (n0 : Nat) (Z0 : n0 ≤ h0.size) (S_DOCUMENT : Sta Z h0 "org/axiswarp/tree/NodeKind" "DOCUMENT" "Lorg/axiswarp/tree/NodeKind;" (.ref w_DOCUMENT)) (E_w_DOCUMENT : Exa Z h0 w_DOCUMENT "org/axiswarp/tree/NodeKind") (O_DOCUMENT : Fld Z h0 w_DOCUMENT "java/lang/Enum" "ordinal" "I" (.int 0)) (S_ELEMENT : Sta Z h0 "org/axiswarp/tree/NodeKind" "ELEMENT" "Lorg/axiswarp/tree/NodeKind;" (.ref w_ELEMENT)) (E_w_ELEMENT : Exa Z h0 w_ELEMENT "org/axiswarp/tree/NodeKind") (O_ELEMENT : Fld Z h0 w_ELEMENT "java/lang/Enum" "ordinal" "I" (.int 1)) (S_ATTRIBUTE : Sta Z h0 "org/axiswarp/tree/NodeKind" "ATTRIBUTE" "Lorg/axiswarp/tree/NodeKind;" (.ref w_ATTRIBUTE)) (E_w_ATTRIBUTE : Exa Z h0 w_ATTRIBUTE "org/axiswarp/tree/NodeKind") (O_ATTRIBUTE : Fld Z h0 w_ATTRIBUTE "java/lang/Enum" "ordinal" "I" (.int 2)) (S_NAMESPACE : Sta Z h0 "org/axiswarp/tree/NodeKind" "NAMESPACE" "Lorg/axiswarp/tree/NodeKind;" (.ref w_NAMESPACE)) (E_w_NAMESPACE : Exa Z h0 w_NAMESPACE "org/axiswarp/tree/NodeKind") (O_NAMESPACE : Fld Z h0 w_NAMESPACE "java/lang/Enum" "ordinal" "I" (.int 3)) (S_TEXT : Sta Z h0 "org/axiswarp/tree/NodeKind" "TEXT" "Lorg/axiswarp/tree/NodeKind;" (.ref w_TEXT)) (E_w_TEXT : Exa Z h0 w_TEXT "org/axiswarp/tree/NodeKind") (O_TEXT : Fld Z h0 w_TEXT "java/lang/Enum" "ordinal" "I" (.int 4)) (S_COMMENT : Sta Z h0 "org/axiswarp/tree/NodeKind" "COMMENT" "Lorg/axiswarp/tree/NodeKind;" (.ref w_COMMENT)) (E_w_COMMENT : Exa Z h0 w_COMMENT "org/axiswarp/tree/NodeKind") (O_COMMENT : Fld Z h0 w_COMMENT "java/lang/Enum" "ordinal" "I" (.int 5)) (S_PROCESSING_INSTRUCTION : Sta Z h0 "org/axiswarp/tree/NodeKind" "PROCESSING_INSTRUCTION" "Lorg/axiswarp/tree/NodeKind;" (.ref w_PROCESSING_INSTRUCTION)) (E_w_PROCESSING_INSTRUCTION : Exa Z h0 w_PROCESSING_INSTRUCTION "org/axiswarp/tree/NodeKind") (O_PROCESSING_INSTRUCTION : Fld Z h0 w_PROCESSING_INSTRUCTION "java/lang/Enum" "ordinal" "I" (.int 6)) :
    MetFree l (⟨"org/axiswarp/tree/NodeKindIsChildPinLaw", "pick", "(I)Lorg/axiswarp/tree/NodeKind;"⟩ : MethodName) (head1 (Jvm.Cond.code (⟨"org/axiswarp/tree/NodeKindIsChildPinLaw", "pick", "(I)Lorg/axiswarp/tree/NodeKind;"⟩ : MethodName) method_3_code 1 (some (.object "org/axiswarp/tree/NodeKind")) :: ws) ({ frames := 0, cells := 0, slots := 0, locals := 0 } : Room)) (fun a U => a = #[(.int (6 : Int32))] ∧ Z.Warmed39 U.vm ∧ U.heap = h0) (fun _ _ _ _ _ => True) (fun _ U o U' => ∃ v L, o = .returned v ∧ (Q1PROCESSING_INSTRUCTION Z w_DOCUMENT w_ELEMENT w_ATTRIBUTE w_NAMESPACE w_TEXT w_COMMENT w_PROCESSING_INSTRUCTION h0 n0) v U'.heap L ∧ FrameEnd U o U' L ({ frames := 0, cells := 0, slots := 0, locals := 0 } : Room).cells ({ frames := 0, cells := 0, slots := 0, locals := 0 } : Room).slots) := by
  refine MetFree.of_bodySF (plainFor_of_name pn_1) hisR ?_
  intro p e s m args below meth c s₁ Bd hml0 hP hK
  obtain ⟨rfl, hZ, hh⟩ := hP
  have hx := Bd.exec
  have hby := Bd.bytes
  have hlk : meth.locks = false := BodyLoose.notSynchronized Bd
  have hml : c.maxLocals = 1 := hml0
  have hown : s.vm.findClass "org/axiswarp/tree/NodeKindIsChildPinLaw" = some m.cls := findClass_of_methodNamed Bd.named
  have hnm := (name_of_methodNamed Bd.named Bd.method).1
  have X0 : Stand p l e ({ frames := 0, cells := 0, slots := 0, locals := 0 } : Room) s m #[(.int (6 : Int32))] below meth c s₁ [] 0 0 := Stand.of_body Bd
  have e0 : s₁.heap = h0 := by rw [← hh, Bd.state]; rfl
  have N := Fr.nil n0
  have Zs := Z0
  change OwnGo p.tables e below (OwnEnd s (Q1PROCESSING_INSTRUCTION Z w_DOCUMENT w_ELEMENT w_ATTRIBUTE w_NAMESPACE w_TEXT w_COMMENT w_PROCESSING_INSTRUCTION h0 n0) ({ frames := 0, cells := 0, slots := 0, locals := 0 } : Room).cells ({ frames := 0, cells := 0, slots := 0, locals := 0 } : Room).slots) _
  refine OwnGo.fwd (fun t k => castTop (ef_1PROCESSING_INSTRUCTION m (6 : Int32)) k) ?_
  show OwnGo _ _ _ _ (s₁.setTop (mkF m 0 #[.val (.int (6 : Int32))] []))
  refine OwnGo.fwd (fun t k => XS.iloadN X0.here hx rfl (hb hby d1_0) rfl k) ?_
  show OwnGo _ _ _ _ (s₁.setTop (mkF m 1 #[.val (.int (6 : Int32))] [(.int (6 : Int32))]))
  have hc1_1 : ¬ ((6 : Int) = (0 : Int)) := by decide
  refine OwnGo.fwd (fun t k => XS.ifYes X0.here hx rfl (pc0 := 1) (pc' := 8) rfl (hb hby d1_1) rfl ((if0 _ _).trans (own_bneq (by decide) (by decide) hc1_1).2) (by decide) (by decide) k) ?_
  show OwnGo _ _ _ _ (s₁.setTop (mkF m 8 #[.val (.int (6 : Int32))] []))
  refine OwnGo.fwd (fun t k => XS.iloadN X0.here hx rfl (hb hby d1_8) rfl k) ?_
  show OwnGo _ _ _ _ (s₁.setTop (mkF m 9 #[.val (.int (6 : Int32))] [(.int (6 : Int32))]))
  refine OwnGo.fwd (fun t k => XS.iconst X0.here hx rfl (hb hby d1_9) k) ?_
  show OwnGo _ _ _ _ (s₁.setTop (mkF m 10 #[.val (.int (6 : Int32))] [(.int (1 : Int32)), (.int (6 : Int32))]))
  have hc10_2 : ¬ ((6 : Int) = (1 : Int)) := by decide
  refine OwnGo.fwd (fun t k => XS.icmpYes X0.here hx rfl (pc0 := 10) (pc' := 17) rfl (hb hby d1_10) rfl (own_bneq (by decide) (by decide) hc10_2).2 (by decide) (by decide) k) ?_
  show OwnGo _ _ _ _ (s₁.setTop (mkF m 17 #[.val (.int (6 : Int32))] []))
  refine OwnGo.fwd (fun t k => XS.iloadN X0.here hx rfl (hb hby d1_17) rfl k) ?_
  show OwnGo _ _ _ _ (s₁.setTop (mkF m 18 #[.val (.int (6 : Int32))] [(.int (6 : Int32))]))
  refine OwnGo.fwd (fun t k => XS.iconst X0.here hx rfl (hb hby d1_18) k) ?_
  show OwnGo _ _ _ _ (s₁.setTop (mkF m 19 #[.val (.int (6 : Int32))] [(.int (2 : Int32)), (.int (6 : Int32))]))
  have hc19_3 : ¬ ((6 : Int) = (2 : Int)) := by decide
  refine OwnGo.fwd (fun t k => XS.icmpYes X0.here hx rfl (pc0 := 19) (pc' := 26) rfl (hb hby d1_19) rfl (own_bneq (by decide) (by decide) hc19_3).2 (by decide) (by decide) k) ?_
  show OwnGo _ _ _ _ (s₁.setTop (mkF m 26 #[.val (.int (6 : Int32))] []))
  refine OwnGo.fwd (fun t k => XS.iloadN X0.here hx rfl (hb hby d1_26) rfl k) ?_
  show OwnGo _ _ _ _ (s₁.setTop (mkF m 27 #[.val (.int (6 : Int32))] [(.int (6 : Int32))]))
  refine OwnGo.fwd (fun t k => XS.iconst X0.here hx rfl (hb hby d1_27) k) ?_
  show OwnGo _ _ _ _ (s₁.setTop (mkF m 28 #[.val (.int (6 : Int32))] [(.int (3 : Int32)), (.int (6 : Int32))]))
  have hc28_4 : ¬ ((6 : Int) = (3 : Int)) := by decide
  refine OwnGo.fwd (fun t k => XS.icmpYes X0.here hx rfl (pc0 := 28) (pc' := 35) rfl (hb hby d1_28) rfl (own_bneq (by decide) (by decide) hc28_4).2 (by decide) (by decide) k) ?_
  show OwnGo _ _ _ _ (s₁.setTop (mkF m 35 #[.val (.int (6 : Int32))] []))
  refine OwnGo.fwd (fun t k => XS.iloadN X0.here hx rfl (hb hby d1_35) rfl k) ?_
  show OwnGo _ _ _ _ (s₁.setTop (mkF m 36 #[.val (.int (6 : Int32))] [(.int (6 : Int32))]))
  refine OwnGo.fwd (fun t k => XS.iconst X0.here hx rfl (hb hby d1_36) k) ?_
  show OwnGo _ _ _ _ (s₁.setTop (mkF m 37 #[.val (.int (6 : Int32))] [(.int (4 : Int32)), (.int (6 : Int32))]))
  have hc37_5 : ¬ ((6 : Int) = (4 : Int)) := by decide
  refine OwnGo.fwd (fun t k => XS.icmpYes X0.here hx rfl (pc0 := 37) (pc' := 44) rfl (hb hby d1_37) rfl (own_bneq (by decide) (by decide) hc37_5).2 (by decide) (by decide) k) ?_
  show OwnGo _ _ _ _ (s₁.setTop (mkF m 44 #[.val (.int (6 : Int32))] []))
  refine OwnGo.fwd (fun t k => XS.iloadN X0.here hx rfl (hb hby d1_44) rfl k) ?_
  show OwnGo _ _ _ _ (s₁.setTop (mkF m 45 #[.val (.int (6 : Int32))] [(.int (6 : Int32))]))
  refine OwnGo.fwd (fun t k => XS.iconst X0.here hx rfl (hb hby d1_45) k) ?_
  show OwnGo _ _ _ _ (s₁.setTop (mkF m 46 #[.val (.int (6 : Int32))] [(.int (5 : Int32)), (.int (6 : Int32))]))
  have hc46_6 : ¬ ((6 : Int) = (5 : Int)) := by decide
  refine OwnGo.fwd (fun t k => XS.icmpYes X0.here hx rfl (pc0 := 46) (pc' := 53) rfl (hb hby d1_46) rfl (own_bneq (by decide) (by decide) hc46_6).2 (by decide) (by decide) k) ?_
  show OwnGo _ _ _ _ (s₁.setTop (mkF m 53 #[.val (.int (6 : Int32))] []))
  obtain ⟨T7, X7, e7, st7⟩ := getS2 X0 hx hZ hown (host := "") (Or.inl (hw _ (List.mem_of_getElem? (i := 14) rfl))) Via.refl e0 S_PROCESSING_INSTRUCTION (g := (mkF m 53 #[.val (.int (6 : Int32))] [])) rfl (hb hby d1_53)
  refine OwnGo.fwd st7 ?_
  show OwnGo _ _ _ _ (T7.setTop (mkF m 56 #[.val (.int (6 : Int32))] [(.ref w_PROCESSING_INSTRUCTION)]))
  exact own_retA X7 hlk hx Bd.returns rfl rfl (hb hby d1_56) (by decide) (by decide) e7 ⟨rfl, N, rfl⟩
theorem ef_2PROCESSING_INSTRUCTION (m : MethodId) (x0 : Addr) : entryFrame m #[(.ref x0)] 1 = mkF m 0 #[.val (.ref x0)] [] := by first | (simp [entryFrame, mkF, argsToLocals, Value.category, maxLocals]; done) | rfl
def Q2PROCESSING_INSTRUCTION (Z : State) (w_DOCUMENT : Addr) (w_ELEMENT : Addr) (w_ATTRIBUTE : Addr) (w_NAMESPACE : Addr) (w_TEXT : Addr) (w_COMMENT : Addr) (w_PROCESSING_INSTRUCTION : Addr) (h0 : Heap) (n0 : Nat) (v : Option Value) (h : Heap) (L : List Loc) : Prop := v = some (.int 1) ∧ Fr n0 L ∧ h = h0
set_option maxRecDepth 65536 in
set_option maxHeartbeats 40000000 in
theorem rm2PROCESSING_INSTRUCTION (l : Launch) (Z : State) (a0 : Array Value) (hw : ∀ d ∈ tables_1, d.before a0 Z = true) (ws : List Jvm.Cond) (w_DOCUMENT : Addr) (w_ELEMENT : Addr) (w_ATTRIBUTE : Addr) (w_NAMESPACE : Addr) (w_TEXT : Addr) (w_COMMENT : Addr) (w_PROCESSING_INSTRUCTION : Addr) (h0 : Heap) (n0 : Nat) (Z0 : n0 ≤ h0.size) (S_DOCUMENT : Sta Z h0 "org/axiswarp/tree/NodeKind" "DOCUMENT" "Lorg/axiswarp/tree/NodeKind;" (.ref w_DOCUMENT)) (E_w_DOCUMENT : Exa Z h0 w_DOCUMENT "org/axiswarp/tree/NodeKind") (O_DOCUMENT : Fld Z h0 w_DOCUMENT "java/lang/Enum" "ordinal" "I" (.int 0)) (S_ELEMENT : Sta Z h0 "org/axiswarp/tree/NodeKind" "ELEMENT" "Lorg/axiswarp/tree/NodeKind;" (.ref w_ELEMENT)) (E_w_ELEMENT : Exa Z h0 w_ELEMENT "org/axiswarp/tree/NodeKind") (O_ELEMENT : Fld Z h0 w_ELEMENT "java/lang/Enum" "ordinal" "I" (.int 1)) (S_ATTRIBUTE : Sta Z h0 "org/axiswarp/tree/NodeKind" "ATTRIBUTE" "Lorg/axiswarp/tree/NodeKind;" (.ref w_ATTRIBUTE)) (E_w_ATTRIBUTE : Exa Z h0 w_ATTRIBUTE "org/axiswarp/tree/NodeKind") (O_ATTRIBUTE : Fld Z h0 w_ATTRIBUTE "java/lang/Enum" "ordinal" "I" (.int 2)) (S_NAMESPACE : Sta Z h0 "org/axiswarp/tree/NodeKind" "NAMESPACE" "Lorg/axiswarp/tree/NodeKind;" (.ref w_NAMESPACE)) (E_w_NAMESPACE : Exa Z h0 w_NAMESPACE "org/axiswarp/tree/NodeKind") (O_NAMESPACE : Fld Z h0 w_NAMESPACE "java/lang/Enum" "ordinal" "I" (.int 3)) (S_TEXT : Sta Z h0 "org/axiswarp/tree/NodeKind" "TEXT" "Lorg/axiswarp/tree/NodeKind;" (.ref w_TEXT)) (E_w_TEXT : Exa Z h0 w_TEXT "org/axiswarp/tree/NodeKind") (O_TEXT : Fld Z h0 w_TEXT "java/lang/Enum" "ordinal" "I" (.int 4)) (S_COMMENT : Sta Z h0 "org/axiswarp/tree/NodeKind" "COMMENT" "Lorg/axiswarp/tree/NodeKind;" (.ref w_COMMENT)) (E_w_COMMENT : Exa Z h0 w_COMMENT "org/axiswarp/tree/NodeKind") (O_COMMENT : Fld Z h0 w_COMMENT "java/lang/Enum" "ordinal" "I" (.int 5)) (S_PROCESSING_INSTRUCTION : Sta Z h0 "org/axiswarp/tree/NodeKind" "PROCESSING_INSTRUCTION" "Lorg/axiswarp/tree/NodeKind;" (.ref w_PROCESSING_INSTRUCTION)) (E_w_PROCESSING_INSTRUCTION : Exa Z h0 w_PROCESSING_INSTRUCTION "org/axiswarp/tree/NodeKind") (O_PROCESSING_INSTRUCTION : Fld Z h0 w_PROCESSING_INSTRUCTION "java/lang/Enum" "ordinal" "I" (.int 6)) :
    MetFree l (⟨"org/axiswarp/tree/NodeKind", "isChild", "()Z"⟩ : MethodName) (head1 (Jvm.Cond.code (⟨"org/axiswarp/tree/NodeKind", "isChild", "()Z"⟩ : MethodName) prog_32_method_4_code 1 (some .boolean) :: ws) ({ frames := 0, cells := 0, slots := 0, locals := 0 } : Room)) (fun a U => a = #[(.ref w_PROCESSING_INSTRUCTION)] ∧ Z.Warmed39 U.vm ∧ U.heap = h0) (fun _ _ _ _ _ => True) (fun _ U o U' => ∃ v L, o = .returned v ∧ (Q2PROCESSING_INSTRUCTION Z w_DOCUMENT w_ELEMENT w_ATTRIBUTE w_NAMESPACE w_TEXT w_COMMENT w_PROCESSING_INSTRUCTION h0 n0) v U'.heap L ∧ FrameEnd U o U' L ({ frames := 0, cells := 0, slots := 0, locals := 0 } : Room).cells ({ frames := 0, cells := 0, slots := 0, locals := 0 } : Room).slots) := by
  refine MetFree.of_bodySF (plainFor_of_name pn_2) hisR ?_
  intro p e s m args below meth c s₁ Bd hml0 hP hK
  obtain ⟨rfl, hZ, hh⟩ := hP
  have hx := Bd.exec
  have hby := Bd.bytes
  have hlk : meth.locks = false := BodyLoose.notSynchronized Bd
  have hml : c.maxLocals = 1 := hml0
  have hown : s.vm.findClass "org/axiswarp/tree/NodeKind" = some m.cls := findClass_of_methodNamed Bd.named
  have hnm := (name_of_methodNamed Bd.named Bd.method).1
  have X0 : Stand p l e ({ frames := 0, cells := 0, slots := 0, locals := 0 } : Room) s m #[(.ref w_PROCESSING_INSTRUCTION)] below meth c s₁ [] 0 0 := Stand.of_body Bd
  have e0 : s₁.heap = h0 := by rw [← hh, Bd.state]; rfl
  have N := Fr.nil n0
  have Zs := Z0
  change OwnGo p.tables e below (OwnEnd s (Q2PROCESSING_INSTRUCTION Z w_DOCUMENT w_ELEMENT w_ATTRIBUTE w_NAMESPACE w_TEXT w_COMMENT w_PROCESSING_INSTRUCTION h0 n0) ({ frames := 0, cells := 0, slots := 0, locals := 0 } : Room).cells ({ frames := 0, cells := 0, slots := 0, locals := 0 } : Room).slots) _
  refine OwnGo.fwd (fun t k => castTop (ef_2PROCESSING_INSTRUCTION m w_PROCESSING_INSTRUCTION) k) ?_
  show OwnGo _ _ _ _ (s₁.setTop (mkF m 0 #[.val (.ref w_PROCESSING_INSTRUCTION)] []))
  have ne_DOCUMENT_ELEMENT : w_DOCUMENT ≠ w_ELEMENT := Fld.ne O_DOCUMENT O_ELEMENT (by decide)
  have ne_DOCUMENT_ATTRIBUTE : w_DOCUMENT ≠ w_ATTRIBUTE := Fld.ne O_DOCUMENT O_ATTRIBUTE (by decide)
  have ne_DOCUMENT_NAMESPACE : w_DOCUMENT ≠ w_NAMESPACE := Fld.ne O_DOCUMENT O_NAMESPACE (by decide)
  have ne_DOCUMENT_TEXT : w_DOCUMENT ≠ w_TEXT := Fld.ne O_DOCUMENT O_TEXT (by decide)
  have ne_DOCUMENT_COMMENT : w_DOCUMENT ≠ w_COMMENT := Fld.ne O_DOCUMENT O_COMMENT (by decide)
  have ne_DOCUMENT_PROCESSING_INSTRUCTION : w_DOCUMENT ≠ w_PROCESSING_INSTRUCTION := Fld.ne O_DOCUMENT O_PROCESSING_INSTRUCTION (by decide)
  have ne_ELEMENT_ATTRIBUTE : w_ELEMENT ≠ w_ATTRIBUTE := Fld.ne O_ELEMENT O_ATTRIBUTE (by decide)
  have ne_ELEMENT_NAMESPACE : w_ELEMENT ≠ w_NAMESPACE := Fld.ne O_ELEMENT O_NAMESPACE (by decide)
  have ne_ELEMENT_TEXT : w_ELEMENT ≠ w_TEXT := Fld.ne O_ELEMENT O_TEXT (by decide)
  have ne_ELEMENT_COMMENT : w_ELEMENT ≠ w_COMMENT := Fld.ne O_ELEMENT O_COMMENT (by decide)
  have ne_ELEMENT_PROCESSING_INSTRUCTION : w_ELEMENT ≠ w_PROCESSING_INSTRUCTION := Fld.ne O_ELEMENT O_PROCESSING_INSTRUCTION (by decide)
  have ne_ATTRIBUTE_NAMESPACE : w_ATTRIBUTE ≠ w_NAMESPACE := Fld.ne O_ATTRIBUTE O_NAMESPACE (by decide)
  have ne_ATTRIBUTE_TEXT : w_ATTRIBUTE ≠ w_TEXT := Fld.ne O_ATTRIBUTE O_TEXT (by decide)
  have ne_ATTRIBUTE_COMMENT : w_ATTRIBUTE ≠ w_COMMENT := Fld.ne O_ATTRIBUTE O_COMMENT (by decide)
  have ne_ATTRIBUTE_PROCESSING_INSTRUCTION : w_ATTRIBUTE ≠ w_PROCESSING_INSTRUCTION := Fld.ne O_ATTRIBUTE O_PROCESSING_INSTRUCTION (by decide)
  have ne_NAMESPACE_TEXT : w_NAMESPACE ≠ w_TEXT := Fld.ne O_NAMESPACE O_TEXT (by decide)
  have ne_NAMESPACE_COMMENT : w_NAMESPACE ≠ w_COMMENT := Fld.ne O_NAMESPACE O_COMMENT (by decide)
  have ne_NAMESPACE_PROCESSING_INSTRUCTION : w_NAMESPACE ≠ w_PROCESSING_INSTRUCTION := Fld.ne O_NAMESPACE O_PROCESSING_INSTRUCTION (by decide)
  have ne_TEXT_COMMENT : w_TEXT ≠ w_COMMENT := Fld.ne O_TEXT O_COMMENT (by decide)
  have ne_TEXT_PROCESSING_INSTRUCTION : w_TEXT ≠ w_PROCESSING_INSTRUCTION := Fld.ne O_TEXT O_PROCESSING_INSTRUCTION (by decide)
  have ne_COMMENT_PROCESSING_INSTRUCTION : w_COMMENT ≠ w_PROCESSING_INSTRUCTION := Fld.ne O_COMMENT O_PROCESSING_INSTRUCTION (by decide)
  refine OwnGo.fwd (fun t k => XS.aloadN X0.here hx rfl (hb hby d2_0) rfl rfl k) ?_
  show OwnGo _ _ _ _ (s₁.setTop (mkF m 1 #[.val (.ref w_PROCESSING_INSTRUCTION)] [(.ref w_PROCESSING_INSTRUCTION)]))
  obtain ⟨T1, X1, e1, st1⟩ := getS2 X0 hx hZ hown (host := "") (Or.inl (hw _ (List.mem_of_getElem? (i := 21) rfl))) Via.refl e0 S_DOCUMENT (g := (mkF m 1 #[.val (.ref w_PROCESSING_INSTRUCTION)] [(.ref w_PROCESSING_INSTRUCTION)])) rfl (hb hby d2_1)
  refine OwnGo.fwd st1 ?_
  show OwnGo _ _ _ _ (T1.setTop (mkF m 4 #[.val (.ref w_PROCESSING_INSTRUCTION)] [(.ref w_DOCUMENT), (.ref w_PROCESSING_INSTRUCTION)]))
  refine OwnGo.fwd (fun t k => Jvm.RoadKit.acmp (g := (mkF m 4 #[.val (.ref w_PROCESSING_INSTRUCTION)] [(.ref w_DOCUMENT), (.ref w_PROCESSING_INSTRUCTION)])) X1 hx rfl rfl rfl (pc0 := 4) (pc' := 7) (same := false) rfl (hb hby d2_4) rfl (decide_eq_false fun q => (Ne.symm ne_DOCUMENT_PROCESSING_INSTRUCTION) (Value.ref.inj q)) (by decide) (by decide) k) ?_
  show OwnGo _ _ _ _ (T1.setTop (mkF m 7 #[.val (.ref w_PROCESSING_INSTRUCTION)] []))
  refine OwnGo.fwd (fun t k => XS.aloadN X1.here hx rfl (hb hby d2_7) rfl rfl k) ?_
  show OwnGo _ _ _ _ (T1.setTop (mkF m 8 #[.val (.ref w_PROCESSING_INSTRUCTION)] [(.ref w_PROCESSING_INSTRUCTION)]))
  obtain ⟨T2, X2, e2, st2⟩ := getS2 X1 hx hZ hown (host := "") (Or.inl (hw _ (List.mem_of_getElem? (i := 24) rfl))) Via.refl e1 S_ATTRIBUTE (g := (mkF m 8 #[.val (.ref w_PROCESSING_INSTRUCTION)] [(.ref w_PROCESSING_INSTRUCTION)])) rfl (hb hby d2_8)
  refine OwnGo.fwd st2 ?_
  show OwnGo _ _ _ _ (T2.setTop (mkF m 11 #[.val (.ref w_PROCESSING_INSTRUCTION)] [(.ref w_ATTRIBUTE), (.ref w_PROCESSING_INSTRUCTION)]))
  refine OwnGo.fwd (fun t k => Jvm.RoadKit.acmp (g := (mkF m 11 #[.val (.ref w_PROCESSING_INSTRUCTION)] [(.ref w_ATTRIBUTE), (.ref w_PROCESSING_INSTRUCTION)])) X2 hx rfl rfl rfl (pc0 := 11) (pc' := 14) (same := false) rfl (hb hby d2_11) rfl (decide_eq_false fun q => (Ne.symm ne_ATTRIBUTE_PROCESSING_INSTRUCTION) (Value.ref.inj q)) (by decide) (by decide) k) ?_
  show OwnGo _ _ _ _ (T2.setTop (mkF m 14 #[.val (.ref w_PROCESSING_INSTRUCTION)] []))
  refine OwnGo.fwd (fun t k => XS.aloadN X2.here hx rfl (hb hby d2_14) rfl rfl k) ?_
  show OwnGo _ _ _ _ (T2.setTop (mkF m 15 #[.val (.ref w_PROCESSING_INSTRUCTION)] [(.ref w_PROCESSING_INSTRUCTION)]))
  obtain ⟨T3, X3, e3, st3⟩ := getS2 X2 hx hZ hown (host := "") (Or.inl (hw _ (List.mem_of_getElem? (i := 26) rfl))) Via.refl e2 S_NAMESPACE (g := (mkF m 15 #[.val (.ref w_PROCESSING_INSTRUCTION)] [(.ref w_PROCESSING_INSTRUCTION)])) rfl (hb hby d2_15)
  refine OwnGo.fwd st3 ?_
  show OwnGo _ _ _ _ (T3.setTop (mkF m 18 #[.val (.ref w_PROCESSING_INSTRUCTION)] [(.ref w_NAMESPACE), (.ref w_PROCESSING_INSTRUCTION)]))
  refine OwnGo.fwd (fun t k => Jvm.RoadKit.acmp (g := (mkF m 18 #[.val (.ref w_PROCESSING_INSTRUCTION)] [(.ref w_NAMESPACE), (.ref w_PROCESSING_INSTRUCTION)])) X3 hx rfl rfl rfl (pc0 := 18) (pc' := 21) (same := false) rfl (hb hby d2_18) rfl (decide_eq_false fun q => (Ne.symm ne_NAMESPACE_PROCESSING_INSTRUCTION) (Value.ref.inj q)) (by decide) (by decide) k) ?_
  show OwnGo _ _ _ _ (T3.setTop (mkF m 21 #[.val (.ref w_PROCESSING_INSTRUCTION)] []))
  refine OwnGo.fwd (fun t k => XS.iconst X3.here hx rfl (hb hby d2_21) k) ?_
  show OwnGo _ _ _ _ (T3.setTop (mkF m 22 #[.val (.ref w_PROCESSING_INSTRUCTION)] [(.int (1 : Int32))]))
  refine OwnGo.fwd (fun t k => XS.goto X3.here hx rfl (pc0 := 22) (pc' := 26) rfl (hb hby d2_22) (by decide) (by decide) k) ?_
  show OwnGo _ _ _ _ (T3.setTop (mkF m 26 #[.val (.ref w_PROCESSING_INSTRUCTION)] [(.int (1 : Int32))]))
  exact own_retZ X3 hlk hx Bd.returns (hb hby d2_26) (by decide) (by decide) e3 ⟨rfl, N, rfl⟩
theorem own_seven (x : Int32) : (x &&& (2147483647 : Int32)) % (7 : Int32) = 0 ∨ (x &&& (2147483647 : Int32)) % (7 : Int32) = 1 ∨ (x &&& (2147483647 : Int32)) % (7 : Int32) = 2 ∨ (x &&& (2147483647 : Int32)) % (7 : Int32) = 3 ∨ (x &&& (2147483647 : Int32)) % (7 : Int32) = 4 ∨ (x &&& (2147483647 : Int32)) % (7 : Int32) = 5 ∨ (x &&& (2147483647 : Int32)) % (7 : Int32) = 6 := by
  have q := c_and x (2147483647 : Int32) (by decide)
  have r := (c_irem (x &&& (2147483647 : Int32)) (7 : Int32) 7 (by decide)).1 q.1
  simp only [← Int32.toInt_inj, r, Int32.reduceToInt]
  omega
theorem pn_0 : plainName "org/axiswarp/tree/NodeKindIsChildPinLaw" = true := by first | (simp [plainName, overriddenIn]; done) | decide +kernel
theorem ef_0 (m : MethodId) (x0 : Int32) : entryFrame m #[(.int x0)] maxLocals = mkF m 0 #[.val (.int x0), .unset, .unset, .unset] [] := by first | (simp [entryFrame, mkF, argsToLocals, Value.category, maxLocals]; done) | rfl
def Q0 (Z : State) (p1 : Int32) (w_DOCUMENT : Addr) (w_ELEMENT : Addr) (w_ATTRIBUTE : Addr) (w_NAMESPACE : Addr) (w_TEXT : Addr) (w_COMMENT : Addr) (w_PROCESSING_INSTRUCTION : Addr) (h0 : Heap) (n0 : Nat) (v : Option Value) (h : Heap) (L : List Loc) : Prop := v = some (.int 1) ∧ Fr n0 L
set_option maxRecDepth 65536 in
set_option maxHeartbeats 40000000 in
theorem rm0 (l : Launch) (Z : State) (a0 : Array Value) (hw : ∀ d ∈ tables_1, d.before a0 Z = true) (ws : List Jvm.Cond) (p1 : Int32) (w_DOCUMENT : Addr) (w_ELEMENT : Addr) (w_ATTRIBUTE : Addr) (w_NAMESPACE : Addr) (w_TEXT : Addr) (w_COMMENT : Addr) (w_PROCESSING_INSTRUCTION : Addr) (h0 : Heap) (n0 : Nat) (Z0 : n0 ≤ h0.size) (S_DOCUMENT : Sta Z h0 "org/axiswarp/tree/NodeKind" "DOCUMENT" "Lorg/axiswarp/tree/NodeKind;" (.ref w_DOCUMENT)) (E_w_DOCUMENT : Exa Z h0 w_DOCUMENT "org/axiswarp/tree/NodeKind") (O_DOCUMENT : Fld Z h0 w_DOCUMENT "java/lang/Enum" "ordinal" "I" (.int 0)) (S_ELEMENT : Sta Z h0 "org/axiswarp/tree/NodeKind" "ELEMENT" "Lorg/axiswarp/tree/NodeKind;" (.ref w_ELEMENT)) (E_w_ELEMENT : Exa Z h0 w_ELEMENT "org/axiswarp/tree/NodeKind") (O_ELEMENT : Fld Z h0 w_ELEMENT "java/lang/Enum" "ordinal" "I" (.int 1)) (S_ATTRIBUTE : Sta Z h0 "org/axiswarp/tree/NodeKind" "ATTRIBUTE" "Lorg/axiswarp/tree/NodeKind;" (.ref w_ATTRIBUTE)) (E_w_ATTRIBUTE : Exa Z h0 w_ATTRIBUTE "org/axiswarp/tree/NodeKind") (O_ATTRIBUTE : Fld Z h0 w_ATTRIBUTE "java/lang/Enum" "ordinal" "I" (.int 2)) (S_NAMESPACE : Sta Z h0 "org/axiswarp/tree/NodeKind" "NAMESPACE" "Lorg/axiswarp/tree/NodeKind;" (.ref w_NAMESPACE)) (E_w_NAMESPACE : Exa Z h0 w_NAMESPACE "org/axiswarp/tree/NodeKind") (O_NAMESPACE : Fld Z h0 w_NAMESPACE "java/lang/Enum" "ordinal" "I" (.int 3)) (S_TEXT : Sta Z h0 "org/axiswarp/tree/NodeKind" "TEXT" "Lorg/axiswarp/tree/NodeKind;" (.ref w_TEXT)) (E_w_TEXT : Exa Z h0 w_TEXT "org/axiswarp/tree/NodeKind") (O_TEXT : Fld Z h0 w_TEXT "java/lang/Enum" "ordinal" "I" (.int 4)) (S_COMMENT : Sta Z h0 "org/axiswarp/tree/NodeKind" "COMMENT" "Lorg/axiswarp/tree/NodeKind;" (.ref w_COMMENT)) (E_w_COMMENT : Exa Z h0 w_COMMENT "org/axiswarp/tree/NodeKind") (O_COMMENT : Fld Z h0 w_COMMENT "java/lang/Enum" "ordinal" "I" (.int 5)) (S_PROCESSING_INSTRUCTION : Sta Z h0 "org/axiswarp/tree/NodeKind" "PROCESSING_INSTRUCTION" "Lorg/axiswarp/tree/NodeKind;" (.ref w_PROCESSING_INSTRUCTION)) (E_w_PROCESSING_INSTRUCTION : Exa Z h0 w_PROCESSING_INSTRUCTION "org/axiswarp/tree/NodeKind") (O_PROCESSING_INSTRUCTION : Fld Z h0 w_PROCESSING_INSTRUCTION "java/lang/Enum" "ordinal" "I" (.int 6)) :
    MetFree l x (head1 (Jvm.Cond.code x code maxLocals ret :: ws) room_1) (fun a U => a = #[(.int p1)] ∧ Z.Warmed39 U.vm ∧ U.heap = h0) (fun _ _ _ _ _ => True) (fun _ U o U' => ∃ v L, o = .returned v ∧ (Q0 Z p1 w_DOCUMENT w_ELEMENT w_ATTRIBUTE w_NAMESPACE w_TEXT w_COMMENT w_PROCESSING_INSTRUCTION h0 n0) v U'.heap L ∧ FrameEnd U o U' L room_1.cells room_1.slots) := by
  refine MetFree.of_bodySF (plainFor_of_name pn_0) hisR ?_
  intro p e s m args below meth c s₁ Bd hml0 hP hK
  obtain ⟨rfl, hZ, hh⟩ := hP
  have hx := Bd.exec
  have hby := Bd.bytes
  have hlk : meth.locks = false := BodyLoose.notSynchronized Bd
  have hml : c.maxLocals = 4 := hml0
  have hown : s.vm.findClass "org/axiswarp/tree/NodeKindIsChildPinLaw" = some m.cls := findClass_of_methodNamed Bd.named
  have hnm := (name_of_methodNamed Bd.named Bd.method).1
  have X0 : Stand p l e room_1 s m #[(.int p1)] below meth c s₁ [] 0 0 := Stand.of_body Bd
  have e0 : s₁.heap = h0 := by rw [← hh, Bd.state]; rfl
  have N := Fr.nil n0
  have Zs := Z0
  change OwnGo p.tables e below (OwnEnd s (Q0 Z p1 w_DOCUMENT w_ELEMENT w_ATTRIBUTE w_NAMESPACE w_TEXT w_COMMENT w_PROCESSING_INSTRUCTION h0 n0) room_1.cells room_1.slots) _
  refine OwnGo.fwd (fun t k => castTop (ef_0 m p1) k) ?_
  show OwnGo _ _ _ _ (s₁.setTop (mkF m 0 #[.val (.int p1), .unset, .unset, .unset] []))
  have ne_DOCUMENT_ELEMENT : w_DOCUMENT ≠ w_ELEMENT := Fld.ne O_DOCUMENT O_ELEMENT (by decide)
  have ne_DOCUMENT_ATTRIBUTE : w_DOCUMENT ≠ w_ATTRIBUTE := Fld.ne O_DOCUMENT O_ATTRIBUTE (by decide)
  have ne_DOCUMENT_NAMESPACE : w_DOCUMENT ≠ w_NAMESPACE := Fld.ne O_DOCUMENT O_NAMESPACE (by decide)
  have ne_DOCUMENT_TEXT : w_DOCUMENT ≠ w_TEXT := Fld.ne O_DOCUMENT O_TEXT (by decide)
  have ne_DOCUMENT_COMMENT : w_DOCUMENT ≠ w_COMMENT := Fld.ne O_DOCUMENT O_COMMENT (by decide)
  have ne_DOCUMENT_PROCESSING_INSTRUCTION : w_DOCUMENT ≠ w_PROCESSING_INSTRUCTION := Fld.ne O_DOCUMENT O_PROCESSING_INSTRUCTION (by decide)
  have ne_ELEMENT_ATTRIBUTE : w_ELEMENT ≠ w_ATTRIBUTE := Fld.ne O_ELEMENT O_ATTRIBUTE (by decide)
  have ne_ELEMENT_NAMESPACE : w_ELEMENT ≠ w_NAMESPACE := Fld.ne O_ELEMENT O_NAMESPACE (by decide)
  have ne_ELEMENT_TEXT : w_ELEMENT ≠ w_TEXT := Fld.ne O_ELEMENT O_TEXT (by decide)
  have ne_ELEMENT_COMMENT : w_ELEMENT ≠ w_COMMENT := Fld.ne O_ELEMENT O_COMMENT (by decide)
  have ne_ELEMENT_PROCESSING_INSTRUCTION : w_ELEMENT ≠ w_PROCESSING_INSTRUCTION := Fld.ne O_ELEMENT O_PROCESSING_INSTRUCTION (by decide)
  have ne_ATTRIBUTE_NAMESPACE : w_ATTRIBUTE ≠ w_NAMESPACE := Fld.ne O_ATTRIBUTE O_NAMESPACE (by decide)
  have ne_ATTRIBUTE_TEXT : w_ATTRIBUTE ≠ w_TEXT := Fld.ne O_ATTRIBUTE O_TEXT (by decide)
  have ne_ATTRIBUTE_COMMENT : w_ATTRIBUTE ≠ w_COMMENT := Fld.ne O_ATTRIBUTE O_COMMENT (by decide)
  have ne_ATTRIBUTE_PROCESSING_INSTRUCTION : w_ATTRIBUTE ≠ w_PROCESSING_INSTRUCTION := Fld.ne O_ATTRIBUTE O_PROCESSING_INSTRUCTION (by decide)
  have ne_NAMESPACE_TEXT : w_NAMESPACE ≠ w_TEXT := Fld.ne O_NAMESPACE O_TEXT (by decide)
  have ne_NAMESPACE_COMMENT : w_NAMESPACE ≠ w_COMMENT := Fld.ne O_NAMESPACE O_COMMENT (by decide)
  have ne_NAMESPACE_PROCESSING_INSTRUCTION : w_NAMESPACE ≠ w_PROCESSING_INSTRUCTION := Fld.ne O_NAMESPACE O_PROCESSING_INSTRUCTION (by decide)
  have ne_TEXT_COMMENT : w_TEXT ≠ w_COMMENT := Fld.ne O_TEXT O_COMMENT (by decide)
  have ne_TEXT_PROCESSING_INSTRUCTION : w_TEXT ≠ w_PROCESSING_INSTRUCTION := Fld.ne O_TEXT O_PROCESSING_INSTRUCTION (by decide)
  have ne_COMMENT_PROCESSING_INSTRUCTION : w_COMMENT ≠ w_PROCESSING_INSTRUCTION := Fld.ne O_COMMENT O_PROCESSING_INSTRUCTION (by decide)
  refine OwnGo.fwd (fun t k => XS.iloadN X0.here hx rfl (hb hby at_0) rfl k) ?_
  show OwnGo _ _ _ _ (s₁.setTop (mkF m 1 #[.val (.int p1), .unset, .unset, .unset] [(.int p1)]))
  refine OwnGo.fwd (fun t k => X0.ldcInt hx hown (mvT hZ (hw _ (List.mem_of_getElem? (i := 0) rfl))) (g := (mkF m 1 #[.val (.int p1), .unset, .unset, .unset] [(.int p1)])) rfl (hb hby at_1) t k) ?_
  show OwnGo _ _ _ _ (s₁.setTop (mkF m 3 #[.val (.int p1), .unset, .unset, .unset] [(.int (2147483647 : Int32)), (.int p1)]))
  refine OwnGo.fwd (fun t k => XS.iand X0.here hx rfl (hb hby at_3) rfl k) ?_
  show OwnGo _ _ _ _ (s₁.setTop (mkF m 4 #[.val (.int p1), .unset, .unset, .unset] [(.int (p1 &&& (2147483647 : Int32)))]))
  refine OwnGo.fwd (fun t k => XS.bipush X0.here hx rfl (hb hby at_4) k) ?_
  show OwnGo _ _ _ _ (s₁.setTop (mkF m 6 #[.val (.int p1), .unset, .unset, .unset] [(.int (7 : Int32)), (.int (p1 &&& (2147483647 : Int32)))]))
  refine OwnGo.fwd (fun t k => iremM X0 hx rfl (hb hby at_6) rfl (by decide) k) ?_
  show OwnGo _ _ _ _ (s₁.setTop (mkF m 7 #[.val (.int p1), .unset, .unset, .unset] [(.int ((p1 &&& (2147483647 : Int32)) % (7 : Int32)))]))
  obtain ⟨kk, hv_kk⟩ : ∃ q : Int32, q = ((p1 &&& (2147483647 : Int32)) % (7 : Int32)) := ⟨_, rfl⟩
  rw [← hv_kk]
  show OwnGo _ _ _ _ (s₁.setTop (mkF m 7 #[.val (.int p1), .unset, .unset, .unset] [(.int kk)]))
  have hk7 := own_seven p1
  rw [← hv_kk] at hk7
  rcases (show kk = (0 : Int32) ∨ kk = (1 : Int32) ∨ kk = (2 : Int32) ∨ kk = (3 : Int32) ∨ kk = (4 : Int32) ∨ kk = (5 : Int32) ∨ kk = (6 : Int32) from hk7) with rfl | rfl | rfl | rfl | rfl | rfl | rfl
  · show OwnGo _ _ _ _ (s₁.setTop (mkF m 7 #[.val (.int p1), .unset, .unset, .unset] [(.int (0 : Int32))]))
    refine OwnGo.fwd (fun t k => XS.istoreN X0.here hx rfl (hb hby at_7) rfl (l' := #[.val (.int p1), .val (.int (0 : Int32)), .unset, .unset]) rfl k) ?_
    show OwnGo _ _ _ _ (s₁.setTop (mkF m 8 #[.val (.int p1), .val (.int (0 : Int32)), .unset, .unset] []))
    refine OwnGo.fwd (fun t k => XS.iloadN X0.here hx rfl (hb hby at_8) rfl k) ?_
    show OwnGo _ _ _ _ (s₁.setTop (mkF m 9 #[.val (.int p1), .val (.int (0 : Int32)), .unset, .unset] [(.int (0 : Int32))]))
    obtain ⟨_, _, ⟨T1, L1, k1, n1⟩, -, X1, ⟨Lc1, hQ1, l1, y1, z1⟩, st1⟩ := Jvm.LawKit.callS X0 hx (y := (⟨"org/axiswarp/tree/NodeKindIsChildPinLaw", "pick", "(I)Lorg/axiswarp/tree/NodeKind;"⟩ : MethodName)) hown (mvT hZ (hw _ (List.mem_of_getElem? (i := 1) rfl))) (mvT hZ (hw _ (List.mem_of_getElem? (i := 2) rfl))) (mvT hZ (hw _ (List.mem_of_getElem? (i := 3) rfl))) (mvT hZ (hw _ (List.mem_of_getElem? (i := 4) rfl))) (by decide) (backOf (W := 0) (rm1DOCUMENT l Z a0 hw [] w_DOCUMENT w_ELEMENT w_ATTRIBUTE w_NAMESPACE w_TEXT w_COMMENT w_PROCESSING_INSTRUCTION h0 n0 Zs S_DOCUMENT E_w_DOCUMENT O_DOCUMENT S_ELEMENT E_w_ELEMENT O_ELEMENT S_ATTRIBUTE E_w_ATTRIBUTE O_ATTRIBUTE S_NAMESPACE E_w_NAMESPACE O_NAMESPACE S_TEXT E_w_TEXT O_TEXT S_COMMENT E_w_COMMENT O_COMMENT S_PROCESSING_INSTRUCTION E_w_PROCESSING_INSTRUCTION O_PROCESSING_INSTRUCTION) hZ (hw _ (List.mem_of_getElem? (i := 4) rfl)) (hw _ (List.mem_of_getElem? (i := 3) rfl)) (by decide) (by decide)) (g := (mkF m 9 #[.val (.int p1), .val (.int (0 : Int32)), .unset, .unset] [(.int (0 : Int32))])) rfl (by rw [hml]; rfl) (argsL := [(.int (0 : Int32))]) (rest := []) (lenOf pd_0 rfl) rfl (by show 2 * 0 + _ ≤ _; exact Nat.le_of_eq rfl) (hb hby at_9) (fun _ _ => ⟨rfl, e0, (by decide : 0 + 0 ≤ _), (by decide : 0 + 0 ≤ _)⟩)
    dsimp only [Pt.U, Pt.locs, Pt.cells, Pt.slots] at X1 l1 y1 z1 st1 hQ1
    subst l1 y1 z1
    obtain ⟨rfl, N1q, e1⟩ := hQ1
    have N := Fr.app N N1q
    refine OwnGo.fwd st1 ?_
    show OwnGo _ _ _ _ (T1.setTop (mkF m 12 #[.val (.int p1), .val (.int (0 : Int32)), .unset, .unset] [(.ref w_DOCUMENT)]))
    refine OwnGo.fwd (fun t k => XS.astoreN X1.here hx rfl (hb hby at_12) rfl rfl (l' := #[.val (.int p1), .val (.int (0 : Int32)), .val (.ref w_DOCUMENT), .unset]) rfl k) ?_
    show OwnGo _ _ _ _ (T1.setTop (mkF m 13 #[.val (.int p1), .val (.int (0 : Int32)), .val (.ref w_DOCUMENT), .unset] []))
    refine OwnGo.fwd (fun t k => XS.aloadN X1.here hx rfl (hb hby at_13) rfl rfl k) ?_
    show OwnGo _ _ _ _ (T1.setTop (mkF m 14 #[.val (.int p1), .val (.int (0 : Int32)), .val (.ref w_DOCUMENT), .unset] [(.ref w_DOCUMENT)]))
    obtain ⟨T2, X2, e2, st2⟩ := getS2 X1 hx hZ hown (host := "") (Or.inl (hw _ (List.mem_of_getElem? (i := 8) rfl))) Via.refl e1 S_ELEMENT (g := (mkF m 14 #[.val (.int p1), .val (.int (0 : Int32)), .val (.ref w_DOCUMENT), .unset] [(.ref w_DOCUMENT)])) rfl (hb hby at_14)
    refine OwnGo.fwd st2 ?_
    show OwnGo _ _ _ _ (T2.setTop (mkF m 17 #[.val (.int p1), .val (.int (0 : Int32)), .val (.ref w_DOCUMENT), .unset] [(.ref w_ELEMENT), (.ref w_DOCUMENT)]))
    refine OwnGo.fwd (fun t k => Jvm.RoadKit.acmp (g := (mkF m 17 #[.val (.int p1), .val (.int (0 : Int32)), .val (.ref w_DOCUMENT), .unset] [(.ref w_ELEMENT), (.ref w_DOCUMENT)])) X2 hx rfl rfl rfl (pc0 := 17) (pc' := 20) (same := false) rfl (hb hby at_17) rfl (decide_eq_false fun q => ne_DOCUMENT_ELEMENT (Value.ref.inj q)) (by decide) (by decide) k) ?_
    show OwnGo _ _ _ _ (T2.setTop (mkF m 20 #[.val (.int p1), .val (.int (0 : Int32)), .val (.ref w_DOCUMENT), .unset] []))
    refine OwnGo.fwd (fun t k => XS.aloadN X2.here hx rfl (hb hby at_20) rfl rfl k) ?_
    show OwnGo _ _ _ _ (T2.setTop (mkF m 21 #[.val (.int p1), .val (.int (0 : Int32)), .val (.ref w_DOCUMENT), .unset] [(.ref w_DOCUMENT)]))
    obtain ⟨T3, X3, e3, st3⟩ := getS2 X2 hx hZ hown (host := "") (Or.inl (hw _ (List.mem_of_getElem? (i := 10) rfl))) Via.refl e2 S_TEXT (g := (mkF m 21 #[.val (.int p1), .val (.int (0 : Int32)), .val (.ref w_DOCUMENT), .unset] [(.ref w_DOCUMENT)])) rfl (hb hby at_21)
    refine OwnGo.fwd st3 ?_
    show OwnGo _ _ _ _ (T3.setTop (mkF m 24 #[.val (.int p1), .val (.int (0 : Int32)), .val (.ref w_DOCUMENT), .unset] [(.ref w_TEXT), (.ref w_DOCUMENT)]))
    refine OwnGo.fwd (fun t k => Jvm.RoadKit.acmp (g := (mkF m 24 #[.val (.int p1), .val (.int (0 : Int32)), .val (.ref w_DOCUMENT), .unset] [(.ref w_TEXT), (.ref w_DOCUMENT)])) X3 hx rfl rfl rfl (pc0 := 24) (pc' := 27) (same := false) rfl (hb hby at_24) rfl (decide_eq_false fun q => ne_DOCUMENT_TEXT (Value.ref.inj q)) (by decide) (by decide) k) ?_
    show OwnGo _ _ _ _ (T3.setTop (mkF m 27 #[.val (.int p1), .val (.int (0 : Int32)), .val (.ref w_DOCUMENT), .unset] []))
    refine OwnGo.fwd (fun t k => XS.aloadN X3.here hx rfl (hb hby at_27) rfl rfl k) ?_
    show OwnGo _ _ _ _ (T3.setTop (mkF m 28 #[.val (.int p1), .val (.int (0 : Int32)), .val (.ref w_DOCUMENT), .unset] [(.ref w_DOCUMENT)]))
    obtain ⟨T4, X4, e4, st4⟩ := getS2 X3 hx hZ hown (host := "") (Or.inl (hw _ (List.mem_of_getElem? (i := 12) rfl))) Via.refl e3 S_COMMENT (g := (mkF m 28 #[.val (.int p1), .val (.int (0 : Int32)), .val (.ref w_DOCUMENT), .unset] [(.ref w_DOCUMENT)])) rfl (hb hby at_28)
    refine OwnGo.fwd st4 ?_
    show OwnGo _ _ _ _ (T4.setTop (mkF m 31 #[.val (.int p1), .val (.int (0 : Int32)), .val (.ref w_DOCUMENT), .unset] [(.ref w_COMMENT), (.ref w_DOCUMENT)]))
    refine OwnGo.fwd (fun t k => Jvm.RoadKit.acmp (g := (mkF m 31 #[.val (.int p1), .val (.int (0 : Int32)), .val (.ref w_DOCUMENT), .unset] [(.ref w_COMMENT), (.ref w_DOCUMENT)])) X4 hx rfl rfl rfl (pc0 := 31) (pc' := 34) (same := false) rfl (hb hby at_31) rfl (decide_eq_false fun q => ne_DOCUMENT_COMMENT (Value.ref.inj q)) (by decide) (by decide) k) ?_
    show OwnGo _ _ _ _ (T4.setTop (mkF m 34 #[.val (.int p1), .val (.int (0 : Int32)), .val (.ref w_DOCUMENT), .unset] []))
    refine OwnGo.fwd (fun t k => XS.aloadN X4.here hx rfl (hb hby at_34) rfl rfl k) ?_
    show OwnGo _ _ _ _ (T4.setTop (mkF m 35 #[.val (.int p1), .val (.int (0 : Int32)), .val (.ref w_DOCUMENT), .unset] [(.ref w_DOCUMENT)]))
    obtain ⟨T5, X5, e5, st5⟩ := getS2 X4 hx hZ hown (host := "") (Or.inl (hw _ (List.mem_of_getElem? (i := 14) rfl))) Via.refl e4 S_PROCESSING_INSTRUCTION (g := (mkF m 35 #[.val (.int p1), .val (.int (0 : Int32)), .val (.ref w_DOCUMENT), .unset] [(.ref w_DOCUMENT)])) rfl (hb hby at_35)
    refine OwnGo.fwd st5 ?_
    show OwnGo _ _ _ _ (T5.setTop (mkF m 38 #[.val (.int p1), .val (.int (0 : Int32)), .val (.ref w_DOCUMENT), .unset] [(.ref w_PROCESSING_INSTRUCTION), (.ref w_DOCUMENT)]))
    refine OwnGo.fwd (fun t k => Jvm.RoadKit.acmp (g := (mkF m 38 #[.val (.int p1), .val (.int (0 : Int32)), .val (.ref w_DOCUMENT), .unset] [(.ref w_PROCESSING_INSTRUCTION), (.ref w_DOCUMENT)])) X5 hx rfl rfl rfl (pc0 := 38) (pc' := 45) (same := false) rfl (hb hby at_38) rfl (decide_eq_false fun q => ne_DOCUMENT_PROCESSING_INSTRUCTION (Value.ref.inj q)) (by decide) (by decide) k) ?_
    show OwnGo _ _ _ _ (T5.setTop (mkF m 45 #[.val (.int p1), .val (.int (0 : Int32)), .val (.ref w_DOCUMENT), .unset] []))
    refine OwnGo.fwd (fun t k => XS.iconst X5.here hx rfl (hb hby at_45) k) ?_
    show OwnGo _ _ _ _ (T5.setTop (mkF m 46 #[.val (.int p1), .val (.int (0 : Int32)), .val (.ref w_DOCUMENT), .unset] [(.int (0 : Int32))]))
    refine OwnGo.fwd (fun t k => XS.istoreN X5.here hx rfl (hb hby at_46) rfl (l' := #[.val (.int p1), .val (.int (0 : Int32)), .val (.ref w_DOCUMENT), .val (.int (0 : Int32))]) rfl k) ?_
    show OwnGo _ _ _ _ (T5.setTop (mkF m 47 #[.val (.int p1), .val (.int (0 : Int32)), .val (.ref w_DOCUMENT), .val (.int (0 : Int32))] []))
    refine OwnGo.fwd (fun t k => XS.aloadN X5.here hx rfl (hb hby at_47) rfl rfl k) ?_
    show OwnGo _ _ _ _ (T5.setTop (mkF m 48 #[.val (.int p1), .val (.int (0 : Int32)), .val (.ref w_DOCUMENT), .val (.int (0 : Int32))] [(.ref w_DOCUMENT)]))
    obtain ⟨cq6, kq6, q6a, q6b, q6c⟩ := isOf hZ e5 E_w_DOCUMENT
    obtain ⟨_, _, ⟨T6, L6, k6, n6⟩, -, X6, ⟨Lc6, hQ6, l6, y6, z6⟩, st6⟩ := X5.virtualBack hx (y := (⟨"org/axiswarp/tree/NodeKind", "isChild", "()Z"⟩ : MethodName)) (z := (⟨"org/axiswarp/tree/NodeKind", "isChild", "()Z"⟩ : MethodName)) hown (mvT hZ (hw _ (List.mem_of_getElem? (i := 16) rfl))) (mvT hZ (hw _ (List.mem_of_getElem? (i := 17) rfl))) (notFace_of_selects (args := #[]) (mvT hZ (hw _ (List.mem_of_getElem? (i := 19) rfl)))) (mvT hZ (hw _ (List.mem_of_getElem? (i := 19) rfl))) (mvT hZ (hw _ (List.mem_of_getElem? (i := 18) rfl))) (by decide) (backOf (W := 0) (rm2DOCUMENT l Z a0 hw [] w_DOCUMENT w_ELEMENT w_ATTRIBUTE w_NAMESPACE w_TEXT w_COMMENT w_PROCESSING_INSTRUCTION h0 n0 Zs S_DOCUMENT E_w_DOCUMENT O_DOCUMENT S_ELEMENT E_w_ELEMENT O_ELEMENT S_ATTRIBUTE E_w_ATTRIBUTE O_ATTRIBUTE S_NAMESPACE E_w_NAMESPACE O_NAMESPACE S_TEXT E_w_TEXT O_TEXT S_COMMENT E_w_COMMENT O_COMMENT S_PROCESSING_INSTRUCTION E_w_PROCESSING_INSTRUCTION O_PROCESSING_INSTRUCTION) hZ (hw _ (List.mem_of_getElem? (i := 20) rfl)) (hw _ (List.mem_of_getElem? (i := 6) rfl)) (by decide) (by decide)) q6a q6c (g := (mkF m 48 #[.val (.int p1), .val (.int (0 : Int32)), .val (.ref w_DOCUMENT), .val (.int (0 : Int32))] [(.ref w_DOCUMENT)])) rfl (by rw [hml]; rfl) (Steps.refl _) (argsL := []) (rest := []) (lenOf pd_1 rfl) rfl (by show 2 * 0 + _ ≤ _; exact Nat.le_of_eq rfl) (hb hby at_48) (fun _ _ => ⟨rfl, e5, (by decide : 0 + 0 ≤ _), (by decide : 0 + 0 ≤ _)⟩)
    dsimp only [Pt.U, Pt.locs, Pt.cells, Pt.slots] at X6 l6 y6 z6 st6 hQ6
    subst l6 y6 z6
    obtain ⟨rfl, N6q, e6⟩ := hQ6
    have N := Fr.app N N6q
    refine OwnGo.thru st6 ?_
    show OwnGo _ _ _ _ (T6.setTop (mkF m 51 #[.val (.int p1), .val (.int (0 : Int32)), .val (.ref w_DOCUMENT), .val (.int (0 : Int32))] [(.int (0 : Int32))]))
    refine OwnGo.fwd (fun t k => XS.iloadN X6.here hx rfl (hb hby at_51) rfl k) ?_
    show OwnGo _ _ _ _ (T6.setTop (mkF m 52 #[.val (.int p1), .val (.int (0 : Int32)), .val (.ref w_DOCUMENT), .val (.int (0 : Int32))] [(.int (0 : Int32)), (.int (0 : Int32))]))
    have hc52_7 : (0 : Int) = (0 : Int) := rfl
    refine OwnGo.fwd (fun t k => XS.icmpNo X6.here hx rfl (hb hby at_52) rfl (own_beq (by decide) (by decide) hc52_7).2 k) ?_
    show OwnGo _ _ _ _ (T6.setTop (mkF m 55 #[.val (.int p1), .val (.int (0 : Int32)), .val (.ref w_DOCUMENT), .val (.int (0 : Int32))] []))
    refine OwnGo.fwd (fun t k => XS.iconst X6.here hx rfl (hb hby at_55) k) ?_
    show OwnGo _ _ _ _ (T6.setTop (mkF m 56 #[.val (.int p1), .val (.int (0 : Int32)), .val (.ref w_DOCUMENT), .val (.int (0 : Int32))] [(.int (1 : Int32))]))
    refine OwnGo.fwd (fun t k => XS.goto X6.here hx rfl (pc0 := 56) (pc' := 60) rfl (hb hby at_56) (by decide) (by decide) k) ?_
    show OwnGo _ _ _ _ (T6.setTop (mkF m 60 #[.val (.int p1), .val (.int (0 : Int32)), .val (.ref w_DOCUMENT), .val (.int (0 : Int32))] [(.int (1 : Int32))]))
    exact own_retZ X6 hlk hx Bd.returns (hb hby at_60) (by decide) (by decide) e6 ⟨rfl, N⟩
  · show OwnGo _ _ _ _ (s₁.setTop (mkF m 7 #[.val (.int p1), .unset, .unset, .unset] [(.int (1 : Int32))]))
    refine OwnGo.fwd (fun t k => XS.istoreN X0.here hx rfl (hb hby at_7) rfl (l' := #[.val (.int p1), .val (.int (1 : Int32)), .unset, .unset]) rfl k) ?_
    show OwnGo _ _ _ _ (s₁.setTop (mkF m 8 #[.val (.int p1), .val (.int (1 : Int32)), .unset, .unset] []))
    refine OwnGo.fwd (fun t k => XS.iloadN X0.here hx rfl (hb hby at_8) rfl k) ?_
    show OwnGo _ _ _ _ (s₁.setTop (mkF m 9 #[.val (.int p1), .val (.int (1 : Int32)), .unset, .unset] [(.int (1 : Int32))]))
    obtain ⟨_, _, ⟨T8, L8, k8, n8⟩, -, X8, ⟨Lc8, hQ8, l8, y8, z8⟩, st8⟩ := Jvm.LawKit.callS X0 hx (y := (⟨"org/axiswarp/tree/NodeKindIsChildPinLaw", "pick", "(I)Lorg/axiswarp/tree/NodeKind;"⟩ : MethodName)) hown (mvT hZ (hw _ (List.mem_of_getElem? (i := 1) rfl))) (mvT hZ (hw _ (List.mem_of_getElem? (i := 2) rfl))) (mvT hZ (hw _ (List.mem_of_getElem? (i := 3) rfl))) (mvT hZ (hw _ (List.mem_of_getElem? (i := 4) rfl))) (by decide) (backOf (W := 0) (rm1ELEMENT l Z a0 hw [] w_DOCUMENT w_ELEMENT w_ATTRIBUTE w_NAMESPACE w_TEXT w_COMMENT w_PROCESSING_INSTRUCTION h0 n0 Zs S_DOCUMENT E_w_DOCUMENT O_DOCUMENT S_ELEMENT E_w_ELEMENT O_ELEMENT S_ATTRIBUTE E_w_ATTRIBUTE O_ATTRIBUTE S_NAMESPACE E_w_NAMESPACE O_NAMESPACE S_TEXT E_w_TEXT O_TEXT S_COMMENT E_w_COMMENT O_COMMENT S_PROCESSING_INSTRUCTION E_w_PROCESSING_INSTRUCTION O_PROCESSING_INSTRUCTION) hZ (hw _ (List.mem_of_getElem? (i := 4) rfl)) (hw _ (List.mem_of_getElem? (i := 3) rfl)) (by decide) (by decide)) (g := (mkF m 9 #[.val (.int p1), .val (.int (1 : Int32)), .unset, .unset] [(.int (1 : Int32))])) rfl (by rw [hml]; rfl) (argsL := [(.int (1 : Int32))]) (rest := []) (lenOf pd_0 rfl) rfl (by show 2 * 0 + _ ≤ _; exact Nat.le_of_eq rfl) (hb hby at_9) (fun _ _ => ⟨rfl, e0, (by decide : 0 + 0 ≤ _), (by decide : 0 + 0 ≤ _)⟩)
    dsimp only [Pt.U, Pt.locs, Pt.cells, Pt.slots] at X8 l8 y8 z8 st8 hQ8
    subst l8 y8 z8
    obtain ⟨rfl, N8q, e8⟩ := hQ8
    have N := Fr.app N N8q
    refine OwnGo.fwd st8 ?_
    show OwnGo _ _ _ _ (T8.setTop (mkF m 12 #[.val (.int p1), .val (.int (1 : Int32)), .unset, .unset] [(.ref w_ELEMENT)]))
    refine OwnGo.fwd (fun t k => XS.astoreN X8.here hx rfl (hb hby at_12) rfl rfl (l' := #[.val (.int p1), .val (.int (1 : Int32)), .val (.ref w_ELEMENT), .unset]) rfl k) ?_
    show OwnGo _ _ _ _ (T8.setTop (mkF m 13 #[.val (.int p1), .val (.int (1 : Int32)), .val (.ref w_ELEMENT), .unset] []))
    refine OwnGo.fwd (fun t k => XS.aloadN X8.here hx rfl (hb hby at_13) rfl rfl k) ?_
    show OwnGo _ _ _ _ (T8.setTop (mkF m 14 #[.val (.int p1), .val (.int (1 : Int32)), .val (.ref w_ELEMENT), .unset] [(.ref w_ELEMENT)]))
    obtain ⟨T9, X9, e9, st9⟩ := getS2 X8 hx hZ hown (host := "") (Or.inl (hw _ (List.mem_of_getElem? (i := 8) rfl))) Via.refl e8 S_ELEMENT (g := (mkF m 14 #[.val (.int p1), .val (.int (1 : Int32)), .val (.ref w_ELEMENT), .unset] [(.ref w_ELEMENT)])) rfl (hb hby at_14)
    refine OwnGo.fwd st9 ?_
    show OwnGo _ _ _ _ (T9.setTop (mkF m 17 #[.val (.int p1), .val (.int (1 : Int32)), .val (.ref w_ELEMENT), .unset] [(.ref w_ELEMENT), (.ref w_ELEMENT)]))
    refine OwnGo.fwd (fun t k => Jvm.RoadKit.acmp (g := (mkF m 17 #[.val (.int p1), .val (.int (1 : Int32)), .val (.ref w_ELEMENT), .unset] [(.ref w_ELEMENT), (.ref w_ELEMENT)])) X9 hx rfl rfl rfl (pc0 := 17) (pc' := 41) (same := true) rfl (hb hby at_17) rfl (decide_eq_true rfl) (by decide) (by decide) k) ?_
    show OwnGo _ _ _ _ (T9.setTop (mkF m 41 #[.val (.int p1), .val (.int (1 : Int32)), .val (.ref w_ELEMENT), .unset] []))
    refine OwnGo.fwd (fun t k => XS.iconst X9.here hx rfl (hb hby at_41) k) ?_
    show OwnGo _ _ _ _ (T9.setTop (mkF m 42 #[.val (.int p1), .val (.int (1 : Int32)), .val (.ref w_ELEMENT), .unset] [(.int (1 : Int32))]))
    refine OwnGo.fwd (fun t k => XS.goto X9.here hx rfl (pc0 := 42) (pc' := 46) rfl (hb hby at_42) (by decide) (by decide) k) ?_
    show OwnGo _ _ _ _ (T9.setTop (mkF m 46 #[.val (.int p1), .val (.int (1 : Int32)), .val (.ref w_ELEMENT), .unset] [(.int (1 : Int32))]))
    refine OwnGo.fwd (fun t k => XS.istoreN X9.here hx rfl (hb hby at_46) rfl (l' := #[.val (.int p1), .val (.int (1 : Int32)), .val (.ref w_ELEMENT), .val (.int (1 : Int32))]) rfl k) ?_
    show OwnGo _ _ _ _ (T9.setTop (mkF m 47 #[.val (.int p1), .val (.int (1 : Int32)), .val (.ref w_ELEMENT), .val (.int (1 : Int32))] []))
    refine OwnGo.fwd (fun t k => XS.aloadN X9.here hx rfl (hb hby at_47) rfl rfl k) ?_
    show OwnGo _ _ _ _ (T9.setTop (mkF m 48 #[.val (.int p1), .val (.int (1 : Int32)), .val (.ref w_ELEMENT), .val (.int (1 : Int32))] [(.ref w_ELEMENT)]))
    obtain ⟨cq10, kq10, q10a, q10b, q10c⟩ := isOf hZ e9 E_w_ELEMENT
    obtain ⟨_, _, ⟨T10, L10, k10, n10⟩, -, X10, ⟨Lc10, hQ10, l10, y10, z10⟩, st10⟩ := X9.virtualBack hx (y := (⟨"org/axiswarp/tree/NodeKind", "isChild", "()Z"⟩ : MethodName)) (z := (⟨"org/axiswarp/tree/NodeKind", "isChild", "()Z"⟩ : MethodName)) hown (mvT hZ (hw _ (List.mem_of_getElem? (i := 16) rfl))) (mvT hZ (hw _ (List.mem_of_getElem? (i := 17) rfl))) (notFace_of_selects (args := #[]) (mvT hZ (hw _ (List.mem_of_getElem? (i := 19) rfl)))) (mvT hZ (hw _ (List.mem_of_getElem? (i := 19) rfl))) (mvT hZ (hw _ (List.mem_of_getElem? (i := 18) rfl))) (by decide) (backOf (W := 0) (rm2ELEMENT l Z a0 hw [] w_DOCUMENT w_ELEMENT w_ATTRIBUTE w_NAMESPACE w_TEXT w_COMMENT w_PROCESSING_INSTRUCTION h0 n0 Zs S_DOCUMENT E_w_DOCUMENT O_DOCUMENT S_ELEMENT E_w_ELEMENT O_ELEMENT S_ATTRIBUTE E_w_ATTRIBUTE O_ATTRIBUTE S_NAMESPACE E_w_NAMESPACE O_NAMESPACE S_TEXT E_w_TEXT O_TEXT S_COMMENT E_w_COMMENT O_COMMENT S_PROCESSING_INSTRUCTION E_w_PROCESSING_INSTRUCTION O_PROCESSING_INSTRUCTION) hZ (hw _ (List.mem_of_getElem? (i := 20) rfl)) (hw _ (List.mem_of_getElem? (i := 6) rfl)) (by decide) (by decide)) q10a q10c (g := (mkF m 48 #[.val (.int p1), .val (.int (1 : Int32)), .val (.ref w_ELEMENT), .val (.int (1 : Int32))] [(.ref w_ELEMENT)])) rfl (by rw [hml]; rfl) (Steps.refl _) (argsL := []) (rest := []) (lenOf pd_1 rfl) rfl (by show 2 * 0 + _ ≤ _; exact Nat.le_of_eq rfl) (hb hby at_48) (fun _ _ => ⟨rfl, e9, (by decide : 0 + 0 ≤ _), (by decide : 0 + 0 ≤ _)⟩)
    dsimp only [Pt.U, Pt.locs, Pt.cells, Pt.slots] at X10 l10 y10 z10 st10 hQ10
    subst l10 y10 z10
    obtain ⟨rfl, N10q, e10⟩ := hQ10
    have N := Fr.app N N10q
    refine OwnGo.thru st10 ?_
    show OwnGo _ _ _ _ (T10.setTop (mkF m 51 #[.val (.int p1), .val (.int (1 : Int32)), .val (.ref w_ELEMENT), .val (.int (1 : Int32))] [(.int (1 : Int32))]))
    refine OwnGo.fwd (fun t k => XS.iloadN X10.here hx rfl (hb hby at_51) rfl k) ?_
    show OwnGo _ _ _ _ (T10.setTop (mkF m 52 #[.val (.int p1), .val (.int (1 : Int32)), .val (.ref w_ELEMENT), .val (.int (1 : Int32))] [(.int (1 : Int32)), (.int (1 : Int32))]))
    have hc52_11 : (1 : Int) = (1 : Int) := rfl
    refine OwnGo.fwd (fun t k => XS.icmpNo X10.here hx rfl (hb hby at_52) rfl (own_beq (by decide) (by decide) hc52_11).2 k) ?_
    show OwnGo _ _ _ _ (T10.setTop (mkF m 55 #[.val (.int p1), .val (.int (1 : Int32)), .val (.ref w_ELEMENT), .val (.int (1 : Int32))] []))
    refine OwnGo.fwd (fun t k => XS.iconst X10.here hx rfl (hb hby at_55) k) ?_
    show OwnGo _ _ _ _ (T10.setTop (mkF m 56 #[.val (.int p1), .val (.int (1 : Int32)), .val (.ref w_ELEMENT), .val (.int (1 : Int32))] [(.int (1 : Int32))]))
    refine OwnGo.fwd (fun t k => XS.goto X10.here hx rfl (pc0 := 56) (pc' := 60) rfl (hb hby at_56) (by decide) (by decide) k) ?_
    show OwnGo _ _ _ _ (T10.setTop (mkF m 60 #[.val (.int p1), .val (.int (1 : Int32)), .val (.ref w_ELEMENT), .val (.int (1 : Int32))] [(.int (1 : Int32))]))
    exact own_retZ X10 hlk hx Bd.returns (hb hby at_60) (by decide) (by decide) e10 ⟨rfl, N⟩
  · show OwnGo _ _ _ _ (s₁.setTop (mkF m 7 #[.val (.int p1), .unset, .unset, .unset] [(.int (2 : Int32))]))
    refine OwnGo.fwd (fun t k => XS.istoreN X0.here hx rfl (hb hby at_7) rfl (l' := #[.val (.int p1), .val (.int (2 : Int32)), .unset, .unset]) rfl k) ?_
    show OwnGo _ _ _ _ (s₁.setTop (mkF m 8 #[.val (.int p1), .val (.int (2 : Int32)), .unset, .unset] []))
    refine OwnGo.fwd (fun t k => XS.iloadN X0.here hx rfl (hb hby at_8) rfl k) ?_
    show OwnGo _ _ _ _ (s₁.setTop (mkF m 9 #[.val (.int p1), .val (.int (2 : Int32)), .unset, .unset] [(.int (2 : Int32))]))
    obtain ⟨_, _, ⟨T12, L12, k12, n12⟩, -, X12, ⟨Lc12, hQ12, l12, y12, z12⟩, st12⟩ := Jvm.LawKit.callS X0 hx (y := (⟨"org/axiswarp/tree/NodeKindIsChildPinLaw", "pick", "(I)Lorg/axiswarp/tree/NodeKind;"⟩ : MethodName)) hown (mvT hZ (hw _ (List.mem_of_getElem? (i := 1) rfl))) (mvT hZ (hw _ (List.mem_of_getElem? (i := 2) rfl))) (mvT hZ (hw _ (List.mem_of_getElem? (i := 3) rfl))) (mvT hZ (hw _ (List.mem_of_getElem? (i := 4) rfl))) (by decide) (backOf (W := 0) (rm1ATTRIBUTE l Z a0 hw [] w_DOCUMENT w_ELEMENT w_ATTRIBUTE w_NAMESPACE w_TEXT w_COMMENT w_PROCESSING_INSTRUCTION h0 n0 Zs S_DOCUMENT E_w_DOCUMENT O_DOCUMENT S_ELEMENT E_w_ELEMENT O_ELEMENT S_ATTRIBUTE E_w_ATTRIBUTE O_ATTRIBUTE S_NAMESPACE E_w_NAMESPACE O_NAMESPACE S_TEXT E_w_TEXT O_TEXT S_COMMENT E_w_COMMENT O_COMMENT S_PROCESSING_INSTRUCTION E_w_PROCESSING_INSTRUCTION O_PROCESSING_INSTRUCTION) hZ (hw _ (List.mem_of_getElem? (i := 4) rfl)) (hw _ (List.mem_of_getElem? (i := 3) rfl)) (by decide) (by decide)) (g := (mkF m 9 #[.val (.int p1), .val (.int (2 : Int32)), .unset, .unset] [(.int (2 : Int32))])) rfl (by rw [hml]; rfl) (argsL := [(.int (2 : Int32))]) (rest := []) (lenOf pd_0 rfl) rfl (by show 2 * 0 + _ ≤ _; exact Nat.le_of_eq rfl) (hb hby at_9) (fun _ _ => ⟨rfl, e0, (by decide : 0 + 0 ≤ _), (by decide : 0 + 0 ≤ _)⟩)
    dsimp only [Pt.U, Pt.locs, Pt.cells, Pt.slots] at X12 l12 y12 z12 st12 hQ12
    subst l12 y12 z12
    obtain ⟨rfl, N12q, e12⟩ := hQ12
    have N := Fr.app N N12q
    refine OwnGo.fwd st12 ?_
    show OwnGo _ _ _ _ (T12.setTop (mkF m 12 #[.val (.int p1), .val (.int (2 : Int32)), .unset, .unset] [(.ref w_ATTRIBUTE)]))
    refine OwnGo.fwd (fun t k => XS.astoreN X12.here hx rfl (hb hby at_12) rfl rfl (l' := #[.val (.int p1), .val (.int (2 : Int32)), .val (.ref w_ATTRIBUTE), .unset]) rfl k) ?_
    show OwnGo _ _ _ _ (T12.setTop (mkF m 13 #[.val (.int p1), .val (.int (2 : Int32)), .val (.ref w_ATTRIBUTE), .unset] []))
    refine OwnGo.fwd (fun t k => XS.aloadN X12.here hx rfl (hb hby at_13) rfl rfl k) ?_
    show OwnGo _ _ _ _ (T12.setTop (mkF m 14 #[.val (.int p1), .val (.int (2 : Int32)), .val (.ref w_ATTRIBUTE), .unset] [(.ref w_ATTRIBUTE)]))
    obtain ⟨T13, X13, e13, st13⟩ := getS2 X12 hx hZ hown (host := "") (Or.inl (hw _ (List.mem_of_getElem? (i := 8) rfl))) Via.refl e12 S_ELEMENT (g := (mkF m 14 #[.val (.int p1), .val (.int (2 : Int32)), .val (.ref w_ATTRIBUTE), .unset] [(.ref w_ATTRIBUTE)])) rfl (hb hby at_14)
    refine OwnGo.fwd st13 ?_
    show OwnGo _ _ _ _ (T13.setTop (mkF m 17 #[.val (.int p1), .val (.int (2 : Int32)), .val (.ref w_ATTRIBUTE), .unset] [(.ref w_ELEMENT), (.ref w_ATTRIBUTE)]))
    refine OwnGo.fwd (fun t k => Jvm.RoadKit.acmp (g := (mkF m 17 #[.val (.int p1), .val (.int (2 : Int32)), .val (.ref w_ATTRIBUTE), .unset] [(.ref w_ELEMENT), (.ref w_ATTRIBUTE)])) X13 hx rfl rfl rfl (pc0 := 17) (pc' := 20) (same := false) rfl (hb hby at_17) rfl (decide_eq_false fun q => (Ne.symm ne_ELEMENT_ATTRIBUTE) (Value.ref.inj q)) (by decide) (by decide) k) ?_
    show OwnGo _ _ _ _ (T13.setTop (mkF m 20 #[.val (.int p1), .val (.int (2 : Int32)), .val (.ref w_ATTRIBUTE), .unset] []))
    refine OwnGo.fwd (fun t k => XS.aloadN X13.here hx rfl (hb hby at_20) rfl rfl k) ?_
    show OwnGo _ _ _ _ (T13.setTop (mkF m 21 #[.val (.int p1), .val (.int (2 : Int32)), .val (.ref w_ATTRIBUTE), .unset] [(.ref w_ATTRIBUTE)]))
    obtain ⟨T14, X14, e14, st14⟩ := getS2 X13 hx hZ hown (host := "") (Or.inl (hw _ (List.mem_of_getElem? (i := 10) rfl))) Via.refl e13 S_TEXT (g := (mkF m 21 #[.val (.int p1), .val (.int (2 : Int32)), .val (.ref w_ATTRIBUTE), .unset] [(.ref w_ATTRIBUTE)])) rfl (hb hby at_21)
    refine OwnGo.fwd st14 ?_
    show OwnGo _ _ _ _ (T14.setTop (mkF m 24 #[.val (.int p1), .val (.int (2 : Int32)), .val (.ref w_ATTRIBUTE), .unset] [(.ref w_TEXT), (.ref w_ATTRIBUTE)]))
    refine OwnGo.fwd (fun t k => Jvm.RoadKit.acmp (g := (mkF m 24 #[.val (.int p1), .val (.int (2 : Int32)), .val (.ref w_ATTRIBUTE), .unset] [(.ref w_TEXT), (.ref w_ATTRIBUTE)])) X14 hx rfl rfl rfl (pc0 := 24) (pc' := 27) (same := false) rfl (hb hby at_24) rfl (decide_eq_false fun q => ne_ATTRIBUTE_TEXT (Value.ref.inj q)) (by decide) (by decide) k) ?_
    show OwnGo _ _ _ _ (T14.setTop (mkF m 27 #[.val (.int p1), .val (.int (2 : Int32)), .val (.ref w_ATTRIBUTE), .unset] []))
    refine OwnGo.fwd (fun t k => XS.aloadN X14.here hx rfl (hb hby at_27) rfl rfl k) ?_
    show OwnGo _ _ _ _ (T14.setTop (mkF m 28 #[.val (.int p1), .val (.int (2 : Int32)), .val (.ref w_ATTRIBUTE), .unset] [(.ref w_ATTRIBUTE)]))
    obtain ⟨T15, X15, e15, st15⟩ := getS2 X14 hx hZ hown (host := "") (Or.inl (hw _ (List.mem_of_getElem? (i := 12) rfl))) Via.refl e14 S_COMMENT (g := (mkF m 28 #[.val (.int p1), .val (.int (2 : Int32)), .val (.ref w_ATTRIBUTE), .unset] [(.ref w_ATTRIBUTE)])) rfl (hb hby at_28)
    refine OwnGo.fwd st15 ?_
    show OwnGo _ _ _ _ (T15.setTop (mkF m 31 #[.val (.int p1), .val (.int (2 : Int32)), .val (.ref w_ATTRIBUTE), .unset] [(.ref w_COMMENT), (.ref w_ATTRIBUTE)]))
    refine OwnGo.fwd (fun t k => Jvm.RoadKit.acmp (g := (mkF m 31 #[.val (.int p1), .val (.int (2 : Int32)), .val (.ref w_ATTRIBUTE), .unset] [(.ref w_COMMENT), (.ref w_ATTRIBUTE)])) X15 hx rfl rfl rfl (pc0 := 31) (pc' := 34) (same := false) rfl (hb hby at_31) rfl (decide_eq_false fun q => ne_ATTRIBUTE_COMMENT (Value.ref.inj q)) (by decide) (by decide) k) ?_
    show OwnGo _ _ _ _ (T15.setTop (mkF m 34 #[.val (.int p1), .val (.int (2 : Int32)), .val (.ref w_ATTRIBUTE), .unset] []))
    refine OwnGo.fwd (fun t k => XS.aloadN X15.here hx rfl (hb hby at_34) rfl rfl k) ?_
    show OwnGo _ _ _ _ (T15.setTop (mkF m 35 #[.val (.int p1), .val (.int (2 : Int32)), .val (.ref w_ATTRIBUTE), .unset] [(.ref w_ATTRIBUTE)]))
    obtain ⟨T16, X16, e16, st16⟩ := getS2 X15 hx hZ hown (host := "") (Or.inl (hw _ (List.mem_of_getElem? (i := 14) rfl))) Via.refl e15 S_PROCESSING_INSTRUCTION (g := (mkF m 35 #[.val (.int p1), .val (.int (2 : Int32)), .val (.ref w_ATTRIBUTE), .unset] [(.ref w_ATTRIBUTE)])) rfl (hb hby at_35)
    refine OwnGo.fwd st16 ?_
    show OwnGo _ _ _ _ (T16.setTop (mkF m 38 #[.val (.int p1), .val (.int (2 : Int32)), .val (.ref w_ATTRIBUTE), .unset] [(.ref w_PROCESSING_INSTRUCTION), (.ref w_ATTRIBUTE)]))
    refine OwnGo.fwd (fun t k => Jvm.RoadKit.acmp (g := (mkF m 38 #[.val (.int p1), .val (.int (2 : Int32)), .val (.ref w_ATTRIBUTE), .unset] [(.ref w_PROCESSING_INSTRUCTION), (.ref w_ATTRIBUTE)])) X16 hx rfl rfl rfl (pc0 := 38) (pc' := 45) (same := false) rfl (hb hby at_38) rfl (decide_eq_false fun q => ne_ATTRIBUTE_PROCESSING_INSTRUCTION (Value.ref.inj q)) (by decide) (by decide) k) ?_
    show OwnGo _ _ _ _ (T16.setTop (mkF m 45 #[.val (.int p1), .val (.int (2 : Int32)), .val (.ref w_ATTRIBUTE), .unset] []))
    refine OwnGo.fwd (fun t k => XS.iconst X16.here hx rfl (hb hby at_45) k) ?_
    show OwnGo _ _ _ _ (T16.setTop (mkF m 46 #[.val (.int p1), .val (.int (2 : Int32)), .val (.ref w_ATTRIBUTE), .unset] [(.int (0 : Int32))]))
    refine OwnGo.fwd (fun t k => XS.istoreN X16.here hx rfl (hb hby at_46) rfl (l' := #[.val (.int p1), .val (.int (2 : Int32)), .val (.ref w_ATTRIBUTE), .val (.int (0 : Int32))]) rfl k) ?_
    show OwnGo _ _ _ _ (T16.setTop (mkF m 47 #[.val (.int p1), .val (.int (2 : Int32)), .val (.ref w_ATTRIBUTE), .val (.int (0 : Int32))] []))
    refine OwnGo.fwd (fun t k => XS.aloadN X16.here hx rfl (hb hby at_47) rfl rfl k) ?_
    show OwnGo _ _ _ _ (T16.setTop (mkF m 48 #[.val (.int p1), .val (.int (2 : Int32)), .val (.ref w_ATTRIBUTE), .val (.int (0 : Int32))] [(.ref w_ATTRIBUTE)]))
    obtain ⟨cq17, kq17, q17a, q17b, q17c⟩ := isOf hZ e16 E_w_ATTRIBUTE
    obtain ⟨_, _, ⟨T17, L17, k17, n17⟩, -, X17, ⟨Lc17, hQ17, l17, y17, z17⟩, st17⟩ := X16.virtualBack hx (y := (⟨"org/axiswarp/tree/NodeKind", "isChild", "()Z"⟩ : MethodName)) (z := (⟨"org/axiswarp/tree/NodeKind", "isChild", "()Z"⟩ : MethodName)) hown (mvT hZ (hw _ (List.mem_of_getElem? (i := 16) rfl))) (mvT hZ (hw _ (List.mem_of_getElem? (i := 17) rfl))) (notFace_of_selects (args := #[]) (mvT hZ (hw _ (List.mem_of_getElem? (i := 19) rfl)))) (mvT hZ (hw _ (List.mem_of_getElem? (i := 19) rfl))) (mvT hZ (hw _ (List.mem_of_getElem? (i := 18) rfl))) (by decide) (backOf (W := 0) (rm2ATTRIBUTE l Z a0 hw [] w_DOCUMENT w_ELEMENT w_ATTRIBUTE w_NAMESPACE w_TEXT w_COMMENT w_PROCESSING_INSTRUCTION h0 n0 Zs S_DOCUMENT E_w_DOCUMENT O_DOCUMENT S_ELEMENT E_w_ELEMENT O_ELEMENT S_ATTRIBUTE E_w_ATTRIBUTE O_ATTRIBUTE S_NAMESPACE E_w_NAMESPACE O_NAMESPACE S_TEXT E_w_TEXT O_TEXT S_COMMENT E_w_COMMENT O_COMMENT S_PROCESSING_INSTRUCTION E_w_PROCESSING_INSTRUCTION O_PROCESSING_INSTRUCTION) hZ (hw _ (List.mem_of_getElem? (i := 20) rfl)) (hw _ (List.mem_of_getElem? (i := 6) rfl)) (by decide) (by decide)) q17a q17c (g := (mkF m 48 #[.val (.int p1), .val (.int (2 : Int32)), .val (.ref w_ATTRIBUTE), .val (.int (0 : Int32))] [(.ref w_ATTRIBUTE)])) rfl (by rw [hml]; rfl) (Steps.refl _) (argsL := []) (rest := []) (lenOf pd_1 rfl) rfl (by show 2 * 0 + _ ≤ _; exact Nat.le_of_eq rfl) (hb hby at_48) (fun _ _ => ⟨rfl, e16, (by decide : 0 + 0 ≤ _), (by decide : 0 + 0 ≤ _)⟩)
    dsimp only [Pt.U, Pt.locs, Pt.cells, Pt.slots] at X17 l17 y17 z17 st17 hQ17
    subst l17 y17 z17
    obtain ⟨rfl, N17q, e17⟩ := hQ17
    have N := Fr.app N N17q
    refine OwnGo.thru st17 ?_
    show OwnGo _ _ _ _ (T17.setTop (mkF m 51 #[.val (.int p1), .val (.int (2 : Int32)), .val (.ref w_ATTRIBUTE), .val (.int (0 : Int32))] [(.int (0 : Int32))]))
    refine OwnGo.fwd (fun t k => XS.iloadN X17.here hx rfl (hb hby at_51) rfl k) ?_
    show OwnGo _ _ _ _ (T17.setTop (mkF m 52 #[.val (.int p1), .val (.int (2 : Int32)), .val (.ref w_ATTRIBUTE), .val (.int (0 : Int32))] [(.int (0 : Int32)), (.int (0 : Int32))]))
    have hc52_18 : (0 : Int) = (0 : Int) := rfl
    refine OwnGo.fwd (fun t k => XS.icmpNo X17.here hx rfl (hb hby at_52) rfl (own_beq (by decide) (by decide) hc52_18).2 k) ?_
    show OwnGo _ _ _ _ (T17.setTop (mkF m 55 #[.val (.int p1), .val (.int (2 : Int32)), .val (.ref w_ATTRIBUTE), .val (.int (0 : Int32))] []))
    refine OwnGo.fwd (fun t k => XS.iconst X17.here hx rfl (hb hby at_55) k) ?_
    show OwnGo _ _ _ _ (T17.setTop (mkF m 56 #[.val (.int p1), .val (.int (2 : Int32)), .val (.ref w_ATTRIBUTE), .val (.int (0 : Int32))] [(.int (1 : Int32))]))
    refine OwnGo.fwd (fun t k => XS.goto X17.here hx rfl (pc0 := 56) (pc' := 60) rfl (hb hby at_56) (by decide) (by decide) k) ?_
    show OwnGo _ _ _ _ (T17.setTop (mkF m 60 #[.val (.int p1), .val (.int (2 : Int32)), .val (.ref w_ATTRIBUTE), .val (.int (0 : Int32))] [(.int (1 : Int32))]))
    exact own_retZ X17 hlk hx Bd.returns (hb hby at_60) (by decide) (by decide) e17 ⟨rfl, N⟩
  · show OwnGo _ _ _ _ (s₁.setTop (mkF m 7 #[.val (.int p1), .unset, .unset, .unset] [(.int (3 : Int32))]))
    refine OwnGo.fwd (fun t k => XS.istoreN X0.here hx rfl (hb hby at_7) rfl (l' := #[.val (.int p1), .val (.int (3 : Int32)), .unset, .unset]) rfl k) ?_
    show OwnGo _ _ _ _ (s₁.setTop (mkF m 8 #[.val (.int p1), .val (.int (3 : Int32)), .unset, .unset] []))
    refine OwnGo.fwd (fun t k => XS.iloadN X0.here hx rfl (hb hby at_8) rfl k) ?_
    show OwnGo _ _ _ _ (s₁.setTop (mkF m 9 #[.val (.int p1), .val (.int (3 : Int32)), .unset, .unset] [(.int (3 : Int32))]))
    obtain ⟨_, _, ⟨T19, L19, k19, n19⟩, -, X19, ⟨Lc19, hQ19, l19, y19, z19⟩, st19⟩ := Jvm.LawKit.callS X0 hx (y := (⟨"org/axiswarp/tree/NodeKindIsChildPinLaw", "pick", "(I)Lorg/axiswarp/tree/NodeKind;"⟩ : MethodName)) hown (mvT hZ (hw _ (List.mem_of_getElem? (i := 1) rfl))) (mvT hZ (hw _ (List.mem_of_getElem? (i := 2) rfl))) (mvT hZ (hw _ (List.mem_of_getElem? (i := 3) rfl))) (mvT hZ (hw _ (List.mem_of_getElem? (i := 4) rfl))) (by decide) (backOf (W := 0) (rm1NAMESPACE l Z a0 hw [] w_DOCUMENT w_ELEMENT w_ATTRIBUTE w_NAMESPACE w_TEXT w_COMMENT w_PROCESSING_INSTRUCTION h0 n0 Zs S_DOCUMENT E_w_DOCUMENT O_DOCUMENT S_ELEMENT E_w_ELEMENT O_ELEMENT S_ATTRIBUTE E_w_ATTRIBUTE O_ATTRIBUTE S_NAMESPACE E_w_NAMESPACE O_NAMESPACE S_TEXT E_w_TEXT O_TEXT S_COMMENT E_w_COMMENT O_COMMENT S_PROCESSING_INSTRUCTION E_w_PROCESSING_INSTRUCTION O_PROCESSING_INSTRUCTION) hZ (hw _ (List.mem_of_getElem? (i := 4) rfl)) (hw _ (List.mem_of_getElem? (i := 3) rfl)) (by decide) (by decide)) (g := (mkF m 9 #[.val (.int p1), .val (.int (3 : Int32)), .unset, .unset] [(.int (3 : Int32))])) rfl (by rw [hml]; rfl) (argsL := [(.int (3 : Int32))]) (rest := []) (lenOf pd_0 rfl) rfl (by show 2 * 0 + _ ≤ _; exact Nat.le_of_eq rfl) (hb hby at_9) (fun _ _ => ⟨rfl, e0, (by decide : 0 + 0 ≤ _), (by decide : 0 + 0 ≤ _)⟩)
    dsimp only [Pt.U, Pt.locs, Pt.cells, Pt.slots] at X19 l19 y19 z19 st19 hQ19
    subst l19 y19 z19
    obtain ⟨rfl, N19q, e19⟩ := hQ19
    have N := Fr.app N N19q
    refine OwnGo.fwd st19 ?_
    show OwnGo _ _ _ _ (T19.setTop (mkF m 12 #[.val (.int p1), .val (.int (3 : Int32)), .unset, .unset] [(.ref w_NAMESPACE)]))
    refine OwnGo.fwd (fun t k => XS.astoreN X19.here hx rfl (hb hby at_12) rfl rfl (l' := #[.val (.int p1), .val (.int (3 : Int32)), .val (.ref w_NAMESPACE), .unset]) rfl k) ?_
    show OwnGo _ _ _ _ (T19.setTop (mkF m 13 #[.val (.int p1), .val (.int (3 : Int32)), .val (.ref w_NAMESPACE), .unset] []))
    refine OwnGo.fwd (fun t k => XS.aloadN X19.here hx rfl (hb hby at_13) rfl rfl k) ?_
    show OwnGo _ _ _ _ (T19.setTop (mkF m 14 #[.val (.int p1), .val (.int (3 : Int32)), .val (.ref w_NAMESPACE), .unset] [(.ref w_NAMESPACE)]))
    obtain ⟨T20, X20, e20, st20⟩ := getS2 X19 hx hZ hown (host := "") (Or.inl (hw _ (List.mem_of_getElem? (i := 8) rfl))) Via.refl e19 S_ELEMENT (g := (mkF m 14 #[.val (.int p1), .val (.int (3 : Int32)), .val (.ref w_NAMESPACE), .unset] [(.ref w_NAMESPACE)])) rfl (hb hby at_14)
    refine OwnGo.fwd st20 ?_
    show OwnGo _ _ _ _ (T20.setTop (mkF m 17 #[.val (.int p1), .val (.int (3 : Int32)), .val (.ref w_NAMESPACE), .unset] [(.ref w_ELEMENT), (.ref w_NAMESPACE)]))
    refine OwnGo.fwd (fun t k => Jvm.RoadKit.acmp (g := (mkF m 17 #[.val (.int p1), .val (.int (3 : Int32)), .val (.ref w_NAMESPACE), .unset] [(.ref w_ELEMENT), (.ref w_NAMESPACE)])) X20 hx rfl rfl rfl (pc0 := 17) (pc' := 20) (same := false) rfl (hb hby at_17) rfl (decide_eq_false fun q => (Ne.symm ne_ELEMENT_NAMESPACE) (Value.ref.inj q)) (by decide) (by decide) k) ?_
    show OwnGo _ _ _ _ (T20.setTop (mkF m 20 #[.val (.int p1), .val (.int (3 : Int32)), .val (.ref w_NAMESPACE), .unset] []))
    refine OwnGo.fwd (fun t k => XS.aloadN X20.here hx rfl (hb hby at_20) rfl rfl k) ?_
    show OwnGo _ _ _ _ (T20.setTop (mkF m 21 #[.val (.int p1), .val (.int (3 : Int32)), .val (.ref w_NAMESPACE), .unset] [(.ref w_NAMESPACE)]))
    obtain ⟨T21, X21, e21, st21⟩ := getS2 X20 hx hZ hown (host := "") (Or.inl (hw _ (List.mem_of_getElem? (i := 10) rfl))) Via.refl e20 S_TEXT (g := (mkF m 21 #[.val (.int p1), .val (.int (3 : Int32)), .val (.ref w_NAMESPACE), .unset] [(.ref w_NAMESPACE)])) rfl (hb hby at_21)
    refine OwnGo.fwd st21 ?_
    show OwnGo _ _ _ _ (T21.setTop (mkF m 24 #[.val (.int p1), .val (.int (3 : Int32)), .val (.ref w_NAMESPACE), .unset] [(.ref w_TEXT), (.ref w_NAMESPACE)]))
    refine OwnGo.fwd (fun t k => Jvm.RoadKit.acmp (g := (mkF m 24 #[.val (.int p1), .val (.int (3 : Int32)), .val (.ref w_NAMESPACE), .unset] [(.ref w_TEXT), (.ref w_NAMESPACE)])) X21 hx rfl rfl rfl (pc0 := 24) (pc' := 27) (same := false) rfl (hb hby at_24) rfl (decide_eq_false fun q => ne_NAMESPACE_TEXT (Value.ref.inj q)) (by decide) (by decide) k) ?_
    show OwnGo _ _ _ _ (T21.setTop (mkF m 27 #[.val (.int p1), .val (.int (3 : Int32)), .val (.ref w_NAMESPACE), .unset] []))
    refine OwnGo.fwd (fun t k => XS.aloadN X21.here hx rfl (hb hby at_27) rfl rfl k) ?_
    show OwnGo _ _ _ _ (T21.setTop (mkF m 28 #[.val (.int p1), .val (.int (3 : Int32)), .val (.ref w_NAMESPACE), .unset] [(.ref w_NAMESPACE)]))
    obtain ⟨T22, X22, e22, st22⟩ := getS2 X21 hx hZ hown (host := "") (Or.inl (hw _ (List.mem_of_getElem? (i := 12) rfl))) Via.refl e21 S_COMMENT (g := (mkF m 28 #[.val (.int p1), .val (.int (3 : Int32)), .val (.ref w_NAMESPACE), .unset] [(.ref w_NAMESPACE)])) rfl (hb hby at_28)
    refine OwnGo.fwd st22 ?_
    show OwnGo _ _ _ _ (T22.setTop (mkF m 31 #[.val (.int p1), .val (.int (3 : Int32)), .val (.ref w_NAMESPACE), .unset] [(.ref w_COMMENT), (.ref w_NAMESPACE)]))
    refine OwnGo.fwd (fun t k => Jvm.RoadKit.acmp (g := (mkF m 31 #[.val (.int p1), .val (.int (3 : Int32)), .val (.ref w_NAMESPACE), .unset] [(.ref w_COMMENT), (.ref w_NAMESPACE)])) X22 hx rfl rfl rfl (pc0 := 31) (pc' := 34) (same := false) rfl (hb hby at_31) rfl (decide_eq_false fun q => ne_NAMESPACE_COMMENT (Value.ref.inj q)) (by decide) (by decide) k) ?_
    show OwnGo _ _ _ _ (T22.setTop (mkF m 34 #[.val (.int p1), .val (.int (3 : Int32)), .val (.ref w_NAMESPACE), .unset] []))
    refine OwnGo.fwd (fun t k => XS.aloadN X22.here hx rfl (hb hby at_34) rfl rfl k) ?_
    show OwnGo _ _ _ _ (T22.setTop (mkF m 35 #[.val (.int p1), .val (.int (3 : Int32)), .val (.ref w_NAMESPACE), .unset] [(.ref w_NAMESPACE)]))
    obtain ⟨T23, X23, e23, st23⟩ := getS2 X22 hx hZ hown (host := "") (Or.inl (hw _ (List.mem_of_getElem? (i := 14) rfl))) Via.refl e22 S_PROCESSING_INSTRUCTION (g := (mkF m 35 #[.val (.int p1), .val (.int (3 : Int32)), .val (.ref w_NAMESPACE), .unset] [(.ref w_NAMESPACE)])) rfl (hb hby at_35)
    refine OwnGo.fwd st23 ?_
    show OwnGo _ _ _ _ (T23.setTop (mkF m 38 #[.val (.int p1), .val (.int (3 : Int32)), .val (.ref w_NAMESPACE), .unset] [(.ref w_PROCESSING_INSTRUCTION), (.ref w_NAMESPACE)]))
    refine OwnGo.fwd (fun t k => Jvm.RoadKit.acmp (g := (mkF m 38 #[.val (.int p1), .val (.int (3 : Int32)), .val (.ref w_NAMESPACE), .unset] [(.ref w_PROCESSING_INSTRUCTION), (.ref w_NAMESPACE)])) X23 hx rfl rfl rfl (pc0 := 38) (pc' := 45) (same := false) rfl (hb hby at_38) rfl (decide_eq_false fun q => ne_NAMESPACE_PROCESSING_INSTRUCTION (Value.ref.inj q)) (by decide) (by decide) k) ?_
    show OwnGo _ _ _ _ (T23.setTop (mkF m 45 #[.val (.int p1), .val (.int (3 : Int32)), .val (.ref w_NAMESPACE), .unset] []))
    refine OwnGo.fwd (fun t k => XS.iconst X23.here hx rfl (hb hby at_45) k) ?_
    show OwnGo _ _ _ _ (T23.setTop (mkF m 46 #[.val (.int p1), .val (.int (3 : Int32)), .val (.ref w_NAMESPACE), .unset] [(.int (0 : Int32))]))
    refine OwnGo.fwd (fun t k => XS.istoreN X23.here hx rfl (hb hby at_46) rfl (l' := #[.val (.int p1), .val (.int (3 : Int32)), .val (.ref w_NAMESPACE), .val (.int (0 : Int32))]) rfl k) ?_
    show OwnGo _ _ _ _ (T23.setTop (mkF m 47 #[.val (.int p1), .val (.int (3 : Int32)), .val (.ref w_NAMESPACE), .val (.int (0 : Int32))] []))
    refine OwnGo.fwd (fun t k => XS.aloadN X23.here hx rfl (hb hby at_47) rfl rfl k) ?_
    show OwnGo _ _ _ _ (T23.setTop (mkF m 48 #[.val (.int p1), .val (.int (3 : Int32)), .val (.ref w_NAMESPACE), .val (.int (0 : Int32))] [(.ref w_NAMESPACE)]))
    obtain ⟨cq24, kq24, q24a, q24b, q24c⟩ := isOf hZ e23 E_w_NAMESPACE
    obtain ⟨_, _, ⟨T24, L24, k24, n24⟩, -, X24, ⟨Lc24, hQ24, l24, y24, z24⟩, st24⟩ := X23.virtualBack hx (y := (⟨"org/axiswarp/tree/NodeKind", "isChild", "()Z"⟩ : MethodName)) (z := (⟨"org/axiswarp/tree/NodeKind", "isChild", "()Z"⟩ : MethodName)) hown (mvT hZ (hw _ (List.mem_of_getElem? (i := 16) rfl))) (mvT hZ (hw _ (List.mem_of_getElem? (i := 17) rfl))) (notFace_of_selects (args := #[]) (mvT hZ (hw _ (List.mem_of_getElem? (i := 19) rfl)))) (mvT hZ (hw _ (List.mem_of_getElem? (i := 19) rfl))) (mvT hZ (hw _ (List.mem_of_getElem? (i := 18) rfl))) (by decide) (backOf (W := 0) (rm2NAMESPACE l Z a0 hw [] w_DOCUMENT w_ELEMENT w_ATTRIBUTE w_NAMESPACE w_TEXT w_COMMENT w_PROCESSING_INSTRUCTION h0 n0 Zs S_DOCUMENT E_w_DOCUMENT O_DOCUMENT S_ELEMENT E_w_ELEMENT O_ELEMENT S_ATTRIBUTE E_w_ATTRIBUTE O_ATTRIBUTE S_NAMESPACE E_w_NAMESPACE O_NAMESPACE S_TEXT E_w_TEXT O_TEXT S_COMMENT E_w_COMMENT O_COMMENT S_PROCESSING_INSTRUCTION E_w_PROCESSING_INSTRUCTION O_PROCESSING_INSTRUCTION) hZ (hw _ (List.mem_of_getElem? (i := 20) rfl)) (hw _ (List.mem_of_getElem? (i := 6) rfl)) (by decide) (by decide)) q24a q24c (g := (mkF m 48 #[.val (.int p1), .val (.int (3 : Int32)), .val (.ref w_NAMESPACE), .val (.int (0 : Int32))] [(.ref w_NAMESPACE)])) rfl (by rw [hml]; rfl) (Steps.refl _) (argsL := []) (rest := []) (lenOf pd_1 rfl) rfl (by show 2 * 0 + _ ≤ _; exact Nat.le_of_eq rfl) (hb hby at_48) (fun _ _ => ⟨rfl, e23, (by decide : 0 + 0 ≤ _), (by decide : 0 + 0 ≤ _)⟩)
    dsimp only [Pt.U, Pt.locs, Pt.cells, Pt.slots] at X24 l24 y24 z24 st24 hQ24
    subst l24 y24 z24
    obtain ⟨rfl, N24q, e24⟩ := hQ24
    have N := Fr.app N N24q
    refine OwnGo.thru st24 ?_
    show OwnGo _ _ _ _ (T24.setTop (mkF m 51 #[.val (.int p1), .val (.int (3 : Int32)), .val (.ref w_NAMESPACE), .val (.int (0 : Int32))] [(.int (0 : Int32))]))
    refine OwnGo.fwd (fun t k => XS.iloadN X24.here hx rfl (hb hby at_51) rfl k) ?_
    show OwnGo _ _ _ _ (T24.setTop (mkF m 52 #[.val (.int p1), .val (.int (3 : Int32)), .val (.ref w_NAMESPACE), .val (.int (0 : Int32))] [(.int (0 : Int32)), (.int (0 : Int32))]))
    have hc52_25 : (0 : Int) = (0 : Int) := rfl
    refine OwnGo.fwd (fun t k => XS.icmpNo X24.here hx rfl (hb hby at_52) rfl (own_beq (by decide) (by decide) hc52_25).2 k) ?_
    show OwnGo _ _ _ _ (T24.setTop (mkF m 55 #[.val (.int p1), .val (.int (3 : Int32)), .val (.ref w_NAMESPACE), .val (.int (0 : Int32))] []))
    refine OwnGo.fwd (fun t k => XS.iconst X24.here hx rfl (hb hby at_55) k) ?_
    show OwnGo _ _ _ _ (T24.setTop (mkF m 56 #[.val (.int p1), .val (.int (3 : Int32)), .val (.ref w_NAMESPACE), .val (.int (0 : Int32))] [(.int (1 : Int32))]))
    refine OwnGo.fwd (fun t k => XS.goto X24.here hx rfl (pc0 := 56) (pc' := 60) rfl (hb hby at_56) (by decide) (by decide) k) ?_
    show OwnGo _ _ _ _ (T24.setTop (mkF m 60 #[.val (.int p1), .val (.int (3 : Int32)), .val (.ref w_NAMESPACE), .val (.int (0 : Int32))] [(.int (1 : Int32))]))
    exact own_retZ X24 hlk hx Bd.returns (hb hby at_60) (by decide) (by decide) e24 ⟨rfl, N⟩
  · show OwnGo _ _ _ _ (s₁.setTop (mkF m 7 #[.val (.int p1), .unset, .unset, .unset] [(.int (4 : Int32))]))
    refine OwnGo.fwd (fun t k => XS.istoreN X0.here hx rfl (hb hby at_7) rfl (l' := #[.val (.int p1), .val (.int (4 : Int32)), .unset, .unset]) rfl k) ?_
    show OwnGo _ _ _ _ (s₁.setTop (mkF m 8 #[.val (.int p1), .val (.int (4 : Int32)), .unset, .unset] []))
    refine OwnGo.fwd (fun t k => XS.iloadN X0.here hx rfl (hb hby at_8) rfl k) ?_
    show OwnGo _ _ _ _ (s₁.setTop (mkF m 9 #[.val (.int p1), .val (.int (4 : Int32)), .unset, .unset] [(.int (4 : Int32))]))
    obtain ⟨_, _, ⟨T26, L26, k26, n26⟩, -, X26, ⟨Lc26, hQ26, l26, y26, z26⟩, st26⟩ := Jvm.LawKit.callS X0 hx (y := (⟨"org/axiswarp/tree/NodeKindIsChildPinLaw", "pick", "(I)Lorg/axiswarp/tree/NodeKind;"⟩ : MethodName)) hown (mvT hZ (hw _ (List.mem_of_getElem? (i := 1) rfl))) (mvT hZ (hw _ (List.mem_of_getElem? (i := 2) rfl))) (mvT hZ (hw _ (List.mem_of_getElem? (i := 3) rfl))) (mvT hZ (hw _ (List.mem_of_getElem? (i := 4) rfl))) (by decide) (backOf (W := 0) (rm1TEXT l Z a0 hw [] w_DOCUMENT w_ELEMENT w_ATTRIBUTE w_NAMESPACE w_TEXT w_COMMENT w_PROCESSING_INSTRUCTION h0 n0 Zs S_DOCUMENT E_w_DOCUMENT O_DOCUMENT S_ELEMENT E_w_ELEMENT O_ELEMENT S_ATTRIBUTE E_w_ATTRIBUTE O_ATTRIBUTE S_NAMESPACE E_w_NAMESPACE O_NAMESPACE S_TEXT E_w_TEXT O_TEXT S_COMMENT E_w_COMMENT O_COMMENT S_PROCESSING_INSTRUCTION E_w_PROCESSING_INSTRUCTION O_PROCESSING_INSTRUCTION) hZ (hw _ (List.mem_of_getElem? (i := 4) rfl)) (hw _ (List.mem_of_getElem? (i := 3) rfl)) (by decide) (by decide)) (g := (mkF m 9 #[.val (.int p1), .val (.int (4 : Int32)), .unset, .unset] [(.int (4 : Int32))])) rfl (by rw [hml]; rfl) (argsL := [(.int (4 : Int32))]) (rest := []) (lenOf pd_0 rfl) rfl (by show 2 * 0 + _ ≤ _; exact Nat.le_of_eq rfl) (hb hby at_9) (fun _ _ => ⟨rfl, e0, (by decide : 0 + 0 ≤ _), (by decide : 0 + 0 ≤ _)⟩)
    dsimp only [Pt.U, Pt.locs, Pt.cells, Pt.slots] at X26 l26 y26 z26 st26 hQ26
    subst l26 y26 z26
    obtain ⟨rfl, N26q, e26⟩ := hQ26
    have N := Fr.app N N26q
    refine OwnGo.fwd st26 ?_
    show OwnGo _ _ _ _ (T26.setTop (mkF m 12 #[.val (.int p1), .val (.int (4 : Int32)), .unset, .unset] [(.ref w_TEXT)]))
    refine OwnGo.fwd (fun t k => XS.astoreN X26.here hx rfl (hb hby at_12) rfl rfl (l' := #[.val (.int p1), .val (.int (4 : Int32)), .val (.ref w_TEXT), .unset]) rfl k) ?_
    show OwnGo _ _ _ _ (T26.setTop (mkF m 13 #[.val (.int p1), .val (.int (4 : Int32)), .val (.ref w_TEXT), .unset] []))
    refine OwnGo.fwd (fun t k => XS.aloadN X26.here hx rfl (hb hby at_13) rfl rfl k) ?_
    show OwnGo _ _ _ _ (T26.setTop (mkF m 14 #[.val (.int p1), .val (.int (4 : Int32)), .val (.ref w_TEXT), .unset] [(.ref w_TEXT)]))
    obtain ⟨T27, X27, e27, st27⟩ := getS2 X26 hx hZ hown (host := "") (Or.inl (hw _ (List.mem_of_getElem? (i := 8) rfl))) Via.refl e26 S_ELEMENT (g := (mkF m 14 #[.val (.int p1), .val (.int (4 : Int32)), .val (.ref w_TEXT), .unset] [(.ref w_TEXT)])) rfl (hb hby at_14)
    refine OwnGo.fwd st27 ?_
    show OwnGo _ _ _ _ (T27.setTop (mkF m 17 #[.val (.int p1), .val (.int (4 : Int32)), .val (.ref w_TEXT), .unset] [(.ref w_ELEMENT), (.ref w_TEXT)]))
    refine OwnGo.fwd (fun t k => Jvm.RoadKit.acmp (g := (mkF m 17 #[.val (.int p1), .val (.int (4 : Int32)), .val (.ref w_TEXT), .unset] [(.ref w_ELEMENT), (.ref w_TEXT)])) X27 hx rfl rfl rfl (pc0 := 17) (pc' := 20) (same := false) rfl (hb hby at_17) rfl (decide_eq_false fun q => (Ne.symm ne_ELEMENT_TEXT) (Value.ref.inj q)) (by decide) (by decide) k) ?_
    show OwnGo _ _ _ _ (T27.setTop (mkF m 20 #[.val (.int p1), .val (.int (4 : Int32)), .val (.ref w_TEXT), .unset] []))
    refine OwnGo.fwd (fun t k => XS.aloadN X27.here hx rfl (hb hby at_20) rfl rfl k) ?_
    show OwnGo _ _ _ _ (T27.setTop (mkF m 21 #[.val (.int p1), .val (.int (4 : Int32)), .val (.ref w_TEXT), .unset] [(.ref w_TEXT)]))
    obtain ⟨T28, X28, e28, st28⟩ := getS2 X27 hx hZ hown (host := "") (Or.inl (hw _ (List.mem_of_getElem? (i := 10) rfl))) Via.refl e27 S_TEXT (g := (mkF m 21 #[.val (.int p1), .val (.int (4 : Int32)), .val (.ref w_TEXT), .unset] [(.ref w_TEXT)])) rfl (hb hby at_21)
    refine OwnGo.fwd st28 ?_
    show OwnGo _ _ _ _ (T28.setTop (mkF m 24 #[.val (.int p1), .val (.int (4 : Int32)), .val (.ref w_TEXT), .unset] [(.ref w_TEXT), (.ref w_TEXT)]))
    refine OwnGo.fwd (fun t k => Jvm.RoadKit.acmp (g := (mkF m 24 #[.val (.int p1), .val (.int (4 : Int32)), .val (.ref w_TEXT), .unset] [(.ref w_TEXT), (.ref w_TEXT)])) X28 hx rfl rfl rfl (pc0 := 24) (pc' := 41) (same := true) rfl (hb hby at_24) rfl (decide_eq_true rfl) (by decide) (by decide) k) ?_
    show OwnGo _ _ _ _ (T28.setTop (mkF m 41 #[.val (.int p1), .val (.int (4 : Int32)), .val (.ref w_TEXT), .unset] []))
    refine OwnGo.fwd (fun t k => XS.iconst X28.here hx rfl (hb hby at_41) k) ?_
    show OwnGo _ _ _ _ (T28.setTop (mkF m 42 #[.val (.int p1), .val (.int (4 : Int32)), .val (.ref w_TEXT), .unset] [(.int (1 : Int32))]))
    refine OwnGo.fwd (fun t k => XS.goto X28.here hx rfl (pc0 := 42) (pc' := 46) rfl (hb hby at_42) (by decide) (by decide) k) ?_
    show OwnGo _ _ _ _ (T28.setTop (mkF m 46 #[.val (.int p1), .val (.int (4 : Int32)), .val (.ref w_TEXT), .unset] [(.int (1 : Int32))]))
    refine OwnGo.fwd (fun t k => XS.istoreN X28.here hx rfl (hb hby at_46) rfl (l' := #[.val (.int p1), .val (.int (4 : Int32)), .val (.ref w_TEXT), .val (.int (1 : Int32))]) rfl k) ?_
    show OwnGo _ _ _ _ (T28.setTop (mkF m 47 #[.val (.int p1), .val (.int (4 : Int32)), .val (.ref w_TEXT), .val (.int (1 : Int32))] []))
    refine OwnGo.fwd (fun t k => XS.aloadN X28.here hx rfl (hb hby at_47) rfl rfl k) ?_
    show OwnGo _ _ _ _ (T28.setTop (mkF m 48 #[.val (.int p1), .val (.int (4 : Int32)), .val (.ref w_TEXT), .val (.int (1 : Int32))] [(.ref w_TEXT)]))
    obtain ⟨cq29, kq29, q29a, q29b, q29c⟩ := isOf hZ e28 E_w_TEXT
    obtain ⟨_, _, ⟨T29, L29, k29, n29⟩, -, X29, ⟨Lc29, hQ29, l29, y29, z29⟩, st29⟩ := X28.virtualBack hx (y := (⟨"org/axiswarp/tree/NodeKind", "isChild", "()Z"⟩ : MethodName)) (z := (⟨"org/axiswarp/tree/NodeKind", "isChild", "()Z"⟩ : MethodName)) hown (mvT hZ (hw _ (List.mem_of_getElem? (i := 16) rfl))) (mvT hZ (hw _ (List.mem_of_getElem? (i := 17) rfl))) (notFace_of_selects (args := #[]) (mvT hZ (hw _ (List.mem_of_getElem? (i := 19) rfl)))) (mvT hZ (hw _ (List.mem_of_getElem? (i := 19) rfl))) (mvT hZ (hw _ (List.mem_of_getElem? (i := 18) rfl))) (by decide) (backOf (W := 0) (rm2TEXT l Z a0 hw [] w_DOCUMENT w_ELEMENT w_ATTRIBUTE w_NAMESPACE w_TEXT w_COMMENT w_PROCESSING_INSTRUCTION h0 n0 Zs S_DOCUMENT E_w_DOCUMENT O_DOCUMENT S_ELEMENT E_w_ELEMENT O_ELEMENT S_ATTRIBUTE E_w_ATTRIBUTE O_ATTRIBUTE S_NAMESPACE E_w_NAMESPACE O_NAMESPACE S_TEXT E_w_TEXT O_TEXT S_COMMENT E_w_COMMENT O_COMMENT S_PROCESSING_INSTRUCTION E_w_PROCESSING_INSTRUCTION O_PROCESSING_INSTRUCTION) hZ (hw _ (List.mem_of_getElem? (i := 20) rfl)) (hw _ (List.mem_of_getElem? (i := 6) rfl)) (by decide) (by decide)) q29a q29c (g := (mkF m 48 #[.val (.int p1), .val (.int (4 : Int32)), .val (.ref w_TEXT), .val (.int (1 : Int32))] [(.ref w_TEXT)])) rfl (by rw [hml]; rfl) (Steps.refl _) (argsL := []) (rest := []) (lenOf pd_1 rfl) rfl (by show 2 * 0 + _ ≤ _; exact Nat.le_of_eq rfl) (hb hby at_48) (fun _ _ => ⟨rfl, e28, (by decide : 0 + 0 ≤ _), (by decide : 0 + 0 ≤ _)⟩)
    dsimp only [Pt.U, Pt.locs, Pt.cells, Pt.slots] at X29 l29 y29 z29 st29 hQ29
    subst l29 y29 z29
    obtain ⟨rfl, N29q, e29⟩ := hQ29
    have N := Fr.app N N29q
    refine OwnGo.thru st29 ?_
    show OwnGo _ _ _ _ (T29.setTop (mkF m 51 #[.val (.int p1), .val (.int (4 : Int32)), .val (.ref w_TEXT), .val (.int (1 : Int32))] [(.int (1 : Int32))]))
    refine OwnGo.fwd (fun t k => XS.iloadN X29.here hx rfl (hb hby at_51) rfl k) ?_
    show OwnGo _ _ _ _ (T29.setTop (mkF m 52 #[.val (.int p1), .val (.int (4 : Int32)), .val (.ref w_TEXT), .val (.int (1 : Int32))] [(.int (1 : Int32)), (.int (1 : Int32))]))
    have hc52_30 : (1 : Int) = (1 : Int) := rfl
    refine OwnGo.fwd (fun t k => XS.icmpNo X29.here hx rfl (hb hby at_52) rfl (own_beq (by decide) (by decide) hc52_30).2 k) ?_
    show OwnGo _ _ _ _ (T29.setTop (mkF m 55 #[.val (.int p1), .val (.int (4 : Int32)), .val (.ref w_TEXT), .val (.int (1 : Int32))] []))
    refine OwnGo.fwd (fun t k => XS.iconst X29.here hx rfl (hb hby at_55) k) ?_
    show OwnGo _ _ _ _ (T29.setTop (mkF m 56 #[.val (.int p1), .val (.int (4 : Int32)), .val (.ref w_TEXT), .val (.int (1 : Int32))] [(.int (1 : Int32))]))
    refine OwnGo.fwd (fun t k => XS.goto X29.here hx rfl (pc0 := 56) (pc' := 60) rfl (hb hby at_56) (by decide) (by decide) k) ?_
    show OwnGo _ _ _ _ (T29.setTop (mkF m 60 #[.val (.int p1), .val (.int (4 : Int32)), .val (.ref w_TEXT), .val (.int (1 : Int32))] [(.int (1 : Int32))]))
    exact own_retZ X29 hlk hx Bd.returns (hb hby at_60) (by decide) (by decide) e29 ⟨rfl, N⟩
  · show OwnGo _ _ _ _ (s₁.setTop (mkF m 7 #[.val (.int p1), .unset, .unset, .unset] [(.int (5 : Int32))]))
    refine OwnGo.fwd (fun t k => XS.istoreN X0.here hx rfl (hb hby at_7) rfl (l' := #[.val (.int p1), .val (.int (5 : Int32)), .unset, .unset]) rfl k) ?_
    show OwnGo _ _ _ _ (s₁.setTop (mkF m 8 #[.val (.int p1), .val (.int (5 : Int32)), .unset, .unset] []))
    refine OwnGo.fwd (fun t k => XS.iloadN X0.here hx rfl (hb hby at_8) rfl k) ?_
    show OwnGo _ _ _ _ (s₁.setTop (mkF m 9 #[.val (.int p1), .val (.int (5 : Int32)), .unset, .unset] [(.int (5 : Int32))]))
    obtain ⟨_, _, ⟨T31, L31, k31, n31⟩, -, X31, ⟨Lc31, hQ31, l31, y31, z31⟩, st31⟩ := Jvm.LawKit.callS X0 hx (y := (⟨"org/axiswarp/tree/NodeKindIsChildPinLaw", "pick", "(I)Lorg/axiswarp/tree/NodeKind;"⟩ : MethodName)) hown (mvT hZ (hw _ (List.mem_of_getElem? (i := 1) rfl))) (mvT hZ (hw _ (List.mem_of_getElem? (i := 2) rfl))) (mvT hZ (hw _ (List.mem_of_getElem? (i := 3) rfl))) (mvT hZ (hw _ (List.mem_of_getElem? (i := 4) rfl))) (by decide) (backOf (W := 0) (rm1COMMENT l Z a0 hw [] w_DOCUMENT w_ELEMENT w_ATTRIBUTE w_NAMESPACE w_TEXT w_COMMENT w_PROCESSING_INSTRUCTION h0 n0 Zs S_DOCUMENT E_w_DOCUMENT O_DOCUMENT S_ELEMENT E_w_ELEMENT O_ELEMENT S_ATTRIBUTE E_w_ATTRIBUTE O_ATTRIBUTE S_NAMESPACE E_w_NAMESPACE O_NAMESPACE S_TEXT E_w_TEXT O_TEXT S_COMMENT E_w_COMMENT O_COMMENT S_PROCESSING_INSTRUCTION E_w_PROCESSING_INSTRUCTION O_PROCESSING_INSTRUCTION) hZ (hw _ (List.mem_of_getElem? (i := 4) rfl)) (hw _ (List.mem_of_getElem? (i := 3) rfl)) (by decide) (by decide)) (g := (mkF m 9 #[.val (.int p1), .val (.int (5 : Int32)), .unset, .unset] [(.int (5 : Int32))])) rfl (by rw [hml]; rfl) (argsL := [(.int (5 : Int32))]) (rest := []) (lenOf pd_0 rfl) rfl (by show 2 * 0 + _ ≤ _; exact Nat.le_of_eq rfl) (hb hby at_9) (fun _ _ => ⟨rfl, e0, (by decide : 0 + 0 ≤ _), (by decide : 0 + 0 ≤ _)⟩)
    dsimp only [Pt.U, Pt.locs, Pt.cells, Pt.slots] at X31 l31 y31 z31 st31 hQ31
    subst l31 y31 z31
    obtain ⟨rfl, N31q, e31⟩ := hQ31
    have N := Fr.app N N31q
    refine OwnGo.fwd st31 ?_
    show OwnGo _ _ _ _ (T31.setTop (mkF m 12 #[.val (.int p1), .val (.int (5 : Int32)), .unset, .unset] [(.ref w_COMMENT)]))
    refine OwnGo.fwd (fun t k => XS.astoreN X31.here hx rfl (hb hby at_12) rfl rfl (l' := #[.val (.int p1), .val (.int (5 : Int32)), .val (.ref w_COMMENT), .unset]) rfl k) ?_
    show OwnGo _ _ _ _ (T31.setTop (mkF m 13 #[.val (.int p1), .val (.int (5 : Int32)), .val (.ref w_COMMENT), .unset] []))
    refine OwnGo.fwd (fun t k => XS.aloadN X31.here hx rfl (hb hby at_13) rfl rfl k) ?_
    show OwnGo _ _ _ _ (T31.setTop (mkF m 14 #[.val (.int p1), .val (.int (5 : Int32)), .val (.ref w_COMMENT), .unset] [(.ref w_COMMENT)]))
    obtain ⟨T32, X32, e32, st32⟩ := getS2 X31 hx hZ hown (host := "") (Or.inl (hw _ (List.mem_of_getElem? (i := 8) rfl))) Via.refl e31 S_ELEMENT (g := (mkF m 14 #[.val (.int p1), .val (.int (5 : Int32)), .val (.ref w_COMMENT), .unset] [(.ref w_COMMENT)])) rfl (hb hby at_14)
    refine OwnGo.fwd st32 ?_
    show OwnGo _ _ _ _ (T32.setTop (mkF m 17 #[.val (.int p1), .val (.int (5 : Int32)), .val (.ref w_COMMENT), .unset] [(.ref w_ELEMENT), (.ref w_COMMENT)]))
    refine OwnGo.fwd (fun t k => Jvm.RoadKit.acmp (g := (mkF m 17 #[.val (.int p1), .val (.int (5 : Int32)), .val (.ref w_COMMENT), .unset] [(.ref w_ELEMENT), (.ref w_COMMENT)])) X32 hx rfl rfl rfl (pc0 := 17) (pc' := 20) (same := false) rfl (hb hby at_17) rfl (decide_eq_false fun q => (Ne.symm ne_ELEMENT_COMMENT) (Value.ref.inj q)) (by decide) (by decide) k) ?_
    show OwnGo _ _ _ _ (T32.setTop (mkF m 20 #[.val (.int p1), .val (.int (5 : Int32)), .val (.ref w_COMMENT), .unset] []))
    refine OwnGo.fwd (fun t k => XS.aloadN X32.here hx rfl (hb hby at_20) rfl rfl k) ?_
    show OwnGo _ _ _ _ (T32.setTop (mkF m 21 #[.val (.int p1), .val (.int (5 : Int32)), .val (.ref w_COMMENT), .unset] [(.ref w_COMMENT)]))
    obtain ⟨T33, X33, e33, st33⟩ := getS2 X32 hx hZ hown (host := "") (Or.inl (hw _ (List.mem_of_getElem? (i := 10) rfl))) Via.refl e32 S_TEXT (g := (mkF m 21 #[.val (.int p1), .val (.int (5 : Int32)), .val (.ref w_COMMENT), .unset] [(.ref w_COMMENT)])) rfl (hb hby at_21)
    refine OwnGo.fwd st33 ?_
    show OwnGo _ _ _ _ (T33.setTop (mkF m 24 #[.val (.int p1), .val (.int (5 : Int32)), .val (.ref w_COMMENT), .unset] [(.ref w_TEXT), (.ref w_COMMENT)]))
    refine OwnGo.fwd (fun t k => Jvm.RoadKit.acmp (g := (mkF m 24 #[.val (.int p1), .val (.int (5 : Int32)), .val (.ref w_COMMENT), .unset] [(.ref w_TEXT), (.ref w_COMMENT)])) X33 hx rfl rfl rfl (pc0 := 24) (pc' := 27) (same := false) rfl (hb hby at_24) rfl (decide_eq_false fun q => (Ne.symm ne_TEXT_COMMENT) (Value.ref.inj q)) (by decide) (by decide) k) ?_
    show OwnGo _ _ _ _ (T33.setTop (mkF m 27 #[.val (.int p1), .val (.int (5 : Int32)), .val (.ref w_COMMENT), .unset] []))
    refine OwnGo.fwd (fun t k => XS.aloadN X33.here hx rfl (hb hby at_27) rfl rfl k) ?_
    show OwnGo _ _ _ _ (T33.setTop (mkF m 28 #[.val (.int p1), .val (.int (5 : Int32)), .val (.ref w_COMMENT), .unset] [(.ref w_COMMENT)]))
    obtain ⟨T34, X34, e34, st34⟩ := getS2 X33 hx hZ hown (host := "") (Or.inl (hw _ (List.mem_of_getElem? (i := 12) rfl))) Via.refl e33 S_COMMENT (g := (mkF m 28 #[.val (.int p1), .val (.int (5 : Int32)), .val (.ref w_COMMENT), .unset] [(.ref w_COMMENT)])) rfl (hb hby at_28)
    refine OwnGo.fwd st34 ?_
    show OwnGo _ _ _ _ (T34.setTop (mkF m 31 #[.val (.int p1), .val (.int (5 : Int32)), .val (.ref w_COMMENT), .unset] [(.ref w_COMMENT), (.ref w_COMMENT)]))
    refine OwnGo.fwd (fun t k => Jvm.RoadKit.acmp (g := (mkF m 31 #[.val (.int p1), .val (.int (5 : Int32)), .val (.ref w_COMMENT), .unset] [(.ref w_COMMENT), (.ref w_COMMENT)])) X34 hx rfl rfl rfl (pc0 := 31) (pc' := 41) (same := true) rfl (hb hby at_31) rfl (decide_eq_true rfl) (by decide) (by decide) k) ?_
    show OwnGo _ _ _ _ (T34.setTop (mkF m 41 #[.val (.int p1), .val (.int (5 : Int32)), .val (.ref w_COMMENT), .unset] []))
    refine OwnGo.fwd (fun t k => XS.iconst X34.here hx rfl (hb hby at_41) k) ?_
    show OwnGo _ _ _ _ (T34.setTop (mkF m 42 #[.val (.int p1), .val (.int (5 : Int32)), .val (.ref w_COMMENT), .unset] [(.int (1 : Int32))]))
    refine OwnGo.fwd (fun t k => XS.goto X34.here hx rfl (pc0 := 42) (pc' := 46) rfl (hb hby at_42) (by decide) (by decide) k) ?_
    show OwnGo _ _ _ _ (T34.setTop (mkF m 46 #[.val (.int p1), .val (.int (5 : Int32)), .val (.ref w_COMMENT), .unset] [(.int (1 : Int32))]))
    refine OwnGo.fwd (fun t k => XS.istoreN X34.here hx rfl (hb hby at_46) rfl (l' := #[.val (.int p1), .val (.int (5 : Int32)), .val (.ref w_COMMENT), .val (.int (1 : Int32))]) rfl k) ?_
    show OwnGo _ _ _ _ (T34.setTop (mkF m 47 #[.val (.int p1), .val (.int (5 : Int32)), .val (.ref w_COMMENT), .val (.int (1 : Int32))] []))
    refine OwnGo.fwd (fun t k => XS.aloadN X34.here hx rfl (hb hby at_47) rfl rfl k) ?_
    show OwnGo _ _ _ _ (T34.setTop (mkF m 48 #[.val (.int p1), .val (.int (5 : Int32)), .val (.ref w_COMMENT), .val (.int (1 : Int32))] [(.ref w_COMMENT)]))
    obtain ⟨cq35, kq35, q35a, q35b, q35c⟩ := isOf hZ e34 E_w_COMMENT
    obtain ⟨_, _, ⟨T35, L35, k35, n35⟩, -, X35, ⟨Lc35, hQ35, l35, y35, z35⟩, st35⟩ := X34.virtualBack hx (y := (⟨"org/axiswarp/tree/NodeKind", "isChild", "()Z"⟩ : MethodName)) (z := (⟨"org/axiswarp/tree/NodeKind", "isChild", "()Z"⟩ : MethodName)) hown (mvT hZ (hw _ (List.mem_of_getElem? (i := 16) rfl))) (mvT hZ (hw _ (List.mem_of_getElem? (i := 17) rfl))) (notFace_of_selects (args := #[]) (mvT hZ (hw _ (List.mem_of_getElem? (i := 19) rfl)))) (mvT hZ (hw _ (List.mem_of_getElem? (i := 19) rfl))) (mvT hZ (hw _ (List.mem_of_getElem? (i := 18) rfl))) (by decide) (backOf (W := 0) (rm2COMMENT l Z a0 hw [] w_DOCUMENT w_ELEMENT w_ATTRIBUTE w_NAMESPACE w_TEXT w_COMMENT w_PROCESSING_INSTRUCTION h0 n0 Zs S_DOCUMENT E_w_DOCUMENT O_DOCUMENT S_ELEMENT E_w_ELEMENT O_ELEMENT S_ATTRIBUTE E_w_ATTRIBUTE O_ATTRIBUTE S_NAMESPACE E_w_NAMESPACE O_NAMESPACE S_TEXT E_w_TEXT O_TEXT S_COMMENT E_w_COMMENT O_COMMENT S_PROCESSING_INSTRUCTION E_w_PROCESSING_INSTRUCTION O_PROCESSING_INSTRUCTION) hZ (hw _ (List.mem_of_getElem? (i := 20) rfl)) (hw _ (List.mem_of_getElem? (i := 6) rfl)) (by decide) (by decide)) q35a q35c (g := (mkF m 48 #[.val (.int p1), .val (.int (5 : Int32)), .val (.ref w_COMMENT), .val (.int (1 : Int32))] [(.ref w_COMMENT)])) rfl (by rw [hml]; rfl) (Steps.refl _) (argsL := []) (rest := []) (lenOf pd_1 rfl) rfl (by show 2 * 0 + _ ≤ _; exact Nat.le_of_eq rfl) (hb hby at_48) (fun _ _ => ⟨rfl, e34, (by decide : 0 + 0 ≤ _), (by decide : 0 + 0 ≤ _)⟩)
    dsimp only [Pt.U, Pt.locs, Pt.cells, Pt.slots] at X35 l35 y35 z35 st35 hQ35
    subst l35 y35 z35
    obtain ⟨rfl, N35q, e35⟩ := hQ35
    have N := Fr.app N N35q
    refine OwnGo.thru st35 ?_
    show OwnGo _ _ _ _ (T35.setTop (mkF m 51 #[.val (.int p1), .val (.int (5 : Int32)), .val (.ref w_COMMENT), .val (.int (1 : Int32))] [(.int (1 : Int32))]))
    refine OwnGo.fwd (fun t k => XS.iloadN X35.here hx rfl (hb hby at_51) rfl k) ?_
    show OwnGo _ _ _ _ (T35.setTop (mkF m 52 #[.val (.int p1), .val (.int (5 : Int32)), .val (.ref w_COMMENT), .val (.int (1 : Int32))] [(.int (1 : Int32)), (.int (1 : Int32))]))
    have hc52_36 : (1 : Int) = (1 : Int) := rfl
    refine OwnGo.fwd (fun t k => XS.icmpNo X35.here hx rfl (hb hby at_52) rfl (own_beq (by decide) (by decide) hc52_36).2 k) ?_
    show OwnGo _ _ _ _ (T35.setTop (mkF m 55 #[.val (.int p1), .val (.int (5 : Int32)), .val (.ref w_COMMENT), .val (.int (1 : Int32))] []))
    refine OwnGo.fwd (fun t k => XS.iconst X35.here hx rfl (hb hby at_55) k) ?_
    show OwnGo _ _ _ _ (T35.setTop (mkF m 56 #[.val (.int p1), .val (.int (5 : Int32)), .val (.ref w_COMMENT), .val (.int (1 : Int32))] [(.int (1 : Int32))]))
    refine OwnGo.fwd (fun t k => XS.goto X35.here hx rfl (pc0 := 56) (pc' := 60) rfl (hb hby at_56) (by decide) (by decide) k) ?_
    show OwnGo _ _ _ _ (T35.setTop (mkF m 60 #[.val (.int p1), .val (.int (5 : Int32)), .val (.ref w_COMMENT), .val (.int (1 : Int32))] [(.int (1 : Int32))]))
    exact own_retZ X35 hlk hx Bd.returns (hb hby at_60) (by decide) (by decide) e35 ⟨rfl, N⟩
  · show OwnGo _ _ _ _ (s₁.setTop (mkF m 7 #[.val (.int p1), .unset, .unset, .unset] [(.int (6 : Int32))]))
    refine OwnGo.fwd (fun t k => XS.istoreN X0.here hx rfl (hb hby at_7) rfl (l' := #[.val (.int p1), .val (.int (6 : Int32)), .unset, .unset]) rfl k) ?_
    show OwnGo _ _ _ _ (s₁.setTop (mkF m 8 #[.val (.int p1), .val (.int (6 : Int32)), .unset, .unset] []))
    refine OwnGo.fwd (fun t k => XS.iloadN X0.here hx rfl (hb hby at_8) rfl k) ?_
    show OwnGo _ _ _ _ (s₁.setTop (mkF m 9 #[.val (.int p1), .val (.int (6 : Int32)), .unset, .unset] [(.int (6 : Int32))]))
    obtain ⟨_, _, ⟨T37, L37, k37, n37⟩, -, X37, ⟨Lc37, hQ37, l37, y37, z37⟩, st37⟩ := Jvm.LawKit.callS X0 hx (y := (⟨"org/axiswarp/tree/NodeKindIsChildPinLaw", "pick", "(I)Lorg/axiswarp/tree/NodeKind;"⟩ : MethodName)) hown (mvT hZ (hw _ (List.mem_of_getElem? (i := 1) rfl))) (mvT hZ (hw _ (List.mem_of_getElem? (i := 2) rfl))) (mvT hZ (hw _ (List.mem_of_getElem? (i := 3) rfl))) (mvT hZ (hw _ (List.mem_of_getElem? (i := 4) rfl))) (by decide) (backOf (W := 0) (rm1PROCESSING_INSTRUCTION l Z a0 hw [] w_DOCUMENT w_ELEMENT w_ATTRIBUTE w_NAMESPACE w_TEXT w_COMMENT w_PROCESSING_INSTRUCTION h0 n0 Zs S_DOCUMENT E_w_DOCUMENT O_DOCUMENT S_ELEMENT E_w_ELEMENT O_ELEMENT S_ATTRIBUTE E_w_ATTRIBUTE O_ATTRIBUTE S_NAMESPACE E_w_NAMESPACE O_NAMESPACE S_TEXT E_w_TEXT O_TEXT S_COMMENT E_w_COMMENT O_COMMENT S_PROCESSING_INSTRUCTION E_w_PROCESSING_INSTRUCTION O_PROCESSING_INSTRUCTION) hZ (hw _ (List.mem_of_getElem? (i := 4) rfl)) (hw _ (List.mem_of_getElem? (i := 3) rfl)) (by decide) (by decide)) (g := (mkF m 9 #[.val (.int p1), .val (.int (6 : Int32)), .unset, .unset] [(.int (6 : Int32))])) rfl (by rw [hml]; rfl) (argsL := [(.int (6 : Int32))]) (rest := []) (lenOf pd_0 rfl) rfl (by show 2 * 0 + _ ≤ _; exact Nat.le_of_eq rfl) (hb hby at_9) (fun _ _ => ⟨rfl, e0, (by decide : 0 + 0 ≤ _), (by decide : 0 + 0 ≤ _)⟩)
    dsimp only [Pt.U, Pt.locs, Pt.cells, Pt.slots] at X37 l37 y37 z37 st37 hQ37
    subst l37 y37 z37
    obtain ⟨rfl, N37q, e37⟩ := hQ37
    have N := Fr.app N N37q
    refine OwnGo.fwd st37 ?_
    show OwnGo _ _ _ _ (T37.setTop (mkF m 12 #[.val (.int p1), .val (.int (6 : Int32)), .unset, .unset] [(.ref w_PROCESSING_INSTRUCTION)]))
    refine OwnGo.fwd (fun t k => XS.astoreN X37.here hx rfl (hb hby at_12) rfl rfl (l' := #[.val (.int p1), .val (.int (6 : Int32)), .val (.ref w_PROCESSING_INSTRUCTION), .unset]) rfl k) ?_
    show OwnGo _ _ _ _ (T37.setTop (mkF m 13 #[.val (.int p1), .val (.int (6 : Int32)), .val (.ref w_PROCESSING_INSTRUCTION), .unset] []))
    refine OwnGo.fwd (fun t k => XS.aloadN X37.here hx rfl (hb hby at_13) rfl rfl k) ?_
    show OwnGo _ _ _ _ (T37.setTop (mkF m 14 #[.val (.int p1), .val (.int (6 : Int32)), .val (.ref w_PROCESSING_INSTRUCTION), .unset] [(.ref w_PROCESSING_INSTRUCTION)]))
    obtain ⟨T38, X38, e38, st38⟩ := getS2 X37 hx hZ hown (host := "") (Or.inl (hw _ (List.mem_of_getElem? (i := 8) rfl))) Via.refl e37 S_ELEMENT (g := (mkF m 14 #[.val (.int p1), .val (.int (6 : Int32)), .val (.ref w_PROCESSING_INSTRUCTION), .unset] [(.ref w_PROCESSING_INSTRUCTION)])) rfl (hb hby at_14)
    refine OwnGo.fwd st38 ?_
    show OwnGo _ _ _ _ (T38.setTop (mkF m 17 #[.val (.int p1), .val (.int (6 : Int32)), .val (.ref w_PROCESSING_INSTRUCTION), .unset] [(.ref w_ELEMENT), (.ref w_PROCESSING_INSTRUCTION)]))
    refine OwnGo.fwd (fun t k => Jvm.RoadKit.acmp (g := (mkF m 17 #[.val (.int p1), .val (.int (6 : Int32)), .val (.ref w_PROCESSING_INSTRUCTION), .unset] [(.ref w_ELEMENT), (.ref w_PROCESSING_INSTRUCTION)])) X38 hx rfl rfl rfl (pc0 := 17) (pc' := 20) (same := false) rfl (hb hby at_17) rfl (decide_eq_false fun q => (Ne.symm ne_ELEMENT_PROCESSING_INSTRUCTION) (Value.ref.inj q)) (by decide) (by decide) k) ?_
    show OwnGo _ _ _ _ (T38.setTop (mkF m 20 #[.val (.int p1), .val (.int (6 : Int32)), .val (.ref w_PROCESSING_INSTRUCTION), .unset] []))
    refine OwnGo.fwd (fun t k => XS.aloadN X38.here hx rfl (hb hby at_20) rfl rfl k) ?_
    show OwnGo _ _ _ _ (T38.setTop (mkF m 21 #[.val (.int p1), .val (.int (6 : Int32)), .val (.ref w_PROCESSING_INSTRUCTION), .unset] [(.ref w_PROCESSING_INSTRUCTION)]))
    obtain ⟨T39, X39, e39, st39⟩ := getS2 X38 hx hZ hown (host := "") (Or.inl (hw _ (List.mem_of_getElem? (i := 10) rfl))) Via.refl e38 S_TEXT (g := (mkF m 21 #[.val (.int p1), .val (.int (6 : Int32)), .val (.ref w_PROCESSING_INSTRUCTION), .unset] [(.ref w_PROCESSING_INSTRUCTION)])) rfl (hb hby at_21)
    refine OwnGo.fwd st39 ?_
    show OwnGo _ _ _ _ (T39.setTop (mkF m 24 #[.val (.int p1), .val (.int (6 : Int32)), .val (.ref w_PROCESSING_INSTRUCTION), .unset] [(.ref w_TEXT), (.ref w_PROCESSING_INSTRUCTION)]))
    refine OwnGo.fwd (fun t k => Jvm.RoadKit.acmp (g := (mkF m 24 #[.val (.int p1), .val (.int (6 : Int32)), .val (.ref w_PROCESSING_INSTRUCTION), .unset] [(.ref w_TEXT), (.ref w_PROCESSING_INSTRUCTION)])) X39 hx rfl rfl rfl (pc0 := 24) (pc' := 27) (same := false) rfl (hb hby at_24) rfl (decide_eq_false fun q => (Ne.symm ne_TEXT_PROCESSING_INSTRUCTION) (Value.ref.inj q)) (by decide) (by decide) k) ?_
    show OwnGo _ _ _ _ (T39.setTop (mkF m 27 #[.val (.int p1), .val (.int (6 : Int32)), .val (.ref w_PROCESSING_INSTRUCTION), .unset] []))
    refine OwnGo.fwd (fun t k => XS.aloadN X39.here hx rfl (hb hby at_27) rfl rfl k) ?_
    show OwnGo _ _ _ _ (T39.setTop (mkF m 28 #[.val (.int p1), .val (.int (6 : Int32)), .val (.ref w_PROCESSING_INSTRUCTION), .unset] [(.ref w_PROCESSING_INSTRUCTION)]))
    obtain ⟨T40, X40, e40, st40⟩ := getS2 X39 hx hZ hown (host := "") (Or.inl (hw _ (List.mem_of_getElem? (i := 12) rfl))) Via.refl e39 S_COMMENT (g := (mkF m 28 #[.val (.int p1), .val (.int (6 : Int32)), .val (.ref w_PROCESSING_INSTRUCTION), .unset] [(.ref w_PROCESSING_INSTRUCTION)])) rfl (hb hby at_28)
    refine OwnGo.fwd st40 ?_
    show OwnGo _ _ _ _ (T40.setTop (mkF m 31 #[.val (.int p1), .val (.int (6 : Int32)), .val (.ref w_PROCESSING_INSTRUCTION), .unset] [(.ref w_COMMENT), (.ref w_PROCESSING_INSTRUCTION)]))
    refine OwnGo.fwd (fun t k => Jvm.RoadKit.acmp (g := (mkF m 31 #[.val (.int p1), .val (.int (6 : Int32)), .val (.ref w_PROCESSING_INSTRUCTION), .unset] [(.ref w_COMMENT), (.ref w_PROCESSING_INSTRUCTION)])) X40 hx rfl rfl rfl (pc0 := 31) (pc' := 34) (same := false) rfl (hb hby at_31) rfl (decide_eq_false fun q => (Ne.symm ne_COMMENT_PROCESSING_INSTRUCTION) (Value.ref.inj q)) (by decide) (by decide) k) ?_
    show OwnGo _ _ _ _ (T40.setTop (mkF m 34 #[.val (.int p1), .val (.int (6 : Int32)), .val (.ref w_PROCESSING_INSTRUCTION), .unset] []))
    refine OwnGo.fwd (fun t k => XS.aloadN X40.here hx rfl (hb hby at_34) rfl rfl k) ?_
    show OwnGo _ _ _ _ (T40.setTop (mkF m 35 #[.val (.int p1), .val (.int (6 : Int32)), .val (.ref w_PROCESSING_INSTRUCTION), .unset] [(.ref w_PROCESSING_INSTRUCTION)]))
    obtain ⟨T41, X41, e41, st41⟩ := getS2 X40 hx hZ hown (host := "") (Or.inl (hw _ (List.mem_of_getElem? (i := 14) rfl))) Via.refl e40 S_PROCESSING_INSTRUCTION (g := (mkF m 35 #[.val (.int p1), .val (.int (6 : Int32)), .val (.ref w_PROCESSING_INSTRUCTION), .unset] [(.ref w_PROCESSING_INSTRUCTION)])) rfl (hb hby at_35)
    refine OwnGo.fwd st41 ?_
    show OwnGo _ _ _ _ (T41.setTop (mkF m 38 #[.val (.int p1), .val (.int (6 : Int32)), .val (.ref w_PROCESSING_INSTRUCTION), .unset] [(.ref w_PROCESSING_INSTRUCTION), (.ref w_PROCESSING_INSTRUCTION)]))
    refine OwnGo.fwd (fun t k => Jvm.RoadKit.acmp (g := (mkF m 38 #[.val (.int p1), .val (.int (6 : Int32)), .val (.ref w_PROCESSING_INSTRUCTION), .unset] [(.ref w_PROCESSING_INSTRUCTION), (.ref w_PROCESSING_INSTRUCTION)])) X41 hx rfl rfl rfl (pc0 := 38) (pc' := 41) (same := true) rfl (hb hby at_38) rfl (decide_eq_true rfl) (by decide) (by decide) k) ?_
    show OwnGo _ _ _ _ (T41.setTop (mkF m 41 #[.val (.int p1), .val (.int (6 : Int32)), .val (.ref w_PROCESSING_INSTRUCTION), .unset] []))
    refine OwnGo.fwd (fun t k => XS.iconst X41.here hx rfl (hb hby at_41) k) ?_
    show OwnGo _ _ _ _ (T41.setTop (mkF m 42 #[.val (.int p1), .val (.int (6 : Int32)), .val (.ref w_PROCESSING_INSTRUCTION), .unset] [(.int (1 : Int32))]))
    refine OwnGo.fwd (fun t k => XS.goto X41.here hx rfl (pc0 := 42) (pc' := 46) rfl (hb hby at_42) (by decide) (by decide) k) ?_
    show OwnGo _ _ _ _ (T41.setTop (mkF m 46 #[.val (.int p1), .val (.int (6 : Int32)), .val (.ref w_PROCESSING_INSTRUCTION), .unset] [(.int (1 : Int32))]))
    refine OwnGo.fwd (fun t k => XS.istoreN X41.here hx rfl (hb hby at_46) rfl (l' := #[.val (.int p1), .val (.int (6 : Int32)), .val (.ref w_PROCESSING_INSTRUCTION), .val (.int (1 : Int32))]) rfl k) ?_
    show OwnGo _ _ _ _ (T41.setTop (mkF m 47 #[.val (.int p1), .val (.int (6 : Int32)), .val (.ref w_PROCESSING_INSTRUCTION), .val (.int (1 : Int32))] []))
    refine OwnGo.fwd (fun t k => XS.aloadN X41.here hx rfl (hb hby at_47) rfl rfl k) ?_
    show OwnGo _ _ _ _ (T41.setTop (mkF m 48 #[.val (.int p1), .val (.int (6 : Int32)), .val (.ref w_PROCESSING_INSTRUCTION), .val (.int (1 : Int32))] [(.ref w_PROCESSING_INSTRUCTION)]))
    obtain ⟨cq42, kq42, q42a, q42b, q42c⟩ := isOf hZ e41 E_w_PROCESSING_INSTRUCTION
    obtain ⟨_, _, ⟨T42, L42, k42, n42⟩, -, X42, ⟨Lc42, hQ42, l42, y42, z42⟩, st42⟩ := X41.virtualBack hx (y := (⟨"org/axiswarp/tree/NodeKind", "isChild", "()Z"⟩ : MethodName)) (z := (⟨"org/axiswarp/tree/NodeKind", "isChild", "()Z"⟩ : MethodName)) hown (mvT hZ (hw _ (List.mem_of_getElem? (i := 16) rfl))) (mvT hZ (hw _ (List.mem_of_getElem? (i := 17) rfl))) (notFace_of_selects (args := #[]) (mvT hZ (hw _ (List.mem_of_getElem? (i := 19) rfl)))) (mvT hZ (hw _ (List.mem_of_getElem? (i := 19) rfl))) (mvT hZ (hw _ (List.mem_of_getElem? (i := 18) rfl))) (by decide) (backOf (W := 0) (rm2PROCESSING_INSTRUCTION l Z a0 hw [] w_DOCUMENT w_ELEMENT w_ATTRIBUTE w_NAMESPACE w_TEXT w_COMMENT w_PROCESSING_INSTRUCTION h0 n0 Zs S_DOCUMENT E_w_DOCUMENT O_DOCUMENT S_ELEMENT E_w_ELEMENT O_ELEMENT S_ATTRIBUTE E_w_ATTRIBUTE O_ATTRIBUTE S_NAMESPACE E_w_NAMESPACE O_NAMESPACE S_TEXT E_w_TEXT O_TEXT S_COMMENT E_w_COMMENT O_COMMENT S_PROCESSING_INSTRUCTION E_w_PROCESSING_INSTRUCTION O_PROCESSING_INSTRUCTION) hZ (hw _ (List.mem_of_getElem? (i := 20) rfl)) (hw _ (List.mem_of_getElem? (i := 6) rfl)) (by decide) (by decide)) q42a q42c (g := (mkF m 48 #[.val (.int p1), .val (.int (6 : Int32)), .val (.ref w_PROCESSING_INSTRUCTION), .val (.int (1 : Int32))] [(.ref w_PROCESSING_INSTRUCTION)])) rfl (by rw [hml]; rfl) (Steps.refl _) (argsL := []) (rest := []) (lenOf pd_1 rfl) rfl (by show 2 * 0 + _ ≤ _; exact Nat.le_of_eq rfl) (hb hby at_48) (fun _ _ => ⟨rfl, e41, (by decide : 0 + 0 ≤ _), (by decide : 0 + 0 ≤ _)⟩)
    dsimp only [Pt.U, Pt.locs, Pt.cells, Pt.slots] at X42 l42 y42 z42 st42 hQ42
    subst l42 y42 z42
    obtain ⟨rfl, N42q, e42⟩ := hQ42
    have N := Fr.app N N42q
    refine OwnGo.thru st42 ?_
    show OwnGo _ _ _ _ (T42.setTop (mkF m 51 #[.val (.int p1), .val (.int (6 : Int32)), .val (.ref w_PROCESSING_INSTRUCTION), .val (.int (1 : Int32))] [(.int (1 : Int32))]))
    refine OwnGo.fwd (fun t k => XS.iloadN X42.here hx rfl (hb hby at_51) rfl k) ?_
    show OwnGo _ _ _ _ (T42.setTop (mkF m 52 #[.val (.int p1), .val (.int (6 : Int32)), .val (.ref w_PROCESSING_INSTRUCTION), .val (.int (1 : Int32))] [(.int (1 : Int32)), (.int (1 : Int32))]))
    have hc52_43 : (1 : Int) = (1 : Int) := rfl
    refine OwnGo.fwd (fun t k => XS.icmpNo X42.here hx rfl (hb hby at_52) rfl (own_beq (by decide) (by decide) hc52_43).2 k) ?_
    show OwnGo _ _ _ _ (T42.setTop (mkF m 55 #[.val (.int p1), .val (.int (6 : Int32)), .val (.ref w_PROCESSING_INSTRUCTION), .val (.int (1 : Int32))] []))
    refine OwnGo.fwd (fun t k => XS.iconst X42.here hx rfl (hb hby at_55) k) ?_
    show OwnGo _ _ _ _ (T42.setTop (mkF m 56 #[.val (.int p1), .val (.int (6 : Int32)), .val (.ref w_PROCESSING_INSTRUCTION), .val (.int (1 : Int32))] [(.int (1 : Int32))]))
    refine OwnGo.fwd (fun t k => XS.goto X42.here hx rfl (pc0 := 56) (pc' := 60) rfl (hb hby at_56) (by decide) (by decide) k) ?_
    show OwnGo _ _ _ _ (T42.setTop (mkF m 60 #[.val (.int p1), .val (.int (6 : Int32)), .val (.ref w_PROCESSING_INSTRUCTION), .val (.int (1 : Int32))] [(.int (1 : Int32))]))
    exact own_retZ X42 hlk hx Bd.returns (hb hby at_60) (by decide) (by decide) e42 ⟨rfl, N⟩
set_option maxRecDepth 65536 in
set_option maxHeartbeats 40000000 in
theorem comes_1 {Post : Tables → Env → Array Value → State → Outcome → State → Prop} (hpost : ∀ tb e args s v u, (limb_1_1.after args s (.returned v) u = true ∧ limb_1_2.after args s (.returned v) u = true ∧ True) → FrameEnd s (.returned v) u (Jvm.fieldLocs frame_1_writes args s ++ Jvm.arrayLocs frame_1_arrays args s ++ Jvm.staticLocs frame_1_statics s) 0 0 → Post tb e args s (.returned v) u) :
    ArmFor flags0 classFile x code maxLocals ret World_1 tables_1 room_1 Calls_1 rest_1 Pre_1 Post := by
  intro l hfl _ _ p e ha hc hk s m args below hf hA hF happ hP
  obtain ⟨hcalls, hrest, hpre⟩ := hP
  obtain ⟨-, -, -, hnamed, -, -, -, hat⟩ := (Spec.applies_iff hf).mp happ
  obtain ⟨hg, hn⟩ := and_e (Cond.before_iff.mp (show (Jvm.Cond.and given_1 narrow_1).before args s = true from hpre))
  obtain ⟨gc, gr0⟩ := and_e hg
  obtain ⟨w0, rfl⟩ : ∃ w0 : Value, args = #[w0] := by
    have hs : args.size = 1 := by simpa [Cond.value, given_1] using gc
    obtain ⟨L⟩ := args
    match L, hs with
    | [w0], _ => exact ⟨w0, rfl⟩
  have hw := fun d (hd : d ∈ tables_1) => atoms_spec (ws := Jvm.Cond.code x code maxLocals ret :: tables_1) hat d (List.mem_cons_of_mem _ hd)
  have hfit : Fit s := fun {y c} hc i hi => by
    obtain ⟨ha, rfl⟩ := Array.getElem?_eq_some_iff.mp hc
    have q := List.all_eq_true.mp ((Array.all_eq_true_iff_forall_mem.mp hF) _ (Array.getElem_mem ha)) i (List.mem_range.mpr hi)
    simpa [Array.getElem?_eq_getElem hi] using q
  obtain ⟨i0, ei0⟩ := is_v gr0
  obtain rfl : w0 = (.int i0) := Option.some.inj ei0
  obtain ⟨cx_DOCUMENT, cr0⟩ := and_e hn
  obtain ⟨cx_ELEMENT, cr1⟩ := and_e cr0
  obtain ⟨co_DOCUMENT, cr2⟩ := and_e cr1
  obtain ⟨co_ELEMENT, cr3⟩ := and_e cr2
  obtain ⟨cx_TEXT, cr4⟩ := and_e cr3
  obtain ⟨co_TEXT, cr5⟩ := and_e cr4
  obtain ⟨cx_COMMENT, cr6⟩ := and_e cr5
  obtain ⟨co_COMMENT, cr7⟩ := and_e cr6
  obtain ⟨cx_PROCESSING_INSTRUCTION, cr8⟩ := and_e cr7
  obtain ⟨co_PROCESSING_INSTRUCTION, cr9⟩ := and_e cr8
  obtain ⟨cx_NAMESPACE, cr10⟩ := and_e cr9
  obtain ⟨co_NAMESPACE, cr11⟩ := and_e cr10
  obtain ⟨cx_ATTRIBUTE, cr12⟩ := and_e cr11
  have co_ATTRIBUTE := cr12
  obtain ⟨w_DOCUMENT, ev_DOCUMENT⟩ := exa_v cx_DOCUMENT
  have S_DOCUMENT : Sta s s.heap "org/axiswarp/tree/NodeKind" "DOCUMENT" "Lorg/axiswarp/tree/NodeKind;" (.ref w_DOCUMENT) := Sta.start ev_DOCUMENT (Or.inr ⟨(hw _ (List.mem_of_getElem? (i := 6) rfl)), (hw _ (List.mem_of_getElem? (i := 7) rfl))⟩)
  have E_w_DOCUMENT : Exa s s.heap w_DOCUMENT "org/axiswarp/tree/NodeKind" := Exa.start ev_DOCUMENT cx_DOCUMENT
  have O_DOCUMENT : Fld s s.heap w_DOCUMENT "java/lang/Enum" "ordinal" "I" (.int 0) := own_fieldInt ev_DOCUMENT co_DOCUMENT
  obtain ⟨w_ELEMENT, ev_ELEMENT⟩ := exa_v cx_ELEMENT
  have S_ELEMENT : Sta s s.heap "org/axiswarp/tree/NodeKind" "ELEMENT" "Lorg/axiswarp/tree/NodeKind;" (.ref w_ELEMENT) := Sta.start ev_ELEMENT (Or.inr ⟨(hw _ (List.mem_of_getElem? (i := 6) rfl)), (hw _ (List.mem_of_getElem? (i := 9) rfl))⟩)
  have E_w_ELEMENT : Exa s s.heap w_ELEMENT "org/axiswarp/tree/NodeKind" := Exa.start ev_ELEMENT cx_ELEMENT
  have O_ELEMENT : Fld s s.heap w_ELEMENT "java/lang/Enum" "ordinal" "I" (.int 1) := own_fieldInt ev_ELEMENT co_ELEMENT
  obtain ⟨w_ATTRIBUTE, ev_ATTRIBUTE⟩ := exa_v cx_ATTRIBUTE
  have S_ATTRIBUTE : Sta s s.heap "org/axiswarp/tree/NodeKind" "ATTRIBUTE" "Lorg/axiswarp/tree/NodeKind;" (.ref w_ATTRIBUTE) := Sta.start ev_ATTRIBUTE (Or.inr ⟨(hw _ (List.mem_of_getElem? (i := 6) rfl)), (hw _ (List.mem_of_getElem? (i := 25) rfl))⟩)
  have E_w_ATTRIBUTE : Exa s s.heap w_ATTRIBUTE "org/axiswarp/tree/NodeKind" := Exa.start ev_ATTRIBUTE cx_ATTRIBUTE
  have O_ATTRIBUTE : Fld s s.heap w_ATTRIBUTE "java/lang/Enum" "ordinal" "I" (.int 2) := own_fieldInt ev_ATTRIBUTE co_ATTRIBUTE
  obtain ⟨w_NAMESPACE, ev_NAMESPACE⟩ := exa_v cx_NAMESPACE
  have S_NAMESPACE : Sta s s.heap "org/axiswarp/tree/NodeKind" "NAMESPACE" "Lorg/axiswarp/tree/NodeKind;" (.ref w_NAMESPACE) := Sta.start ev_NAMESPACE (Or.inr ⟨(hw _ (List.mem_of_getElem? (i := 6) rfl)), (hw _ (List.mem_of_getElem? (i := 23) rfl))⟩)
  have E_w_NAMESPACE : Exa s s.heap w_NAMESPACE "org/axiswarp/tree/NodeKind" := Exa.start ev_NAMESPACE cx_NAMESPACE
  have O_NAMESPACE : Fld s s.heap w_NAMESPACE "java/lang/Enum" "ordinal" "I" (.int 3) := own_fieldInt ev_NAMESPACE co_NAMESPACE
  obtain ⟨w_TEXT, ev_TEXT⟩ := exa_v cx_TEXT
  have S_TEXT : Sta s s.heap "org/axiswarp/tree/NodeKind" "TEXT" "Lorg/axiswarp/tree/NodeKind;" (.ref w_TEXT) := Sta.start ev_TEXT (Or.inr ⟨(hw _ (List.mem_of_getElem? (i := 6) rfl)), (hw _ (List.mem_of_getElem? (i := 11) rfl))⟩)
  have E_w_TEXT : Exa s s.heap w_TEXT "org/axiswarp/tree/NodeKind" := Exa.start ev_TEXT cx_TEXT
  have O_TEXT : Fld s s.heap w_TEXT "java/lang/Enum" "ordinal" "I" (.int 4) := own_fieldInt ev_TEXT co_TEXT
  obtain ⟨w_COMMENT, ev_COMMENT⟩ := exa_v cx_COMMENT
  have S_COMMENT : Sta s s.heap "org/axiswarp/tree/NodeKind" "COMMENT" "Lorg/axiswarp/tree/NodeKind;" (.ref w_COMMENT) := Sta.start ev_COMMENT (Or.inr ⟨(hw _ (List.mem_of_getElem? (i := 6) rfl)), (hw _ (List.mem_of_getElem? (i := 13) rfl))⟩)
  have E_w_COMMENT : Exa s s.heap w_COMMENT "org/axiswarp/tree/NodeKind" := Exa.start ev_COMMENT cx_COMMENT
  have O_COMMENT : Fld s s.heap w_COMMENT "java/lang/Enum" "ordinal" "I" (.int 5) := own_fieldInt ev_COMMENT co_COMMENT
  obtain ⟨w_PROCESSING_INSTRUCTION, ev_PROCESSING_INSTRUCTION⟩ := exa_v cx_PROCESSING_INSTRUCTION
  have S_PROCESSING_INSTRUCTION : Sta s s.heap "org/axiswarp/tree/NodeKind" "PROCESSING_INSTRUCTION" "Lorg/axiswarp/tree/NodeKind;" (.ref w_PROCESSING_INSTRUCTION) := Sta.start ev_PROCESSING_INSTRUCTION (Or.inr ⟨(hw _ (List.mem_of_getElem? (i := 6) rfl)), (hw _ (List.mem_of_getElem? (i := 15) rfl))⟩)
  have E_w_PROCESSING_INSTRUCTION : Exa s s.heap w_PROCESSING_INSTRUCTION "org/axiswarp/tree/NodeKind" := Exa.start ev_PROCESSING_INSTRUCTION cx_PROCESSING_INSTRUCTION
  have O_PROCESSING_INSTRUCTION : Fld s s.heap w_PROCESSING_INSTRUCTION "java/lang/Enum" "ordinal" "I" (.int 6) := own_fieldInt ev_PROCESSING_INSTRUCTION co_PROCESSING_INSTRUCTION
  obtain ⟨n, o, h1, h2, h3, _, L, rfl, ⟨rfl, N⟩, hq⟩ := rm0 l s _ hw tables_1 i0 w_DOCUMENT w_ELEMENT w_ATTRIBUTE w_NAMESPACE w_TEXT w_COMMENT w_PROCESSING_INSTRUCTION s.heap s.heap.size (Nat.le_refl _) S_DOCUMENT E_w_DOCUMENT O_DOCUMENT S_ELEMENT E_w_ELEMENT O_ELEMENT S_ATTRIBUTE E_w_ATTRIBUTE O_ATTRIBUTE S_NAMESPACE E_w_NAMESPACE O_NAMESPACE S_TEXT E_w_TEXT O_TEXT S_COMMENT E_w_COMMENT O_COMMENT S_PROCESSING_INSTRUCTION E_w_PROCESSING_INSTRUCTION O_PROCESSING_INSTRUCTION p e ha hc hk s m _ below hf ((Spec.applies_iff_loose hf).mp happ).1 ⟨rfl, State.Warmed39.refl s, rfl⟩ trivial
  refine ⟨n, _, h1, h2, h3, hpost _ _ _ _ _ _ ⟨Cond.after_iff.mpr rfl, Cond.after_iff.mpr (eq_i res_at (Term.int_eval (1)) rfl), trivial⟩ ⟨hq.1, hq.2.1, (hq.2.2.sift fun y hy => Or.inr (N y hy)).mono (by decide) (by decide)⟩⟩
theorem main_1_1 : Claimed_1_1 := comes_1 fun _ _ _ _ _ _ h hF => ⟨h.1, hF⟩
theorem main_1_2 : Claimed_1_2 := comes_1 fun _ _ _ _ _ _ h hF => ⟨h.2.1, hF⟩
end Jvm.Pilot.@@N@@
namespace Jvm.Pilot.@@N@@
open Jvm Jvm.ClassFile Sem Op Lib Jvm.Free Jvm.Stand Jvm.Pilot.@@N@@.Jvm.D
/-! MADE BY PROGRAM (witnessworld.py) out of the Statement's table words and the real class files: 12 classes; the members and pool entries that the words name. The judged class is class 1, her method 1. -/
namespace start1
open Jvm.ClassFile
def u (s : String) : CpInfo := .utf8 (stringToUtf16 s)
/-- a pool by its gaps: so many unusable entries, then the entry; so many at the end -/
def gap : Nat → List CpInfo → List CpInfo
  | 0, r => r
  | n + 1, r => .unusable :: gap n r
def poolList (es : List (Nat × CpInfo)) (last : Nat) : List CpInfo := es.foldr (fun e r => gap e.1 (e.2 :: r)) (gap last [])
def pool (es : List (Nat × CpInfo)) (last : Nat) : Array CpInfo := ⟨poolList es last⟩
def fileOf (pool : Array CpInfo) (this : Nat) (attrs : Array Attribute := #[]) (ms : Array MethodInfo := #[]) (fl : Nat := 33) (sup : Nat := 0) (ifs : Array Nat := #[]) (fds : Array FieldInfo := #[]) : ClassFile where
  minorVersion := 0
  majorVersion := 65
  constantPool := pool
  accessFlags := fl
  thisClass := this
  superClass := sup
  interfaces := ifs
  fields := fds
  methods := ms
  attributes := attrs
def plain (name : String) (sup : Option ClassId) : Class where
  name := name
  kind := .ordinary
  loader := none
  accessFlags := 33
  super := sup
  interfaces := #[]
  cf := none
  fields := #[]
  methods := #[]
  instanceTypes := #[]
  staticTypes := #[]
  resolved := #[]
  callSites := []
  init := .initialized
  statics := none
  mirror := none

def pool0 : Array CpInfo := pool [(5, u "<init>"), (0, u "()V"), (1, .class_ 10), (1, u "java/lang/Object")] 113

def k0m0 : Method := { name := "<init>", desc := "()V", sig := { parameters := [], returnType := none }, accessFlags := 1, code := none }
/-- java/lang/Object -/
def k0 : Class := { plain "java/lang/Object" none with
  accessFlags := 33
  interfaces := #[]
  cf := some (fileOf pool0 8 #[] #[{ accessFlags := 1, nameIndex := 5, descriptorIndex := 6, attributes := #[] }] 33 0 #[] #[])
  fields := #[]
  methods := #[k0m0]
  instanceTypes := #[]
  staticTypes := #[]
  resolved := Array.replicate 124 none
  statics := none }

def pool1 : Array CpInfo := pool [(2, .class_ 4), (1, u "java/lang/Object"), (0, u "<init>"), (0, u "()V"), (0, .integer 2147483647), (0, .methodref 9 10), (0, .class_ 11), (0, .nameAndType 12 13), (0, u "org/axiswarp/tree/NodeKindIsChildPinLaw"), (0, u "pick"), (0, u "(I)Lorg/axiswarp/tree/NodeKind;"), (0, .fieldref 15 16), (0, .class_ 17), (0, .nameAndType 18 19), (0, u "org/axiswarp/tree/NodeKind"), (0, u "ELEMENT"), (0, u "Lorg/axiswarp/tree/NodeKind;"), (0, .fieldref 15 21), (0, .nameAndType 22 19), (0, u "TEXT"), (0, .fieldref 15 24), (0, .nameAndType 25 19), (0, u "COMMENT"), (0, .fieldref 15 27), (0, .nameAndType 28 19), (0, u "PROCESSING_INSTRUCTION"), (0, .methodref 15 30), (0, .nameAndType 31 32), (0, u "isChild"), (0, u "()Z"), (0, .fieldref 15 34), (0, .nameAndType 35 19), (0, u "DOCUMENT"), (0, .fieldref 15 37), (0, .nameAndType 38 19), (0, u "ATTRIBUTE"), (0, .fieldref 15 40), (0, .nameAndType 41 19), (0, u "NAMESPACE"), (2, u "law"), (0, u "(I)Z")] 3

def k1m0 : Method := { name := "<init>", desc := "()V", sig := { parameters := [], returnType := none }, accessFlags := 1, code := none }
def k1c1 : Code := { maxStack := 2, maxLocals := 4, code := code, exceptionTable := #[], attributes := #[] }
def k1m1 : Method := { name := "law", desc := "(I)Z", sig := { parameters := [.int], returnType := some .boolean }, accessFlags := 9, code := some k1c1 }
def k1c2 : Code := { maxStack := 2, maxLocals := 1, code := method_3_code, exceptionTable := #[], attributes := #[] }
def k1m2 : Method := { name := "pick", desc := "(I)Lorg/axiswarp/tree/NodeKind;", sig := { parameters := [.int], returnType := some (.object "org/axiswarp/tree/NodeKind") }, accessFlags := 10, code := some k1c2 }
/-- org/axiswarp/tree/NodeKindIsChildPinLaw -/
def k1 : Class := { plain "org/axiswarp/tree/NodeKindIsChildPinLaw" (some 0) with
  accessFlags := 49
  interfaces := #[]
  cf := some (fileOf pool1 9 #[] #[{ accessFlags := 1, nameIndex := 5, descriptorIndex := 6, attributes := #[] }, { accessFlags := 9, nameIndex := 44, descriptorIndex := 45, attributes := #[] }, { accessFlags := 10, nameIndex := 12, descriptorIndex := 13, attributes := #[] }] 49 2 #[] #[])
  fields := #[]
  methods := #[k1m0, k1m1, k1m2]
  instanceTypes := #[]
  staticTypes := #[]
  resolved := Array.replicate 49 none
  statics := none }

def pool2 : Array CpInfo := pool [(1, .class_ 2), (0, u "java/lang/constant/Constable"), (0, .class_ 4), (0, u "java/lang/Object")] 6

/-- java/lang/constant/Constable -/
def k2 : Class := { plain "java/lang/constant/Constable" (some 0) with
  accessFlags := 1537
  interfaces := #[]
  cf := some (fileOf pool2 1 #[] #[] 1537 3 #[] #[])
  fields := #[]
  methods := #[]
  instanceTypes := #[]
  staticTypes := #[]
  resolved := Array.replicate 11 none
  statics := none }

def pool3 : Array CpInfo := pool [(1, .class_ 2), (0, u "java/lang/Comparable"), (0, .class_ 4), (0, u "java/lang/Object")] 7

/-- java/lang/Comparable -/
def k3 : Class := { plain "java/lang/Comparable" (some 0) with
  accessFlags := 1537
  interfaces := #[]
  cf := some (fileOf pool3 1 #[] #[] 1537 3 #[] #[])
  fields := #[]
  methods := #[]
  instanceTypes := #[]
  staticTypes := #[]
  resolved := Array.replicate 12 none
  statics := none }

def pool4 : Array CpInfo := pool [(1, .class_ 2), (0, u "java/io/Serializable"), (0, .class_ 4), (0, u "java/lang/Object")] 2

/-- java/io/Serializable -/
def k4 : Class := { plain "java/io/Serializable" (some 0) with
  accessFlags := 1537
  interfaces := #[]
  cf := some (fileOf pool4 1 #[] #[] 1537 3 #[] #[])
  fields := #[]
  methods := #[]
  instanceTypes := #[]
  staticTypes := #[]
  resolved := Array.replicate 7 none
  statics := none }

def pool5 : Array CpInfo := pool [(2, .class_ 4), (1, u "java/lang/Enum"), (0, u "name"), (0, u "Ljava/lang/String;"), (2, u "ordinal"), (0, u "I"), (1, .class_ 14), (1, u "java/lang/Object"), (4, u "hash"), (86, .class_ 108), (1, u "java/lang/Enum$EnumDesc"), (2, .class_ 112), (0, u "java/lang/constant/Constable"), (0, .class_ 114), (0, u "java/lang/Comparable"), (0, .class_ 116), (0, u "java/io/Serializable")] 87

/-- java/lang/Enum -/
def k5 : Class := { plain "java/lang/Enum" (some 0) with
  accessFlags := 1057
  interfaces := #[2, 3, 4]
  cf := some (fileOf pool5 2 #[.nestMembers #[106]] #[] 1057 12 #[111, 113, 115] #[{ accessFlags := 18, nameIndex := 5, descriptorIndex := 6, attributes := #[] }, { accessFlags := 18, nameIndex := 9, descriptorIndex := 10, attributes := #[] }, { accessFlags := 2, nameIndex := 19, descriptorIndex := 10, attributes := #[] }])
  fields := #[{ name := "name", type := (.object "java/lang/String"), accessFlags := 18, slot := 0, constantValue := 0 }, { name := "ordinal", type := .int, accessFlags := 18, slot := 1, constantValue := 0 }, { name := "hash", type := .int, accessFlags := 2, slot := 2, constantValue := 0 }]
  methods := #[]
  instanceTypes := #[(.object "java/lang/String"), .int, .int]
  staticTypes := #[]
  resolved := Array.replicate 204 none
  statics := none }

def pool6 : Array CpInfo := pool [(1, .class_ 2), (0, u "org/axiswarp/tree/NodeKind"), (0, .fieldref 1 4), (0, .nameAndType 5 6), (0, u "DOCUMENT"), (0, u "Lorg/axiswarp/tree/NodeKind;"), (2, u "ELEMENT"), (0, .fieldref 1 11), (0, .nameAndType 12 6), (0, u "ATTRIBUTE"), (0, .fieldref 1 14), (0, .nameAndType 15 6), (0, u "NAMESPACE"), (2, u "TEXT"), (2, u "COMMENT"), (2, u "PROCESSING_INSTRUCTION"), (2, u "$VALUES"), (0, u "[Lorg/axiswarp/tree/NodeKind;"), (6, .class_ 37), (1, u "java/lang/Enum"), (25, u "isChild"), (0, u "()Z")] 5

def k6c0 : Code := { maxStack := 2, maxLocals := 1, code := prog_32_method_4_code, exceptionTable := #[], attributes := #[] }
def k6m0 : Method := { name := "isChild", desc := "()Z", sig := { parameters := [], returnType := some .boolean }, accessFlags := 1, code := some k6c0 }
/-- org/axiswarp/tree/NodeKind -/
def k6 : Class := { plain "org/axiswarp/tree/NodeKind" (some 5) with
  accessFlags := 16433
  interfaces := #[]
  cf := some (fileOf pool6 1 #[] #[{ accessFlags := 1, nameIndex := 63, descriptorIndex := 64, attributes := #[] }] 16433 35 #[] #[{ accessFlags := 16409, nameIndex := 5, descriptorIndex := 6, attributes := #[] }, { accessFlags := 16409, nameIndex := 9, descriptorIndex := 6, attributes := #[] }, { accessFlags := 16409, nameIndex := 12, descriptorIndex := 6, attributes := #[] }, { accessFlags := 16409, nameIndex := 15, descriptorIndex := 6, attributes := #[] }, { accessFlags := 16409, nameIndex := 18, descriptorIndex := 6, attributes := #[] }, { accessFlags := 16409, nameIndex := 21, descriptorIndex := 6, attributes := #[] }, { accessFlags := 16409, nameIndex := 24, descriptorIndex := 6, attributes := #[] }, { accessFlags := 4122, nameIndex := 27, descriptorIndex := 28, attributes := #[] }])
  fields := #[{ name := "DOCUMENT", type := (.object "org/axiswarp/tree/NodeKind"), accessFlags := 16409, slot := 0, constantValue := 0 }, { name := "ELEMENT", type := (.object "org/axiswarp/tree/NodeKind"), accessFlags := 16409, slot := 1, constantValue := 0 }, { name := "ATTRIBUTE", type := (.object "org/axiswarp/tree/NodeKind"), accessFlags := 16409, slot := 2, constantValue := 0 }, { name := "NAMESPACE", type := (.object "org/axiswarp/tree/NodeKind"), accessFlags := 16409, slot := 3, constantValue := 0 }, { name := "TEXT", type := (.object "org/axiswarp/tree/NodeKind"), accessFlags := 16409, slot := 4, constantValue := 0 }, { name := "COMMENT", type := (.object "org/axiswarp/tree/NodeKind"), accessFlags := 16409, slot := 5, constantValue := 0 }, { name := "PROCESSING_INSTRUCTION", type := (.object "org/axiswarp/tree/NodeKind"), accessFlags := 16409, slot := 6, constantValue := 0 }, { name := "$VALUES", type := (.array (.object "org/axiswarp/tree/NodeKind")), accessFlags := 4122, slot := 7, constantValue := 0 }]
  methods := #[k6m0]
  instanceTypes := #[(.object "java/lang/String"), .int, .int]
  staticTypes := #[(.object "org/axiswarp/tree/NodeKind"), (.object "org/axiswarp/tree/NodeKind"), (.object "org/axiswarp/tree/NodeKind"), (.object "org/axiswarp/tree/NodeKind"), (.object "org/axiswarp/tree/NodeKind"), (.object "org/axiswarp/tree/NodeKind"), (.object "org/axiswarp/tree/NodeKind"), (.array (.object "org/axiswarp/tree/NodeKind"))]
  resolved := Array.replicate 70 none
  statics := some 0 }

def pool7 : Array CpInfo := pool [(1, u "java/lang/Cloneable"), (0, .class_ 1), (0, u "java/lang/Object"), (0, .class_ 3)] 3

/-- java/lang/Cloneable -/
def k7 : Class := { plain "java/lang/Cloneable" (some 0) with
  accessFlags := 1537
  interfaces := #[]
  cf := some (fileOf pool7 2 #[] #[] 1537 4 #[] #[])
  fields := #[]
  methods := #[]
  instanceTypes := #[]
  staticTypes := #[]
  resolved := Array.replicate 8 none
  statics := none }

/-- the primitive byte -/
def k8 : Class := { plain "byte" none with kind := .primitive 'B', accessFlags := 0x411 }
/-- [B -/
def k9 : Class := { plain "[B" (some 0) with kind := .array 8 .byte, interfaces := #[7, 4], accessFlags := 1041 }

/-- the primitive int -/
def k10 : Class := { plain "int" none with kind := .primitive 'I', accessFlags := 0x411 }
/-- [I -/
def k11 : Class := { plain "[I" (some 0) with kind := .array 10 .int, interfaces := #[7, 4], accessFlags := 1041 }

def heap : Heap := #[{ cls := 6, slots := #[.ref 1, .ref 2, .ref 3, .ref 4, .ref 5, .ref 6, .ref 7, .null], vm := .statics 6 },
  { cls := 6, slots := #[.null, .int 0, .int 0], vm := .none },
  { cls := 6, slots := #[.null, .int 1, .int 0], vm := .none },
  { cls := 6, slots := #[.null, .int 2, .int 0], vm := .none },
  { cls := 6, slots := #[.null, .int 3, .int 0], vm := .none },
  { cls := 6, slots := #[.null, .int 4, .int 0], vm := .none },
  { cls := 6, slots := #[.null, .int 5, .int 0], vm := .none },
  { cls := 6, slots := #[.null, .int 6, .int 0], vm := .none }]
def classes : Array Class := #[k0, k1, k2, k3, k4, k5, k6, k7, k8, k9, k10, k11]
def interned : List (Array UInt16 × Addr) := []
def slotsUsed : Nat := 29
def theMethod : MethodId := ⟨1, 1⟩
def args0 : Array Value := #[.int 4]
def aboutOver (below : List Frame) : State where
  vm := { classes := classes, interned := interned.toArray }
  heap := heap
  slotsUsed := slotsUsed
  threads := #[{ frames := .invoking theMethod args0 :: below }]
def below0 : List Frame := [.native { method := ⟨0, 0⟩, args := #[] }]
def about1 : State := aboutOver below0
def p0 : Program := .bare "" "" ""
def e0 : Env := launch0.env 0 0 0
theorem w_frames : about1.frames = Frame.invoking theMethod args0 :: below0 := rfl
set_option maxRecDepth 65536 in
theorem w_args : argsFit about1.vm theMethod args0 = true := by decide +kernel
set_option maxRecDepth 65536 in
theorem w_heap : heapFits about1 = true := by decide +kernel
set_option maxRecDepth 65536 in
theorem w_runnable : about1.curStatus? = some .runnable := by decide +kernel
set_option maxRecDepth 65536 in
theorem w_alone : about1.alone = true := by decide +kernel
set_option maxRecDepth 65536 in
theorem w_named : about1.methodNamed? x = some theMethod := by decide +kernel
set_option maxRecDepth 65536 in
theorem w_hears : about1.hears theMethod below0 = true := by decide +kernel
set_option maxRecDepth 65536 in
theorem w_ripe : about1.ripe theMethod args0 below0 = true := by decide +kernel
theorem w_running : about1.status = .running := rfl
set_option maxRecDepth 65536 in
theorem w_room : about1.hasRoom e0.platform room_1 = true :=
  launch0.hasRoom_least _ room_1 (by decide +kernel) (by decide +kernel) (by decide +kernel) (by decide +kernel) (by decide +kernel) (by decide +kernel)
theorem allAtoms_all (ts : List Jvm.Cond) (a : Array Jvm.Value) (st : Jvm.State) : (allAtoms ts).before a st = ts.all (fun c => c.before a st) := by
  induction ts with
  | nil => rfl
  | cons c t ih =>
    show (Jvm.Cond.and c (allAtoms t)).before a st = _
    rw [Jvm.Cond.before_and, ih, List.all_cons]
def words1 : List Jvm.Cond := Jvm.Cond.code x code maxLocals ret :: tables_1
/-- a 'code' word, met by the world's own term for the bytes: nothing is compared byte by byte -/
theorem code_word {y : MethodName} {bytes : ByteArray} {mx : Nat} {rt : Option FieldType} {a : Array Value} {s : State} {m : MethodId} {meth : Method} {c : Code} (h1 : s.methodNamed? y = some m) (h2 : s.vm.method? m = some meth) (h3 : meth.code = some c) (h4 : c.code = bytes)
    (h5 : (c.maxLocals == mx && c.exceptionTable.isEmpty && decide (c.maxStack ≤ mostOperands) && decide (meth.sig.returnType = rt) && !meth.locks && decide (parseMethodDescriptor y.desc = some meth.sig)) = true) : (Jvm.Cond.code y bytes mx rt).before a s = true := by
  simp only [Bool.and_eq_true, beq_iff_eq, Bool.not_eq_true', decide_eq_true_eq] at h5
  obtain ⟨⟨⟨⟨⟨g1, g2⟩, g3⟩, g4⟩, g5⟩, g6⟩ := h5
  simp [Cond.before, Cond.holds, Cond.value, h1, h2, h3, h4, g1, g2, g3, g4, g5, g6]
def isCode : Jvm.Cond → Bool
  | .code _ _ _ _ => true
  | _ => false
theorem all_split {L : List Jvm.Cond} {P : Jvm.Cond → Bool} (h1 : L.all (fun c => isCode c || P c) = true) (h2 : ∀ c ∈ L.filter isCode, P c = true) : L.all P = true := by
  refine List.all_eq_true.mpr fun c hc => ?_
  have h := List.all_eq_true.mp h1 c hc
  rcases Bool.eq_false_or_eq_true (isCode c) with hi | hi
  · exact h2 c (List.mem_filter.mpr ⟨hc, hi⟩)
  · simpa [hi] using h
set_option maxRecDepth 65536 in
theorem w_c0 : (Jvm.Cond.code x code maxLocals ret).before args0 about1 = true := code_word (m := ⟨1, 1⟩) (meth := k1m1) (c := k1c1) (by decide +kernel) rfl rfl rfl (by decide +kernel)
set_option maxRecDepth 65536 in
theorem w_c1 : (Jvm.Cond.code ({ cls := "org/axiswarp/tree/NodeKindIsChildPinLaw", name := "pick", desc := "(I)Lorg/axiswarp/tree/NodeKind;" } : Jvm.MethodName) method_3_code (1 : Nat) (Option.some (Jvm.ClassFile.FieldType.object "org/axiswarp/tree/NodeKind"))).before args0 about1 = true := code_word (m := ⟨1, 2⟩) (meth := k1m2) (c := k1c2) (by decide +kernel) rfl rfl rfl (by decide +kernel)
set_option maxRecDepth 65536 in
theorem w_c2 : (Jvm.Cond.code ({ cls := "org/axiswarp/tree/NodeKind", name := "isChild", desc := "()Z" } : Jvm.MethodName) prog_32_method_4_code (1 : Nat) (Option.some Jvm.ClassFile.FieldType.boolean)).before args0 about1 = true := code_word (m := ⟨6, 0⟩) (meth := k6m0) (c := k6c0) (by decide +kernel) rfl rfl rfl (by decide +kernel)
def codes1 : List Jvm.Cond := [Jvm.Cond.code x code maxLocals ret, Jvm.Cond.code ({ cls := "org/axiswarp/tree/NodeKindIsChildPinLaw", name := "pick", desc := "(I)Lorg/axiswarp/tree/NodeKind;" } : Jvm.MethodName) method_3_code (1 : Nat) (Option.some (Jvm.ClassFile.FieldType.object "org/axiswarp/tree/NodeKind")), Jvm.Cond.code ({ cls := "org/axiswarp/tree/NodeKind", name := "isChild", desc := "()Z" } : Jvm.MethodName) prog_32_method_4_code (1 : Nat) (Option.some Jvm.ClassFile.FieldType.boolean)]
set_option maxRecDepth 65536 in
theorem codes_eq : words1.filter isCode = codes1 := rfl
theorem w_codes : ∀ c ∈ words1.filter isCode, c.before args0 about1 = true := by
  rw [codes_eq]
  intro c hc
  simp only [codes1, List.mem_cons, List.not_mem_nil, or_false] at hc
  rcases hc with rfl | rfl | rfl
  · exact w_c0
  · exact w_c1
  · exact w_c2
set_option maxRecDepth 65536 in
theorem w_t1 : (words1.take 24).all (fun c => isCode c || c.before args0 about1) = true := by decide +kernel
set_option maxRecDepth 65536 in
theorem w_t2 : (words1.drop 24).all (fun c => isCode c || c.before args0 about1) = true := by decide +kernel
theorem w_tables : (allAtoms (Jvm.Cond.code x code maxLocals ret :: tables_1)).before args0 about1 = true := by
  rw [allAtoms_all]
  show words1.all (fun c => c.before args0 about1) = true
  refine all_split ?_ w_codes
  rw [← List.take_append_drop 24 words1, List.all_append, w_t1, w_t2]
  rfl
set_option maxRecDepth 65536 in
theorem w_case : (Jvm.Cond.and given_1 narrow_1).before args0 about1 = true := by decide +kernel
theorem w_applies : (headSpec (Jvm.Cond.code x code maxLocals ret :: tables_1) room_1).applies x e0.platform about1 = true :=
  (Spec.applies_iff w_frames).mpr ⟨w_running, w_runnable, w_alone, w_named, w_hears, w_ripe, w_room, w_tables⟩
theorem atStart : AtStart classFile x code maxLocals ret World_1 tables_1 room_1 Calls_1 rest_1 Pre_1 launch0 p0 e0 about1 theMethod args0 below0 :=
  ⟨lists_1, trivial, launch0.admits_env _ _ _, launch0.least_env, fairChoices_fair.cas, fairChoices_fair.clock, w_frames, w_args, w_heap, w_applies, trivial, trivial, w_case⟩
end start1
theorem witness_1 : WitnessClaimed_1 := ⟨start1.p0, start1.e0, start1.about1, start1.theMethod, start1.args0, start1.below0, start1.atStart⟩
end Jvm.Pilot.@@N@@

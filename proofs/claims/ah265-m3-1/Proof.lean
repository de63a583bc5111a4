import JvmDerived
import JvmDerived.Pilot.@@N@@Statement
import JvmDerived.Pilot.@@N@@Code
set_option linter.unusedVariables false
set_option linter.unusedSimpArgs false
namespace Jvm.RoadKit
open Sem ClassFile Op Lib Jvm.Stand Jvm.Free Jvm.LawKit
/-- own: from A the walk comes to its end, and there R holds -/
def OwnGo (tb : Tables) (e : Env) (below : List Frame) (R : State → Outcome → Prop) (A : State) : Prop := ∃ s₂ o, Steps tb e below A s₂ ∧ s₂.status = .running ∧ Ended s₂ below o ∧ R s₂ o
theorem OwnGo.fwd {tb : Tables} {e : Env} {below : List Frame} {R : State → Outcome → Prop} {A B : State} (h : ∀ t, Steps tb e below B t → Steps tb e below A t) (k : OwnGo tb e below R B) : OwnGo tb e below R A := by
  obtain ⟨s, o, h1, h2⟩ := k
  exact ⟨s, o, h s h1, h2⟩
theorem OwnGo.thru {tb : Tables} {e : Env} {below : List Frame} {R : State → Outcome → Prop} {A B : State} (h : Steps tb e below A B) (k : OwnGo tb e below R B) : OwnGo tb e below R A := k.fwd fun _ q => h.trans q
/-- own: what a body leaves -/
def OwnEnd (s : State) (Q : Option Value → Heap → List Loc → Prop) (k n : Nat) : State → Outcome → Prop := fun U o => ∃ v L, o = .returned v ∧ Q v U.heap L ∧ FrameEnd s o U L k n
section OwnLeaf
variable {p : Program} {l : Launch} {e : Env} {R : Room} {s : State} {m : MethodId} {args : Array Value} {below : List Frame} {meth : Method} {c : Code} {T : State} {locs : List Loc} {cells slots : Nat} {Z : State} {a0 : Array Value} {h : Heap} {Q : Option Value → Heap → List Loc → Prop} {k n : Nat}
theorem own_leaf (X : Stand p l e R s m args below meth c T locs cells slots) (hlk : meth.locks = false) {v : Option Value} (hv : meth.sig.returnType = none → v = none) {g : JFrame} (hc : cells ≤ k) (hs : slots ≤ n) (eT : T.heap = h) (hQ : Q v h locs)
    (hl : ∀ fs, (∀ (f : JFrame) (acts : List Action), f.method = m → f.locked = none → f.entered = [] → (doReturn e (T.setTop f) acts v).1 = T.setFrames fs) → Steps p.tables e below (T.setTop g) (T.setFrames fs)) :
    OwnGo p.tables e below (OwnEnd s Q k n) (T.setTop g) := by
  obtain ⟨fs, hr, hrun, hended, hW, hsame⟩ := X.leave (v := v) hv hlk
  refine ⟨_, _, hl fs hr, hrun, hended, _, _, rfl, ?_, ⟨_, rfl⟩, hW, hsame.mono hc hs⟩
  show Q v T.heap locs
  rw [eT]; exact hQ
theorem own_retI (X : Stand p l e R s m args below meth c T locs cells slots) (hlk : meth.locks = false) (hx : p.tables.exec = Jvm.exec) {pc : Nat} {Ls : Array Slot} {z : Int32} {rest : List Value} (hret : meth.sig.returnType = some .int) (hd : decode c.code pc = .ok (.ireturn, 1)) (hc : cells ≤ k) (hs : slots ≤ n) (eT : T.heap = h) (hQ : Q (some (.int z)) h locs) :
    OwnGo p.tables e below (OwnEnd s Q k n) (T.setTop (mkF m pc Ls (.int z :: rest))) := by
  refine own_leaf X hlk (fun q => by rw [hret] at q; cases q) hc hs eT hQ fun fs hl => ?_
  have hm' : T.vm.method? m = some meth := X.method'
  have hn : narrow .int (.int z) = .int z := rfl
  show Steps p.tables e below (T.setTop { method := m, pc := pc, locals := Ls, stack := _ :: rest, locked := none }) _
  jvm_step X.here [X.here.top, hx, hd, hm', hret, hn]
  first | (intro acts; rw [hl _ acts rfl rfl rfl]) | rw [hl _ _ rfl rfl rfl]
  exact Steps.refl _
theorem own_retZ (X : Stand p l e R s m args below meth c T locs cells slots) (hlk : meth.locks = false) (hx : p.tables.exec = Jvm.exec) {pc : Nat} {Ls : Array Slot} {z : Int32} {rest : List Value} (hret : meth.sig.returnType = some .boolean) (hd : decode c.code pc = .ok (.ireturn, 1)) (hc : cells ≤ k) (hs : slots ≤ n) (eT : T.heap = h) (hQ : Q (some (.int (nar .boolean z))) h locs) :
    OwnGo p.tables e below (OwnEnd s Q k n) (T.setTop (mkF m pc Ls (.int z :: rest))) :=
  own_leaf X hlk (fun q => by rw [hret] at q; cases q) hc hs eT hQ fun fs hl => retN X hx (t := .boolean) hret (by simp) hd hl
theorem own_retJ (X : Stand p l e R s m args below meth c T locs cells slots) (hlk : meth.locks = false) (hx : p.tables.exec = Jvm.exec) {pc : Nat} {Ls : Array Slot} {z : Int64} (hret : meth.sig.returnType = some .long) (hd : decode c.code pc = .ok (.lreturn, 1)) (hc : cells ≤ k) (hs : slots ≤ n) (eT : T.heap = h) (hQ : Q (some (.long z)) h locs) :
    OwnGo p.tables e below (OwnEnd s Q k n) (T.setTop (mkF m pc Ls [.long z])) :=
  own_leaf X hlk (fun q => by rw [hret] at q; cases q) hc hs eT hQ fun fs hl => X.lreturnOut hx hret hd hl
theorem own_retV (X : Stand p l e R s m args below meth c T locs cells slots) (hlk : meth.locks = false) (hx : p.tables.exec = Jvm.exec) {pc : Nat} {Ls : Array Slot} (hret : meth.sig.returnType = none) (hd : decode c.code pc = .ok (.return_, 1)) (hc : cells ≤ k) (hs : slots ≤ n) (eT : T.heap = h) (hQ : Q none h locs) :
    OwnGo p.tables e below (OwnEnd s Q k n) (T.setTop (mkF m pc Ls [])) :=
  own_leaf X hlk (fun _ => rfl) hc hs eT hQ fun fs hl => X.returnOut hx hret hd hl
theorem own_retA (X : Stand p l e R s m args below meth c T locs cells slots) (hlk : meth.locks = false) (hx : p.tables.exec = Jvm.exec) {pc : Nat} {Ls : Array Slot} {w : Value} {rest : List Value} {t : FieldType} (hret : meth.sig.returnType = some t) (ht : t.isReference = true) (hw : w.isRef = true) (hd : decode c.code pc = .ok (.areturn, 1)) (hc : cells ≤ k) (hs : slots ≤ n) (eT : T.heap = h) (hQ : Q (some w) h locs) :
    OwnGo p.tables e below (OwnEnd s Q k n) (T.setTop (mkF m pc Ls (w :: rest))) :=
  own_leaf X hlk (fun q => by rw [hret] at q; cases q) hc hs eT hQ fun fs hl => retOut X hx hret (by cases t <;> first | (cases ht; done) | rfl) (Or.inr (Or.inr (Or.inr (Or.inr ⟨rfl, ht, hw⟩)))) hd hl
/-! own: int arrays, by a function of the place -/
def OwnIA (Z : State) (h : Heap) (a : Addr) (n : Nat) (f : Nat → Int32) : Prop := ∃ c : Cell, Arr Z h a c .int ∧ c.slots.size = n ∧ n < 2147483648 ∧ ∀ i, i < n → c.slots[i]? = some (.int (f i))
theorem OwnIA.lt {a : Addr} {n : Nat} {f : Nat → Int32} (F : OwnIA Z h a n f) : a < h.size := by obtain ⟨c, A, -⟩ := F; exact A.lt
theorem OwnIA.ext {h' : Heap} {a : Addr} {n : Nat} {f : Nat → Int32} (F : OwnIA Z h a n f) (E : Ext h h') : OwnIA Z h' a n f := by obtain ⟨c, A, r⟩ := F; exact ⟨c, A.ext E, r⟩
theorem OwnIA.other {h' : Heap} {a b : Addr} {n sl : Nat} {v : Value} {f : Nat → Int32} (F : OwnIA Z h b n f) (W : Wr h h' a sl v) (q : b ≠ a) : OwnIA Z h' b n f := by obtain ⟨c, A, r⟩ := F; exact ⟨c, A.other W q, r⟩
theorem OwnIA.keep {h' : Heap} {ws : List Addr} {a : Addr} {n : Nat} {f : Nat → Int32} (F : OwnIA Z h a n f) (K : Keep h h' ws) (q : a ∉ ws) : OwnIA Z h' a n f := by obtain ⟨c, A, r⟩ := F; exact ⟨c, ⟨K.2.1 a c A.1 q, A.2⟩, r⟩
theorem OwnIA.eqv {a : Addr} {n : Nat} {f f' : Nat → Int32} (F : OwnIA Z h a n f) (q : ∀ i, i < n → f i = f' i) : OwnIA Z h a n f' := by obtain ⟨c, A, r1, r2, r3⟩ := F; exact ⟨c, A, r1, r2, fun i hi => by rw [r3 i hi, q i hi]⟩
theorem own_clamp {j : Int32} {i : Nat} (hj : j.toInt = i) : j.toNatClampNeg = i := by simp only [Int32.toNatClampNeg]; omega
theorem own_inb {c : Cell} {j : Int32} {i n : Nat} (S : c.slots.size = n) (hj : j.toInt = i) (hi : i < n) : ¬ (j < 0 ∨ c.slots.size ≤ j.toNatClampNeg) := by
  rw [own_clamp hj, S]; simp only [Int32.lt_iff_toInt_lt, Int32.reduceToInt]; omega
theorem OwnIA.new {a : Addr} {k : ClassId} {z : Int32} {i : Nat} (A : Arr Z h a (newA k .int z) .int) (hz : z.toInt = i) : OwnIA Z h a i (fun _ => 0) := by
  have q := own_clamp hz
  have r := rng32 z
  exact ⟨_, A, by rw [sz_new]; exact q, by omega, fun j hj => by simp [newA, q, hj, defaultValue]⟩
theorem own_len (X : Stand p l e R s m args below meth c T locs cells slots) (hx : p.tables.exec = Jvm.exec) (hZ : Z.Warmed39 s.vm) (eT : T.heap = h) {a : Addr} {n : Nat} {f : Nat → Int32} (V : OwnIA Z h a n f) {g : JFrame} (hg : g.method = m) {rest : List Value} (hs : g.stack = .ref a :: rest) (hd : decode c.code g.pc = .ok (.arraylength, 1)) :
    ∀ target, Steps p.tables e below (T.setTop { g with pc := g.pc + 1, stack := .int (Int32.ofNat n) :: rest }) target → Steps p.tables e below (T.setTop g) target := by
  obtain ⟨cl, A, S, -⟩ := V
  subst S
  exact X.arraylength hx (by rw [eT]; exact A.1) (State.isArrayOf_alike hZ.alike A.2.1) hg hs hd
theorem own_iaload (X : Stand p l e R s m args below meth c T locs cells slots) (hx : p.tables.exec = Jvm.exec) (hZ : Z.Warmed39 s.vm) (eT : T.heap = h) {a : Addr} {n : Nat} {f : Nat → Int32} (V : OwnIA Z h a n f) {j : Int32} {i : Nat} (hj : j.toInt = i) (hi : i < n) {g : JFrame} (hg : g.method = m) {rest : List Value} (hs : g.stack = .int j :: .ref a :: rest) (hd : decode c.code g.pc = .ok (.iaload, 1)) :
    ∀ target, Steps p.tables e below (T.setTop { g with pc := g.pc + 1, stack := .int (f i) :: rest }) target → Steps p.tables e below (T.setTop g) target := by
  obtain ⟨cl, A, S, -, H⟩ := V
  exact X.iaload hx (by rw [eT]; exact A.1) (State.isArrayOf_alike hZ.alike A.2.1) A.2.2 (own_inb S hj hi) (by rw [own_clamp hj]; exact H i hi) hg hs hd
theorem own_iastore (X : Stand p l e R s m args below meth c T locs cells slots) (hx : p.tables.exec = Jvm.exec) (hZ : Z.Warmed39 s.vm) (eT : T.heap = h) {a : Addr} {n : Nat} {f : Nat → Int32} (V : OwnIA Z h a n f) {j x : Int32} {i : Nat} (hj : j.toInt = i) (hi : i < n) {g : JFrame} (hg : g.method = m) {rest : List Value} (hs : g.stack = .int x :: .int j :: .ref a :: rest) (hd : decode c.code g.pc = .ok (.iastore, 1)) :
    ∃ T' h', Stand p l e R s m args below meth c T' (locs ++ [⟨a, i⟩]) cells slots ∧ T'.heap = h' ∧ Wr h h' a i (.int x) ∧ OwnIA Z h' a n (fun k => if k = i then x else f k) ∧ ∀ target, Steps p.tables e below (T'.setTop { g with pc := g.pc + 1, stack := rest }) target → Steps p.tables e below (T.setTop g) target := by
  obtain ⟨cl, A, S, N, H⟩ := V
  obtain ⟨T', h', X', e', W, st⟩ := stI X hx hZ eT A (own_inb S hj hi) hg hs hd
  rw [own_clamp hj] at X' W
  refine ⟨T', h', X', e', W, ⟨_, A.same W, by rw [sz_set]; exact S, N, fun k hk => ?_⟩, st⟩
  by_cases q : k = i
  · subst q; simp [Cell.setSlot, S, hk]
  · simp only [Cell.setSlot, if_neg q]; rw [Array.getElem?_setIfInBounds_ne (Ne.symm q)]; exact H k hk
theorem own_newI (X : Stand p l e R s m args below meth c T locs cells slots) (hx : p.tables.exec = Jvm.exec) (hZ : Z.Warmed39 s.vm) (w : (Cond.arrayClass .int).before a0 Z = true) (eT : T.heap = h) {g : JFrame} (hg : g.method = m) (hd : decode c.code g.pc = .ok (.newarray .int, 2)) {z : Int32} {i : Nat} {rest : List Value} (hs : g.stack = .int z :: rest)
    (hz : z.toInt = i) {cap : Nat} (hcap : i ≤ cap) (hb : cap * 8 ≤ 536870912) (hc : cells + 1 ≤ R.cells) (hl : slots + cap ≤ R.slots) :
    ∃ T' h' a, Stand p l e R s m args below meth c T' locs (cells + 1) (slots + cap) ∧ T'.heap = h' ∧ Ext h h' ∧ a = h.size ∧ OwnIA Z h' a i (fun _ => 0) ∧ ∀ target, Steps p.tables e below (T'.setTop { g with pc := g.pc + 2, stack := .ref a :: rest }) target → Steps p.tables e below (T.setTop g) target := by
  have q := own_clamp hz
  obtain ⟨T', h', cA, X', e', E, A, st⟩ := newP X hx hZ (aty := .int) w eT hg hd hs (by simp only [Int32.lt_iff_toInt_lt, Int32.reduceToInt]; omega) (cap := cap) (by omega) hb hc hl
  exact ⟨T', h', _, X', e', E, rfl, OwnIA.new A hz, st⟩
end OwnLeaf
/-! own: branches, by the ints' own numbers -/
theorem own_blt {x y : Int32} {a b : Int} (hx : x.toInt = a) (hy : y.toInt = b) (h : a < b) : if_icmp.holds .lt x y = true ∧ if_icmp.holds .ge x y = false ∧ if_icmp.holds .gt y x = true ∧ if_icmp.holds .le y x = false := tlt (by rw [Int32.lt_iff_toInt_lt]; omega)
theorem own_bnlt {x y : Int32} {a b : Int} (hx : x.toInt = a) (hy : y.toInt = b) (h : ¬ a < b) : if_icmp.holds .lt x y = false ∧ if_icmp.holds .ge x y = true ∧ if_icmp.holds .gt y x = false ∧ if_icmp.holds .le y x = true := flt (by rw [Int32.lt_iff_toInt_lt]; omega)
theorem own_beq {x y : Int32} {a b : Int} (hx : x.toInt = a) (hy : y.toInt = b) (h : a = b) : if_icmp.holds .eq x y = true ∧ if_icmp.holds .ne x y = false := teq (Int32.toInt_inj.mp (by omega))
theorem own_bneq {x y : Int32} {a b : Int} (hx : x.toInt = a) (hy : y.toInt = b) (h : ¬ a = b) : if_icmp.holds .eq x y = false ∧ if_icmp.holds .ne x y = true := feq fun q => h (by rw [← hx, ← hy, q])
theorem own_Llt {x y : Int64} {a b : Int} (hx : x.toInt = a) (hy : y.toInt = b) (h : a < b) : ifCond.holds .lt (lcmpW x y) = true ∧ ifCond.holds .ge (lcmpW x y) = false := by
  have q : x < y := by rw [Int64.lt_iff_toInt_lt]; omega
  rw [if0, if0]; exact ⟨(tlt ((lw_lt x y).mpr q)).1, (tlt ((lw_lt x y).mpr q)).2.1⟩
theorem own_Lnlt {x y : Int64} {a b : Int} (hx : x.toInt = a) (hy : y.toInt = b) (h : ¬ a < b) : ifCond.holds .lt (lcmpW x y) = false ∧ ifCond.holds .ge (lcmpW x y) = true := by
  have q : ¬ x < y := by rw [Int64.lt_iff_toInt_lt]; omega
  rw [if0, if0]; exact ⟨(flt (fun r => q ((lw_lt x y).mp r))).1, (flt (fun r => q ((lw_lt x y).mp r))).2.1⟩
theorem own_Lgt {x y : Int64} {a b : Int} (hx : x.toInt = a) (hy : y.toInt = b) (h : b < a) : ifCond.holds .gt (lcmpW x y) = true ∧ ifCond.holds .le (lcmpW x y) = false := by
  have q : y < x := by rw [Int64.lt_iff_toInt_lt]; omega
  rw [if0, if0]; exact ⟨(tlt ((lw_gt x y).mpr q)).2.2.1, (tlt ((lw_gt x y).mpr q)).2.2.2⟩
theorem own_Lngt {x y : Int64} {a b : Int} (hx : x.toInt = a) (hy : y.toInt = b) (h : ¬ b < a) : ifCond.holds .gt (lcmpW x y) = false ∧ ifCond.holds .le (lcmpW x y) = true := by
  have q : ¬ y < x := by rw [Int64.lt_iff_toInt_lt]; omega
  rw [if0, if0]; exact ⟨(flt (fun r => q ((lw_gt x y).mp r))).2.2.1, (flt (fun r => q ((lw_gt x y).mp r))).2.2.2⟩
theorem own_Leq {x y : Int64} {a b : Int} (hx : x.toInt = a) (hy : y.toInt = b) (h : a = b) : ifCond.holds .eq (lcmpW x y) = true ∧ ifCond.holds .ne (lcmpW x y) = false := by
  have q : x = y := Int64.toInt_inj.mp (by omega)
  rw [if0, if0]; exact teq ((lw_eq x y).mpr q)
theorem own_Lneq {x y : Int64} {a b : Int} (hx : x.toInt = a) (hy : y.toInt = b) (h : ¬ a = b) : ifCond.holds .eq (lcmpW x y) = false ∧ ifCond.holds .ne (lcmpW x y) = true := by
  have q : ¬ x = y := fun r => h (by rw [← hx, ← hy, r])
  rw [if0, if0]; exact feq fun r => q ((lw_eq x y).mp r)
theorem own_ofNat {i : Nat} (h : i < 2147483648) : (Int32.ofNat i).toInt = (i : Int) := Int32.toInt_ofNat_small h
theorem own_ofNatS (i : Nat) : Int32.ofNat i + 1 = Int32.ofNat (i + 1) := (Int32.ofNat_add i 1).symm
theorem own_fieldInt {args : Array Value} {s : State} {t : Term} {C n d : String} {k : Int32} {w : Addr} (ht : t.eval args s none [] s = some (.ref w)) (h : (Jvm.Cond.eq (.field t C n d) (.int k)).value args s none s [] = some true) : Fld s s.heap w C n d (.int k) := by
  apply Fld.start
  obtain ⟨x, y, hx, hy, -, k2⟩ := cmp_v (Or.inl h)
  have hy' : y = .int k := Option.some.inj (hy.symm.trans (Term.int_eval k))
  subst hy'
  obtain ⟨z, rfl⟩ : ∃ z, x = .int z := k2
  have q := gotT (Cond.eq_ints hx hy) h
  subst q
  rw [← fld_at ht]; exact hx
end Jvm.RoadKit
namespace Jvm.Pilot.@@N@@
open Jvm Jvm.ClassFile Sem Op Lib Jvm.Free Jvm.Stand Jvm.LawKit Jvm.RoadKit Bundle Jvm.Pilot.@@N@@.Jvm.D
theorem pd_0 : parseMethodDescriptor "(I)Lcom/example/ctl_checker/ctlchecker/SmvExpression$Type;" = some ⟨[.int], some (.object "com/example/ctl_checker/ctlchecker/SmvExpression$Type")⟩ := by decide +kernel
theorem pd_1 : parseMethodDescriptor "()Z" = some ⟨[], some .boolean⟩ := by decide +kernel
theorem pd_2 : parseMethodDescriptor "()Lcom/example/ctl_checker/ctlchecker/SmvExpression$Type;" = some ⟨[], some (.object "com/example/ctl_checker/ctlchecker/SmvExpression$Type")⟩ := by decide +kernel
theorem pd_3 : parseMethodDescriptor "()I" = some ⟨[], some .int⟩ := by decide +kernel
theorem d4_0 : decode jdk_37_method_2_code 0 = .ok (.aload_n 0, 1) := by decide +kernel
theorem d4_1 : decode jdk_37_method_2_code 1 = .ok (.getfield 7, 3) := by decide +kernel
theorem d4_4 : decode jdk_37_method_2_code 4 = .ok (.ireturn, 1) := by decide +kernel
theorem pn_4 : plainName "java/lang/Enum" = true := by first | (simp [plainName, overriddenIn]; done) | decide +kernel
theorem ef_4 (m : MethodId) (x0 : Addr) : entryFrame m #[(.ref x0)] 1 = mkF m 0 #[.val (.ref x0)] [] := by first | (simp [entryFrame, mkF, argsToLocals, Value.category, maxLocals]; done) | rfl
def Q4 (Z : State) (a : Addr) (z : Int32) (h0 : Heap) (n0 : Nat) (v : Option Value) (h : Heap) (L : List Loc) : Prop := v = some (.int z) ∧ Fr n0 L ∧ h = h0
set_option maxRecDepth 65536 in
set_option maxHeartbeats 40000000 in
theorem rm4 (l : Launch) (Z : State) (a0 : Array Value) (hw : ∀ d ∈ tables_1, d.before a0 Z = true) (ws : List Jvm.Cond) (a : Addr) (z : Int32) (h0 : Heap) (n0 : Nat) (Z0 : n0 ≤ h0.size) (F_ordinal_a : Fld Z h0 a "java/lang/Enum" "ordinal" "I" (.int z)) :
    MetFree l (⟨"java/lang/Enum", "ordinal", "()I"⟩ : MethodName) (head1 (Jvm.Cond.code (⟨"java/lang/Enum", "ordinal", "()I"⟩ : MethodName) jdk_37_method_2_code 1 (some .int) :: ws) ({ frames := 0, cells := 0, slots := 0, locals := 0 } : Room)) (fun arr' U => arr' = #[(.ref a)] ∧ Z.Warmed39 U.vm ∧ U.heap = h0) (fun _ _ _ _ _ => True) (fun _ U o U' => ∃ v L, o = .returned v ∧ (Q4 Z a z h0 n0) v U'.heap L ∧ FrameEnd U o U' L ({ frames := 0, cells := 0, slots := 0, locals := 0 } : Room).cells ({ frames := 0, cells := 0, slots := 0, locals := 0 } : Room).slots) := by
  refine MetFree.of_bodySF (plainFor_of_name pn_4) hisR ?_
  intro p e s m args below meth c s₁ Bd hml0 hP hK
  obtain ⟨rfl, hZ, hh⟩ := hP
  have hx := Bd.exec
  have hby := Bd.bytes
  have hlk : meth.locks = false := BodyLoose.notSynchronized Bd
  have hml : c.maxLocals = 1 := hml0
  have hown : s.vm.findClass "java/lang/Enum" = some m.cls := findClass_of_methodNamed Bd.named
  have hnm := (name_of_methodNamed Bd.named Bd.method).1
  have X0 : Stand p l e ({ frames := 0, cells := 0, slots := 0, locals := 0 } : Room) s m #[(.ref a)] below meth c s₁ [] 0 0 := Stand.of_body Bd
  have e0 : s₁.heap = h0 := by rw [← hh, Bd.state]; rfl
  have N := Fr.nil n0
  have Zs := Z0
  change OwnGo p.tables e below (OwnEnd s (Q4 Z a z h0 n0) ({ frames := 0, cells := 0, slots := 0, locals := 0 } : Room).cells ({ frames := 0, cells := 0, slots := 0, locals := 0 } : Room).slots) _
  refine OwnGo.fwd (fun tq' kq' => castTop (ef_4 m a) kq') ?_
  show OwnGo _ _ _ _ (s₁.setTop (mkF m 0 #[.val (.ref a)] []))
  refine OwnGo.fwd (fun tq' kq' => XS.aloadN X0.here hx rfl (hb hby d4_0) rfl rfl kq') ?_
  show OwnGo _ _ _ _ (s₁.setTop (mkF m 1 #[.val (.ref a)] [(.ref a)]))
  obtain ⟨T1, X1, e1, st1⟩ := getF X0 hx hZ hown (host := "") (Or.inl (hw _ (List.mem_of_getElem? (i := 31) rfl))) Via.refl e0 F_ordinal_a (g := (mkF m 1 #[.val (.ref a)] [(.ref a)])) rfl rfl (hb hby d4_1)
  refine OwnGo.fwd st1 ?_
  show OwnGo _ _ _ _ (T1.setTop (mkF m 4 #[.val (.ref a)] [(.int z)]))
  exact own_retI X1 hlk hx Bd.returns (hb hby d4_4) (by decide) (by decide) e1 ⟨rfl, N, rfl⟩
theorem d1_0 : decode method_2_code 0 = .ok (.iload_n 0, 1) := by decide +kernel
theorem d1_1 : decode method_2_code 1 = .ok (.ifCond .ne 7, 3) := by decide +kernel
theorem d1_4 : decode method_2_code 4 = .ok (.getstatic 7, 3) := by decide +kernel
theorem d1_7 : decode method_2_code 7 = .ok (.areturn, 1) := by decide +kernel
theorem d1_8 : decode method_2_code 8 = .ok (.iload_n 0, 1) := by decide +kernel
theorem d1_9 : decode method_2_code 9 = .ok (.iconst 1, 1) := by decide +kernel
theorem d1_10 : decode method_2_code 10 = .ok (.if_icmp .ne 7, 3) := by decide +kernel
theorem d1_13 : decode method_2_code 13 = .ok (.getstatic 13, 3) := by decide +kernel
theorem d1_16 : decode method_2_code 16 = .ok (.areturn, 1) := by decide +kernel
theorem d1_17 : decode method_2_code 17 = .ok (.iload_n 0, 1) := by decide +kernel
theorem d1_18 : decode method_2_code 18 = .ok (.iconst 2, 1) := by decide +kernel
theorem d1_19 : decode method_2_code 19 = .ok (.if_icmp .ne 7, 3) := by decide +kernel
theorem d1_22 : decode method_2_code 22 = .ok (.getstatic 16, 3) := by decide +kernel
theorem d1_25 : decode method_2_code 25 = .ok (.areturn, 1) := by decide +kernel
theorem d1_26 : decode method_2_code 26 = .ok (.iload_n 0, 1) := by decide +kernel
theorem d1_27 : decode method_2_code 27 = .ok (.iconst 3, 1) := by decide +kernel
theorem d1_28 : decode method_2_code 28 = .ok (.if_icmp .ne 7, 3) := by decide +kernel
theorem d1_31 : decode method_2_code 31 = .ok (.getstatic 19, 3) := by decide +kernel
theorem d1_34 : decode method_2_code 34 = .ok (.areturn, 1) := by decide +kernel
theorem d1_35 : decode method_2_code 35 = .ok (.iload_n 0, 1) := by decide +kernel
theorem d1_36 : decode method_2_code 36 = .ok (.iconst 4, 1) := by decide +kernel
theorem d1_37 : decode method_2_code 37 = .ok (.if_icmp .ne 7, 3) := by decide +kernel
theorem d1_40 : decode method_2_code 40 = .ok (.getstatic 22, 3) := by decide +kernel
theorem d1_43 : decode method_2_code 43 = .ok (.areturn, 1) := by decide +kernel
theorem d1_44 : decode method_2_code 44 = .ok (.getstatic 25, 3) := by decide +kernel
theorem d1_47 : decode method_2_code 47 = .ok (.areturn, 1) := by decide +kernel
theorem pn_1 : plainName "com/example/ctl_checker/ctlchecker/TypeIsSetPinLaw" = true := by first | (simp [plainName, overriddenIn]; done) | decide +kernel
theorem ef_1CONDITION (m : MethodId) (x0 : Int32) : entryFrame m #[(.int x0)] 1 = mkF m 0 #[.val (.int x0)] [] := by first | (simp [entryFrame, mkF, argsToLocals, Value.category, maxLocals]; done) | rfl
def Q1CONDITION (Z : State) (w_CONDITION : Addr) (w_INTEGER : Addr) (w_SYMBOLIC : Addr) (w_CONDITION_SET : Addr) (w_INTEGER_SET : Addr) (w_SYMBOLIC_SET : Addr) (h0 : Heap) (n0 : Nat) (v : Option Value) (h : Heap) (L : List Loc) : Prop := v = some (.ref w_CONDITION) ∧ Fr n0 L ∧ h = h0
set_option maxRecDepth 65536 in
set_option maxHeartbeats 40000000 in
theorem rm1CONDITION (l : Launch) (Z : State) (a0 : Array Value) (hw : ∀ d ∈ tables_1, d.before a0 Z = true) (ws : List Jvm.Cond) (w_CONDITION : Addr) (w_INTEGER : Addr) (w_SYMBOLIC : Addr) (w_CONDITION_SET : Addr) (w_INTEGER_SET : Addr) (w_SYMBOLIC_SET : Addr) (h0 : Heap) (n0 : Nat) (Z0 : n0 ≤ h0.size) (S_CONDITION : Sta Z h0 "com/example/ctl_checker/ctlchecker/SmvExpression$Type" "CONDITION" "Lcom/example/ctl_checker/ctlchecker/SmvExpression$Type;" (.ref w_CONDITION)) (E_w_CONDITION : Exa Z h0 w_CONDITION "com/example/ctl_checker/ctlchecker/SmvExpression$Type") (O_CONDITION : Fld Z h0 w_CONDITION "java/lang/Enum" "ordinal" "I" (.int 0)) (S_INTEGER : Sta Z h0 "com/example/ctl_checker/ctlchecker/SmvExpression$Type" "INTEGER" "Lcom/example/ctl_checker/ctlchecker/SmvExpression$Type;" (.ref w_INTEGER)) (E_w_INTEGER : Exa Z h0 w_INTEGER "com/example/ctl_checker/ctlchecker/SmvExpression$Type") (O_INTEGER : Fld Z h0 w_INTEGER "java/lang/Enum" "ordinal" "I" (.int 1)) (S_SYMBOLIC : Sta Z h0 "com/example/ctl_checker/ctlchecker/SmvExpression$Type" "SYMBOLIC" "Lcom/example/ctl_checker/ctlchecker/SmvExpression$Type;" (.ref w_SYMBOLIC)) (E_w_SYMBOLIC : Exa Z h0 w_SYMBOLIC "com/example/ctl_checker/ctlchecker/SmvExpression$Type") (O_SYMBOLIC : Fld Z h0 w_SYMBOLIC "java/lang/Enum" "ordinal" "I" (.int 2)) (S_CONDITION_SET : Sta Z h0 "com/example/ctl_checker/ctlchecker/SmvExpression$Type" "CONDITION_SET" "Lcom/example/ctl_checker/ctlchecker/SmvExpression$Type;" (.ref w_CONDITION_SET)) (E_w_CONDITION_SET : Exa Z h0 w_CONDITION_SET "com/example/ctl_checker/ctlchecker/SmvExpression$Type") (O_CONDITION_SET : Fld Z h0 w_CONDITION_SET "java/lang/Enum" "ordinal" "I" (.int 3)) (S_INTEGER_SET : Sta Z h0 "com/example/ctl_checker/ctlchecker/SmvExpression$Type" "INTEGER_SET" "Lcom/example/ctl_checker/ctlchecker/SmvExpression$Type;" (.ref w_INTEGER_SET)) (E_w_INTEGER_SET : Exa Z h0 w_INTEGER_SET "com/example/ctl_checker/ctlchecker/SmvExpression$Type") (O_INTEGER_SET : Fld Z h0 w_INTEGER_SET "java/lang/Enum" "ordinal" "I" (.int 4)) (S_SYMBOLIC_SET : Sta Z h0 "com/example/ctl_checker/ctlchecker/SmvExpression$Type" "SYMBOLIC_SET" "Lcom/example/ctl_checker/ctlchecker/SmvExpression$Type;" (.ref w_SYMBOLIC_SET)) (E_w_SYMBOLIC_SET : Exa Z h0 w_SYMBOLIC_SET "com/example/ctl_checker/ctlchecker/SmvExpression$Type") (O_SYMBOLIC_SET : Fld Z h0 w_SYMBOLIC_SET "java/lang/Enum" "ordinal" "I" (.int 5)) :
    MetFree l (⟨"com/example/ctl_checker/ctlchecker/TypeIsSetPinLaw", "pick", "(I)Lcom/example/ctl_checker/ctlchecker/SmvExpression$Type;"⟩ : MethodName) (head1 (Jvm.Cond.code (⟨"com/example/ctl_checker/ctlchecker/TypeIsSetPinLaw", "pick", "(I)Lcom/example/ctl_checker/ctlchecker/SmvExpression$Type;"⟩ : MethodName) method_2_code 1 (some (.object "com/example/ctl_checker/ctlchecker/SmvExpression$Type")) :: ws) ({ frames := 0, cells := 0, slots := 0, locals := 0 } : Room)) (fun arr' U => arr' = #[(.int (0 : Int32))] ∧ Z.Warmed39 U.vm ∧ U.heap = h0) (fun _ _ _ _ _ => True) (fun _ U o U' => ∃ v L, o = .returned v ∧ (Q1CONDITION Z w_CONDITION w_INTEGER w_SYMBOLIC w_CONDITION_SET w_INTEGER_SET w_SYMBOLIC_SET h0 n0) v U'.heap L ∧ FrameEnd U o U' L ({ frames := 0, cells := 0, slots := 0, locals := 0 } : Room).cells ({ frames := 0, cells := 0, slots := 0, locals := 0 } : Room).slots) := by
  refine MetFree.of_bodySF (plainFor_of_name pn_1) hisR ?_
  intro p e s m args below meth c s₁ Bd hml0 hP hK
  obtain ⟨rfl, hZ, hh⟩ := hP
  have hx := Bd.exec
  have hby := Bd.bytes
  have hlk : meth.locks = false := BodyLoose.notSynchronized Bd
  have hml : c.maxLocals = 1 := hml0
  have hown : s.vm.findClass "com/example/ctl_checker/ctlchecker/TypeIsSetPinLaw" = some m.cls := findClass_of_methodNamed Bd.named
  have hnm := (name_of_methodNamed Bd.named Bd.method).1
  have X0 : Stand p l e ({ frames := 0, cells := 0, slots := 0, locals := 0 } : Room) s m #[(.int (0 : Int32))] below meth c s₁ [] 0 0 := Stand.of_body Bd
  have e0 : s₁.heap = h0 := by rw [← hh, Bd.state]; rfl
  have N := Fr.nil n0
  have Zs := Z0
  change OwnGo p.tables e below (OwnEnd s (Q1CONDITION Z w_CONDITION w_INTEGER w_SYMBOLIC w_CONDITION_SET w_INTEGER_SET w_SYMBOLIC_SET h0 n0) ({ frames := 0, cells := 0, slots := 0, locals := 0 } : Room).cells ({ frames := 0, cells := 0, slots := 0, locals := 0 } : Room).slots) _
  refine OwnGo.fwd (fun tq' kq' => castTop (ef_1CONDITION m (0 : Int32)) kq') ?_
  show OwnGo _ _ _ _ (s₁.setTop (mkF m 0 #[.val (.int (0 : Int32))] []))
  refine OwnGo.fwd (fun tq' kq' => XS.iloadN X0.here hx rfl (hb hby d1_0) rfl kq') ?_
  show OwnGo _ _ _ _ (s₁.setTop (mkF m 1 #[.val (.int (0 : Int32))] [(.int (0 : Int32))]))
  have hc1_1 : (0 : Int) = (0 : Int) := rfl
  refine OwnGo.fwd (fun tq' kq' => XS.ifNo X0.here hx rfl (hb hby d1_1) rfl ((if0 _ _).trans (own_beq (by decide) (by decide) hc1_1).2) kq') ?_
  show OwnGo _ _ _ _ (s₁.setTop (mkF m 4 #[.val (.int (0 : Int32))] []))
  obtain ⟨T2, X2, e2, st2⟩ := getS2 X0 hx hZ hown (host := "") (Or.inl (hw _ (List.mem_of_getElem? (i := 5) rfl))) Via.refl e0 S_CONDITION (g := (mkF m 4 #[.val (.int (0 : Int32))] [])) rfl (hb hby d1_4)
  refine OwnGo.fwd st2 ?_
  show OwnGo _ _ _ _ (T2.setTop (mkF m 7 #[.val (.int (0 : Int32))] [(.ref w_CONDITION)]))
  exact own_retA X2 hlk hx Bd.returns rfl rfl (hb hby d1_7) (by decide) (by decide) e2 ⟨rfl, N, rfl⟩
theorem d2_0 : decode prog_62_method_4_code 0 = .ok (.aload_n 0, 1) := by decide +kernel
theorem d2_1 : decode prog_62_method_4_code 1 = .ok (.getstatic 13, 3) := by decide +kernel
theorem d2_4 : decode prog_62_method_4_code 4 = .ok (.if_acmp .eq 17, 3) := by decide +kernel
theorem d2_7 : decode prog_62_method_4_code 7 = .ok (.aload_n 0, 1) := by decide +kernel
theorem d2_8 : decode prog_62_method_4_code 8 = .ok (.getstatic 16, 3) := by decide +kernel
theorem d2_11 : decode prog_62_method_4_code 11 = .ok (.if_acmp .eq 10, 3) := by decide +kernel
theorem d2_14 : decode prog_62_method_4_code 14 = .ok (.aload_n 0, 1) := by decide +kernel
theorem d2_15 : decode prog_62_method_4_code 15 = .ok (.getstatic 19, 3) := by decide +kernel
theorem d2_18 : decode prog_62_method_4_code 18 = .ok (.if_acmp .ne 7, 3) := by decide +kernel
theorem d2_21 : decode prog_62_method_4_code 21 = .ok (.iconst 1, 1) := by decide +kernel
theorem d2_22 : decode prog_62_method_4_code 22 = .ok (.goto 4, 3) := by decide +kernel
theorem d2_25 : decode prog_62_method_4_code 25 = .ok (.iconst 0, 1) := by decide +kernel
theorem d2_26 : decode prog_62_method_4_code 26 = .ok (.ireturn, 1) := by decide +kernel
theorem pn_2 : plainName "com/example/ctl_checker/ctlchecker/SmvExpression$Type" = true := by first | (simp [plainName, overriddenIn]; done) | decide +kernel
theorem ef_2CONDITION (m : MethodId) (x0 : Addr) : entryFrame m #[(.ref x0)] 1 = mkF m 0 #[.val (.ref x0)] [] := by first | (simp [entryFrame, mkF, argsToLocals, Value.category, maxLocals]; done) | rfl
def Q2CONDITION (Z : State) (w_CONDITION : Addr) (w_INTEGER : Addr) (w_SYMBOLIC : Addr) (w_CONDITION_SET : Addr) (w_INTEGER_SET : Addr) (w_SYMBOLIC_SET : Addr) (h0 : Heap) (n0 : Nat) (v : Option Value) (h : Heap) (L : List Loc) : Prop := v = some (.int 0) ∧ Fr n0 L ∧ h = h0
set_option maxRecDepth 65536 in
set_option maxHeartbeats 40000000 in
theorem rm2CONDITION (l : Launch) (Z : State) (a0 : Array Value) (hw : ∀ d ∈ tables_1, d.before a0 Z = true) (ws : List Jvm.Cond) (w_CONDITION : Addr) (w_INTEGER : Addr) (w_SYMBOLIC : Addr) (w_CONDITION_SET : Addr) (w_INTEGER_SET : Addr) (w_SYMBOLIC_SET : Addr) (h0 : Heap) (n0 : Nat) (Z0 : n0 ≤ h0.size) (S_CONDITION : Sta Z h0 "com/example/ctl_checker/ctlchecker/SmvExpression$Type" "CONDITION" "Lcom/example/ctl_checker/ctlchecker/SmvExpression$Type;" (.ref w_CONDITION)) (E_w_CONDITION : Exa Z h0 w_CONDITION "com/example/ctl_checker/ctlchecker/SmvExpression$Type") (O_CONDITION : Fld Z h0 w_CONDITION "java/lang/Enum" "ordinal" "I" (.int 0)) (S_INTEGER : Sta Z h0 "com/example/ctl_checker/ctlchecker/SmvExpression$Type" "INTEGER" "Lcom/example/ctl_checker/ctlchecker/SmvExpression$Type;" (.ref w_INTEGER)) (E_w_INTEGER : Exa Z h0 w_INTEGER "com/example/ctl_checker/ctlchecker/SmvExpression$Type") (O_INTEGER : Fld Z h0 w_INTEGER "java/lang/Enum" "ordinal" "I" (.int 1)) (S_SYMBOLIC : Sta Z h0 "com/example/ctl_checker/ctlchecker/SmvExpression$Type" "SYMBOLIC" "Lcom/example/ctl_checker/ctlchecker/SmvExpression$Type;" (.ref w_SYMBOLIC)) (E_w_SYMBOLIC : Exa Z h0 w_SYMBOLIC "com/example/ctl_checker/ctlchecker/SmvExpression$Type") (O_SYMBOLIC : Fld Z h0 w_SYMBOLIC "java/lang/Enum" "ordinal" "I" (.int 2)) (S_CONDITION_SET : Sta Z h0 "com/example/ctl_checker/ctlchecker/SmvExpression$Type" "CONDITION_SET" "Lcom/example/ctl_checker/ctlchecker/SmvExpression$Type;" (.ref w_CONDITION_SET)) (E_w_CONDITION_SET : Exa Z h0 w_CONDITION_SET "com/example/ctl_checker/ctlchecker/SmvExpression$Type") (O_CONDITION_SET : Fld Z h0 w_CONDITION_SET "java/lang/Enum" "ordinal" "I" (.int 3)) (S_INTEGER_SET : Sta Z h0 "com/example/ctl_checker/ctlchecker/SmvExpression$Type" "INTEGER_SET" "Lcom/example/ctl_checker/ctlchecker/SmvExpression$Type;" (.ref w_INTEGER_SET)) (E_w_INTEGER_SET : Exa Z h0 w_INTEGER_SET "com/example/ctl_checker/ctlchecker/SmvExpression$Type") (O_INTEGER_SET : Fld Z h0 w_INTEGER_SET "java/lang/Enum" "ordinal" "I" (.int 4)) (S_SYMBOLIC_SET : Sta Z h0 "com/example/ctl_checker/ctlchecker/SmvExpression$Type" "SYMBOLIC_SET" "Lcom/example/ctl_checker/ctlchecker/SmvExpression$Type;" (.ref w_SYMBOLIC_SET)) (E_w_SYMBOLIC_SET : Exa Z h0 w_SYMBOLIC_SET "com/example/ctl_checker/ctlchecker/SmvExpression$Type") (O_SYMBOLIC_SET : Fld Z h0 w_SYMBOLIC_SET "java/lang/Enum" "ordinal" "I" (.int 5)) :
    MetFree l (⟨"com/example/ctl_checker/ctlchecker/SmvExpression$Type", "isSet", "()Z"⟩ : MethodName) (head1 (Jvm.Cond.code (⟨"com/example/ctl_checker/ctlchecker/SmvExpression$Type", "isSet", "()Z"⟩ : MethodName) prog_62_method_4_code 1 (some .boolean) :: ws) ({ frames := 0, cells := 0, slots := 0, locals := 0 } : Room)) (fun arr' U => arr' = #[(.ref w_CONDITION)] ∧ Z.Warmed39 U.vm ∧ U.heap = h0) (fun _ _ _ _ _ => True) (fun _ U o U' => ∃ v L, o = .returned v ∧ (Q2CONDITION Z w_CONDITION w_INTEGER w_SYMBOLIC w_CONDITION_SET w_INTEGER_SET w_SYMBOLIC_SET h0 n0) v U'.heap L ∧ FrameEnd U o U' L ({ frames := 0, cells := 0, slots := 0, locals := 0 } : Room).cells ({ frames := 0, cells := 0, slots := 0, locals := 0 } : Room).slots) := by
  refine MetFree.of_bodySF (plainFor_of_name pn_2) hisR ?_
  intro p e s m args below meth c s₁ Bd hml0 hP hK
  obtain ⟨rfl, hZ, hh⟩ := hP
  have hx := Bd.exec
  have hby := Bd.bytes
  have hlk : meth.locks = false := BodyLoose.notSynchronized Bd
  have hml : c.maxLocals = 1 := hml0
  have hown : s.vm.findClass "com/example/ctl_checker/ctlchecker/SmvExpression$Type" = some m.cls := findClass_of_methodNamed Bd.named
  have hnm := (name_of_methodNamed Bd.named Bd.method).1
  have X0 : Stand p l e ({ frames := 0, cells := 0, slots := 0, locals := 0 } : Room) s m #[(.ref w_CONDITION)] below meth c s₁ [] 0 0 := Stand.of_body Bd
  have e0 : s₁.heap = h0 := by rw [← hh, Bd.state]; rfl
  have N := Fr.nil n0
  have Zs := Z0
  change OwnGo p.tables e below (OwnEnd s (Q2CONDITION Z w_CONDITION w_INTEGER w_SYMBOLIC w_CONDITION_SET w_INTEGER_SET w_SYMBOLIC_SET h0 n0) ({ frames := 0, cells := 0, slots := 0, locals := 0 } : Room).cells ({ frames := 0, cells := 0, slots := 0, locals := 0 } : Room).slots) _
  refine OwnGo.fwd (fun tq' kq' => castTop (ef_2CONDITION m w_CONDITION) kq') ?_
  show OwnGo _ _ _ _ (s₁.setTop (mkF m 0 #[.val (.ref w_CONDITION)] []))
  have ne_CONDITION_INTEGER : w_CONDITION ≠ w_INTEGER := Fld.ne O_CONDITION O_INTEGER (by decide)
  have ne_CONDITION_SYMBOLIC : w_CONDITION ≠ w_SYMBOLIC := Fld.ne O_CONDITION O_SYMBOLIC (by decide)
  have ne_CONDITION_CONDITION_SET : w_CONDITION ≠ w_CONDITION_SET := Fld.ne O_CONDITION O_CONDITION_SET (by decide)
  have ne_CONDITION_INTEGER_SET : w_CONDITION ≠ w_INTEGER_SET := Fld.ne O_CONDITION O_INTEGER_SET (by decide)
  have ne_CONDITION_SYMBOLIC_SET : w_CONDITION ≠ w_SYMBOLIC_SET := Fld.ne O_CONDITION O_SYMBOLIC_SET (by decide)
  have ne_INTEGER_SYMBOLIC : w_INTEGER ≠ w_SYMBOLIC := Fld.ne O_INTEGER O_SYMBOLIC (by decide)
  have ne_INTEGER_CONDITION_SET : w_INTEGER ≠ w_CONDITION_SET := Fld.ne O_INTEGER O_CONDITION_SET (by decide)
  have ne_INTEGER_INTEGER_SET : w_INTEGER ≠ w_INTEGER_SET := Fld.ne O_INTEGER O_INTEGER_SET (by decide)
  have ne_INTEGER_SYMBOLIC_SET : w_INTEGER ≠ w_SYMBOLIC_SET := Fld.ne O_INTEGER O_SYMBOLIC_SET (by decide)
  have ne_SYMBOLIC_CONDITION_SET : w_SYMBOLIC ≠ w_CONDITION_SET := Fld.ne O_SYMBOLIC O_CONDITION_SET (by decide)
  have ne_SYMBOLIC_INTEGER_SET : w_SYMBOLIC ≠ w_INTEGER_SET := Fld.ne O_SYMBOLIC O_INTEGER_SET (by decide)
  have ne_SYMBOLIC_SYMBOLIC_SET : w_SYMBOLIC ≠ w_SYMBOLIC_SET := Fld.ne O_SYMBOLIC O_SYMBOLIC_SET (by decide)
  have ne_CONDITION_SET_INTEGER_SET : w_CONDITION_SET ≠ w_INTEGER_SET := Fld.ne O_CONDITION_SET O_INTEGER_SET (by decide)
  have ne_CONDITION_SET_SYMBOLIC_SET : w_CONDITION_SET ≠ w_SYMBOLIC_SET := Fld.ne O_CONDITION_SET O_SYMBOLIC_SET (by decide)
  have ne_INTEGER_SET_SYMBOLIC_SET : w_INTEGER_SET ≠ w_SYMBOLIC_SET := Fld.ne O_INTEGER_SET O_SYMBOLIC_SET (by decide)
  refine OwnGo.fwd (fun tq' kq' => XS.aloadN X0.here hx rfl (hb hby d2_0) rfl rfl kq') ?_
  show OwnGo _ _ _ _ (s₁.setTop (mkF m 1 #[.val (.ref w_CONDITION)] [(.ref w_CONDITION)]))
  obtain ⟨T1, X1, e1, st1⟩ := getS2 X0 hx hZ hown (host := "") (Or.inl (hw _ (List.mem_of_getElem? (i := 13) rfl))) Via.refl e0 S_CONDITION_SET (g := (mkF m 1 #[.val (.ref w_CONDITION)] [(.ref w_CONDITION)])) rfl (hb hby d2_1)
  refine OwnGo.fwd st1 ?_
  show OwnGo _ _ _ _ (T1.setTop (mkF m 4 #[.val (.ref w_CONDITION)] [(.ref w_CONDITION_SET), (.ref w_CONDITION)]))
  refine OwnGo.fwd (fun tq' kq' => Jvm.RoadKit.acmp (g := (mkF m 4 #[.val (.ref w_CONDITION)] [(.ref w_CONDITION_SET), (.ref w_CONDITION)])) X1 hx rfl rfl rfl (pc0 := 4) (pc' := 7) (same := false) rfl (hb hby d2_4) rfl (decide_eq_false fun q => ne_CONDITION_CONDITION_SET (Value.ref.inj q)) (by decide) (by decide) kq') ?_
  show OwnGo _ _ _ _ (T1.setTop (mkF m 7 #[.val (.ref w_CONDITION)] []))
  refine OwnGo.fwd (fun tq' kq' => XS.aloadN X1.here hx rfl (hb hby d2_7) rfl rfl kq') ?_
  show OwnGo _ _ _ _ (T1.setTop (mkF m 8 #[.val (.ref w_CONDITION)] [(.ref w_CONDITION)]))
  obtain ⟨T2, X2, e2, st2⟩ := getS2 X1 hx hZ hown (host := "") (Or.inl (hw _ (List.mem_of_getElem? (i := 15) rfl))) Via.refl e1 S_INTEGER_SET (g := (mkF m 8 #[.val (.ref w_CONDITION)] [(.ref w_CONDITION)])) rfl (hb hby d2_8)
  refine OwnGo.fwd st2 ?_
  show OwnGo _ _ _ _ (T2.setTop (mkF m 11 #[.val (.ref w_CONDITION)] [(.ref w_INTEGER_SET), (.ref w_CONDITION)]))
  refine OwnGo.fwd (fun tq' kq' => Jvm.RoadKit.acmp (g := (mkF m 11 #[.val (.ref w_CONDITION)] [(.ref w_INTEGER_SET), (.ref w_CONDITION)])) X2 hx rfl rfl rfl (pc0 := 11) (pc' := 14) (same := false) rfl (hb hby d2_11) rfl (decide_eq_false fun q => ne_CONDITION_INTEGER_SET (Value.ref.inj q)) (by decide) (by decide) kq') ?_
  show OwnGo _ _ _ _ (T2.setTop (mkF m 14 #[.val (.ref w_CONDITION)] []))
  refine OwnGo.fwd (fun tq' kq' => XS.aloadN X2.here hx rfl (hb hby d2_14) rfl rfl kq') ?_
  show OwnGo _ _ _ _ (T2.setTop (mkF m 15 #[.val (.ref w_CONDITION)] [(.ref w_CONDITION)]))
  obtain ⟨T3, X3, e3, st3⟩ := getS2 X2 hx hZ hown (host := "") (Or.inl (hw _ (List.mem_of_getElem? (i := 17) rfl))) Via.refl e2 S_SYMBOLIC_SET (g := (mkF m 15 #[.val (.ref w_CONDITION)] [(.ref w_CONDITION)])) rfl (hb hby d2_15)
  refine OwnGo.fwd st3 ?_
  show OwnGo _ _ _ _ (T3.setTop (mkF m 18 #[.val (.ref w_CONDITION)] [(.ref w_SYMBOLIC_SET), (.ref w_CONDITION)]))
  refine OwnGo.fwd (fun tq' kq' => Jvm.RoadKit.acmp (g := (mkF m 18 #[.val (.ref w_CONDITION)] [(.ref w_SYMBOLIC_SET), (.ref w_CONDITION)])) X3 hx rfl rfl rfl (pc0 := 18) (pc' := 25) (same := false) rfl (hb hby d2_18) rfl (decide_eq_false fun q => ne_CONDITION_SYMBOLIC_SET (Value.ref.inj q)) (by decide) (by decide) kq') ?_
  show OwnGo _ _ _ _ (T3.setTop (mkF m 25 #[.val (.ref w_CONDITION)] []))
  refine OwnGo.fwd (fun tq' kq' => XS.iconst X3.here hx rfl (hb hby d2_25) kq') ?_
  show OwnGo _ _ _ _ (T3.setTop (mkF m 26 #[.val (.ref w_CONDITION)] [(.int (0 : Int32))]))
  exact own_retZ X3 hlk hx Bd.returns (hb hby d2_26) (by decide) (by decide) e3 ⟨rfl, N, rfl⟩
theorem d3_0 : decode prog_62_method_5_code 0 = .ok (.aload_n 0, 1) := by decide +kernel
theorem d3_1 : decode prog_62_method_5_code 1 = .ok (.invokevirtual 41, 3) := by decide +kernel
theorem d3_4 : decode prog_62_method_5_code 4 = .ok (.tableswitch 46 3 5 #[28, 34, 40], 28) := by decide +kernel
theorem d3_32 : decode prog_62_method_5_code 32 = .ok (.getstatic 3, 3) := by decide +kernel
theorem d3_35 : decode prog_62_method_5_code 35 = .ok (.goto 16, 3) := by decide +kernel
theorem d3_38 : decode prog_62_method_5_code 38 = .ok (.getstatic 7, 3) := by decide +kernel
theorem d3_41 : decode prog_62_method_5_code 41 = .ok (.goto 10, 3) := by decide +kernel
theorem d3_44 : decode prog_62_method_5_code 44 = .ok (.getstatic 10, 3) := by decide +kernel
theorem d3_47 : decode prog_62_method_5_code 47 = .ok (.goto 4, 3) := by decide +kernel
theorem d3_50 : decode prog_62_method_5_code 50 = .ok (.aload_n 0, 1) := by decide +kernel
theorem d3_51 : decode prog_62_method_5_code 51 = .ok (.areturn, 1) := by decide +kernel
theorem pn_3 : plainName "com/example/ctl_checker/ctlchecker/SmvExpression$Type" = true := by first | (simp [plainName, overriddenIn]; done) | decide +kernel
theorem ef_3CONDITION (m : MethodId) (x0 : Addr) : entryFrame m #[(.ref x0)] 1 = mkF m 0 #[.val (.ref x0)] [] := by first | (simp [entryFrame, mkF, argsToLocals, Value.category, maxLocals]; done) | rfl
def Q3CONDITION (Z : State) (w_CONDITION : Addr) (w_INTEGER : Addr) (w_SYMBOLIC : Addr) (w_CONDITION_SET : Addr) (w_INTEGER_SET : Addr) (w_SYMBOLIC_SET : Addr) (h0 : Heap) (n0 : Nat) (v : Option Value) (h : Heap) (L : List Loc) : Prop := v = some (.ref w_CONDITION) ∧ Fr n0 L ∧ h = h0
set_option maxRecDepth 65536 in
set_option maxHeartbeats 40000000 in
theorem rm3CONDITION (l : Launch) (Z : State) (a0 : Array Value) (hw : ∀ d ∈ tables_1, d.before a0 Z = true) (ws : List Jvm.Cond) (w_CONDITION : Addr) (w_INTEGER : Addr) (w_SYMBOLIC : Addr) (w_CONDITION_SET : Addr) (w_INTEGER_SET : Addr) (w_SYMBOLIC_SET : Addr) (h0 : Heap) (n0 : Nat) (Z0 : n0 ≤ h0.size) (S_CONDITION : Sta Z h0 "com/example/ctl_checker/ctlchecker/SmvExpression$Type" "CONDITION" "Lcom/example/ctl_checker/ctlchecker/SmvExpression$Type;" (.ref w_CONDITION)) (E_w_CONDITION : Exa Z h0 w_CONDITION "com/example/ctl_checker/ctlchecker/SmvExpression$Type") (O_CONDITION : Fld Z h0 w_CONDITION "java/lang/Enum" "ordinal" "I" (.int 0)) (S_INTEGER : Sta Z h0 "com/example/ctl_checker/ctlchecker/SmvExpression$Type" "INTEGER" "Lcom/example/ctl_checker/ctlchecker/SmvExpression$Type;" (.ref w_INTEGER)) (E_w_INTEGER : Exa Z h0 w_INTEGER "com/example/ctl_checker/ctlchecker/SmvExpression$Type") (O_INTEGER : Fld Z h0 w_INTEGER "java/lang/Enum" "ordinal" "I" (.int 1)) (S_SYMBOLIC : Sta Z h0 "com/example/ctl_checker/ctlchecker/SmvExpression$Type" "SYMBOLIC" "Lcom/example/ctl_checker/ctlchecker/SmvExpression$Type;" (.ref w_SYMBOLIC)) (E_w_SYMBOLIC : Exa Z h0 w_SYMBOLIC "com/example/ctl_checker/ctlchecker/SmvExpression$Type") (O_SYMBOLIC : Fld Z h0 w_SYMBOLIC "java/lang/Enum" "ordinal" "I" (.int 2)) (S_CONDITION_SET : Sta Z h0 "com/example/ctl_checker/ctlchecker/SmvExpression$Type" "CONDITION_SET" "Lcom/example/ctl_checker/ctlchecker/SmvExpression$Type;" (.ref w_CONDITION_SET)) (E_w_CONDITION_SET : Exa Z h0 w_CONDITION_SET "com/example/ctl_checker/ctlchecker/SmvExpression$Type") (O_CONDITION_SET : Fld Z h0 w_CONDITION_SET "java/lang/Enum" "ordinal" "I" (.int 3)) (S_INTEGER_SET : Sta Z h0 "com/example/ctl_checker/ctlchecker/SmvExpression$Type" "INTEGER_SET" "Lcom/example/ctl_checker/ctlchecker/SmvExpression$Type;" (.ref w_INTEGER_SET)) (E_w_INTEGER_SET : Exa Z h0 w_INTEGER_SET "com/example/ctl_checker/ctlchecker/SmvExpression$Type") (O_INTEGER_SET : Fld Z h0 w_INTEGER_SET "java/lang/Enum" "ordinal" "I" (.int 4)) (S_SYMBOLIC_SET : Sta Z h0 "com/example/ctl_checker/ctlchecker/SmvExpression$Type" "SYMBOLIC_SET" "Lcom/example/ctl_checker/ctlchecker/SmvExpression$Type;" (.ref w_SYMBOLIC_SET)) (E_w_SYMBOLIC_SET : Exa Z h0 w_SYMBOLIC_SET "com/example/ctl_checker/ctlchecker/SmvExpression$Type") (O_SYMBOLIC_SET : Fld Z h0 w_SYMBOLIC_SET "java/lang/Enum" "ordinal" "I" (.int 5)) :
    MetFree l (⟨"com/example/ctl_checker/ctlchecker/SmvExpression$Type", "element", "()Lcom/example/ctl_checker/ctlchecker/SmvExpression$Type;"⟩ : MethodName) (head1 (Jvm.Cond.code (⟨"com/example/ctl_checker/ctlchecker/SmvExpression$Type", "element", "()Lcom/example/ctl_checker/ctlchecker/SmvExpression$Type;"⟩ : MethodName) prog_62_method_5_code 1 (some (.object "com/example/ctl_checker/ctlchecker/SmvExpression$Type")) :: ws) ({ frames := 1, cells := 0, slots := 0, locals := 13 } : Room)) (fun arr' U => arr' = #[(.ref w_CONDITION)] ∧ Z.Warmed39 U.vm ∧ U.heap = h0) (fun _ _ _ _ _ => True) (fun _ U o U' => ∃ v L, o = .returned v ∧ (Q3CONDITION Z w_CONDITION w_INTEGER w_SYMBOLIC w_CONDITION_SET w_INTEGER_SET w_SYMBOLIC_SET h0 n0) v U'.heap L ∧ FrameEnd U o U' L ({ frames := 1, cells := 0, slots := 0, locals := 13 } : Room).cells ({ frames := 1, cells := 0, slots := 0, locals := 13 } : Room).slots) := by
  refine MetFree.of_bodySF (plainFor_of_name pn_3) hisR ?_
  intro p e s m args below meth c s₁ Bd hml0 hP hK
  obtain ⟨rfl, hZ, hh⟩ := hP
  have hx := Bd.exec
  have hby := Bd.bytes
  have hlk : meth.locks = false := BodyLoose.notSynchronized Bd
  have hml : c.maxLocals = 1 := hml0
  have hown : s.vm.findClass "com/example/ctl_checker/ctlchecker/SmvExpression$Type" = some m.cls := findClass_of_methodNamed Bd.named
  have hnm := (name_of_methodNamed Bd.named Bd.method).1
  have X0 : Stand p l e ({ frames := 1, cells := 0, slots := 0, locals := 13 } : Room) s m #[(.ref w_CONDITION)] below meth c s₁ [] 0 0 := Stand.of_body Bd
  have e0 : s₁.heap = h0 := by rw [← hh, Bd.state]; rfl
  have N := Fr.nil n0
  have Zs := Z0
  change OwnGo p.tables e below (OwnEnd s (Q3CONDITION Z w_CONDITION w_INTEGER w_SYMBOLIC w_CONDITION_SET w_INTEGER_SET w_SYMBOLIC_SET h0 n0) ({ frames := 1, cells := 0, slots := 0, locals := 13 } : Room).cells ({ frames := 1, cells := 0, slots := 0, locals := 13 } : Room).slots) _
  refine OwnGo.fwd (fun tq' kq' => castTop (ef_3CONDITION m w_CONDITION) kq') ?_
  show OwnGo _ _ _ _ (s₁.setTop (mkF m 0 #[.val (.ref w_CONDITION)] []))
  refine OwnGo.fwd (fun tq' kq' => XS.aloadN X0.here hx rfl (hb hby d3_0) rfl rfl kq') ?_
  show OwnGo _ _ _ _ (s₁.setTop (mkF m 1 #[.val (.ref w_CONDITION)] [(.ref w_CONDITION)]))
  obtain ⟨cq1, kq1, q1a, q1b, q1c⟩ := isOf hZ e0 E_w_CONDITION
  obtain ⟨_, _, ⟨T1, L1, k1, n1⟩, -, X1, ⟨Lc1, hQ1, l1, y1, z1⟩, st1⟩ := X0.virtualBackUp hx (x := (⟨"com/example/ctl_checker/ctlchecker/SmvExpression$Type", "ordinal", "()I"⟩ : MethodName)) (y := (⟨"java/lang/Enum", "ordinal", "()I"⟩ : MethodName)) (owner := "java/lang/Enum") hown (mvT hZ (hw _ (List.mem_of_getElem? (i := 24) rfl))) (mvT hZ (hw _ (List.mem_of_getElem? (i := 25) rfl))) (mvT hZ (hw _ (List.mem_of_getElem? (i := 26) rfl))) (by decide) (mvT hZ (hw _ (List.mem_of_getElem? (i := 28) rfl))) (mvT hZ (hw _ (List.mem_of_getElem? (i := 27) rfl))) (backOf (W := 0) (rm4 l Z a0 hw [] w_CONDITION (0 : Int32) h0 n0 Zs O_CONDITION) hZ (hw _ (List.mem_of_getElem? (i := 30) rfl)) (hw _ (List.mem_of_getElem? (i := 29) rfl)) (by decide) (by decide)) q1a q1c (g := (mkF m 1 #[.val (.ref w_CONDITION)] [(.ref w_CONDITION)])) rfl (by rw [hml]; rfl) (Steps.refl _) (argsL := []) (rest := []) (lenOf pd_3 rfl) rfl (by show 2 * 0 + _ ≤ _; exact Nat.le_of_eq rfl) (hb hby d3_1) (fun _ _ => ⟨rfl, e0, (by decide : 0 + 0 ≤ _), (by decide : 0 + 0 ≤ _)⟩)
  dsimp only [Pt.U, Pt.locs, Pt.cells, Pt.slots] at X1 l1 y1 z1 st1 hQ1
  subst l1 y1 z1
  obtain ⟨rfl, N1q, e1⟩ := hQ1
  have N := Fr.app N N1q
  refine OwnGo.thru st1 ?_
  show OwnGo _ _ _ _ (T1.setTop (mkF m 4 #[.val (.ref w_CONDITION)] [(.int (0 : Int32))]))
  refine OwnGo.fwd (fun tq' kq' => XS.tswOut X1.here hx rfl (pc0 := 4) (pc' := 50) rfl (hb hby d3_4) rfl (by decide) (by decide) (by decide) kq') ?_
  show OwnGo _ _ _ _ (T1.setTop (mkF m 50 #[.val (.ref w_CONDITION)] []))
  refine OwnGo.fwd (fun tq' kq' => XS.aloadN X1.here hx rfl (hb hby d3_50) rfl rfl kq') ?_
  show OwnGo _ _ _ _ (T1.setTop (mkF m 51 #[.val (.ref w_CONDITION)] [(.ref w_CONDITION)]))
  exact own_retA X1 hlk hx Bd.returns rfl rfl (hb hby d3_51) (by decide) (by decide) e1 ⟨rfl, N, rfl⟩
theorem d5_0 : decode prog_62_method_6_code 0 = .ok (.aload_n 0, 1) := by decide +kernel
theorem d5_1 : decode prog_62_method_6_code 1 = .ok (.invokevirtual 41, 3) := by decide +kernel
theorem d5_4 : decode prog_62_method_6_code 4 = .ok (.tableswitch 46 0 2 #[28, 34, 40], 28) := by decide +kernel
theorem d5_32 : decode prog_62_method_6_code 32 = .ok (.getstatic 13, 3) := by decide +kernel
theorem d5_35 : decode prog_62_method_6_code 35 = .ok (.goto 16, 3) := by decide +kernel
theorem d5_38 : decode prog_62_method_6_code 38 = .ok (.getstatic 16, 3) := by decide +kernel
theorem d5_41 : decode prog_62_method_6_code 41 = .ok (.goto 10, 3) := by decide +kernel
theorem d5_44 : decode prog_62_method_6_code 44 = .ok (.getstatic 19, 3) := by decide +kernel
theorem d5_47 : decode prog_62_method_6_code 47 = .ok (.goto 4, 3) := by decide +kernel
theorem d5_50 : decode prog_62_method_6_code 50 = .ok (.aload_n 0, 1) := by decide +kernel
theorem d5_51 : decode prog_62_method_6_code 51 = .ok (.areturn, 1) := by decide +kernel
theorem pn_5 : plainName "com/example/ctl_checker/ctlchecker/SmvExpression$Type" = true := by first | (simp [plainName, overriddenIn]; done) | decide +kernel
theorem ef_5CONDITION (m : MethodId) (x0 : Addr) : entryFrame m #[(.ref x0)] 1 = mkF m 0 #[.val (.ref x0)] [] := by first | (simp [entryFrame, mkF, argsToLocals, Value.category, maxLocals]; done) | rfl
def Q5CONDITION (Z : State) (w_CONDITION : Addr) (w_INTEGER : Addr) (w_SYMBOLIC : Addr) (w_CONDITION_SET : Addr) (w_INTEGER_SET : Addr) (w_SYMBOLIC_SET : Addr) (h0 : Heap) (n0 : Nat) (v : Option Value) (h : Heap) (L : List Loc) : Prop := v = some (.ref w_CONDITION_SET) ∧ Fr n0 L ∧ h = h0
set_option maxRecDepth 65536 in
set_option maxHeartbeats 40000000 in
theorem rm5CONDITION (l : Launch) (Z : State) (a0 : Array Value) (hw : ∀ d ∈ tables_1, d.before a0 Z = true) (ws : List Jvm.Cond) (w_CONDITION : Addr) (w_INTEGER : Addr) (w_SYMBOLIC : Addr) (w_CONDITION_SET : Addr) (w_INTEGER_SET : Addr) (w_SYMBOLIC_SET : Addr) (h0 : Heap) (n0 : Nat) (Z0 : n0 ≤ h0.size) (S_CONDITION : Sta Z h0 "com/example/ctl_checker/ctlchecker/SmvExpression$Type" "CONDITION" "Lcom/example/ctl_checker/ctlchecker/SmvExpression$Type;" (.ref w_CONDITION)) (E_w_CONDITION : Exa Z h0 w_CONDITION "com/example/ctl_checker/ctlchecker/SmvExpression$Type") (O_CONDITION : Fld Z h0 w_CONDITION "java/lang/Enum" "ordinal" "I" (.int 0)) (S_INTEGER : Sta Z h0 "com/example/ctl_checker/ctlchecker/SmvExpression$Type" "INTEGER" "Lcom/example/ctl_checker/ctlchecker/SmvExpression$Type;" (.ref w_INTEGER)) (E_w_INTEGER : Exa Z h0 w_INTEGER "com/example/ctl_checker/ctlchecker/SmvExpression$Type") (O_INTEGER : Fld Z h0 w_INTEGER "java/lang/Enum" "ordinal" "I" (.int 1)) (S_SYMBOLIC : Sta Z h0 "com/example/ctl_checker/ctlchecker/SmvExpression$Type" "SYMBOLIC" "Lcom/example/ctl_checker/ctlchecker/SmvExpression$Type;" (.ref w_SYMBOLIC)) (E_w_SYMBOLIC : Exa Z h0 w_SYMBOLIC "com/example/ctl_checker/ctlchecker/SmvExpression$Type") (O_SYMBOLIC : Fld Z h0 w_SYMBOLIC "java/lang/Enum" "ordinal" "I" (.int 2)) (S_CONDITION_SET : Sta Z h0 "com/example/ctl_checker/ctlchecker/SmvExpression$Type" "CONDITION_SET" "Lcom/example/ctl_checker/ctlchecker/SmvExpression$Type;" (.ref w_CONDITION_SET)) (E_w_CONDITION_SET : Exa Z h0 w_CONDITION_SET "com/example/ctl_checker/ctlchecker/SmvExpression$Type") (O_CONDITION_SET : Fld Z h0 w_CONDITION_SET "java/lang/Enum" "ordinal" "I" (.int 3)) (S_INTEGER_SET : Sta Z h0 "com/example/ctl_checker/ctlchecker/SmvExpression$Type" "INTEGER_SET" "Lcom/example/ctl_checker/ctlchecker/SmvExpression$Type;" (.ref w_INTEGER_SET)) (E_w_INTEGER_SET : Exa Z h0 w_INTEGER_SET "com/example/ctl_checker/ctlchecker/SmvExpression$Type") (O_INTEGER_SET : Fld Z h0 w_INTEGER_SET "java/lang/Enum" "ordinal" "I" (.int 4)) (S_SYMBOLIC_SET : Sta Z h0 "com/example/ctl_checker/ctlchecker/SmvExpression$Type" "SYMBOLIC_SET" "Lcom/example/ctl_checker/ctlchecker/SmvExpression$Type;" (.ref w_SYMBOLIC_SET)) (E_w_SYMBOLIC_SET : Exa Z h0 w_SYMBOLIC_SET "com/example/ctl_checker/ctlchecker/SmvExpression$Type") (O_SYMBOLIC_SET : Fld Z h0 w_SYMBOLIC_SET "java/lang/Enum" "ordinal" "I" (.int 5)) :
    MetFree l (⟨"com/example/ctl_checker/ctlchecker/SmvExpression$Type", "set", "()Lcom/example/ctl_checker/ctlchecker/SmvExpression$Type;"⟩ : MethodName) (head1 (Jvm.Cond.code (⟨"com/example/ctl_checker/ctlchecker/SmvExpression$Type", "set", "()Lcom/example/ctl_checker/ctlchecker/SmvExpression$Type;"⟩ : MethodName) prog_62_method_6_code 1 (some (.object "com/example/ctl_checker/ctlchecker/SmvExpression$Type")) :: ws) ({ frames := 1, cells := 0, slots := 0, locals := 13 } : Room)) (fun arr' U => arr' = #[(.ref w_CONDITION)] ∧ Z.Warmed39 U.vm ∧ U.heap = h0) (fun _ _ _ _ _ => True) (fun _ U o U' => ∃ v L, o = .returned v ∧ (Q5CONDITION Z w_CONDITION w_INTEGER w_SYMBOLIC w_CONDITION_SET w_INTEGER_SET w_SYMBOLIC_SET h0 n0) v U'.heap L ∧ FrameEnd U o U' L ({ frames := 1, cells := 0, slots := 0, locals := 13 } : Room).cells ({ frames := 1, cells := 0, slots := 0, locals := 13 } : Room).slots) := by
  refine MetFree.of_bodySF (plainFor_of_name pn_5) hisR ?_
  intro p e s m args below meth c s₁ Bd hml0 hP hK
  obtain ⟨rfl, hZ, hh⟩ := hP
  have hx := Bd.exec
  have hby := Bd.bytes
  have hlk : meth.locks = false := BodyLoose.notSynchronized Bd
  have hml : c.maxLocals = 1 := hml0
  have hown : s.vm.findClass "com/example/ctl_checker/ctlchecker/SmvExpression$Type" = some m.cls := findClass_of_methodNamed Bd.named
  have hnm := (name_of_methodNamed Bd.named Bd.method).1
  have X0 : Stand p l e ({ frames := 1, cells := 0, slots := 0, locals := 13 } : Room) s m #[(.ref w_CONDITION)] below meth c s₁ [] 0 0 := Stand.of_body Bd
  have e0 : s₁.heap = h0 := by rw [← hh, Bd.state]; rfl
  have N := Fr.nil n0
  have Zs := Z0
  change OwnGo p.tables e below (OwnEnd s (Q5CONDITION Z w_CONDITION w_INTEGER w_SYMBOLIC w_CONDITION_SET w_INTEGER_SET w_SYMBOLIC_SET h0 n0) ({ frames := 1, cells := 0, slots := 0, locals := 13 } : Room).cells ({ frames := 1, cells := 0, slots := 0, locals := 13 } : Room).slots) _
  refine OwnGo.fwd (fun tq' kq' => castTop (ef_5CONDITION m w_CONDITION) kq') ?_
  show OwnGo _ _ _ _ (s₁.setTop (mkF m 0 #[.val (.ref w_CONDITION)] []))
  refine OwnGo.fwd (fun tq' kq' => XS.aloadN X0.here hx rfl (hb hby d5_0) rfl rfl kq') ?_
  show OwnGo _ _ _ _ (s₁.setTop (mkF m 1 #[.val (.ref w_CONDITION)] [(.ref w_CONDITION)]))
  obtain ⟨cq1, kq1, q1a, q1b, q1c⟩ := isOf hZ e0 E_w_CONDITION
  obtain ⟨_, _, ⟨T1, L1, k1, n1⟩, -, X1, ⟨Lc1, hQ1, l1, y1, z1⟩, st1⟩ := X0.virtualBackUp hx (x := (⟨"com/example/ctl_checker/ctlchecker/SmvExpression$Type", "ordinal", "()I"⟩ : MethodName)) (y := (⟨"java/lang/Enum", "ordinal", "()I"⟩ : MethodName)) (owner := "java/lang/Enum") hown (mvT hZ (hw _ (List.mem_of_getElem? (i := 24) rfl))) (mvT hZ (hw _ (List.mem_of_getElem? (i := 25) rfl))) (mvT hZ (hw _ (List.mem_of_getElem? (i := 26) rfl))) (by decide) (mvT hZ (hw _ (List.mem_of_getElem? (i := 28) rfl))) (mvT hZ (hw _ (List.mem_of_getElem? (i := 27) rfl))) (backOf (W := 0) (rm4 l Z a0 hw [] w_CONDITION (0 : Int32) h0 n0 Zs O_CONDITION) hZ (hw _ (List.mem_of_getElem? (i := 30) rfl)) (hw _ (List.mem_of_getElem? (i := 29) rfl)) (by decide) (by decide)) q1a q1c (g := (mkF m 1 #[.val (.ref w_CONDITION)] [(.ref w_CONDITION)])) rfl (by rw [hml]; rfl) (Steps.refl _) (argsL := []) (rest := []) (lenOf pd_3 rfl) rfl (by show 2 * 0 + _ ≤ _; exact Nat.le_of_eq rfl) (hb hby d5_1) (fun _ _ => ⟨rfl, e0, (by decide : 0 + 0 ≤ _), (by decide : 0 + 0 ≤ _)⟩)
  dsimp only [Pt.U, Pt.locs, Pt.cells, Pt.slots] at X1 l1 y1 z1 st1 hQ1
  subst l1 y1 z1
  obtain ⟨rfl, N1q, e1⟩ := hQ1
  have N := Fr.app N N1q
  refine OwnGo.thru st1 ?_
  show OwnGo _ _ _ _ (T1.setTop (mkF m 4 #[.val (.ref w_CONDITION)] [(.int (0 : Int32))]))
  refine OwnGo.fwd (fun tq' kq' => XS.tswIn X1.here hx rfl (pc0 := 4) (pc' := 32) (o := 28) rfl (hb hby d5_4) rfl (by decide) (by decide) (by decide) (by decide) kq') ?_
  show OwnGo _ _ _ _ (T1.setTop (mkF m 32 #[.val (.ref w_CONDITION)] []))
  obtain ⟨T2, X2, e2, st2⟩ := getS2 X1 hx hZ hown (host := "") (Or.inl (hw _ (List.mem_of_getElem? (i := 13) rfl))) Via.refl e1 S_CONDITION_SET (g := (mkF m 32 #[.val (.ref w_CONDITION)] [])) rfl (hb hby d5_32)
  refine OwnGo.fwd st2 ?_
  show OwnGo _ _ _ _ (T2.setTop (mkF m 35 #[.val (.ref w_CONDITION)] [(.ref w_CONDITION_SET)]))
  refine OwnGo.fwd (fun tq' kq' => XS.goto X2.here hx rfl (pc0 := 35) (pc' := 51) rfl (hb hby d5_35) (by decide) (by decide) kq') ?_
  show OwnGo _ _ _ _ (T2.setTop (mkF m 51 #[.val (.ref w_CONDITION)] [(.ref w_CONDITION_SET)]))
  exact own_retA X2 hlk hx Bd.returns rfl rfl (hb hby d5_51) (by decide) (by decide) e2 ⟨rfl, N, rfl⟩
theorem ef_1INTEGER (m : MethodId) (x0 : Int32) : entryFrame m #[(.int x0)] 1 = mkF m 0 #[.val (.int x0)] [] := by first | (simp [entryFrame, mkF, argsToLocals, Value.category, maxLocals]; done) | rfl
def Q1INTEGER (Z : State) (w_CONDITION : Addr) (w_INTEGER : Addr) (w_SYMBOLIC : Addr) (w_CONDITION_SET : Addr) (w_INTEGER_SET : Addr) (w_SYMBOLIC_SET : Addr) (h0 : Heap) (n0 : Nat) (v : Option Value) (h : Heap) (L : List Loc) : Prop := v = some (.ref w_INTEGER) ∧ Fr n0 L ∧ h = h0
set_option maxRecDepth 65536 in
set_option maxHeartbeats 40000000 in
theorem rm1INTEGER (l : Launch) (Z : State) (a0 : Array Value) (hw : ∀ d ∈ tables_1, d.before a0 Z = true) (ws : List Jvm.Cond) (w_CONDITION : Addr) (w_INTEGER : Addr) (w_SYMBOLIC : Addr) (w_CONDITION_SET : Addr) (w_INTEGER_SET : Addr) (w_SYMBOLIC_SET : Addr) (h0 : Heap) (n0 : Nat) (Z0 : n0 ≤ h0.size) (S_CONDITION : Sta Z h0 "com/example/ctl_checker/ctlchecker/SmvExpression$Type" "CONDITION" "Lcom/example/ctl_checker/ctlchecker/SmvExpression$Type;" (.ref w_CONDITION)) (E_w_CONDITION : Exa Z h0 w_CONDITION "com/example/ctl_checker/ctlchecker/SmvExpression$Type") (O_CONDITION : Fld Z h0 w_CONDITION "java/lang/Enum" "ordinal" "I" (.int 0)) (S_INTEGER : Sta Z h0 "com/example/ctl_checker/ctlchecker/SmvExpression$Type" "INTEGER" "Lcom/example/ctl_checker/ctlchecker/SmvExpression$Type;" (.ref w_INTEGER)) (E_w_INTEGER : Exa Z h0 w_INTEGER "com/example/ctl_checker/ctlchecker/SmvExpression$Type") (O_INTEGER : Fld Z h0 w_INTEGER "java/lang/Enum" "ordinal" "I" (.int 1)) (S_SYMBOLIC : Sta Z h0 "com/example/ctl_checker/ctlchecker/SmvExpression$Type" "SYMBOLIC" "Lcom/example/ctl_checker/ctlchecker/SmvExpression$Type;" (.ref w_SYMBOLIC)) (E_w_SYMBOLIC : Exa Z h0 w_SYMBOLIC "com/example/ctl_checker/ctlchecker/SmvExpression$Type") (O_SYMBOLIC : Fld Z h0 w_SYMBOLIC "java/lang/Enum" "ordinal" "I" (.int 2)) (S_CONDITION_SET : Sta Z h0 "com/example/ctl_checker/ctlchecker/SmvExpression$Type" "CONDITION_SET" "Lcom/example/ctl_checker/ctlchecker/SmvExpression$Type;" (.ref w_CONDITION_SET)) (E_w_CONDITION_SET : Exa Z h0 w_CONDITION_SET "com/example/ctl_checker/ctlchecker/SmvExpression$Type") (O_CONDITION_SET : Fld Z h0 w_CONDITION_SET "java/lang/Enum" "ordinal" "I" (.int 3)) (S_INTEGER_SET : Sta Z h0 "com/example/ctl_checker/ctlchecker/SmvExpression$Type" "INTEGER_SET" "Lcom/example/ctl_checker/ctlchecker/SmvExpression$Type;" (.ref w_INTEGER_SET)) (E_w_INTEGER_SET : Exa Z h0 w_INTEGER_SET "com/example/ctl_checker/ctlchecker/SmvExpression$Type") (O_INTEGER_SET : Fld Z h0 w_INTEGER_SET "java/lang/Enum" "ordinal" "I" (.int 4)) (S_SYMBOLIC_SET : Sta Z h0 "com/example/ctl_checker/ctlchecker/SmvExpression$Type" "SYMBOLIC_SET" "Lcom/example/ctl_checker/ctlchecker/SmvExpression$Type;" (.ref w_SYMBOLIC_SET)) (E_w_SYMBOLIC_SET : Exa Z h0 w_SYMBOLIC_SET "com/example/ctl_checker/ctlchecker/SmvExpression$Type") (O_SYMBOLIC_SET : Fld Z h0 w_SYMBOLIC_SET "java/lang/Enum" "ordinal" "I" (.int 5)) :
    MetFree l (⟨"com/example/ctl_checker/ctlchecker/TypeIsSetPinLaw", "pick", "(I)Lcom/example/ctl_checker/ctlchecker/SmvExpression$Type;"⟩ : MethodName) (head1 (Jvm.Cond.code (⟨"com/example/ctl_checker/ctlchecker/TypeIsSetPinLaw", "pick", "(I)Lcom/example/ctl_checker/ctlchecker/SmvExpression$Type;"⟩ : MethodName) method_2_code 1 (some (.object "com/example/ctl_checker/ctlchecker/SmvExpression$Type")) :: ws) ({ frames := 0, cells := 0, slots := 0, locals := 0 } : Room)) (fun arr' U => arr' = #[(.int (1 : Int32))] ∧ Z.Warmed39 U.vm ∧ U.heap = h0) (fun _ _ _ _ _ => True) (fun _ U o U' => ∃ v L, o = .returned v ∧ (Q1INTEGER Z w_CONDITION w_INTEGER w_SYMBOLIC w_CONDITION_SET w_INTEGER_SET w_SYMBOLIC_SET h0 n0) v U'.heap L ∧ FrameEnd U o U' L ({ frames := 0, cells := 0, slots := 0, locals := 0 } : Room).cells ({ frames := 0, cells := 0, slots := 0, locals := 0 } : Room).slots) := by
  refine MetFree.of_bodySF (plainFor_of_name pn_1) hisR ?_
  intro p e s m args below meth c s₁ Bd hml0 hP hK
  obtain ⟨rfl, hZ, hh⟩ := hP
  have hx := Bd.exec
  have hby := Bd.bytes
  have hlk : meth.locks = false := BodyLoose.notSynchronized Bd
  have hml : c.maxLocals = 1 := hml0
  have hown : s.vm.findClass "com/example/ctl_checker/ctlchecker/TypeIsSetPinLaw" = some m.cls := findClass_of_methodNamed Bd.named
  have hnm := (name_of_methodNamed Bd.named Bd.method).1
  have X0 : Stand p l e ({ frames := 0, cells := 0, slots := 0, locals := 0 } : Room) s m #[(.int (1 : Int32))] below meth c s₁ [] 0 0 := Stand.of_body Bd
  have e0 : s₁.heap = h0 := by rw [← hh, Bd.state]; rfl
  have N := Fr.nil n0
  have Zs := Z0
  change OwnGo p.tables e below (OwnEnd s (Q1INTEGER Z w_CONDITION w_INTEGER w_SYMBOLIC w_CONDITION_SET w_INTEGER_SET w_SYMBOLIC_SET h0 n0) ({ frames := 0, cells := 0, slots := 0, locals := 0 } : Room).cells ({ frames := 0, cells := 0, slots := 0, locals := 0 } : Room).slots) _
  refine OwnGo.fwd (fun tq' kq' => castTop (ef_1INTEGER m (1 : Int32)) kq') ?_
  show OwnGo _ _ _ _ (s₁.setTop (mkF m 0 #[.val (.int (1 : Int32))] []))
  refine OwnGo.fwd (fun tq' kq' => XS.iloadN X0.here hx rfl (hb hby d1_0) rfl kq') ?_
  show OwnGo _ _ _ _ (s₁.setTop (mkF m 1 #[.val (.int (1 : Int32))] [(.int (1 : Int32))]))
  have hc1_1 : ¬ ((1 : Int) = (0 : Int)) := by decide
  refine OwnGo.fwd (fun tq' kq' => XS.ifYes X0.here hx rfl (pc0 := 1) (pc' := 8) rfl (hb hby d1_1) rfl ((if0 _ _).trans (own_bneq (by decide) (by decide) hc1_1).2) (by decide) (by decide) kq') ?_
  show OwnGo _ _ _ _ (s₁.setTop (mkF m 8 #[.val (.int (1 : Int32))] []))
  refine OwnGo.fwd (fun tq' kq' => XS.iloadN X0.here hx rfl (hb hby d1_8) rfl kq') ?_
  show OwnGo _ _ _ _ (s₁.setTop (mkF m 9 #[.val (.int (1 : Int32))] [(.int (1 : Int32))]))
  refine OwnGo.fwd (fun tq' kq' => XS.iconst X0.here hx rfl (hb hby d1_9) kq') ?_
  show OwnGo _ _ _ _ (s₁.setTop (mkF m 10 #[.val (.int (1 : Int32))] [(.int (1 : Int32)), (.int (1 : Int32))]))
  have hc10_2 : (1 : Int) = (1 : Int) := rfl
  refine OwnGo.fwd (fun tq' kq' => XS.icmpNo X0.here hx rfl (hb hby d1_10) rfl (own_beq (by decide) (by decide) hc10_2).2 kq') ?_
  show OwnGo _ _ _ _ (s₁.setTop (mkF m 13 #[.val (.int (1 : Int32))] []))
  obtain ⟨T3, X3, e3, st3⟩ := getS2 X0 hx hZ hown (host := "") (Or.inl (hw _ (List.mem_of_getElem? (i := 42) rfl))) Via.refl e0 S_INTEGER (g := (mkF m 13 #[.val (.int (1 : Int32))] [])) rfl (hb hby d1_13)
  refine OwnGo.fwd st3 ?_
  show OwnGo _ _ _ _ (T3.setTop (mkF m 16 #[.val (.int (1 : Int32))] [(.ref w_INTEGER)]))
  exact own_retA X3 hlk hx Bd.returns rfl rfl (hb hby d1_16) (by decide) (by decide) e3 ⟨rfl, N, rfl⟩
theorem ef_2INTEGER (m : MethodId) (x0 : Addr) : entryFrame m #[(.ref x0)] 1 = mkF m 0 #[.val (.ref x0)] [] := by first | (simp [entryFrame, mkF, argsToLocals, Value.category, maxLocals]; done) | rfl
def Q2INTEGER (Z : State) (w_CONDITION : Addr) (w_INTEGER : Addr) (w_SYMBOLIC : Addr) (w_CONDITION_SET : Addr) (w_INTEGER_SET : Addr) (w_SYMBOLIC_SET : Addr) (h0 : Heap) (n0 : Nat) (v : Option Value) (h : Heap) (L : List Loc) : Prop := v = some (.int 0) ∧ Fr n0 L ∧ h = h0
set_option maxRecDepth 65536 in
set_option maxHeartbeats 40000000 in
theorem rm2INTEGER (l : Launch) (Z : State) (a0 : Array Value) (hw : ∀ d ∈ tables_1, d.before a0 Z = true) (ws : List Jvm.Cond) (w_CONDITION : Addr) (w_INTEGER : Addr) (w_SYMBOLIC : Addr) (w_CONDITION_SET : Addr) (w_INTEGER_SET : Addr) (w_SYMBOLIC_SET : Addr) (h0 : Heap) (n0 : Nat) (Z0 : n0 ≤ h0.size) (S_CONDITION : Sta Z h0 "com/example/ctl_checker/ctlchecker/SmvExpression$Type" "CONDITION" "Lcom/example/ctl_checker/ctlchecker/SmvExpression$Type;" (.ref w_CONDITION)) (E_w_CONDITION : Exa Z h0 w_CONDITION "com/example/ctl_checker/ctlchecker/SmvExpression$Type") (O_CONDITION : Fld Z h0 w_CONDITION "java/lang/Enum" "ordinal" "I" (.int 0)) (S_INTEGER : Sta Z h0 "com/example/ctl_checker/ctlchecker/SmvExpression$Type" "INTEGER" "Lcom/example/ctl_checker/ctlchecker/SmvExpression$Type;" (.ref w_INTEGER)) (E_w_INTEGER : Exa Z h0 w_INTEGER "com/example/ctl_checker/ctlchecker/SmvExpression$Type") (O_INTEGER : Fld Z h0 w_INTEGER "java/lang/Enum" "ordinal" "I" (.int 1)) (S_SYMBOLIC : Sta Z h0 "com/example/ctl_checker/ctlchecker/SmvExpression$Type" "SYMBOLIC" "Lcom/example/ctl_checker/ctlchecker/SmvExpression$Type;" (.ref w_SYMBOLIC)) (E_w_SYMBOLIC : Exa Z h0 w_SYMBOLIC "com/example/ctl_checker/ctlchecker/SmvExpression$Type") (O_SYMBOLIC : Fld Z h0 w_SYMBOLIC "java/lang/Enum" "ordinal" "I" (.int 2)) (S_CONDITION_SET : Sta Z h0 "com/example/ctl_checker/ctlchecker/SmvExpression$Type" "CONDITION_SET" "Lcom/example/ctl_checker/ctlchecker/SmvExpression$Type;" (.ref w_CONDITION_SET)) (E_w_CONDITION_SET : Exa Z h0 w_CONDITION_SET "com/example/ctl_checker/ctlchecker/SmvExpression$Type") (O_CONDITION_SET : Fld Z h0 w_CONDITION_SET "java/lang/Enum" "ordinal" "I" (.int 3)) (S_INTEGER_SET : Sta Z h0 "com/example/ctl_checker/ctlchecker/SmvExpression$Type" "INTEGER_SET" "Lcom/example/ctl_checker/ctlchecker/SmvExpression$Type;" (.ref w_INTEGER_SET)) (E_w_INTEGER_SET : Exa Z h0 w_INTEGER_SET "com/example/ctl_checker/ctlchecker/SmvExpression$Type") (O_INTEGER_SET : Fld Z h0 w_INTEGER_SET "java/lang/Enum" "ordinal" "I" (.int 4)) (S_SYMBOLIC_SET : Sta Z h0 "com/example/ctl_checker/ctlchecker/SmvExpression$Type" "SYMBOLIC_SET" "Lcom/example/ctl_checker/ctlchecker/SmvExpression$Type;" (.ref w_SYMBOLIC_SET)) (E_w_SYMBOLIC_SET : Exa Z h0 w_SYMBOLIC_SET "com/example/ctl_checker/ctlchecker/SmvExpression$Type") (O_SYMBOLIC_SET : Fld Z h0 w_SYMBOLIC_SET "java/lang/Enum" "ordinal" "I" (.int 5)) :
    MetFree l (⟨"com/example/ctl_checker/ctlchecker/SmvExpression$Type", "isSet", "()Z"⟩ : MethodName) (head1 (Jvm.Cond.code (⟨"com/example/ctl_checker/ctlchecker/SmvExpression$Type", "isSet", "()Z"⟩ : MethodName) prog_62_method_4_code 1 (some .boolean) :: ws) ({ frames := 0, cells := 0, slots := 0, locals := 0 } : Room)) (fun arr' U => arr' = #[(.ref w_INTEGER)] ∧ Z.Warmed39 U.vm ∧ U.heap = h0) (fun _ _ _ _ _ => True) (fun _ U o U' => ∃ v L, o = .returned v ∧ (Q2INTEGER Z w_CONDITION w_INTEGER w_SYMBOLIC w_CONDITION_SET w_INTEGER_SET w_SYMBOLIC_SET h0 n0) v U'.heap L ∧ FrameEnd U o U' L ({ frames := 0, cells := 0, slots := 0, locals := 0 } : Room).cells ({ frames := 0, cells := 0, slots := 0, locals := 0 } : Room).slots) := by
  refine MetFree.of_bodySF (plainFor_of_name pn_2) hisR ?_
  intro p e s m args below meth c s₁ Bd hml0 hP hK
  obtain ⟨rfl, hZ, hh⟩ := hP
  have hx := Bd.exec
  have hby := Bd.bytes
  have hlk : meth.locks = false := BodyLoose.notSynchronized Bd
  have hml : c.maxLocals = 1 := hml0
  have hown : s.vm.findClass "com/example/ctl_checker/ctlchecker/SmvExpression$Type" = some m.cls := findClass_of_methodNamed Bd.named
  have hnm := (name_of_methodNamed Bd.named Bd.method).1
  have X0 : Stand p l e ({ frames := 0, cells := 0, slots := 0, locals := 0 } : Room) s m #[(.ref w_INTEGER)] below meth c s₁ [] 0 0 := Stand.of_body Bd
  have e0 : s₁.heap = h0 := by rw [← hh, Bd.state]; rfl
  have N := Fr.nil n0
  have Zs := Z0
  change OwnGo p.tables e below (OwnEnd s (Q2INTEGER Z w_CONDITION w_INTEGER w_SYMBOLIC w_CONDITION_SET w_INTEGER_SET w_SYMBOLIC_SET h0 n0) ({ frames := 0, cells := 0, slots := 0, locals := 0 } : Room).cells ({ frames := 0, cells := 0, slots := 0, locals := 0 } : Room).slots) _
  refine OwnGo.fwd (fun tq' kq' => castTop (ef_2INTEGER m w_INTEGER) kq') ?_
  show OwnGo _ _ _ _ (s₁.setTop (mkF m 0 #[.val (.ref w_INTEGER)] []))
  have ne_CONDITION_INTEGER : w_CONDITION ≠ w_INTEGER := Fld.ne O_CONDITION O_INTEGER (by decide)
  have ne_CONDITION_SYMBOLIC : w_CONDITION ≠ w_SYMBOLIC := Fld.ne O_CONDITION O_SYMBOLIC (by decide)
  have ne_CONDITION_CONDITION_SET : w_CONDITION ≠ w_CONDITION_SET := Fld.ne O_CONDITION O_CONDITION_SET (by decide)
  have ne_CONDITION_INTEGER_SET : w_CONDITION ≠ w_INTEGER_SET := Fld.ne O_CONDITION O_INTEGER_SET (by decide)
  have ne_CONDITION_SYMBOLIC_SET : w_CONDITION ≠ w_SYMBOLIC_SET := Fld.ne O_CONDITION O_SYMBOLIC_SET (by decide)
  have ne_INTEGER_SYMBOLIC : w_INTEGER ≠ w_SYMBOLIC := Fld.ne O_INTEGER O_SYMBOLIC (by decide)
  have ne_INTEGER_CONDITION_SET : w_INTEGER ≠ w_CONDITION_SET := Fld.ne O_INTEGER O_CONDITION_SET (by decide)
  have ne_INTEGER_INTEGER_SET : w_INTEGER ≠ w_INTEGER_SET := Fld.ne O_INTEGER O_INTEGER_SET (by decide)
  have ne_INTEGER_SYMBOLIC_SET : w_INTEGER ≠ w_SYMBOLIC_SET := Fld.ne O_INTEGER O_SYMBOLIC_SET (by decide)
  have ne_SYMBOLIC_CONDITION_SET : w_SYMBOLIC ≠ w_CONDITION_SET := Fld.ne O_SYMBOLIC O_CONDITION_SET (by decide)
  have ne_SYMBOLIC_INTEGER_SET : w_SYMBOLIC ≠ w_INTEGER_SET := Fld.ne O_SYMBOLIC O_INTEGER_SET (by decide)
  have ne_SYMBOLIC_SYMBOLIC_SET : w_SYMBOLIC ≠ w_SYMBOLIC_SET := Fld.ne O_SYMBOLIC O_SYMBOLIC_SET (by decide)
  have ne_CONDITION_SET_INTEGER_SET : w_CONDITION_SET ≠ w_INTEGER_SET := Fld.ne O_CONDITION_SET O_INTEGER_SET (by decide)
  have ne_CONDITION_SET_SYMBOLIC_SET : w_CONDITION_SET ≠ w_SYMBOLIC_SET := Fld.ne O_CONDITION_SET O_SYMBOLIC_SET (by decide)
  have ne_INTEGER_SET_SYMBOLIC_SET : w_INTEGER_SET ≠ w_SYMBOLIC_SET := Fld.ne O_INTEGER_SET O_SYMBOLIC_SET (by decide)
  refine OwnGo.fwd (fun tq' kq' => XS.aloadN X0.here hx rfl (hb hby d2_0) rfl rfl kq') ?_
  show OwnGo _ _ _ _ (s₁.setTop (mkF m 1 #[.val (.ref w_INTEGER)] [(.ref w_INTEGER)]))
  obtain ⟨T1, X1, e1, st1⟩ := getS2 X0 hx hZ hown (host := "") (Or.inl (hw _ (List.mem_of_getElem? (i := 13) rfl))) Via.refl e0 S_CONDITION_SET (g := (mkF m 1 #[.val (.ref w_INTEGER)] [(.ref w_INTEGER)])) rfl (hb hby d2_1)
  refine OwnGo.fwd st1 ?_
  show OwnGo _ _ _ _ (T1.setTop (mkF m 4 #[.val (.ref w_INTEGER)] [(.ref w_CONDITION_SET), (.ref w_INTEGER)]))
  refine OwnGo.fwd (fun tq' kq' => Jvm.RoadKit.acmp (g := (mkF m 4 #[.val (.ref w_INTEGER)] [(.ref w_CONDITION_SET), (.ref w_INTEGER)])) X1 hx rfl rfl rfl (pc0 := 4) (pc' := 7) (same := false) rfl (hb hby d2_4) rfl (decide_eq_false fun q => ne_INTEGER_CONDITION_SET (Value.ref.inj q)) (by decide) (by decide) kq') ?_
  show OwnGo _ _ _ _ (T1.setTop (mkF m 7 #[.val (.ref w_INTEGER)] []))
  refine OwnGo.fwd (fun tq' kq' => XS.aloadN X1.here hx rfl (hb hby d2_7) rfl rfl kq') ?_
  show OwnGo _ _ _ _ (T1.setTop (mkF m 8 #[.val (.ref w_INTEGER)] [(.ref w_INTEGER)]))
  obtain ⟨T2, X2, e2, st2⟩ := getS2 X1 hx hZ hown (host := "") (Or.inl (hw _ (List.mem_of_getElem? (i := 15) rfl))) Via.refl e1 S_INTEGER_SET (g := (mkF m 8 #[.val (.ref w_INTEGER)] [(.ref w_INTEGER)])) rfl (hb hby d2_8)
  refine OwnGo.fwd st2 ?_
  show OwnGo _ _ _ _ (T2.setTop (mkF m 11 #[.val (.ref w_INTEGER)] [(.ref w_INTEGER_SET), (.ref w_INTEGER)]))
  refine OwnGo.fwd (fun tq' kq' => Jvm.RoadKit.acmp (g := (mkF m 11 #[.val (.ref w_INTEGER)] [(.ref w_INTEGER_SET), (.ref w_INTEGER)])) X2 hx rfl rfl rfl (pc0 := 11) (pc' := 14) (same := false) rfl (hb hby d2_11) rfl (decide_eq_false fun q => ne_INTEGER_INTEGER_SET (Value.ref.inj q)) (by decide) (by decide) kq') ?_
  show OwnGo _ _ _ _ (T2.setTop (mkF m 14 #[.val (.ref w_INTEGER)] []))
  refine OwnGo.fwd (fun tq' kq' => XS.aloadN X2.here hx rfl (hb hby d2_14) rfl rfl kq') ?_
  show OwnGo _ _ _ _ (T2.setTop (mkF m 15 #[.val (.ref w_INTEGER)] [(.ref w_INTEGER)]))
  obtain ⟨T3, X3, e3, st3⟩ := getS2 X2 hx hZ hown (host := "") (Or.inl (hw _ (List.mem_of_getElem? (i := 17) rfl))) Via.refl e2 S_SYMBOLIC_SET (g := (mkF m 15 #[.val (.ref w_INTEGER)] [(.ref w_INTEGER)])) rfl (hb hby d2_15)
  refine OwnGo.fwd st3 ?_
  show OwnGo _ _ _ _ (T3.setTop (mkF m 18 #[.val (.ref w_INTEGER)] [(.ref w_SYMBOLIC_SET), (.ref w_INTEGER)]))
  refine OwnGo.fwd (fun tq' kq' => Jvm.RoadKit.acmp (g := (mkF m 18 #[.val (.ref w_INTEGER)] [(.ref w_SYMBOLIC_SET), (.ref w_INTEGER)])) X3 hx rfl rfl rfl (pc0 := 18) (pc' := 25) (same := false) rfl (hb hby d2_18) rfl (decide_eq_false fun q => ne_INTEGER_SYMBOLIC_SET (Value.ref.inj q)) (by decide) (by decide) kq') ?_
  show OwnGo _ _ _ _ (T3.setTop (mkF m 25 #[.val (.ref w_INTEGER)] []))
  refine OwnGo.fwd (fun tq' kq' => XS.iconst X3.here hx rfl (hb hby d2_25) kq') ?_
  show OwnGo _ _ _ _ (T3.setTop (mkF m 26 #[.val (.ref w_INTEGER)] [(.int (0 : Int32))]))
  exact own_retZ X3 hlk hx Bd.returns (hb hby d2_26) (by decide) (by decide) e3 ⟨rfl, N, rfl⟩
theorem ef_3INTEGER (m : MethodId) (x0 : Addr) : entryFrame m #[(.ref x0)] 1 = mkF m 0 #[.val (.ref x0)] [] := by first | (simp [entryFrame, mkF, argsToLocals, Value.category, maxLocals]; done) | rfl
def Q3INTEGER (Z : State) (w_CONDITION : Addr) (w_INTEGER : Addr) (w_SYMBOLIC : Addr) (w_CONDITION_SET : Addr) (w_INTEGER_SET : Addr) (w_SYMBOLIC_SET : Addr) (h0 : Heap) (n0 : Nat) (v : Option Value) (h : Heap) (L : List Loc) : Prop := v = some (.ref w_INTEGER) ∧ Fr n0 L ∧ h = h0
set_option maxRecDepth 65536 in
set_option maxHeartbeats 40000000 in
theorem rm3INTEGER (l : Launch) (Z : State) (a0 : Array Value) (hw : ∀ d ∈ tables_1, d.before a0 Z = true) (ws : List Jvm.Cond) (w_CONDITION : Addr) (w_INTEGER : Addr) (w_SYMBOLIC : Addr) (w_CONDITION_SET : Addr) (w_INTEGER_SET : Addr) (w_SYMBOLIC_SET : Addr) (h0 : Heap) (n0 : Nat) (Z0 : n0 ≤ h0.size) (S_CONDITION : Sta Z h0 "com/example/ctl_checker/ctlchecker/SmvExpression$Type" "CONDITION" "Lcom/example/ctl_checker/ctlchecker/SmvExpression$Type;" (.ref w_CONDITION)) (E_w_CONDITION : Exa Z h0 w_CONDITION "com/example/ctl_checker/ctlchecker/SmvExpression$Type") (O_CONDITION : Fld Z h0 w_CONDITION "java/lang/Enum" "ordinal" "I" (.int 0)) (S_INTEGER : Sta Z h0 "com/example/ctl_checker/ctlchecker/SmvExpression$Type" "INTEGER" "Lcom/example/ctl_checker/ctlchecker/SmvExpression$Type;" (.ref w_INTEGER)) (E_w_INTEGER : Exa Z h0 w_INTEGER "com/example/ctl_checker/ctlchecker/SmvExpression$Type") (O_INTEGER : Fld Z h0 w_INTEGER "java/lang/Enum" "ordinal" "I" (.int 1)) (S_SYMBOLIC : Sta Z h0 "com/example/ctl_checker/ctlchecker/SmvExpression$Type" "SYMBOLIC" "Lcom/example/ctl_checker/ctlchecker/SmvExpression$Type;" (.ref w_SYMBOLIC)) (E_w_SYMBOLIC : Exa Z h0 w_SYMBOLIC "com/example/ctl_checker/ctlchecker/SmvExpression$Type") (O_SYMBOLIC : Fld Z h0 w_SYMBOLIC "java/lang/Enum" "ordinal" "I" (.int 2)) (S_CONDITION_SET : Sta Z h0 "com/example/ctl_checker/ctlchecker/SmvExpression$Type" "CONDITION_SET" "Lcom/example/ctl_checker/ctlchecker/SmvExpression$Type;" (.ref w_CONDITION_SET)) (E_w_CONDITION_SET : Exa Z h0 w_CONDITION_SET "com/example/ctl_checker/ctlchecker/SmvExpression$Type") (O_CONDITION_SET : Fld Z h0 w_CONDITION_SET "java/lang/Enum" "ordinal" "I" (.int 3)) (S_INTEGER_SET : Sta Z h0 "com/example/ctl_checker/ctlchecker/SmvExpression$Type" "INTEGER_SET" "Lcom/example/ctl_checker/ctlchecker/SmvExpression$Type;" (.ref w_INTEGER_SET)) (E_w_INTEGER_SET : Exa Z h0 w_INTEGER_SET "com/example/ctl_checker/ctlchecker/SmvExpression$Type") (O_INTEGER_SET : Fld Z h0 w_INTEGER_SET "java/lang/Enum" "ordinal" "I" (.int 4)) (S_SYMBOLIC_SET : Sta Z h0 "com/example/ctl_checker/ctlchecker/SmvExpression$Type" "SYMBOLIC_SET" "Lcom/example/ctl_checker/ctlchecker/SmvExpression$Type;" (.ref w_SYMBOLIC_SET)) (E_w_SYMBOLIC_SET : Exa Z h0 w_SYMBOLIC_SET "com/example/ctl_checker/ctlchecker/SmvExpression$Type") (O_SYMBOLIC_SET : Fld Z h0 w_SYMBOLIC_SET "java/lang/Enum" "ordinal" "I" (.int 5)) :
    MetFree l (⟨"com/example/ctl_checker/ctlchecker/SmvExpression$Type", "element", "()Lcom/example/ctl_checker/ctlchecker/SmvExpression$Type;"⟩ : MethodName) (head1 (Jvm.Cond.code (⟨"com/example/ctl_checker/ctlchecker/SmvExpression$Type", "element", "()Lcom/example/ctl_checker/ctlchecker/SmvExpression$Type;"⟩ : MethodName) prog_62_method_5_code 1 (some (.object "com/example/ctl_checker/ctlchecker/SmvExpression$Type")) :: ws) ({ frames := 1, cells := 0, slots := 0, locals := 13 } : Room)) (fun arr' U => arr' = #[(.ref w_INTEGER)] ∧ Z.Warmed39 U.vm ∧ U.heap = h0) (fun _ _ _ _ _ => True) (fun _ U o U' => ∃ v L, o = .returned v ∧ (Q3INTEGER Z w_CONDITION w_INTEGER w_SYMBOLIC w_CONDITION_SET w_INTEGER_SET w_SYMBOLIC_SET h0 n0) v U'.heap L ∧ FrameEnd U o U' L ({ frames := 1, cells := 0, slots := 0, locals := 13 } : Room).cells ({ frames := 1, cells := 0, slots := 0, locals := 13 } : Room).slots) := by
  refine MetFree.of_bodySF (plainFor_of_name pn_3) hisR ?_
  intro p e s m args below meth c s₁ Bd hml0 hP hK
  obtain ⟨rfl, hZ, hh⟩ := hP
  have hx := Bd.exec
  have hby := Bd.bytes
  have hlk : meth.locks = false := BodyLoose.notSynchronized Bd
  have hml : c.maxLocals = 1 := hml0
  have hown : s.vm.findClass "com/example/ctl_checker/ctlchecker/SmvExpression$Type" = some m.cls := findClass_of_methodNamed Bd.named
  have hnm := (name_of_methodNamed Bd.named Bd.method).1
  have X0 : Stand p l e ({ frames := 1, cells := 0, slots := 0, locals := 13 } : Room) s m #[(.ref w_INTEGER)] below meth c s₁ [] 0 0 := Stand.of_body Bd
  have e0 : s₁.heap = h0 := by rw [← hh, Bd.state]; rfl
  have N := Fr.nil n0
  have Zs := Z0
  change OwnGo p.tables e below (OwnEnd s (Q3INTEGER Z w_CONDITION w_INTEGER w_SYMBOLIC w_CONDITION_SET w_INTEGER_SET w_SYMBOLIC_SET h0 n0) ({ frames := 1, cells := 0, slots := 0, locals := 13 } : Room).cells ({ frames := 1, cells := 0, slots := 0, locals := 13 } : Room).slots) _
  refine OwnGo.fwd (fun tq' kq' => castTop (ef_3INTEGER m w_INTEGER) kq') ?_
  show OwnGo _ _ _ _ (s₁.setTop (mkF m 0 #[.val (.ref w_INTEGER)] []))
  refine OwnGo.fwd (fun tq' kq' => XS.aloadN X0.here hx rfl (hb hby d3_0) rfl rfl kq') ?_
  show OwnGo _ _ _ _ (s₁.setTop (mkF m 1 #[.val (.ref w_INTEGER)] [(.ref w_INTEGER)]))
  obtain ⟨cq1, kq1, q1a, q1b, q1c⟩ := isOf hZ e0 E_w_INTEGER
  obtain ⟨_, _, ⟨T1, L1, k1, n1⟩, -, X1, ⟨Lc1, hQ1, l1, y1, z1⟩, st1⟩ := X0.virtualBackUp hx (x := (⟨"com/example/ctl_checker/ctlchecker/SmvExpression$Type", "ordinal", "()I"⟩ : MethodName)) (y := (⟨"java/lang/Enum", "ordinal", "()I"⟩ : MethodName)) (owner := "java/lang/Enum") hown (mvT hZ (hw _ (List.mem_of_getElem? (i := 24) rfl))) (mvT hZ (hw _ (List.mem_of_getElem? (i := 25) rfl))) (mvT hZ (hw _ (List.mem_of_getElem? (i := 26) rfl))) (by decide) (mvT hZ (hw _ (List.mem_of_getElem? (i := 28) rfl))) (mvT hZ (hw _ (List.mem_of_getElem? (i := 27) rfl))) (backOf (W := 0) (rm4 l Z a0 hw [] w_INTEGER (1 : Int32) h0 n0 Zs O_INTEGER) hZ (hw _ (List.mem_of_getElem? (i := 30) rfl)) (hw _ (List.mem_of_getElem? (i := 29) rfl)) (by decide) (by decide)) q1a q1c (g := (mkF m 1 #[.val (.ref w_INTEGER)] [(.ref w_INTEGER)])) rfl (by rw [hml]; rfl) (Steps.refl _) (argsL := []) (rest := []) (lenOf pd_3 rfl) rfl (by show 2 * 0 + _ ≤ _; exact Nat.le_of_eq rfl) (hb hby d3_1) (fun _ _ => ⟨rfl, e0, (by decide : 0 + 0 ≤ _), (by decide : 0 + 0 ≤ _)⟩)
  dsimp only [Pt.U, Pt.locs, Pt.cells, Pt.slots] at X1 l1 y1 z1 st1 hQ1
  subst l1 y1 z1
  obtain ⟨rfl, N1q, e1⟩ := hQ1
  have N := Fr.app N N1q
  refine OwnGo.thru st1 ?_
  show OwnGo _ _ _ _ (T1.setTop (mkF m 4 #[.val (.ref w_INTEGER)] [(.int (1 : Int32))]))
  refine OwnGo.fwd (fun tq' kq' => XS.tswOut X1.here hx rfl (pc0 := 4) (pc' := 50) rfl (hb hby d3_4) rfl (by decide) (by decide) (by decide) kq') ?_
  show OwnGo _ _ _ _ (T1.setTop (mkF m 50 #[.val (.ref w_INTEGER)] []))
  refine OwnGo.fwd (fun tq' kq' => XS.aloadN X1.here hx rfl (hb hby d3_50) rfl rfl kq') ?_
  show OwnGo _ _ _ _ (T1.setTop (mkF m 51 #[.val (.ref w_INTEGER)] [(.ref w_INTEGER)]))
  exact own_retA X1 hlk hx Bd.returns rfl rfl (hb hby d3_51) (by decide) (by decide) e1 ⟨rfl, N, rfl⟩
theorem ef_5INTEGER (m : MethodId) (x0 : Addr) : entryFrame m #[(.ref x0)] 1 = mkF m 0 #[.val (.ref x0)] [] := by first | (simp [entryFrame, mkF, argsToLocals, Value.category, maxLocals]; done) | rfl
def Q5INTEGER (Z : State) (w_CONDITION : Addr) (w_INTEGER : Addr) (w_SYMBOLIC : Addr) (w_CONDITION_SET : Addr) (w_INTEGER_SET : Addr) (w_SYMBOLIC_SET : Addr) (h0 : Heap) (n0 : Nat) (v : Option Value) (h : Heap) (L : List Loc) : Prop := v = some (.ref w_INTEGER_SET) ∧ Fr n0 L ∧ h = h0
set_option maxRecDepth 65536 in
set_option maxHeartbeats 40000000 in
theorem rm5INTEGER (l : Launch) (Z : State) (a0 : Array Value) (hw : ∀ d ∈ tables_1, d.before a0 Z = true) (ws : List Jvm.Cond) (w_CONDITION : Addr) (w_INTEGER : Addr) (w_SYMBOLIC : Addr) (w_CONDITION_SET : Addr) (w_INTEGER_SET : Addr) (w_SYMBOLIC_SET : Addr) (h0 : Heap) (n0 : Nat) (Z0 : n0 ≤ h0.size) (S_CONDITION : Sta Z h0 "com/example/ctl_checker/ctlchecker/SmvExpression$Type" "CONDITION" "Lcom/example/ctl_checker/ctlchecker/SmvExpression$Type;" (.ref w_CONDITION)) (E_w_CONDITION : Exa Z h0 w_CONDITION "com/example/ctl_checker/ctlchecker/SmvExpression$Type") (O_CONDITION : Fld Z h0 w_CONDITION "java/lang/Enum" "ordinal" "I" (.int 0)) (S_INTEGER : Sta Z h0 "com/example/ctl_checker/ctlchecker/SmvExpression$Type" "INTEGER" "Lcom/example/ctl_checker/ctlchecker/SmvExpression$Type;" (.ref w_INTEGER)) (E_w_INTEGER : Exa Z h0 w_INTEGER "com/example/ctl_checker/ctlchecker/SmvExpression$Type") (O_INTEGER : Fld Z h0 w_INTEGER "java/lang/Enum" "ordinal" "I" (.int 1)) (S_SYMBOLIC : Sta Z h0 "com/example/ctl_checker/ctlchecker/SmvExpression$Type" "SYMBOLIC" "Lcom/example/ctl_checker/ctlchecker/SmvExpression$Type;" (.ref w_SYMBOLIC)) (E_w_SYMBOLIC : Exa Z h0 w_SYMBOLIC "com/example/ctl_checker/ctlchecker/SmvExpression$Type") (O_SYMBOLIC : Fld Z h0 w_SYMBOLIC "java/lang/Enum" "ordinal" "I" (.int 2)) (S_CONDITION_SET : Sta Z h0 "com/example/ctl_checker/ctlchecker/SmvExpression$Type" "CONDITION_SET" "Lcom/example/ctl_checker/ctlchecker/SmvExpression$Type;" (.ref w_CONDITION_SET)) (E_w_CONDITION_SET : Exa Z h0 w_CONDITION_SET "com/example/ctl_checker/ctlchecker/SmvExpression$Type") (O_CONDITION_SET : Fld Z h0 w_CONDITION_SET "java/lang/Enum" "ordinal" "I" (.int 3)) (S_INTEGER_SET : Sta Z h0 "com/example/ctl_checker/ctlchecker/SmvExpression$Type" "INTEGER_SET" "Lcom/example/ctl_checker/ctlchecker/SmvExpression$Type;" (.ref w_INTEGER_SET)) (E_w_INTEGER_SET : Exa Z h0 w_INTEGER_SET "com/example/ctl_checker/ctlchecker/SmvExpression$Type") (O_INTEGER_SET : Fld Z h0 w_INTEGER_SET "java/lang/Enum" "ordinal" "I" (.int 4)) (S_SYMBOLIC_SET : Sta Z h0 "com/example/ctl_checker/ctlchecker/SmvExpression$Type" "SYMBOLIC_SET" "Lcom/example/ctl_checker/ctlchecker/SmvExpression$Type;" (.ref w_SYMBOLIC_SET)) (E_w_SYMBOLIC_SET : Exa Z h0 w_SYMBOLIC_SET "com/example/ctl_checker/ctlchecker/SmvExpression$Type") (O_SYMBOLIC_SET : Fld Z h0 w_SYMBOLIC_SET "java/lang/Enum" "ordinal" "I" (.int 5)) :
    MetFree l (⟨"com/example/ctl_checker/ctlchecker/SmvExpression$Type", "set", "()Lcom/example/ctl_checker/ctlchecker/SmvExpression$Type;"⟩ : MethodName) (head1 (Jvm.Cond.code (⟨"com/example/ctl_checker/ctlchecker/SmvExpression$Type", "set", "()Lcom/example/ctl_checker/ctlchecker/SmvExpression$Type;"⟩ : MethodName) prog_62_method_6_code 1 (some (.object "com/example/ctl_checker/ctlchecker/SmvExpression$Type")) :: ws) ({ frames := 1, cells := 0, slots := 0, locals := 13 } : Room)) (fun arr' U => arr' = #[(.ref w_INTEGER)] ∧ Z.Warmed39 U.vm ∧ U.heap = h0) (fun _ _ _ _ _ => True) (fun _ U o U' => ∃ v L, o = .returned v ∧ (Q5INTEGER Z w_CONDITION w_INTEGER w_SYMBOLIC w_CONDITION_SET w_INTEGER_SET w_SYMBOLIC_SET h0 n0) v U'.heap L ∧ FrameEnd U o U' L ({ frames := 1, cells := 0, slots := 0, locals := 13 } : Room).cells ({ frames := 1, cells := 0, slots := 0, locals := 13 } : Room).slots) := by
  refine MetFree.of_bodySF (plainFor_of_name pn_5) hisR ?_
  intro p e s m args below meth c s₁ Bd hml0 hP hK
  obtain ⟨rfl, hZ, hh⟩ := hP
  have hx := Bd.exec
  have hby := Bd.bytes
  have hlk : meth.locks = false := BodyLoose.notSynchronized Bd
  have hml : c.maxLocals = 1 := hml0
  have hown : s.vm.findClass "com/example/ctl_checker/ctlchecker/SmvExpression$Type" = some m.cls := findClass_of_methodNamed Bd.named
  have hnm := (name_of_methodNamed Bd.named Bd.method).1
  have X0 : Stand p l e ({ frames := 1, cells := 0, slots := 0, locals := 13 } : Room) s m #[(.ref w_INTEGER)] below meth c s₁ [] 0 0 := Stand.of_body Bd
  have e0 : s₁.heap = h0 := by rw [← hh, Bd.state]; rfl
  have N := Fr.nil n0
  have Zs := Z0
  change OwnGo p.tables e below (OwnEnd s (Q5INTEGER Z w_CONDITION w_INTEGER w_SYMBOLIC w_CONDITION_SET w_INTEGER_SET w_SYMBOLIC_SET h0 n0) ({ frames := 1, cells := 0, slots := 0, locals := 13 } : Room).cells ({ frames := 1, cells := 0, slots := 0, locals := 13 } : Room).slots) _
  refine OwnGo.fwd (fun tq' kq' => castTop (ef_5INTEGER m w_INTEGER) kq') ?_
  show OwnGo _ _ _ _ (s₁.setTop (mkF m 0 #[.val (.ref w_INTEGER)] []))
  refine OwnGo.fwd (fun tq' kq' => XS.aloadN X0.here hx rfl (hb hby d5_0) rfl rfl kq') ?_
  show OwnGo _ _ _ _ (s₁.setTop (mkF m 1 #[.val (.ref w_INTEGER)] [(.ref w_INTEGER)]))
  obtain ⟨cq1, kq1, q1a, q1b, q1c⟩ := isOf hZ e0 E_w_INTEGER
  obtain ⟨_, _, ⟨T1, L1, k1, n1⟩, -, X1, ⟨Lc1, hQ1, l1, y1, z1⟩, st1⟩ := X0.virtualBackUp hx (x := (⟨"com/example/ctl_checker/ctlchecker/SmvExpression$Type", "ordinal", "()I"⟩ : MethodName)) (y := (⟨"java/lang/Enum", "ordinal", "()I"⟩ : MethodName)) (owner := "java/lang/Enum") hown (mvT hZ (hw _ (List.mem_of_getElem? (i := 24) rfl))) (mvT hZ (hw _ (List.mem_of_getElem? (i := 25) rfl))) (mvT hZ (hw _ (List.mem_of_getElem? (i := 26) rfl))) (by decide) (mvT hZ (hw _ (List.mem_of_getElem? (i := 28) rfl))) (mvT hZ (hw _ (List.mem_of_getElem? (i := 27) rfl))) (backOf (W := 0) (rm4 l Z a0 hw [] w_INTEGER (1 : Int32) h0 n0 Zs O_INTEGER) hZ (hw _ (List.mem_of_getElem? (i := 30) rfl)) (hw _ (List.mem_of_getElem? (i := 29) rfl)) (by decide) (by decide)) q1a q1c (g := (mkF m 1 #[.val (.ref w_INTEGER)] [(.ref w_INTEGER)])) rfl (by rw [hml]; rfl) (Steps.refl _) (argsL := []) (rest := []) (lenOf pd_3 rfl) rfl (by show 2 * 0 + _ ≤ _; exact Nat.le_of_eq rfl) (hb hby d5_1) (fun _ _ => ⟨rfl, e0, (by decide : 0 + 0 ≤ _), (by decide : 0 + 0 ≤ _)⟩)
  dsimp only [Pt.U, Pt.locs, Pt.cells, Pt.slots] at X1 l1 y1 z1 st1 hQ1
  subst l1 y1 z1
  obtain ⟨rfl, N1q, e1⟩ := hQ1
  have N := Fr.app N N1q
  refine OwnGo.thru st1 ?_
  show OwnGo _ _ _ _ (T1.setTop (mkF m 4 #[.val (.ref w_INTEGER)] [(.int (1 : Int32))]))
  refine OwnGo.fwd (fun tq' kq' => XS.tswIn X1.here hx rfl (pc0 := 4) (pc' := 38) (o := 34) rfl (hb hby d5_4) rfl (by decide) (by decide) (by decide) (by decide) kq') ?_
  show OwnGo _ _ _ _ (T1.setTop (mkF m 38 #[.val (.ref w_INTEGER)] []))
  obtain ⟨T2, X2, e2, st2⟩ := getS2 X1 hx hZ hown (host := "") (Or.inl (hw _ (List.mem_of_getElem? (i := 15) rfl))) Via.refl e1 S_INTEGER_SET (g := (mkF m 38 #[.val (.ref w_INTEGER)] [])) rfl (hb hby d5_38)
  refine OwnGo.fwd st2 ?_
  show OwnGo _ _ _ _ (T2.setTop (mkF m 41 #[.val (.ref w_INTEGER)] [(.ref w_INTEGER_SET)]))
  refine OwnGo.fwd (fun tq' kq' => XS.goto X2.here hx rfl (pc0 := 41) (pc' := 51) rfl (hb hby d5_41) (by decide) (by decide) kq') ?_
  show OwnGo _ _ _ _ (T2.setTop (mkF m 51 #[.val (.ref w_INTEGER)] [(.ref w_INTEGER_SET)]))
  exact own_retA X2 hlk hx Bd.returns rfl rfl (hb hby d5_51) (by decide) (by decide) e2 ⟨rfl, N, rfl⟩
theorem ef_1SYMBOLIC (m : MethodId) (x0 : Int32) : entryFrame m #[(.int x0)] 1 = mkF m 0 #[.val (.int x0)] [] := by first | (simp [entryFrame, mkF, argsToLocals, Value.category, maxLocals]; done) | rfl
def Q1SYMBOLIC (Z : State) (w_CONDITION : Addr) (w_INTEGER : Addr) (w_SYMBOLIC : Addr) (w_CONDITION_SET : Addr) (w_INTEGER_SET : Addr) (w_SYMBOLIC_SET : Addr) (h0 : Heap) (n0 : Nat) (v : Option Value) (h : Heap) (L : List Loc) : Prop := v = some (.ref w_SYMBOLIC) ∧ Fr n0 L ∧ h = h0
set_option maxRecDepth 65536 in
set_option maxHeartbeats 40000000 in
theorem rm1SYMBOLIC (l : Launch) (Z : State) (a0 : Array Value) (hw : ∀ d ∈ tables_1, d.before a0 Z = true) (ws : List Jvm.Cond) (w_CONDITION : Addr) (w_INTEGER : Addr) (w_SYMBOLIC : Addr) (w_CONDITION_SET : Addr) (w_INTEGER_SET : Addr) (w_SYMBOLIC_SET : Addr) (h0 : Heap) (n0 : Nat) (Z0 : n0 ≤ h0.size) (S_CONDITION : Sta Z h0 "com/example/ctl_checker/ctlchecker/SmvExpression$Type" "CONDITION" "Lcom/example/ctl_checker/ctlchecker/SmvExpression$Type;" (.ref w_CONDITION)) (E_w_CONDITION : Exa Z h0 w_CONDITION "com/example/ctl_checker/ctlchecker/SmvExpression$Type") (O_CONDITION : Fld Z h0 w_CONDITION "java/lang/Enum" "ordinal" "I" (.int 0)) (S_INTEGER : Sta Z h0 "com/example/ctl_checker/ctlchecker/SmvExpression$Type" "INTEGER" "Lcom/example/ctl_checker/ctlchecker/SmvExpression$Type;" (.ref w_INTEGER)) (E_w_INTEGER : Exa Z h0 w_INTEGER "com/example/ctl_checker/ctlchecker/SmvExpression$Type") (O_INTEGER : Fld Z h0 w_INTEGER "java/lang/Enum" "ordinal" "I" (.int 1)) (S_SYMBOLIC : Sta Z h0 "com/example/ctl_checker/ctlchecker/SmvExpression$Type" "SYMBOLIC" "Lcom/example/ctl_checker/ctlchecker/SmvExpression$Type;" (.ref w_SYMBOLIC)) (E_w_SYMBOLIC : Exa Z h0 w_SYMBOLIC "com/example/ctl_checker/ctlchecker/SmvExpression$Type") (O_SYMBOLIC : Fld Z h0 w_SYMBOLIC "java/lang/Enum" "ordinal" "I" (.int 2)) (S_CONDITION_SET : Sta Z h0 "com/example/ctl_checker/ctlchecker/SmvExpression$Type" "CONDITION_SET" "Lcom/example/ctl_checker/ctlchecker/SmvExpression$Type;" (.ref w_CONDITION_SET)) (E_w_CONDITION_SET : Exa Z h0 w_CONDITION_SET "com/example/ctl_checker/ctlchecker/SmvExpression$Type") (O_CONDITION_SET : Fld Z h0 w_CONDITION_SET "java/lang/Enum" "ordinal" "I" (.int 3)) (S_INTEGER_SET : Sta Z h0 "com/example/ctl_checker/ctlchecker/SmvExpression$Type" "INTEGER_SET" "Lcom/example/ctl_checker/ctlchecker/SmvExpression$Type;" (.ref w_INTEGER_SET)) (E_w_INTEGER_SET : Exa Z h0 w_INTEGER_SET "com/example/ctl_checker/ctlchecker/SmvExpression$Type") (O_INTEGER_SET : Fld Z h0 w_INTEGER_SET "java/lang/Enum" "ordinal" "I" (.int 4)) (S_SYMBOLIC_SET : Sta Z h0 "com/example/ctl_checker/ctlchecker/SmvExpression$Type" "SYMBOLIC_SET" "Lcom/example/ctl_checker/ctlchecker/SmvExpression$Type;" (.ref w_SYMBOLIC_SET)) (E_w_SYMBOLIC_SET : Exa Z h0 w_SYMBOLIC_SET "com/example/ctl_checker/ctlchecker/SmvExpression$Type") (O_SYMBOLIC_SET : Fld Z h0 w_SYMBOLIC_SET "java/lang/Enum" "ordinal" "I" (.int 5)) :
    MetFree l (⟨"com/example/ctl_checker/ctlchecker/TypeIsSetPinLaw", "pick", "(I)Lcom/example/ctl_checker/ctlchecker/SmvExpression$Type;"⟩ : MethodName) (head1 (Jvm.Cond.code (⟨"com/example/ctl_checker/ctlchecker/TypeIsSetPinLaw", "pick", "(I)Lcom/example/ctl_checker/ctlchecker/SmvExpression$Type;"⟩ : MethodName) method_2_code 1 (some (.object "com/example/ctl_checker/ctlchecker/SmvExpression$Type")) :: ws) ({ frames := 0, cells := 0, slots := 0, locals := 0 } : Room)) (fun arr' U => arr' = #[(.int (2 : Int32))] ∧ Z.Warmed39 U.vm ∧ U.heap = h0) (fun _ _ _ _ _ => True) (fun _ U o U' => ∃ v L, o = .returned v ∧ (Q1SYMBOLIC Z w_CONDITION w_INTEGER w_SYMBOLIC w_CONDITION_SET w_INTEGER_SET w_SYMBOLIC_SET h0 n0) v U'.heap L ∧ FrameEnd U o U' L ({ frames := 0, cells := 0, slots := 0, locals := 0 } : Room).cells ({ frames := 0, cells := 0, slots := 0, locals := 0 } : Room).slots) := by
  refine MetFree.of_bodySF (plainFor_of_name pn_1) hisR ?_
  intro p e s m args below meth c s₁ Bd hml0 hP hK
  obtain ⟨rfl, hZ, hh⟩ := hP
  have hx := Bd.exec
  have hby := Bd.bytes
  have hlk : meth.locks = false := BodyLoose.notSynchronized Bd
  have hml : c.maxLocals = 1 := hml0
  have hown : s.vm.findClass "com/example/ctl_checker/ctlchecker/TypeIsSetPinLaw" = some m.cls := findClass_of_methodNamed Bd.named
  have hnm := (name_of_methodNamed Bd.named Bd.method).1
  have X0 : Stand p l e ({ frames := 0, cells := 0, slots := 0, locals := 0 } : Room) s m #[(.int (2 : Int32))] below meth c s₁ [] 0 0 := Stand.of_body Bd
  have e0 : s₁.heap = h0 := by rw [← hh, Bd.state]; rfl
  have N := Fr.nil n0
  have Zs := Z0
  change OwnGo p.tables e below (OwnEnd s (Q1SYMBOLIC Z w_CONDITION w_INTEGER w_SYMBOLIC w_CONDITION_SET w_INTEGER_SET w_SYMBOLIC_SET h0 n0) ({ frames := 0, cells := 0, slots := 0, locals := 0 } : Room).cells ({ frames := 0, cells := 0, slots := 0, locals := 0 } : Room).slots) _
  refine OwnGo.fwd (fun tq' kq' => castTop (ef_1SYMBOLIC m (2 : Int32)) kq') ?_
  show OwnGo _ _ _ _ (s₁.setTop (mkF m 0 #[.val (.int (2 : Int32))] []))
  refine OwnGo.fwd (fun tq' kq' => XS.iloadN X0.here hx rfl (hb hby d1_0) rfl kq') ?_
  show OwnGo _ _ _ _ (s₁.setTop (mkF m 1 #[.val (.int (2 : Int32))] [(.int (2 : Int32))]))
  have hc1_1 : ¬ ((2 : Int) = (0 : Int)) := by decide
  refine OwnGo.fwd (fun tq' kq' => XS.ifYes X0.here hx rfl (pc0 := 1) (pc' := 8) rfl (hb hby d1_1) rfl ((if0 _ _).trans (own_bneq (by decide) (by decide) hc1_1).2) (by decide) (by decide) kq') ?_
  show OwnGo _ _ _ _ (s₁.setTop (mkF m 8 #[.val (.int (2 : Int32))] []))
  refine OwnGo.fwd (fun tq' kq' => XS.iloadN X0.here hx rfl (hb hby d1_8) rfl kq') ?_
  show OwnGo _ _ _ _ (s₁.setTop (mkF m 9 #[.val (.int (2 : Int32))] [(.int (2 : Int32))]))
  refine OwnGo.fwd (fun tq' kq' => XS.iconst X0.here hx rfl (hb hby d1_9) kq') ?_
  show OwnGo _ _ _ _ (s₁.setTop (mkF m 10 #[.val (.int (2 : Int32))] [(.int (1 : Int32)), (.int (2 : Int32))]))
  have hc10_2 : ¬ ((2 : Int) = (1 : Int)) := by decide
  refine OwnGo.fwd (fun tq' kq' => XS.icmpYes X0.here hx rfl (pc0 := 10) (pc' := 17) rfl (hb hby d1_10) rfl (own_bneq (by decide) (by decide) hc10_2).2 (by decide) (by decide) kq') ?_
  show OwnGo _ _ _ _ (s₁.setTop (mkF m 17 #[.val (.int (2 : Int32))] []))
  refine OwnGo.fwd (fun tq' kq' => XS.iloadN X0.here hx rfl (hb hby d1_17) rfl kq') ?_
  show OwnGo _ _ _ _ (s₁.setTop (mkF m 18 #[.val (.int (2 : Int32))] [(.int (2 : Int32))]))
  refine OwnGo.fwd (fun tq' kq' => XS.iconst X0.here hx rfl (hb hby d1_18) kq') ?_
  show OwnGo _ _ _ _ (s₁.setTop (mkF m 19 #[.val (.int (2 : Int32))] [(.int (2 : Int32)), (.int (2 : Int32))]))
  have hc19_3 : (2 : Int) = (2 : Int) := rfl
  refine OwnGo.fwd (fun tq' kq' => XS.icmpNo X0.here hx rfl (hb hby d1_19) rfl (own_beq (by decide) (by decide) hc19_3).2 kq') ?_
  show OwnGo _ _ _ _ (s₁.setTop (mkF m 22 #[.val (.int (2 : Int32))] []))
  obtain ⟨T4, X4, e4, st4⟩ := getS2 X0 hx hZ hown (host := "") (Or.inl (hw _ (List.mem_of_getElem? (i := 40) rfl))) Via.refl e0 S_SYMBOLIC (g := (mkF m 22 #[.val (.int (2 : Int32))] [])) rfl (hb hby d1_22)
  refine OwnGo.fwd st4 ?_
  show OwnGo _ _ _ _ (T4.setTop (mkF m 25 #[.val (.int (2 : Int32))] [(.ref w_SYMBOLIC)]))
  exact own_retA X4 hlk hx Bd.returns rfl rfl (hb hby d1_25) (by decide) (by decide) e4 ⟨rfl, N, rfl⟩
theorem ef_2SYMBOLIC (m : MethodId) (x0 : Addr) : entryFrame m #[(.ref x0)] 1 = mkF m 0 #[.val (.ref x0)] [] := by first | (simp [entryFrame, mkF, argsToLocals, Value.category, maxLocals]; done) | rfl
def Q2SYMBOLIC (Z : State) (w_CONDITION : Addr) (w_INTEGER : Addr) (w_SYMBOLIC : Addr) (w_CONDITION_SET : Addr) (w_INTEGER_SET : Addr) (w_SYMBOLIC_SET : Addr) (h0 : Heap) (n0 : Nat) (v : Option Value) (h : Heap) (L : List Loc) : Prop := v = some (.int 0) ∧ Fr n0 L ∧ h = h0
set_option maxRecDepth 65536 in
set_option maxHeartbeats 40000000 in
theorem rm2SYMBOLIC (l : Launch) (Z : State) (a0 : Array Value) (hw : ∀ d ∈ tables_1, d.before a0 Z = true) (ws : List Jvm.Cond) (w_CONDITION : Addr) (w_INTEGER : Addr) (w_SYMBOLIC : Addr) (w_CONDITION_SET : Addr) (w_INTEGER_SET : Addr) (w_SYMBOLIC_SET : Addr) (h0 : Heap) (n0 : Nat) (Z0 : n0 ≤ h0.size) (S_CONDITION : Sta Z h0 "com/example/ctl_checker/ctlchecker/SmvExpression$Type" "CONDITION" "Lcom/example/ctl_checker/ctlchecker/SmvExpression$Type;" (.ref w_CONDITION)) (E_w_CONDITION : Exa Z h0 w_CONDITION "com/example/ctl_checker/ctlchecker/SmvExpression$Type") (O_CONDITION : Fld Z h0 w_CONDITION "java/lang/Enum" "ordinal" "I" (.int 0)) (S_INTEGER : Sta Z h0 "com/example/ctl_checker/ctlchecker/SmvExpression$Type" "INTEGER" "Lcom/example/ctl_checker/ctlchecker/SmvExpression$Type;" (.ref w_INTEGER)) (E_w_INTEGER : Exa Z h0 w_INTEGER "com/example/ctl_checker/ctlchecker/SmvExpression$Type") (O_INTEGER : Fld Z h0 w_INTEGER "java/lang/Enum" "ordinal" "I" (.int 1)) (S_SYMBOLIC : Sta Z h0 "com/example/ctl_checker/ctlchecker/SmvExpression$Type" "SYMBOLIC" "Lcom/example/ctl_checker/ctlchecker/SmvExpression$Type;" (.ref w_SYMBOLIC)) (E_w_SYMBOLIC : Exa Z h0 w_SYMBOLIC "com/example/ctl_checker/ctlchecker/SmvExpression$Type") (O_SYMBOLIC : Fld Z h0 w_SYMBOLIC "java/lang/Enum" "ordinal" "I" (.int 2)) (S_CONDITION_SET : Sta Z h0 "com/example/ctl_checker/ctlchecker/SmvExpression$Type" "CONDITION_SET" "Lcom/example/ctl_checker/ctlchecker/SmvExpression$Type;" (.ref w_CONDITION_SET)) (E_w_CONDITION_SET : Exa Z h0 w_CONDITION_SET "com/example/ctl_checker/ctlchecker/SmvExpression$Type") (O_CONDITION_SET : Fld Z h0 w_CONDITION_SET "java/lang/Enum" "ordinal" "I" (.int 3)) (S_INTEGER_SET : Sta Z h0 "com/example/ctl_checker/ctlchecker/SmvExpression$Type" "INTEGER_SET" "Lcom/example/ctl_checker/ctlchecker/SmvExpression$Type;" (.ref w_INTEGER_SET)) (E_w_INTEGER_SET : Exa Z h0 w_INTEGER_SET "com/example/ctl_checker/ctlchecker/SmvExpression$Type") (O_INTEGER_SET : Fld Z h0 w_INTEGER_SET "java/lang/Enum" "ordinal" "I" (.int 4)) (S_SYMBOLIC_SET : Sta Z h0 "com/example/ctl_checker/ctlchecker/SmvExpression$Type" "SYMBOLIC_SET" "Lcom/example/ctl_checker/ctlchecker/SmvExpression$Type;" (.ref w_SYMBOLIC_SET)) (E_w_SYMBOLIC_SET : Exa Z h0 w_SYMBOLIC_SET "com/example/ctl_checker/ctlchecker/SmvExpression$Type") (O_SYMBOLIC_SET : Fld Z h0 w_SYMBOLIC_SET "java/lang/Enum" "ordinal" "I" (.int 5)) :
    MetFree l (⟨"com/example/ctl_checker/ctlchecker/SmvExpression$Type", "isSet", "()Z"⟩ : MethodName) (head1 (Jvm.Cond.code (⟨"com/example/ctl_checker/ctlchecker/SmvExpression$Type", "isSet", "()Z"⟩ : MethodName) prog_62_method_4_code 1 (some .boolean) :: ws) ({ frames := 0, cells := 0, slots := 0, locals := 0 } : Room)) (fun arr' U => arr' = #[(.ref w_SYMBOLIC)] ∧ Z.Warmed39 U.vm ∧ U.heap = h0) (fun _ _ _ _ _ => True) (fun _ U o U' => ∃ v L, o = .returned v ∧ (Q2SYMBOLIC Z w_CONDITION w_INTEGER w_SYMBOLIC w_CONDITION_SET w_INTEGER_SET w_SYMBOLIC_SET h0 n0) v U'.heap L ∧ FrameEnd U o U' L ({ frames := 0, cells := 0, slots := 0, locals := 0 } : Room).cells ({ frames := 0, cells := 0, slots := 0, locals := 0 } : Room).slots) := by
  refine MetFree.of_bodySF (plainFor_of_name pn_2) hisR ?_
  intro p e s m args below meth c s₁ Bd hml0 hP hK
  obtain ⟨rfl, hZ, hh⟩ := hP
  have hx := Bd.exec
  have hby := Bd.bytes
  have hlk : meth.locks = false := BodyLoose.notSynchronized Bd
  have hml : c.maxLocals = 1 := hml0
  have hown : s.vm.findClass "com/example/ctl_checker/ctlchecker/SmvExpression$Type" = some m.cls := findClass_of_methodNamed Bd.named
  have hnm := (name_of_methodNamed Bd.named Bd.method).1
  have X0 : Stand p l e ({ frames := 0, cells := 0, slots := 0, locals := 0 } : Room) s m #[(.ref w_SYMBOLIC)] below meth c s₁ [] 0 0 := Stand.of_body Bd
  have e0 : s₁.heap = h0 := by rw [← hh, Bd.state]; rfl
  have N := Fr.nil n0
  have Zs := Z0
  change OwnGo p.tables e below (OwnEnd s (Q2SYMBOLIC Z w_CONDITION w_INTEGER w_SYMBOLIC w_CONDITION_SET w_INTEGER_SET w_SYMBOLIC_SET h0 n0) ({ frames := 0, cells := 0, slots := 0, locals := 0 } : Room).cells ({ frames := 0, cells := 0, slots := 0, locals := 0 } : Room).slots) _
  refine OwnGo.fwd (fun tq' kq' => castTop (ef_2SYMBOLIC m w_SYMBOLIC) kq') ?_
  show OwnGo _ _ _ _ (s₁.setTop (mkF m 0 #[.val (.ref w_SYMBOLIC)] []))
  have ne_CONDITION_INTEGER : w_CONDITION ≠ w_INTEGER := Fld.ne O_CONDITION O_INTEGER (by decide)
  have ne_CONDITION_SYMBOLIC : w_CONDITION ≠ w_SYMBOLIC := Fld.ne O_CONDITION O_SYMBOLIC (by decide)
  have ne_CONDITION_CONDITION_SET : w_CONDITION ≠ w_CONDITION_SET := Fld.ne O_CONDITION O_CONDITION_SET (by decide)
  have ne_CONDITION_INTEGER_SET : w_CONDITION ≠ w_INTEGER_SET := Fld.ne O_CONDITION O_INTEGER_SET (by decide)
  have ne_CONDITION_SYMBOLIC_SET : w_CONDITION ≠ w_SYMBOLIC_SET := Fld.ne O_CONDITION O_SYMBOLIC_SET (by decide)
  have ne_INTEGER_SYMBOLIC : w_INTEGER ≠ w_SYMBOLIC := Fld.ne O_INTEGER O_SYMBOLIC (by decide)
  have ne_INTEGER_CONDITION_SET : w_INTEGER ≠ w_CONDITION_SET := Fld.ne O_INTEGER O_CONDITION_SET (by decide)
  have ne_INTEGER_INTEGER_SET : w_INTEGER ≠ w_INTEGER_SET := Fld.ne O_INTEGER O_INTEGER_SET (by decide)
  have ne_INTEGER_SYMBOLIC_SET : w_INTEGER ≠ w_SYMBOLIC_SET := Fld.ne O_INTEGER O_SYMBOLIC_SET (by decide)
  have ne_SYMBOLIC_CONDITION_SET : w_SYMBOLIC ≠ w_CONDITION_SET := Fld.ne O_SYMBOLIC O_CONDITION_SET (by decide)
  have ne_SYMBOLIC_INTEGER_SET : w_SYMBOLIC ≠ w_INTEGER_SET := Fld.ne O_SYMBOLIC O_INTEGER_SET (by decide)
  have ne_SYMBOLIC_SYMBOLIC_SET : w_SYMBOLIC ≠ w_SYMBOLIC_SET := Fld.ne O_SYMBOLIC O_SYMBOLIC_SET (by decide)
  have ne_CONDITION_SET_INTEGER_SET : w_CONDITION_SET ≠ w_INTEGER_SET := Fld.ne O_CONDITION_SET O_INTEGER_SET (by decide)
  have ne_CONDITION_SET_SYMBOLIC_SET : w_CONDITION_SET ≠ w_SYMBOLIC_SET := Fld.ne O_CONDITION_SET O_SYMBOLIC_SET (by decide)
  have ne_INTEGER_SET_SYMBOLIC_SET : w_INTEGER_SET ≠ w_SYMBOLIC_SET := Fld.ne O_INTEGER_SET O_SYMBOLIC_SET (by decide)
  refine OwnGo.fwd (fun tq' kq' => XS.aloadN X0.here hx rfl (hb hby d2_0) rfl rfl kq') ?_
  show OwnGo _ _ _ _ (s₁.setTop (mkF m 1 #[.val (.ref w_SYMBOLIC)] [(.ref w_SYMBOLIC)]))
  obtain ⟨T1, X1, e1, st1⟩ := getS2 X0 hx hZ hown (host := "") (Or.inl (hw _ (List.mem_of_getElem? (i := 13) rfl))) Via.refl e0 S_CONDITION_SET (g := (mkF m 1 #[.val (.ref w_SYMBOLIC)] [(.ref w_SYMBOLIC)])) rfl (hb hby d2_1)
  refine OwnGo.fwd st1 ?_
  show OwnGo _ _ _ _ (T1.setTop (mkF m 4 #[.val (.ref w_SYMBOLIC)] [(.ref w_CONDITION_SET), (.ref w_SYMBOLIC)]))
  refine OwnGo.fwd (fun tq' kq' => Jvm.RoadKit.acmp (g := (mkF m 4 #[.val (.ref w_SYMBOLIC)] [(.ref w_CONDITION_SET), (.ref w_SYMBOLIC)])) X1 hx rfl rfl rfl (pc0 := 4) (pc' := 7) (same := false) rfl (hb hby d2_4) rfl (decide_eq_false fun q => ne_SYMBOLIC_CONDITION_SET (Value.ref.inj q)) (by decide) (by decide) kq') ?_
  show OwnGo _ _ _ _ (T1.setTop (mkF m 7 #[.val (.ref w_SYMBOLIC)] []))
  refine OwnGo.fwd (fun tq' kq' => XS.aloadN X1.here hx rfl (hb hby d2_7) rfl rfl kq') ?_
  show OwnGo _ _ _ _ (T1.setTop (mkF m 8 #[.val (.ref w_SYMBOLIC)] [(.ref w_SYMBOLIC)]))
  obtain ⟨T2, X2, e2, st2⟩ := getS2 X1 hx hZ hown (host := "") (Or.inl (hw _ (List.mem_of_getElem? (i := 15) rfl))) Via.refl e1 S_INTEGER_SET (g := (mkF m 8 #[.val (.ref w_SYMBOLIC)] [(.ref w_SYMBOLIC)])) rfl (hb hby d2_8)
  refine OwnGo.fwd st2 ?_
  show OwnGo _ _ _ _ (T2.setTop (mkF m 11 #[.val (.ref w_SYMBOLIC)] [(.ref w_INTEGER_SET), (.ref w_SYMBOLIC)]))
  refine OwnGo.fwd (fun tq' kq' => Jvm.RoadKit.acmp (g := (mkF m 11 #[.val (.ref w_SYMBOLIC)] [(.ref w_INTEGER_SET), (.ref w_SYMBOLIC)])) X2 hx rfl rfl rfl (pc0 := 11) (pc' := 14) (same := false) rfl (hb hby d2_11) rfl (decide_eq_false fun q => ne_SYMBOLIC_INTEGER_SET (Value.ref.inj q)) (by decide) (by decide) kq') ?_
  show OwnGo _ _ _ _ (T2.setTop (mkF m 14 #[.val (.ref w_SYMBOLIC)] []))
  refine OwnGo.fwd (fun tq' kq' => XS.aloadN X2.here hx rfl (hb hby d2_14) rfl rfl kq') ?_
  show OwnGo _ _ _ _ (T2.setTop (mkF m 15 #[.val (.ref w_SYMBOLIC)] [(.ref w_SYMBOLIC)]))
  obtain ⟨T3, X3, e3, st3⟩ := getS2 X2 hx hZ hown (host := "") (Or.inl (hw _ (List.mem_of_getElem? (i := 17) rfl))) Via.refl e2 S_SYMBOLIC_SET (g := (mkF m 15 #[.val (.ref w_SYMBOLIC)] [(.ref w_SYMBOLIC)])) rfl (hb hby d2_15)
  refine OwnGo.fwd st3 ?_
  show OwnGo _ _ _ _ (T3.setTop (mkF m 18 #[.val (.ref w_SYMBOLIC)] [(.ref w_SYMBOLIC_SET), (.ref w_SYMBOLIC)]))
  refine OwnGo.fwd (fun tq' kq' => Jvm.RoadKit.acmp (g := (mkF m 18 #[.val (.ref w_SYMBOLIC)] [(.ref w_SYMBOLIC_SET), (.ref w_SYMBOLIC)])) X3 hx rfl rfl rfl (pc0 := 18) (pc' := 25) (same := false) rfl (hb hby d2_18) rfl (decide_eq_false fun q => ne_SYMBOLIC_SYMBOLIC_SET (Value.ref.inj q)) (by decide) (by decide) kq') ?_
  show OwnGo _ _ _ _ (T3.setTop (mkF m 25 #[.val (.ref w_SYMBOLIC)] []))
  refine OwnGo.fwd (fun tq' kq' => XS.iconst X3.here hx rfl (hb hby d2_25) kq') ?_
  show OwnGo _ _ _ _ (T3.setTop (mkF m 26 #[.val (.ref w_SYMBOLIC)] [(.int (0 : Int32))]))
  exact own_retZ X3 hlk hx Bd.returns (hb hby d2_26) (by decide) (by decide) e3 ⟨rfl, N, rfl⟩
theorem ef_3SYMBOLIC (m : MethodId) (x0 : Addr) : entryFrame m #[(.ref x0)] 1 = mkF m 0 #[.val (.ref x0)] [] := by first | (simp [entryFrame, mkF, argsToLocals, Value.category, maxLocals]; done) | rfl
def Q3SYMBOLIC (Z : State) (w_CONDITION : Addr) (w_INTEGER : Addr) (w_SYMBOLIC : Addr) (w_CONDITION_SET : Addr) (w_INTEGER_SET : Addr) (w_SYMBOLIC_SET : Addr) (h0 : Heap) (n0 : Nat) (v : Option Value) (h : Heap) (L : List Loc) : Prop := v = some (.ref w_SYMBOLIC) ∧ Fr n0 L ∧ h = h0
set_option maxRecDepth 65536 in
set_option maxHeartbeats 40000000 in
theorem rm3SYMBOLIC (l : Launch) (Z : State) (a0 : Array Value) (hw : ∀ d ∈ tables_1, d.before a0 Z = true) (ws : List Jvm.Cond) (w_CONDITION : Addr) (w_INTEGER : Addr) (w_SYMBOLIC : Addr) (w_CONDITION_SET : Addr) (w_INTEGER_SET : Addr) (w_SYMBOLIC_SET : Addr) (h0 : Heap) (n0 : Nat) (Z0 : n0 ≤ h0.size) (S_CONDITION : Sta Z h0 "com/example/ctl_checker/ctlchecker/SmvExpression$Type" "CONDITION" "Lcom/example/ctl_checker/ctlchecker/SmvExpression$Type;" (.ref w_CONDITION)) (E_w_CONDITION : Exa Z h0 w_CONDITION "com/example/ctl_checker/ctlchecker/SmvExpression$Type") (O_CONDITION : Fld Z h0 w_CONDITION "java/lang/Enum" "ordinal" "I" (.int 0)) (S_INTEGER : Sta Z h0 "com/example/ctl_checker/ctlchecker/SmvExpression$Type" "INTEGER" "Lcom/example/ctl_checker/ctlchecker/SmvExpression$Type;" (.ref w_INTEGER)) (E_w_INTEGER : Exa Z h0 w_INTEGER "com/example/ctl_checker/ctlchecker/SmvExpression$Type") (O_INTEGER : Fld Z h0 w_INTEGER "java/lang/Enum" "ordinal" "I" (.int 1)) (S_SYMBOLIC : Sta Z h0 "com/example/ctl_checker/ctlchecker/SmvExpression$Type" "SYMBOLIC" "Lcom/example/ctl_checker/ctlchecker/SmvExpression$Type;" (.ref w_SYMBOLIC)) (E_w_SYMBOLIC : Exa Z h0 w_SYMBOLIC "com/example/ctl_checker/ctlchecker/SmvExpression$Type") (O_SYMBOLIC : Fld Z h0 w_SYMBOLIC "java/lang/Enum" "ordinal" "I" (.int 2)) (S_CONDITION_SET : Sta Z h0 "com/example/ctl_checker/ctlchecker/SmvExpression$Type" "CONDITION_SET" "Lcom/example/ctl_checker/ctlchecker/SmvExpression$Type;" (.ref w_CONDITION_SET)) (E_w_CONDITION_SET : Exa Z h0 w_CONDITION_SET "com/example/ctl_checker/ctlchecker/SmvExpression$Type") (O_CONDITION_SET : Fld Z h0 w_CONDITION_SET "java/lang/Enum" "ordinal" "I" (.int 3)) (S_INTEGER_SET : Sta Z h0 "com/example/ctl_checker/ctlchecker/SmvExpression$Type" "INTEGER_SET" "Lcom/example/ctl_checker/ctlchecker/SmvExpression$Type;" (.ref w_INTEGER_SET)) (E_w_INTEGER_SET : Exa Z h0 w_INTEGER_SET "com/example/ctl_checker/ctlchecker/SmvExpression$Type") (O_INTEGER_SET : Fld Z h0 w_INTEGER_SET "java/lang/Enum" "ordinal" "I" (.int 4)) (S_SYMBOLIC_SET : Sta Z h0 "com/example/ctl_checker/ctlchecker/SmvExpression$Type" "SYMBOLIC_SET" "Lcom/example/ctl_checker/ctlchecker/SmvExpression$Type;" (.ref w_SYMBOLIC_SET)) (E_w_SYMBOLIC_SET : Exa Z h0 w_SYMBOLIC_SET "com/example/ctl_checker/ctlchecker/SmvExpression$Type") (O_SYMBOLIC_SET : Fld Z h0 w_SYMBOLIC_SET "java/lang/Enum" "ordinal" "I" (.int 5)) :
    MetFree l (⟨"com/example/ctl_checker/ctlchecker/SmvExpression$Type", "element", "()Lcom/example/ctl_checker/ctlchecker/SmvExpression$Type;"⟩ : MethodName) (head1 (Jvm.Cond.code (⟨"com/example/ctl_checker/ctlchecker/SmvExpression$Type", "element", "()Lcom/example/ctl_checker/ctlchecker/SmvExpression$Type;"⟩ : MethodName) prog_62_method_5_code 1 (some (.object "com/example/ctl_checker/ctlchecker/SmvExpression$Type")) :: ws) ({ frames := 1, cells := 0, slots := 0, locals := 13 } : Room)) (fun arr' U => arr' = #[(.ref w_SYMBOLIC)] ∧ Z.Warmed39 U.vm ∧ U.heap = h0) (fun _ _ _ _ _ => True) (fun _ U o U' => ∃ v L, o = .returned v ∧ (Q3SYMBOLIC Z w_CONDITION w_INTEGER w_SYMBOLIC w_CONDITION_SET w_INTEGER_SET w_SYMBOLIC_SET h0 n0) v U'.heap L ∧ FrameEnd U o U' L ({ frames := 1, cells := 0, slots := 0, locals := 13 } : Room).cells ({ frames := 1, cells := 0, slots := 0, locals := 13 } : Room).slots) := by
  refine MetFree.of_bodySF (plainFor_of_name pn_3) hisR ?_
  intro p e s m args below meth c s₁ Bd hml0 hP hK
  obtain ⟨rfl, hZ, hh⟩ := hP
  have hx := Bd.exec
  have hby := Bd.bytes
  have hlk : meth.locks = false := BodyLoose.notSynchronized Bd
  have hml : c.maxLocals = 1 := hml0
  have hown : s.vm.findClass "com/example/ctl_checker/ctlchecker/SmvExpression$Type" = some m.cls := findClass_of_methodNamed Bd.named
  have hnm := (name_of_methodNamed Bd.named Bd.method).1
  have X0 : Stand p l e ({ frames := 1, cells := 0, slots := 0, locals := 13 } : Room) s m #[(.ref w_SYMBOLIC)] below meth c s₁ [] 0 0 := Stand.of_body Bd
  have e0 : s₁.heap = h0 := by rw [← hh, Bd.state]; rfl
  have N := Fr.nil n0
  have Zs := Z0
  change OwnGo p.tables e below (OwnEnd s (Q3SYMBOLIC Z w_CONDITION w_INTEGER w_SYMBOLIC w_CONDITION_SET w_INTEGER_SET w_SYMBOLIC_SET h0 n0) ({ frames := 1, cells := 0, slots := 0, locals := 13 } : Room).cells ({ frames := 1, cells := 0, slots := 0, locals := 13 } : Room).slots) _
  refine OwnGo.fwd (fun tq' kq' => castTop (ef_3SYMBOLIC m w_SYMBOLIC) kq') ?_
  show OwnGo _ _ _ _ (s₁.setTop (mkF m 0 #[.val (.ref w_SYMBOLIC)] []))
  refine OwnGo.fwd (fun tq' kq' => XS.aloadN X0.here hx rfl (hb hby d3_0) rfl rfl kq') ?_
  show OwnGo _ _ _ _ (s₁.setTop (mkF m 1 #[.val (.ref w_SYMBOLIC)] [(.ref w_SYMBOLIC)]))
  obtain ⟨cq1, kq1, q1a, q1b, q1c⟩ := isOf hZ e0 E_w_SYMBOLIC
  obtain ⟨_, _, ⟨T1, L1, k1, n1⟩, -, X1, ⟨Lc1, hQ1, l1, y1, z1⟩, st1⟩ := X0.virtualBackUp hx (x := (⟨"com/example/ctl_checker/ctlchecker/SmvExpression$Type", "ordinal", "()I"⟩ : MethodName)) (y := (⟨"java/lang/Enum", "ordinal", "()I"⟩ : MethodName)) (owner := "java/lang/Enum") hown (mvT hZ (hw _ (List.mem_of_getElem? (i := 24) rfl))) (mvT hZ (hw _ (List.mem_of_getElem? (i := 25) rfl))) (mvT hZ (hw _ (List.mem_of_getElem? (i := 26) rfl))) (by decide) (mvT hZ (hw _ (List.mem_of_getElem? (i := 28) rfl))) (mvT hZ (hw _ (List.mem_of_getElem? (i := 27) rfl))) (backOf (W := 0) (rm4 l Z a0 hw [] w_SYMBOLIC (2 : Int32) h0 n0 Zs O_SYMBOLIC) hZ (hw _ (List.mem_of_getElem? (i := 30) rfl)) (hw _ (List.mem_of_getElem? (i := 29) rfl)) (by decide) (by decide)) q1a q1c (g := (mkF m 1 #[.val (.ref w_SYMBOLIC)] [(.ref w_SYMBOLIC)])) rfl (by rw [hml]; rfl) (Steps.refl _) (argsL := []) (rest := []) (lenOf pd_3 rfl) rfl (by show 2 * 0 + _ ≤ _; exact Nat.le_of_eq rfl) (hb hby d3_1) (fun _ _ => ⟨rfl, e0, (by decide : 0 + 0 ≤ _), (by decide : 0 + 0 ≤ _)⟩)
  dsimp only [Pt.U, Pt.locs, Pt.cells, Pt.slots] at X1 l1 y1 z1 st1 hQ1
  subst l1 y1 z1
  obtain ⟨rfl, N1q, e1⟩ := hQ1
  have N := Fr.app N N1q
  refine OwnGo.thru st1 ?_
  show OwnGo _ _ _ _ (T1.setTop (mkF m 4 #[.val (.ref w_SYMBOLIC)] [(.int (2 : Int32))]))
  refine OwnGo.fwd (fun tq' kq' => XS.tswOut X1.here hx rfl (pc0 := 4) (pc' := 50) rfl (hb hby d3_4) rfl (by decide) (by decide) (by decide) kq') ?_
  show OwnGo _ _ _ _ (T1.setTop (mkF m 50 #[.val (.ref w_SYMBOLIC)] []))
  refine OwnGo.fwd (fun tq' kq' => XS.aloadN X1.here hx rfl (hb hby d3_50) rfl rfl kq') ?_
  show OwnGo _ _ _ _ (T1.setTop (mkF m 51 #[.val (.ref w_SYMBOLIC)] [(.ref w_SYMBOLIC)]))
  exact own_retA X1 hlk hx Bd.returns rfl rfl (hb hby d3_51) (by decide) (by decide) e1 ⟨rfl, N, rfl⟩
theorem ef_5SYMBOLIC (m : MethodId) (x0 : Addr) : entryFrame m #[(.ref x0)] 1 = mkF m 0 #[.val (.ref x0)] [] := by first | (simp [entryFrame, mkF, argsToLocals, Value.category, maxLocals]; done) | rfl
def Q5SYMBOLIC (Z : State) (w_CONDITION : Addr) (w_INTEGER : Addr) (w_SYMBOLIC : Addr) (w_CONDITION_SET : Addr) (w_INTEGER_SET : Addr) (w_SYMBOLIC_SET : Addr) (h0 : Heap) (n0 : Nat) (v : Option Value) (h : Heap) (L : List Loc) : Prop := v = some (.ref w_SYMBOLIC_SET) ∧ Fr n0 L ∧ h = h0
set_option maxRecDepth 65536 in
set_option maxHeartbeats 40000000 in
theorem rm5SYMBOLIC (l : Launch) (Z : State) (a0 : Array Value) (hw : ∀ d ∈ tables_1, d.before a0 Z = true) (ws : List Jvm.Cond) (w_CONDITION : Addr) (w_INTEGER : Addr) (w_SYMBOLIC : Addr) (w_CONDITION_SET : Addr) (w_INTEGER_SET : Addr) (w_SYMBOLIC_SET : Addr) (h0 : Heap) (n0 : Nat) (Z0 : n0 ≤ h0.size) (S_CONDITION : Sta Z h0 "com/example/ctl_checker/ctlchecker/SmvExpression$Type" "CONDITION" "Lcom/example/ctl_checker/ctlchecker/SmvExpression$Type;" (.ref w_CONDITION)) (E_w_CONDITION : Exa Z h0 w_CONDITION "com/example/ctl_checker/ctlchecker/SmvExpression$Type") (O_CONDITION : Fld Z h0 w_CONDITION "java/lang/Enum" "ordinal" "I" (.int 0)) (S_INTEGER : Sta Z h0 "com/example/ctl_checker/ctlchecker/SmvExpression$Type" "INTEGER" "Lcom/example/ctl_checker/ctlchecker/SmvExpression$Type;" (.ref w_INTEGER)) (E_w_INTEGER : Exa Z h0 w_INTEGER "com/example/ctl_checker/ctlchecker/SmvExpression$Type") (O_INTEGER : Fld Z h0 w_INTEGER "java/lang/Enum" "ordinal" "I" (.int 1)) (S_SYMBOLIC : Sta Z h0 "com/example/ctl_checker/ctlchecker/SmvExpression$Type" "SYMBOLIC" "Lcom/example/ctl_checker/ctlchecker/SmvExpression$Type;" (.ref w_SYMBOLIC)) (E_w_SYMBOLIC : Exa Z h0 w_SYMBOLIC "com/example/ctl_checker/ctlchecker/SmvExpression$Type") (O_SYMBOLIC : Fld Z h0 w_SYMBOLIC "java/lang/Enum" "ordinal" "I" (.int 2)) (S_CONDITION_SET : Sta Z h0 "com/example/ctl_checker/ctlchecker/SmvExpression$Type" "CONDITION_SET" "Lcom/example/ctl_checker/ctlchecker/SmvExpression$Type;" (.ref w_CONDITION_SET)) (E_w_CONDITION_SET : Exa Z h0 w_CONDITION_SET "com/example/ctl_checker/ctlchecker/SmvExpression$Type") (O_CONDITION_SET : Fld Z h0 w_CONDITION_SET "java/lang/Enum" "ordinal" "I" (.int 3)) (S_INTEGER_SET : Sta Z h0 "com/example/ctl_checker/ctlchecker/SmvExpression$Type" "INTEGER_SET" "Lcom/example/ctl_checker/ctlchecker/SmvExpression$Type;" (.ref w_INTEGER_SET)) (E_w_INTEGER_SET : Exa Z h0 w_INTEGER_SET "com/example/ctl_checker/ctlchecker/SmvExpression$Type") (O_INTEGER_SET : Fld Z h0 w_INTEGER_SET "java/lang/Enum" "ordinal" "I" (.int 4)) (S_SYMBOLIC_SET : Sta Z h0 "com/example/ctl_checker/ctlchecker/SmvExpression$Type" "SYMBOLIC_SET" "Lcom/example/ctl_checker/ctlchecker/SmvExpression$Type;" (.ref w_SYMBOLIC_SET)) (E_w_SYMBOLIC_SET : Exa Z h0 w_SYMBOLIC_SET "com/example/ctl_checker/ctlchecker/SmvExpression$Type") (O_SYMBOLIC_SET : Fld Z h0 w_SYMBOLIC_SET "java/lang/Enum" "ordinal" "I" (.int 5)) :
    MetFree l (⟨"com/example/ctl_checker/ctlchecker/SmvExpression$Type", "set", "()Lcom/example/ctl_checker/ctlchecker/SmvExpression$Type;"⟩ : MethodName) (head1 (Jvm.Cond.code (⟨"com/example/ctl_checker/ctlchecker/SmvExpression$Type", "set", "()Lcom/example/ctl_checker/ctlchecker/SmvExpression$Type;"⟩ : MethodName) prog_62_method_6_code 1 (some (.object "com/example/ctl_checker/ctlchecker/SmvExpression$Type")) :: ws) ({ frames := 1, cells := 0, slots := 0, locals := 13 } : Room)) (fun arr' U => arr' = #[(.ref w_SYMBOLIC)] ∧ Z.Warmed39 U.vm ∧ U.heap = h0) (fun _ _ _ _ _ => True) (fun _ U o U' => ∃ v L, o = .returned v ∧ (Q5SYMBOLIC Z w_CONDITION w_INTEGER w_SYMBOLIC w_CONDITION_SET w_INTEGER_SET w_SYMBOLIC_SET h0 n0) v U'.heap L ∧ FrameEnd U o U' L ({ frames := 1, cells := 0, slots := 0, locals := 13 } : Room).cells ({ frames := 1, cells := 0, slots := 0, locals := 13 } : Room).slots) := by
  refine MetFree.of_bodySF (plainFor_of_name pn_5) hisR ?_
  intro p e s m args below meth c s₁ Bd hml0 hP hK
  obtain ⟨rfl, hZ, hh⟩ := hP
  have hx := Bd.exec
  have hby := Bd.bytes
  have hlk : meth.locks = false := BodyLoose.notSynchronized Bd
  have hml : c.maxLocals = 1 := hml0
  have hown : s.vm.findClass "com/example/ctl_checker/ctlchecker/SmvExpression$Type" = some m.cls := findClass_of_methodNamed Bd.named
  have hnm := (name_of_methodNamed Bd.named Bd.method).1
  have X0 : Stand p l e ({ frames := 1, cells := 0, slots := 0, locals := 13 } : Room) s m #[(.ref w_SYMBOLIC)] below meth c s₁ [] 0 0 := Stand.of_body Bd
  have e0 : s₁.heap = h0 := by rw [← hh, Bd.state]; rfl
  have N := Fr.nil n0
  have Zs := Z0
  change OwnGo p.tables e below (OwnEnd s (Q5SYMBOLIC Z w_CONDITION w_INTEGER w_SYMBOLIC w_CONDITION_SET w_INTEGER_SET w_SYMBOLIC_SET h0 n0) ({ frames := 1, cells := 0, slots := 0, locals := 13 } : Room).cells ({ frames := 1, cells := 0, slots := 0, locals := 13 } : Room).slots) _
  refine OwnGo.fwd (fun tq' kq' => castTop (ef_5SYMBOLIC m w_SYMBOLIC) kq') ?_
  show OwnGo _ _ _ _ (s₁.setTop (mkF m 0 #[.val (.ref w_SYMBOLIC)] []))
  refine OwnGo.fwd (fun tq' kq' => XS.aloadN X0.here hx rfl (hb hby d5_0) rfl rfl kq') ?_
  show OwnGo _ _ _ _ (s₁.setTop (mkF m 1 #[.val (.ref w_SYMBOLIC)] [(.ref w_SYMBOLIC)]))
  obtain ⟨cq1, kq1, q1a, q1b, q1c⟩ := isOf hZ e0 E_w_SYMBOLIC
  obtain ⟨_, _, ⟨T1, L1, k1, n1⟩, -, X1, ⟨Lc1, hQ1, l1, y1, z1⟩, st1⟩ := X0.virtualBackUp hx (x := (⟨"com/example/ctl_checker/ctlchecker/SmvExpression$Type", "ordinal", "()I"⟩ : MethodName)) (y := (⟨"java/lang/Enum", "ordinal", "()I"⟩ : MethodName)) (owner := "java/lang/Enum") hown (mvT hZ (hw _ (List.mem_of_getElem? (i := 24) rfl))) (mvT hZ (hw _ (List.mem_of_getElem? (i := 25) rfl))) (mvT hZ (hw _ (List.mem_of_getElem? (i := 26) rfl))) (by decide) (mvT hZ (hw _ (List.mem_of_getElem? (i := 28) rfl))) (mvT hZ (hw _ (List.mem_of_getElem? (i := 27) rfl))) (backOf (W := 0) (rm4 l Z a0 hw [] w_SYMBOLIC (2 : Int32) h0 n0 Zs O_SYMBOLIC) hZ (hw _ (List.mem_of_getElem? (i := 30) rfl)) (hw _ (List.mem_of_getElem? (i := 29) rfl)) (by decide) (by decide)) q1a q1c (g := (mkF m 1 #[.val (.ref w_SYMBOLIC)] [(.ref w_SYMBOLIC)])) rfl (by rw [hml]; rfl) (Steps.refl _) (argsL := []) (rest := []) (lenOf pd_3 rfl) rfl (by show 2 * 0 + _ ≤ _; exact Nat.le_of_eq rfl) (hb hby d5_1) (fun _ _ => ⟨rfl, e0, (by decide : 0 + 0 ≤ _), (by decide : 0 + 0 ≤ _)⟩)
  dsimp only [Pt.U, Pt.locs, Pt.cells, Pt.slots] at X1 l1 y1 z1 st1 hQ1
  subst l1 y1 z1
  obtain ⟨rfl, N1q, e1⟩ := hQ1
  have N := Fr.app N N1q
  refine OwnGo.thru st1 ?_
  show OwnGo _ _ _ _ (T1.setTop (mkF m 4 #[.val (.ref w_SYMBOLIC)] [(.int (2 : Int32))]))
  refine OwnGo.fwd (fun tq' kq' => XS.tswIn X1.here hx rfl (pc0 := 4) (pc' := 44) (o := 40) rfl (hb hby d5_4) rfl (by decide) (by decide) (by decide) (by decide) kq') ?_
  show OwnGo _ _ _ _ (T1.setTop (mkF m 44 #[.val (.ref w_SYMBOLIC)] []))
  obtain ⟨T2, X2, e2, st2⟩ := getS2 X1 hx hZ hown (host := "") (Or.inl (hw _ (List.mem_of_getElem? (i := 17) rfl))) Via.refl e1 S_SYMBOLIC_SET (g := (mkF m 44 #[.val (.ref w_SYMBOLIC)] [])) rfl (hb hby d5_44)
  refine OwnGo.fwd st2 ?_
  show OwnGo _ _ _ _ (T2.setTop (mkF m 47 #[.val (.ref w_SYMBOLIC)] [(.ref w_SYMBOLIC_SET)]))
  refine OwnGo.fwd (fun tq' kq' => XS.goto X2.here hx rfl (pc0 := 47) (pc' := 51) rfl (hb hby d5_47) (by decide) (by decide) kq') ?_
  show OwnGo _ _ _ _ (T2.setTop (mkF m 51 #[.val (.ref w_SYMBOLIC)] [(.ref w_SYMBOLIC_SET)]))
  exact own_retA X2 hlk hx Bd.returns rfl rfl (hb hby d5_51) (by decide) (by decide) e2 ⟨rfl, N, rfl⟩
theorem ef_1CONDITION_SET (m : MethodId) (x0 : Int32) : entryFrame m #[(.int x0)] 1 = mkF m 0 #[.val (.int x0)] [] := by first | (simp [entryFrame, mkF, argsToLocals, Value.category, maxLocals]; done) | rfl
def Q1CONDITION_SET (Z : State) (w_CONDITION : Addr) (w_INTEGER : Addr) (w_SYMBOLIC : Addr) (w_CONDITION_SET : Addr) (w_INTEGER_SET : Addr) (w_SYMBOLIC_SET : Addr) (h0 : Heap) (n0 : Nat) (v : Option Value) (h : Heap) (L : List Loc) : Prop := v = some (.ref w_CONDITION_SET) ∧ Fr n0 L ∧ h = h0
set_option maxRecDepth 65536 in
set_option maxHeartbeats 40000000 in
theorem rm1CONDITION_SET (l : Launch) (Z : State) (a0 : Array Value) (hw : ∀ d ∈ tables_1, d.before a0 Z = true) (ws : List Jvm.Cond) (w_CONDITION : Addr) (w_INTEGER : Addr) (w_SYMBOLIC : Addr) (w_CONDITION_SET : Addr) (w_INTEGER_SET : Addr) (w_SYMBOLIC_SET : Addr) (h0 : Heap) (n0 : Nat) (Z0 : n0 ≤ h0.size) (S_CONDITION : Sta Z h0 "com/example/ctl_checker/ctlchecker/SmvExpression$Type" "CONDITION" "Lcom/example/ctl_checker/ctlchecker/SmvExpression$Type;" (.ref w_CONDITION)) (E_w_CONDITION : Exa Z h0 w_CONDITION "com/example/ctl_checker/ctlchecker/SmvExpression$Type") (O_CONDITION : Fld Z h0 w_CONDITION "java/lang/Enum" "ordinal" "I" (.int 0)) (S_INTEGER : Sta Z h0 "com/example/ctl_checker/ctlchecker/SmvExpression$Type" "INTEGER" "Lcom/example/ctl_checker/ctlchecker/SmvExpression$Type;" (.ref w_INTEGER)) (E_w_INTEGER : Exa Z h0 w_INTEGER "com/example/ctl_checker/ctlchecker/SmvExpression$Type") (O_INTEGER : Fld Z h0 w_INTEGER "java/lang/Enum" "ordinal" "I" (.int 1)) (S_SYMBOLIC : Sta Z h0 "com/example/ctl_checker/ctlchecker/SmvExpression$Type" "SYMBOLIC" "Lcom/example/ctl_checker/ctlchecker/SmvExpression$Type;" (.ref w_SYMBOLIC)) (E_w_SYMBOLIC : Exa Z h0 w_SYMBOLIC "com/example/ctl_checker/ctlchecker/SmvExpression$Type") (O_SYMBOLIC : Fld Z h0 w_SYMBOLIC "java/lang/Enum" "ordinal" "I" (.int 2)) (S_CONDITION_SET : Sta Z h0 "com/example/ctl_checker/ctlchecker/SmvExpression$Type" "CONDITION_SET" "Lcom/example/ctl_checker/ctlchecker/SmvExpression$Type;" (.ref w_CONDITION_SET)) (E_w_CONDITION_SET : Exa Z h0 w_CONDITION_SET "com/example/ctl_checker/ctlchecker/SmvExpression$Type") (O_CONDITION_SET : Fld Z h0 w_CONDITION_SET "java/lang/Enum" "ordinal" "I" (.int 3)) (S_INTEGER_SET : Sta Z h0 "com/example/ctl_checker/ctlchecker/SmvExpression$Type" "INTEGER_SET" "Lcom/example/ctl_checker/ctlchecker/SmvExpression$Type;" (.ref w_INTEGER_SET)) (E_w_INTEGER_SET : Exa Z h0 w_INTEGER_SET "com/example/ctl_checker/ctlchecker/SmvExpression$Type") (O_INTEGER_SET : Fld Z h0 w_INTEGER_SET "java/lang/Enum" "ordinal" "I" (.int 4)) (S_SYMBOLIC_SET : Sta Z h0 "com/example/ctl_checker/ctlchecker/SmvExpression$Type" "SYMBOLIC_SET" "Lcom/example/ctl_checker/ctlchecker/SmvExpression$Type;" (.ref w_SYMBOLIC_SET)) (E_w_SYMBOLIC_SET : Exa Z h0 w_SYMBOLIC_SET "com/example/ctl_checker/ctlchecker/SmvExpression$Type") (O_SYMBOLIC_SET : Fld Z h0 w_SYMBOLIC_SET "java/lang/Enum" "ordinal" "I" (.int 5)) :
    MetFree l (⟨"com/example/ctl_checker/ctlchecker/TypeIsSetPinLaw", "pick", "(I)Lcom/example/ctl_checker/ctlchecker/SmvExpression$Type;"⟩ : MethodName) (head1 (Jvm.Cond.code (⟨"com/example/ctl_checker/ctlchecker/TypeIsSetPinLaw", "pick", "(I)Lcom/example/ctl_checker/ctlchecker/SmvExpression$Type;"⟩ : MethodName) method_2_code 1 (some (.object "com/example/ctl_checker/ctlchecker/SmvExpression$Type")) :: ws) ({ frames := 0, cells := 0, slots := 0, locals := 0 } : Room)) (fun arr' U => arr' = #[(.int (3 : Int32))] ∧ Z.Warmed39 U.vm ∧ U.heap = h0) (fun _ _ _ _ _ => True) (fun _ U o U' => ∃ v L, o = .returned v ∧ (Q1CONDITION_SET Z w_CONDITION w_INTEGER w_SYMBOLIC w_CONDITION_SET w_INTEGER_SET w_SYMBOLIC_SET h0 n0) v U'.heap L ∧ FrameEnd U o U' L ({ frames := 0, cells := 0, slots := 0, locals := 0 } : Room).cells ({ frames := 0, cells := 0, slots := 0, locals := 0 } : Room).slots) := by
  refine MetFree.of_bodySF (plainFor_of_name pn_1) hisR ?_
  intro p e s m args below meth c s₁ Bd hml0 hP hK
  obtain ⟨rfl, hZ, hh⟩ := hP
  have hx := Bd.exec
  have hby := Bd.bytes
  have hlk : meth.locks = false := BodyLoose.notSynchronized Bd
  have hml : c.maxLocals = 1 := hml0
  have hown : s.vm.findClass "com/example/ctl_checker/ctlchecker/TypeIsSetPinLaw" = some m.cls := findClass_of_methodNamed Bd.named
  have hnm := (name_of_methodNamed Bd.named Bd.method).1
  have X0 : Stand p l e ({ frames := 0, cells := 0, slots := 0, locals := 0 } : Room) s m #[(.int (3 : Int32))] below meth c s₁ [] 0 0 := Stand.of_body Bd
  have e0 : s₁.heap = h0 := by rw [← hh, Bd.state]; rfl
  have N := Fr.nil n0
  have Zs := Z0
  change OwnGo p.tables e below (OwnEnd s (Q1CONDITION_SET Z w_CONDITION w_INTEGER w_SYMBOLIC w_CONDITION_SET w_INTEGER_SET w_SYMBOLIC_SET h0 n0) ({ frames := 0, cells := 0, slots := 0, locals := 0 } : Room).cells ({ frames := 0, cells := 0, slots := 0, locals := 0 } : Room).slots) _
  refine OwnGo.fwd (fun tq' kq' => castTop (ef_1CONDITION_SET m (3 : Int32)) kq') ?_
  show OwnGo _ _ _ _ (s₁.setTop (mkF m 0 #[.val (.int (3 : Int32))] []))
  refine OwnGo.fwd (fun tq' kq' => XS.iloadN X0.here hx rfl (hb hby d1_0) rfl kq') ?_
  show OwnGo _ _ _ _ (s₁.setTop (mkF m 1 #[.val (.int (3 : Int32))] [(.int (3 : Int32))]))
  have hc1_1 : ¬ ((3 : Int) = (0 : Int)) := by decide
  refine OwnGo.fwd (fun tq' kq' => XS.ifYes X0.here hx rfl (pc0 := 1) (pc' := 8) rfl (hb hby d1_1) rfl ((if0 _ _).trans (own_bneq (by decide) (by decide) hc1_1).2) (by decide) (by decide) kq') ?_
  show OwnGo _ _ _ _ (s₁.setTop (mkF m 8 #[.val (.int (3 : Int32))] []))
  refine OwnGo.fwd (fun tq' kq' => XS.iloadN X0.here hx rfl (hb hby d1_8) rfl kq') ?_
  show OwnGo _ _ _ _ (s₁.setTop (mkF m 9 #[.val (.int (3 : Int32))] [(.int (3 : Int32))]))
  refine OwnGo.fwd (fun tq' kq' => XS.iconst X0.here hx rfl (hb hby d1_9) kq') ?_
  show OwnGo _ _ _ _ (s₁.setTop (mkF m 10 #[.val (.int (3 : Int32))] [(.int (1 : Int32)), (.int (3 : Int32))]))
  have hc10_2 : ¬ ((3 : Int) = (1 : Int)) := by decide
  refine OwnGo.fwd (fun tq' kq' => XS.icmpYes X0.here hx rfl (pc0 := 10) (pc' := 17) rfl (hb hby d1_10) rfl (own_bneq (by decide) (by decide) hc10_2).2 (by decide) (by decide) kq') ?_
  show OwnGo _ _ _ _ (s₁.setTop (mkF m 17 #[.val (.int (3 : Int32))] []))
  refine OwnGo.fwd (fun tq' kq' => XS.iloadN X0.here hx rfl (hb hby d1_17) rfl kq') ?_
  show OwnGo _ _ _ _ (s₁.setTop (mkF m 18 #[.val (.int (3 : Int32))] [(.int (3 : Int32))]))
  refine OwnGo.fwd (fun tq' kq' => XS.iconst X0.here hx rfl (hb hby d1_18) kq') ?_
  show OwnGo _ _ _ _ (s₁.setTop (mkF m 19 #[.val (.int (3 : Int32))] [(.int (2 : Int32)), (.int (3 : Int32))]))
  have hc19_3 : ¬ ((3 : Int) = (2 : Int)) := by decide
  refine OwnGo.fwd (fun tq' kq' => XS.icmpYes X0.here hx rfl (pc0 := 19) (pc' := 26) rfl (hb hby d1_19) rfl (own_bneq (by decide) (by decide) hc19_3).2 (by decide) (by decide) kq') ?_
  show OwnGo _ _ _ _ (s₁.setTop (mkF m 26 #[.val (.int (3 : Int32))] []))
  refine OwnGo.fwd (fun tq' kq' => XS.iloadN X0.here hx rfl (hb hby d1_26) rfl kq') ?_
  show OwnGo _ _ _ _ (s₁.setTop (mkF m 27 #[.val (.int (3 : Int32))] [(.int (3 : Int32))]))
  refine OwnGo.fwd (fun tq' kq' => XS.iconst X0.here hx rfl (hb hby d1_27) kq') ?_
  show OwnGo _ _ _ _ (s₁.setTop (mkF m 28 #[.val (.int (3 : Int32))] [(.int (3 : Int32)), (.int (3 : Int32))]))
  have hc28_4 : (3 : Int) = (3 : Int) := rfl
  refine OwnGo.fwd (fun tq' kq' => XS.icmpNo X0.here hx rfl (hb hby d1_28) rfl (own_beq (by decide) (by decide) hc28_4).2 kq') ?_
  show OwnGo _ _ _ _ (s₁.setTop (mkF m 31 #[.val (.int (3 : Int32))] []))
  obtain ⟨T5, X5, e5, st5⟩ := getS2 X0 hx hZ hown (host := "") (Or.inl (hw _ (List.mem_of_getElem? (i := 38) rfl))) Via.refl e0 S_CONDITION_SET (g := (mkF m 31 #[.val (.int (3 : Int32))] [])) rfl (hb hby d1_31)
  refine OwnGo.fwd st5 ?_
  show OwnGo _ _ _ _ (T5.setTop (mkF m 34 #[.val (.int (3 : Int32))] [(.ref w_CONDITION_SET)]))
  exact own_retA X5 hlk hx Bd.returns rfl rfl (hb hby d1_34) (by decide) (by decide) e5 ⟨rfl, N, rfl⟩
theorem ef_2CONDITION_SET (m : MethodId) (x0 : Addr) : entryFrame m #[(.ref x0)] 1 = mkF m 0 #[.val (.ref x0)] [] := by first | (simp [entryFrame, mkF, argsToLocals, Value.category, maxLocals]; done) | rfl
def Q2CONDITION_SET (Z : State) (w_CONDITION : Addr) (w_INTEGER : Addr) (w_SYMBOLIC : Addr) (w_CONDITION_SET : Addr) (w_INTEGER_SET : Addr) (w_SYMBOLIC_SET : Addr) (h0 : Heap) (n0 : Nat) (v : Option Value) (h : Heap) (L : List Loc) : Prop := v = some (.int 1) ∧ Fr n0 L ∧ h = h0
set_option maxRecDepth 65536 in
set_option maxHeartbeats 40000000 in
theorem rm2CONDITION_SET (l : Launch) (Z : State) (a0 : Array Value) (hw : ∀ d ∈ tables_1, d.before a0 Z = true) (ws : List Jvm.Cond) (w_CONDITION : Addr) (w_INTEGER : Addr) (w_SYMBOLIC : Addr) (w_CONDITION_SET : Addr) (w_INTEGER_SET : Addr) (w_SYMBOLIC_SET : Addr) (h0 : Heap) (n0 : Nat) (Z0 : n0 ≤ h0.size) (S_CONDITION : Sta Z h0 "com/example/ctl_checker/ctlchecker/SmvExpression$Type" "CONDITION" "Lcom/example/ctl_checker/ctlchecker/SmvExpression$Type;" (.ref w_CONDITION)) (E_w_CONDITION : Exa Z h0 w_CONDITION "com/example/ctl_checker/ctlchecker/SmvExpression$Type") (O_CONDITION : Fld Z h0 w_CONDITION "java/lang/Enum" "ordinal" "I" (.int 0)) (S_INTEGER : Sta Z h0 "com/example/ctl_checker/ctlchecker/SmvExpression$Type" "INTEGER" "Lcom/example/ctl_checker/ctlchecker/SmvExpression$Type;" (.ref w_INTEGER)) (E_w_INTEGER : Exa Z h0 w_INTEGER "com/example/ctl_checker/ctlchecker/SmvExpression$Type") (O_INTEGER : Fld Z h0 w_INTEGER "java/lang/Enum" "ordinal" "I" (.int 1)) (S_SYMBOLIC : Sta Z h0 "com/example/ctl_checker/ctlchecker/SmvExpression$Type" "SYMBOLIC" "Lcom/example/ctl_checker/ctlchecker/SmvExpression$Type;" (.ref w_SYMBOLIC)) (E_w_SYMBOLIC : Exa Z h0 w_SYMBOLIC "com/example/ctl_checker/ctlchecker/SmvExpression$Type") (O_SYMBOLIC : Fld Z h0 w_SYMBOLIC "java/lang/Enum" "ordinal" "I" (.int 2)) (S_CONDITION_SET : Sta Z h0 "com/example/ctl_checker/ctlchecker/SmvExpression$Type" "CONDITION_SET" "Lcom/example/ctl_checker/ctlchecker/SmvExpression$Type;" (.ref w_CONDITION_SET)) (E_w_CONDITION_SET : Exa Z h0 w_CONDITION_SET "com/example/ctl_checker/ctlchecker/SmvExpression$Type") (O_CONDITION_SET : Fld Z h0 w_CONDITION_SET "java/lang/Enum" "ordinal" "I" (.int 3)) (S_INTEGER_SET : Sta Z h0 "com/example/ctl_checker/ctlchecker/SmvExpression$Type" "INTEGER_SET" "Lcom/example/ctl_checker/ctlchecker/SmvExpression$Type;" (.ref w_INTEGER_SET)) (E_w_INTEGER_SET : Exa Z h0 w_INTEGER_SET "com/example/ctl_checker/ctlchecker/SmvExpression$Type") (O_INTEGER_SET : Fld Z h0 w_INTEGER_SET "java/lang/Enum" "ordinal" "I" (.int 4)) (S_SYMBOLIC_SET : Sta Z h0 "com/example/ctl_checker/ctlchecker/SmvExpression$Type" "SYMBOLIC_SET" "Lcom/example/ctl_checker/ctlchecker/SmvExpression$Type;" (.ref w_SYMBOLIC_SET)) (E_w_SYMBOLIC_SET : Exa Z h0 w_SYMBOLIC_SET "com/example/ctl_checker/ctlchecker/SmvExpression$Type") (O_SYMBOLIC_SET : Fld Z h0 w_SYMBOLIC_SET "java/lang/Enum" "ordinal" "I" (.int 5)) :
    MetFree l (⟨"com/example/ctl_checker/ctlchecker/SmvExpression$Type", "isSet", "()Z"⟩ : MethodName) (head1 (Jvm.Cond.code (⟨"com/example/ctl_checker/ctlchecker/SmvExpression$Type", "isSet", "()Z"⟩ : MethodName) prog_62_method_4_code 1 (some .boolean) :: ws) ({ frames := 0, cells := 0, slots := 0, locals := 0 } : Room)) (fun arr' U => arr' = #[(.ref w_CONDITION_SET)] ∧ Z.Warmed39 U.vm ∧ U.heap = h0) (fun _ _ _ _ _ => True) (fun _ U o U' => ∃ v L, o = .returned v ∧ (Q2CONDITION_SET Z w_CONDITION w_INTEGER w_SYMBOLIC w_CONDITION_SET w_INTEGER_SET w_SYMBOLIC_SET h0 n0) v U'.heap L ∧ FrameEnd U o U' L ({ frames := 0, cells := 0, slots := 0, locals := 0 } : Room).cells ({ frames := 0, cells := 0, slots := 0, locals := 0 } : Room).slots) := by
  refine MetFree.of_bodySF (plainFor_of_name pn_2) hisR ?_
  intro p e s m args below meth c s₁ Bd hml0 hP hK
  obtain ⟨rfl, hZ, hh⟩ := hP
  have hx := Bd.exec
  have hby := Bd.bytes
  have hlk : meth.locks = false := BodyLoose.notSynchronized Bd
  have hml : c.maxLocals = 1 := hml0
  have hown : s.vm.findClass "com/example/ctl_checker/ctlchecker/SmvExpression$Type" = some m.cls := findClass_of_methodNamed Bd.named
  have hnm := (name_of_methodNamed Bd.named Bd.method).1
  have X0 : Stand p l e ({ frames := 0, cells := 0, slots := 0, locals := 0 } : Room) s m #[(.ref w_CONDITION_SET)] below meth c s₁ [] 0 0 := Stand.of_body Bd
  have e0 : s₁.heap = h0 := by rw [← hh, Bd.state]; rfl
  have N := Fr.nil n0
  have Zs := Z0
  change OwnGo p.tables e below (OwnEnd s (Q2CONDITION_SET Z w_CONDITION w_INTEGER w_SYMBOLIC w_CONDITION_SET w_INTEGER_SET w_SYMBOLIC_SET h0 n0) ({ frames := 0, cells := 0, slots := 0, locals := 0 } : Room).cells ({ frames := 0, cells := 0, slots := 0, locals := 0 } : Room).slots) _
  refine OwnGo.fwd (fun tq' kq' => castTop (ef_2CONDITION_SET m w_CONDITION_SET) kq') ?_
  show OwnGo _ _ _ _ (s₁.setTop (mkF m 0 #[.val (.ref w_CONDITION_SET)] []))
  have ne_CONDITION_INTEGER : w_CONDITION ≠ w_INTEGER := Fld.ne O_CONDITION O_INTEGER (by decide)
  have ne_CONDITION_SYMBOLIC : w_CONDITION ≠ w_SYMBOLIC := Fld.ne O_CONDITION O_SYMBOLIC (by decide)
  have ne_CONDITION_CONDITION_SET : w_CONDITION ≠ w_CONDITION_SET := Fld.ne O_CONDITION O_CONDITION_SET (by decide)
  have ne_CONDITION_INTEGER_SET : w_CONDITION ≠ w_INTEGER_SET := Fld.ne O_CONDITION O_INTEGER_SET (by decide)
  have ne_CONDITION_SYMBOLIC_SET : w_CONDITION ≠ w_SYMBOLIC_SET := Fld.ne O_CONDITION O_SYMBOLIC_SET (by decide)
  have ne_INTEGER_SYMBOLIC : w_INTEGER ≠ w_SYMBOLIC := Fld.ne O_INTEGER O_SYMBOLIC (by decide)
  have ne_INTEGER_CONDITION_SET : w_INTEGER ≠ w_CONDITION_SET := Fld.ne O_INTEGER O_CONDITION_SET (by decide)
  have ne_INTEGER_INTEGER_SET : w_INTEGER ≠ w_INTEGER_SET := Fld.ne O_INTEGER O_INTEGER_SET (by decide)
  have ne_INTEGER_SYMBOLIC_SET : w_INTEGER ≠ w_SYMBOLIC_SET := Fld.ne O_INTEGER O_SYMBOLIC_SET (by decide)
  have ne_SYMBOLIC_CONDITION_SET : w_SYMBOLIC ≠ w_CONDITION_SET := Fld.ne O_SYMBOLIC O_CONDITION_SET (by decide)
  have ne_SYMBOLIC_INTEGER_SET : w_SYMBOLIC ≠ w_INTEGER_SET := Fld.ne O_SYMBOLIC O_INTEGER_SET (by decide)
  have ne_SYMBOLIC_SYMBOLIC_SET : w_SYMBOLIC ≠ w_SYMBOLIC_SET := Fld.ne O_SYMBOLIC O_SYMBOLIC_SET (by decide)
  have ne_CONDITION_SET_INTEGER_SET : w_CONDITION_SET ≠ w_INTEGER_SET := Fld.ne O_CONDITION_SET O_INTEGER_SET (by decide)
  have ne_CONDITION_SET_SYMBOLIC_SET : w_CONDITION_SET ≠ w_SYMBOLIC_SET := Fld.ne O_CONDITION_SET O_SYMBOLIC_SET (by decide)
  have ne_INTEGER_SET_SYMBOLIC_SET : w_INTEGER_SET ≠ w_SYMBOLIC_SET := Fld.ne O_INTEGER_SET O_SYMBOLIC_SET (by decide)
  refine OwnGo.fwd (fun tq' kq' => XS.aloadN X0.here hx rfl (hb hby d2_0) rfl rfl kq') ?_
  show OwnGo _ _ _ _ (s₁.setTop (mkF m 1 #[.val (.ref w_CONDITION_SET)] [(.ref w_CONDITION_SET)]))
  obtain ⟨T1, X1, e1, st1⟩ := getS2 X0 hx hZ hown (host := "") (Or.inl (hw _ (List.mem_of_getElem? (i := 13) rfl))) Via.refl e0 S_CONDITION_SET (g := (mkF m 1 #[.val (.ref w_CONDITION_SET)] [(.ref w_CONDITION_SET)])) rfl (hb hby d2_1)
  refine OwnGo.fwd st1 ?_
  show OwnGo _ _ _ _ (T1.setTop (mkF m 4 #[.val (.ref w_CONDITION_SET)] [(.ref w_CONDITION_SET), (.ref w_CONDITION_SET)]))
  refine OwnGo.fwd (fun tq' kq' => Jvm.RoadKit.acmp (g := (mkF m 4 #[.val (.ref w_CONDITION_SET)] [(.ref w_CONDITION_SET), (.ref w_CONDITION_SET)])) X1 hx rfl rfl rfl (pc0 := 4) (pc' := 21) (same := true) rfl (hb hby d2_4) rfl (decide_eq_true rfl) (by decide) (by decide) kq') ?_
  show OwnGo _ _ _ _ (T1.setTop (mkF m 21 #[.val (.ref w_CONDITION_SET)] []))
  refine OwnGo.fwd (fun tq' kq' => XS.iconst X1.here hx rfl (hb hby d2_21) kq') ?_
  show OwnGo _ _ _ _ (T1.setTop (mkF m 22 #[.val (.ref w_CONDITION_SET)] [(.int (1 : Int32))]))
  refine OwnGo.fwd (fun tq' kq' => XS.goto X1.here hx rfl (pc0 := 22) (pc' := 26) rfl (hb hby d2_22) (by decide) (by decide) kq') ?_
  show OwnGo _ _ _ _ (T1.setTop (mkF m 26 #[.val (.ref w_CONDITION_SET)] [(.int (1 : Int32))]))
  exact own_retZ X1 hlk hx Bd.returns (hb hby d2_26) (by decide) (by decide) e1 ⟨rfl, N, rfl⟩
theorem ef_3CONDITION_SET (m : MethodId) (x0 : Addr) : entryFrame m #[(.ref x0)] 1 = mkF m 0 #[.val (.ref x0)] [] := by first | (simp [entryFrame, mkF, argsToLocals, Value.category, maxLocals]; done) | rfl
def Q3CONDITION_SET (Z : State) (w_CONDITION : Addr) (w_INTEGER : Addr) (w_SYMBOLIC : Addr) (w_CONDITION_SET : Addr) (w_INTEGER_SET : Addr) (w_SYMBOLIC_SET : Addr) (h0 : Heap) (n0 : Nat) (v : Option Value) (h : Heap) (L : List Loc) : Prop := v = some (.ref w_CONDITION) ∧ Fr n0 L ∧ h = h0
set_option maxRecDepth 65536 in
set_option maxHeartbeats 40000000 in
theorem rm3CONDITION_SET (l : Launch) (Z : State) (a0 : Array Value) (hw : ∀ d ∈ tables_1, d.before a0 Z = true) (ws : List Jvm.Cond) (w_CONDITION : Addr) (w_INTEGER : Addr) (w_SYMBOLIC : Addr) (w_CONDITION_SET : Addr) (w_INTEGER_SET : Addr) (w_SYMBOLIC_SET : Addr) (h0 : Heap) (n0 : Nat) (Z0 : n0 ≤ h0.size) (S_CONDITION : Sta Z h0 "com/example/ctl_checker/ctlchecker/SmvExpression$Type" "CONDITION" "Lcom/example/ctl_checker/ctlchecker/SmvExpression$Type;" (.ref w_CONDITION)) (E_w_CONDITION : Exa Z h0 w_CONDITION "com/example/ctl_checker/ctlchecker/SmvExpression$Type") (O_CONDITION : Fld Z h0 w_CONDITION "java/lang/Enum" "ordinal" "I" (.int 0)) (S_INTEGER : Sta Z h0 "com/example/ctl_checker/ctlchecker/SmvExpression$Type" "INTEGER" "Lcom/example/ctl_checker/ctlchecker/SmvExpression$Type;" (.ref w_INTEGER)) (E_w_INTEGER : Exa Z h0 w_INTEGER "com/example/ctl_checker/ctlchecker/SmvExpression$Type") (O_INTEGER : Fld Z h0 w_INTEGER "java/lang/Enum" "ordinal" "I" (.int 1)) (S_SYMBOLIC : Sta Z h0 "com/example/ctl_checker/ctlchecker/SmvExpression$Type" "SYMBOLIC" "Lcom/example/ctl_checker/ctlchecker/SmvExpression$Type;" (.ref w_SYMBOLIC)) (E_w_SYMBOLIC : Exa Z h0 w_SYMBOLIC "com/example/ctl_checker/ctlchecker/SmvExpression$Type") (O_SYMBOLIC : Fld Z h0 w_SYMBOLIC "java/lang/Enum" "ordinal" "I" (.int 2)) (S_CONDITION_SET : Sta Z h0 "com/example/ctl_checker/ctlchecker/SmvExpression$Type" "CONDITION_SET" "Lcom/example/ctl_checker/ctlchecker/SmvExpression$Type;" (.ref w_CONDITION_SET)) (E_w_CONDITION_SET : Exa Z h0 w_CONDITION_SET "com/example/ctl_checker/ctlchecker/SmvExpression$Type") (O_CONDITION_SET : Fld Z h0 w_CONDITION_SET "java/lang/Enum" "ordinal" "I" (.int 3)) (S_INTEGER_SET : Sta Z h0 "com/example/ctl_checker/ctlchecker/SmvExpression$Type" "INTEGER_SET" "Lcom/example/ctl_checker/ctlchecker/SmvExpression$Type;" (.ref w_INTEGER_SET)) (E_w_INTEGER_SET : Exa Z h0 w_INTEGER_SET "com/example/ctl_checker/ctlchecker/SmvExpression$Type") (O_INTEGER_SET : Fld Z h0 w_INTEGER_SET "java/lang/Enum" "ordinal" "I" (.int 4)) (S_SYMBOLIC_SET : Sta Z h0 "com/example/ctl_checker/ctlchecker/SmvExpression$Type" "SYMBOLIC_SET" "Lcom/example/ctl_checker/ctlchecker/SmvExpression$Type;" (.ref w_SYMBOLIC_SET)) (E_w_SYMBOLIC_SET : Exa Z h0 w_SYMBOLIC_SET "com/example/ctl_checker/ctlchecker/SmvExpression$Type") (O_SYMBOLIC_SET : Fld Z h0 w_SYMBOLIC_SET "java/lang/Enum" "ordinal" "I" (.int 5)) :
    MetFree l (⟨"com/example/ctl_checker/ctlchecker/SmvExpression$Type", "element", "()Lcom/example/ctl_checker/ctlchecker/SmvExpression$Type;"⟩ : MethodName) (head1 (Jvm.Cond.code (⟨"com/example/ctl_checker/ctlchecker/SmvExpression$Type", "element", "()Lcom/example/ctl_checker/ctlchecker/SmvExpression$Type;"⟩ : MethodName) prog_62_method_5_code 1 (some (.object "com/example/ctl_checker/ctlchecker/SmvExpression$Type")) :: ws) ({ frames := 1, cells := 0, slots := 0, locals := 13 } : Room)) (fun arr' U => arr' = #[(.ref w_CONDITION_SET)] ∧ Z.Warmed39 U.vm ∧ U.heap = h0) (fun _ _ _ _ _ => True) (fun _ U o U' => ∃ v L, o = .returned v ∧ (Q3CONDITION_SET Z w_CONDITION w_INTEGER w_SYMBOLIC w_CONDITION_SET w_INTEGER_SET w_SYMBOLIC_SET h0 n0) v U'.heap L ∧ FrameEnd U o U' L ({ frames := 1, cells := 0, slots := 0, locals := 13 } : Room).cells ({ frames := 1, cells := 0, slots := 0, locals := 13 } : Room).slots) := by
  refine MetFree.of_bodySF (plainFor_of_name pn_3) hisR ?_
  intro p e s m args below meth c s₁ Bd hml0 hP hK
  obtain ⟨rfl, hZ, hh⟩ := hP
  have hx := Bd.exec
  have hby := Bd.bytes
  have hlk : meth.locks = false := BodyLoose.notSynchronized Bd
  have hml : c.maxLocals = 1 := hml0
  have hown : s.vm.findClass "com/example/ctl_checker/ctlchecker/SmvExpression$Type" = some m.cls := findClass_of_methodNamed Bd.named
  have hnm := (name_of_methodNamed Bd.named Bd.method).1
  have X0 : Stand p l e ({ frames := 1, cells := 0, slots := 0, locals := 13 } : Room) s m #[(.ref w_CONDITION_SET)] below meth c s₁ [] 0 0 := Stand.of_body Bd
  have e0 : s₁.heap = h0 := by rw [← hh, Bd.state]; rfl
  have N := Fr.nil n0
  have Zs := Z0
  change OwnGo p.tables e below (OwnEnd s (Q3CONDITION_SET Z w_CONDITION w_INTEGER w_SYMBOLIC w_CONDITION_SET w_INTEGER_SET w_SYMBOLIC_SET h0 n0) ({ frames := 1, cells := 0, slots := 0, locals := 13 } : Room).cells ({ frames := 1, cells := 0, slots := 0, locals := 13 } : Room).slots) _
  refine OwnGo.fwd (fun tq' kq' => castTop (ef_3CONDITION_SET m w_CONDITION_SET) kq') ?_
  show OwnGo _ _ _ _ (s₁.setTop (mkF m 0 #[.val (.ref w_CONDITION_SET)] []))
  refine OwnGo.fwd (fun tq' kq' => XS.aloadN X0.here hx rfl (hb hby d3_0) rfl rfl kq') ?_
  show OwnGo _ _ _ _ (s₁.setTop (mkF m 1 #[.val (.ref w_CONDITION_SET)] [(.ref w_CONDITION_SET)]))
  obtain ⟨cq1, kq1, q1a, q1b, q1c⟩ := isOf hZ e0 E_w_CONDITION_SET
  obtain ⟨_, _, ⟨T1, L1, k1, n1⟩, -, X1, ⟨Lc1, hQ1, l1, y1, z1⟩, st1⟩ := X0.virtualBackUp hx (x := (⟨"com/example/ctl_checker/ctlchecker/SmvExpression$Type", "ordinal", "()I"⟩ : MethodName)) (y := (⟨"java/lang/Enum", "ordinal", "()I"⟩ : MethodName)) (owner := "java/lang/Enum") hown (mvT hZ (hw _ (List.mem_of_getElem? (i := 24) rfl))) (mvT hZ (hw _ (List.mem_of_getElem? (i := 25) rfl))) (mvT hZ (hw _ (List.mem_of_getElem? (i := 26) rfl))) (by decide) (mvT hZ (hw _ (List.mem_of_getElem? (i := 28) rfl))) (mvT hZ (hw _ (List.mem_of_getElem? (i := 27) rfl))) (backOf (W := 0) (rm4 l Z a0 hw [] w_CONDITION_SET (3 : Int32) h0 n0 Zs O_CONDITION_SET) hZ (hw _ (List.mem_of_getElem? (i := 30) rfl)) (hw _ (List.mem_of_getElem? (i := 29) rfl)) (by decide) (by decide)) q1a q1c (g := (mkF m 1 #[.val (.ref w_CONDITION_SET)] [(.ref w_CONDITION_SET)])) rfl (by rw [hml]; rfl) (Steps.refl _) (argsL := []) (rest := []) (lenOf pd_3 rfl) rfl (by show 2 * 0 + _ ≤ _; exact Nat.le_of_eq rfl) (hb hby d3_1) (fun _ _ => ⟨rfl, e0, (by decide : 0 + 0 ≤ _), (by decide : 0 + 0 ≤ _)⟩)
  dsimp only [Pt.U, Pt.locs, Pt.cells, Pt.slots] at X1 l1 y1 z1 st1 hQ1
  subst l1 y1 z1
  obtain ⟨rfl, N1q, e1⟩ := hQ1
  have N := Fr.app N N1q
  refine OwnGo.thru st1 ?_
  show OwnGo _ _ _ _ (T1.setTop (mkF m 4 #[.val (.ref w_CONDITION_SET)] [(.int (3 : Int32))]))
  refine OwnGo.fwd (fun tq' kq' => XS.tswIn X1.here hx rfl (pc0 := 4) (pc' := 32) (o := 28) rfl (hb hby d3_4) rfl (by decide) (by decide) (by decide) (by decide) kq') ?_
  show OwnGo _ _ _ _ (T1.setTop (mkF m 32 #[.val (.ref w_CONDITION_SET)] []))
  obtain ⟨T2, X2, e2, st2⟩ := getS2 X1 hx hZ hown (host := "") (Or.inl (hw _ (List.mem_of_getElem? (i := 39) rfl))) Via.refl e1 S_CONDITION (g := (mkF m 32 #[.val (.ref w_CONDITION_SET)] [])) rfl (hb hby d3_32)
  refine OwnGo.fwd st2 ?_
  show OwnGo _ _ _ _ (T2.setTop (mkF m 35 #[.val (.ref w_CONDITION_SET)] [(.ref w_CONDITION)]))
  refine OwnGo.fwd (fun tq' kq' => XS.goto X2.here hx rfl (pc0 := 35) (pc' := 51) rfl (hb hby d3_35) (by decide) (by decide) kq') ?_
  show OwnGo _ _ _ _ (T2.setTop (mkF m 51 #[.val (.ref w_CONDITION_SET)] [(.ref w_CONDITION)]))
  exact own_retA X2 hlk hx Bd.returns rfl rfl (hb hby d3_51) (by decide) (by decide) e2 ⟨rfl, N, rfl⟩
theorem ef_5CONDITION_SET (m : MethodId) (x0 : Addr) : entryFrame m #[(.ref x0)] 1 = mkF m 0 #[.val (.ref x0)] [] := by first | (simp [entryFrame, mkF, argsToLocals, Value.category, maxLocals]; done) | rfl
def Q5CONDITION_SET (Z : State) (w_CONDITION : Addr) (w_INTEGER : Addr) (w_SYMBOLIC : Addr) (w_CONDITION_SET : Addr) (w_INTEGER_SET : Addr) (w_SYMBOLIC_SET : Addr) (h0 : Heap) (n0 : Nat) (v : Option Value) (h : Heap) (L : List Loc) : Prop := v = some (.ref w_CONDITION_SET) ∧ Fr n0 L ∧ h = h0
set_option maxRecDepth 65536 in
set_option maxHeartbeats 40000000 in
theorem rm5CONDITION_SET (l : Launch) (Z : State) (a0 : Array Value) (hw : ∀ d ∈ tables_1, d.before a0 Z = true) (ws : List Jvm.Cond) (w_CONDITION : Addr) (w_INTEGER : Addr) (w_SYMBOLIC : Addr) (w_CONDITION_SET : Addr) (w_INTEGER_SET : Addr) (w_SYMBOLIC_SET : Addr) (h0 : Heap) (n0 : Nat) (Z0 : n0 ≤ h0.size) (S_CONDITION : Sta Z h0 "com/example/ctl_checker/ctlchecker/SmvExpression$Type" "CONDITION" "Lcom/example/ctl_checker/ctlchecker/SmvExpression$Type;" (.ref w_CONDITION)) (E_w_CONDITION : Exa Z h0 w_CONDITION "com/example/ctl_checker/ctlchecker/SmvExpression$Type") (O_CONDITION : Fld Z h0 w_CONDITION "java/lang/Enum" "ordinal" "I" (.int 0)) (S_INTEGER : Sta Z h0 "com/example/ctl_checker/ctlchecker/SmvExpression$Type" "INTEGER" "Lcom/example/ctl_checker/ctlchecker/SmvExpression$Type;" (.ref w_INTEGER)) (E_w_INTEGER : Exa Z h0 w_INTEGER "com/example/ctl_checker/ctlchecker/SmvExpression$Type") (O_INTEGER : Fld Z h0 w_INTEGER "java/lang/Enum" "ordinal" "I" (.int 1)) (S_SYMBOLIC : Sta Z h0 "com/example/ctl_checker/ctlchecker/SmvExpression$Type" "SYMBOLIC" "Lcom/example/ctl_checker/ctlchecker/SmvExpression$Type;" (.ref w_SYMBOLIC)) (E_w_SYMBOLIC : Exa Z h0 w_SYMBOLIC "com/example/ctl_checker/ctlchecker/SmvExpression$Type") (O_SYMBOLIC : Fld Z h0 w_SYMBOLIC "java/lang/Enum" "ordinal" "I" (.int 2)) (S_CONDITION_SET : Sta Z h0 "com/example/ctl_checker/ctlchecker/SmvExpression$Type" "CONDITION_SET" "Lcom/example/ctl_checker/ctlchecker/SmvExpression$Type;" (.ref w_CONDITION_SET)) (E_w_CONDITION_SET : Exa Z h0 w_CONDITION_SET "com/example/ctl_checker/ctlchecker/SmvExpression$Type") (O_CONDITION_SET : Fld Z h0 w_CONDITION_SET "java/lang/Enum" "ordinal" "I" (.int 3)) (S_INTEGER_SET : Sta Z h0 "com/example/ctl_checker/ctlchecker/SmvExpression$Type" "INTEGER_SET" "Lcom/example/ctl_checker/ctlchecker/SmvExpression$Type;" (.ref w_INTEGER_SET)) (E_w_INTEGER_SET : Exa Z h0 w_INTEGER_SET "com/example/ctl_checker/ctlchecker/SmvExpression$Type") (O_INTEGER_SET : Fld Z h0 w_INTEGER_SET "java/lang/Enum" "ordinal" "I" (.int 4)) (S_SYMBOLIC_SET : Sta Z h0 "com/example/ctl_checker/ctlchecker/SmvExpression$Type" "SYMBOLIC_SET" "Lcom/example/ctl_checker/ctlchecker/SmvExpression$Type;" (.ref w_SYMBOLIC_SET)) (E_w_SYMBOLIC_SET : Exa Z h0 w_SYMBOLIC_SET "com/example/ctl_checker/ctlchecker/SmvExpression$Type") (O_SYMBOLIC_SET : Fld Z h0 w_SYMBOLIC_SET "java/lang/Enum" "ordinal" "I" (.int 5)) :
    MetFree l (⟨"com/example/ctl_checker/ctlchecker/SmvExpression$Type", "set", "()Lcom/example/ctl_checker/ctlchecker/SmvExpression$Type;"⟩ : MethodName) (head1 (Jvm.Cond.code (⟨"com/example/ctl_checker/ctlchecker/SmvExpression$Type", "set", "()Lcom/example/ctl_checker/ctlchecker/SmvExpression$Type;"⟩ : MethodName) prog_62_method_6_code 1 (some (.object "com/example/ctl_checker/ctlchecker/SmvExpression$Type")) :: ws) ({ frames := 1, cells := 0, slots := 0, locals := 13 } : Room)) (fun arr' U => arr' = #[(.ref w_CONDITION_SET)] ∧ Z.Warmed39 U.vm ∧ U.heap = h0) (fun _ _ _ _ _ => True) (fun _ U o U' => ∃ v L, o = .returned v ∧ (Q5CONDITION_SET Z w_CONDITION w_INTEGER w_SYMBOLIC w_CONDITION_SET w_INTEGER_SET w_SYMBOLIC_SET h0 n0) v U'.heap L ∧ FrameEnd U o U' L ({ frames := 1, cells := 0, slots := 0, locals := 13 } : Room).cells ({ frames := 1, cells := 0, slots := 0, locals := 13 } : Room).slots) := by
  refine MetFree.of_bodySF (plainFor_of_name pn_5) hisR ?_
  intro p e s m args below meth c s₁ Bd hml0 hP hK
  obtain ⟨rfl, hZ, hh⟩ := hP
  have hx := Bd.exec
  have hby := Bd.bytes
  have hlk : meth.locks = false := BodyLoose.notSynchronized Bd
  have hml : c.maxLocals = 1 := hml0
  have hown : s.vm.findClass "com/example/ctl_checker/ctlchecker/SmvExpression$Type" = some m.cls := findClass_of_methodNamed Bd.named
  have hnm := (name_of_methodNamed Bd.named Bd.method).1
  have X0 : Stand p l e ({ frames := 1, cells := 0, slots := 0, locals := 13 } : Room) s m #[(.ref w_CONDITION_SET)] below meth c s₁ [] 0 0 := Stand.of_body Bd
  have e0 : s₁.heap = h0 := by rw [← hh, Bd.state]; rfl
  have N := Fr.nil n0
  have Zs := Z0
  change OwnGo p.tables e below (OwnEnd s (Q5CONDITION_SET Z w_CONDITION w_INTEGER w_SYMBOLIC w_CONDITION_SET w_INTEGER_SET w_SYMBOLIC_SET h0 n0) ({ frames := 1, cells := 0, slots := 0, locals := 13 } : Room).cells ({ frames := 1, cells := 0, slots := 0, locals := 13 } : Room).slots) _
  refine OwnGo.fwd (fun tq' kq' => castTop (ef_5CONDITION_SET m w_CONDITION_SET) kq') ?_
  show OwnGo _ _ _ _ (s₁.setTop (mkF m 0 #[.val (.ref w_CONDITION_SET)] []))
  refine OwnGo.fwd (fun tq' kq' => XS.aloadN X0.here hx rfl (hb hby d5_0) rfl rfl kq') ?_
  show OwnGo _ _ _ _ (s₁.setTop (mkF m 1 #[.val (.ref w_CONDITION_SET)] [(.ref w_CONDITION_SET)]))
  obtain ⟨cq1, kq1, q1a, q1b, q1c⟩ := isOf hZ e0 E_w_CONDITION_SET
  obtain ⟨_, _, ⟨T1, L1, k1, n1⟩, -, X1, ⟨Lc1, hQ1, l1, y1, z1⟩, st1⟩ := X0.virtualBackUp hx (x := (⟨"com/example/ctl_checker/ctlchecker/SmvExpression$Type", "ordinal", "()I"⟩ : MethodName)) (y := (⟨"java/lang/Enum", "ordinal", "()I"⟩ : MethodName)) (owner := "java/lang/Enum") hown (mvT hZ (hw _ (List.mem_of_getElem? (i := 24) rfl))) (mvT hZ (hw _ (List.mem_of_getElem? (i := 25) rfl))) (mvT hZ (hw _ (List.mem_of_getElem? (i := 26) rfl))) (by decide) (mvT hZ (hw _ (List.mem_of_getElem? (i := 28) rfl))) (mvT hZ (hw _ (List.mem_of_getElem? (i := 27) rfl))) (backOf (W := 0) (rm4 l Z a0 hw [] w_CONDITION_SET (3 : Int32) h0 n0 Zs O_CONDITION_SET) hZ (hw _ (List.mem_of_getElem? (i := 30) rfl)) (hw _ (List.mem_of_getElem? (i := 29) rfl)) (by decide) (by decide)) q1a q1c (g := (mkF m 1 #[.val (.ref w_CONDITION_SET)] [(.ref w_CONDITION_SET)])) rfl (by rw [hml]; rfl) (Steps.refl _) (argsL := []) (rest := []) (lenOf pd_3 rfl) rfl (by show 2 * 0 + _ ≤ _; exact Nat.le_of_eq rfl) (hb hby d5_1) (fun _ _ => ⟨rfl, e0, (by decide : 0 + 0 ≤ _), (by decide : 0 + 0 ≤ _)⟩)
  dsimp only [Pt.U, Pt.locs, Pt.cells, Pt.slots] at X1 l1 y1 z1 st1 hQ1
  subst l1 y1 z1
  obtain ⟨rfl, N1q, e1⟩ := hQ1
  have N := Fr.app N N1q
  refine OwnGo.thru st1 ?_
  show OwnGo _ _ _ _ (T1.setTop (mkF m 4 #[.val (.ref w_CONDITION_SET)] [(.int (3 : Int32))]))
  refine OwnGo.fwd (fun tq' kq' => XS.tswOut X1.here hx rfl (pc0 := 4) (pc' := 50) rfl (hb hby d5_4) rfl (by decide) (by decide) (by decide) kq') ?_
  show OwnGo _ _ _ _ (T1.setTop (mkF m 50 #[.val (.ref w_CONDITION_SET)] []))
  refine OwnGo.fwd (fun tq' kq' => XS.aloadN X1.here hx rfl (hb hby d5_50) rfl rfl kq') ?_
  show OwnGo _ _ _ _ (T1.setTop (mkF m 51 #[.val (.ref w_CONDITION_SET)] [(.ref w_CONDITION_SET)]))
  exact own_retA X1 hlk hx Bd.returns rfl rfl (hb hby d5_51) (by decide) (by decide) e1 ⟨rfl, N, rfl⟩
theorem ef_1INTEGER_SET (m : MethodId) (x0 : Int32) : entryFrame m #[(.int x0)] 1 = mkF m 0 #[.val (.int x0)] [] := by first | (simp [entryFrame, mkF, argsToLocals, Value.category, maxLocals]; done) | rfl
def Q1INTEGER_SET (Z : State) (w_CONDITION : Addr) (w_INTEGER : Addr) (w_SYMBOLIC : Addr) (w_CONDITION_SET : Addr) (w_INTEGER_SET : Addr) (w_SYMBOLIC_SET : Addr) (h0 : Heap) (n0 : Nat) (v : Option Value) (h : Heap) (L : List Loc) : Prop := v = some (.ref w_INTEGER_SET) ∧ Fr n0 L ∧ h = h0
set_option maxRecDepth 65536 in
set_option maxHeartbeats 40000000 in
theorem rm1INTEGER_SET (l : Launch) (Z : State) (a0 : Array Value) (hw : ∀ d ∈ tables_1, d.before a0 Z = true) (ws : List Jvm.Cond) (w_CONDITION : Addr) (w_INTEGER : Addr) (w_SYMBOLIC : Addr) (w_CONDITION_SET : Addr) (w_INTEGER_SET : Addr) (w_SYMBOLIC_SET : Addr) (h0 : Heap) (n0 : Nat) (Z0 : n0 ≤ h0.size) (S_CONDITION : Sta Z h0 "com/example/ctl_checker/ctlchecker/SmvExpression$Type" "CONDITION" "Lcom/example/ctl_checker/ctlchecker/SmvExpression$Type;" (.ref w_CONDITION)) (E_w_CONDITION : Exa Z h0 w_CONDITION "com/example/ctl_checker/ctlchecker/SmvExpression$Type") (O_CONDITION : Fld Z h0 w_CONDITION "java/lang/Enum" "ordinal" "I" (.int 0)) (S_INTEGER : Sta Z h0 "com/example/ctl_checker/ctlchecker/SmvExpression$Type" "INTEGER" "Lcom/example/ctl_checker/ctlchecker/SmvExpression$Type;" (.ref w_INTEGER)) (E_w_INTEGER : Exa Z h0 w_INTEGER "com/example/ctl_checker/ctlchecker/SmvExpression$Type") (O_INTEGER : Fld Z h0 w_INTEGER "java/lang/Enum" "ordinal" "I" (.int 1)) (S_SYMBOLIC : Sta Z h0 "com/example/ctl_checker/ctlchecker/SmvExpression$Type" "SYMBOLIC" "Lcom/example/ctl_checker/ctlchecker/SmvExpression$Type;" (.ref w_SYMBOLIC)) (E_w_SYMBOLIC : Exa Z h0 w_SYMBOLIC "com/example/ctl_checker/ctlchecker/SmvExpression$Type") (O_SYMBOLIC : Fld Z h0 w_SYMBOLIC "java/lang/Enum" "ordinal" "I" (.int 2)) (S_CONDITION_SET : Sta Z h0 "com/example/ctl_checker/ctlchecker/SmvExpression$Type" "CONDITION_SET" "Lcom/example/ctl_checker/ctlchecker/SmvExpression$Type;" (.ref w_CONDITION_SET)) (E_w_CONDITION_SET : Exa Z h0 w_CONDITION_SET "com/example/ctl_checker/ctlchecker/SmvExpression$Type") (O_CONDITION_SET : Fld Z h0 w_CONDITION_SET "java/lang/Enum" "ordinal" "I" (.int 3)) (S_INTEGER_SET : Sta Z h0 "com/example/ctl_checker/ctlchecker/SmvExpression$Type" "INTEGER_SET" "Lcom/example/ctl_checker/ctlchecker/SmvExpression$Type;" (.ref w_INTEGER_SET)) (E_w_INTEGER_SET : Exa Z h0 w_INTEGER_SET "com/example/ctl_checker/ctlchecker/SmvExpression$Type") (O_INTEGER_SET : Fld Z h0 w_INTEGER_SET "java/lang/Enum" "ordinal" "I" (.int 4)) (S_SYMBOLIC_SET : Sta Z h0 "com/example/ctl_checker/ctlchecker/SmvExpression$Type" "SYMBOLIC_SET" "Lcom/example/ctl_checker/ctlchecker/SmvExpression$Type;" (.ref w_SYMBOLIC_SET)) (E_w_SYMBOLIC_SET : Exa Z h0 w_SYMBOLIC_SET "com/example/ctl_checker/ctlchecker/SmvExpression$Type") (O_SYMBOLIC_SET : Fld Z h0 w_SYMBOLIC_SET "java/lang/Enum" "ordinal" "I" (.int 5)) :
    MetFree l (⟨"com/example/ctl_checker/ctlchecker/TypeIsSetPinLaw", "pick", "(I)Lcom/example/ctl_checker/ctlchecker/SmvExpression$Type;"⟩ : MethodName) (head1 (Jvm.Cond.code (⟨"com/example/ctl_checker/ctlchecker/TypeIsSetPinLaw", "pick", "(I)Lcom/example/ctl_checker/ctlchecker/SmvExpression$Type;"⟩ : MethodName) method_2_code 1 (some (.object "com/example/ctl_checker/ctlchecker/SmvExpression$Type")) :: ws) ({ frames := 0, cells := 0, slots := 0, locals := 0 } : Room)) (fun arr' U => arr' = #[(.int (4 : Int32))] ∧ Z.Warmed39 U.vm ∧ U.heap = h0) (fun _ _ _ _ _ => True) (fun _ U o U' => ∃ v L, o = .returned v ∧ (Q1INTEGER_SET Z w_CONDITION w_INTEGER w_SYMBOLIC w_CONDITION_SET w_INTEGER_SET w_SYMBOLIC_SET h0 n0) v U'.heap L ∧ FrameEnd U o U' L ({ frames := 0, cells := 0, slots := 0, locals := 0 } : Room).cells ({ frames := 0, cells := 0, slots := 0, locals := 0 } : Room).slots) := by
  refine MetFree.of_bodySF (plainFor_of_name pn_1) hisR ?_
  intro p e s m args below meth c s₁ Bd hml0 hP hK
  obtain ⟨rfl, hZ, hh⟩ := hP
  have hx := Bd.exec
  have hby := Bd.bytes
  have hlk : meth.locks = false := BodyLoose.notSynchronized Bd
  have hml : c.maxLocals = 1 := hml0
  have hown : s.vm.findClass "com/example/ctl_checker/ctlchecker/TypeIsSetPinLaw" = some m.cls := findClass_of_methodNamed Bd.named
  have hnm := (name_of_methodNamed Bd.named Bd.method).1
  have X0 : Stand p l e ({ frames := 0, cells := 0, slots := 0, locals := 0 } : Room) s m #[(.int (4 : Int32))] below meth c s₁ [] 0 0 := Stand.of_body Bd
  have e0 : s₁.heap = h0 := by rw [← hh, Bd.state]; rfl
  have N := Fr.nil n0
  have Zs := Z0
  change OwnGo p.tables e below (OwnEnd s (Q1INTEGER_SET Z w_CONDITION w_INTEGER w_SYMBOLIC w_CONDITION_SET w_INTEGER_SET w_SYMBOLIC_SET h0 n0) ({ frames := 0, cells := 0, slots := 0, locals := 0 } : Room).cells ({ frames := 0, cells := 0, slots := 0, locals := 0 } : Room).slots) _
  refine OwnGo.fwd (fun tq' kq' => castTop (ef_1INTEGER_SET m (4 : Int32)) kq') ?_
  show OwnGo _ _ _ _ (s₁.setTop (mkF m 0 #[.val (.int (4 : Int32))] []))
  refine OwnGo.fwd (fun tq' kq' => XS.iloadN X0.here hx rfl (hb hby d1_0) rfl kq') ?_
  show OwnGo _ _ _ _ (s₁.setTop (mkF m 1 #[.val (.int (4 : Int32))] [(.int (4 : Int32))]))
  have hc1_1 : ¬ ((4 : Int) = (0 : Int)) := by decide
  refine OwnGo.fwd (fun tq' kq' => XS.ifYes X0.here hx rfl (pc0 := 1) (pc' := 8) rfl (hb hby d1_1) rfl ((if0 _ _).trans (own_bneq (by decide) (by decide) hc1_1).2) (by decide) (by decide) kq') ?_
  show OwnGo _ _ _ _ (s₁.setTop (mkF m 8 #[.val (.int (4 : Int32))] []))
  refine OwnGo.fwd (fun tq' kq' => XS.iloadN X0.here hx rfl (hb hby d1_8) rfl kq') ?_
  show OwnGo _ _ _ _ (s₁.setTop (mkF m 9 #[.val (.int (4 : Int32))] [(.int (4 : Int32))]))
  refine OwnGo.fwd (fun tq' kq' => XS.iconst X0.here hx rfl (hb hby d1_9) kq') ?_
  show OwnGo _ _ _ _ (s₁.setTop (mkF m 10 #[.val (.int (4 : Int32))] [(.int (1 : Int32)), (.int (4 : Int32))]))
  have hc10_2 : ¬ ((4 : Int) = (1 : Int)) := by decide
  refine OwnGo.fwd (fun tq' kq' => XS.icmpYes X0.here hx rfl (pc0 := 10) (pc' := 17) rfl (hb hby d1_10) rfl (own_bneq (by decide) (by decide) hc10_2).2 (by decide) (by decide) kq') ?_
  show OwnGo _ _ _ _ (s₁.setTop (mkF m 17 #[.val (.int (4 : Int32))] []))
  refine OwnGo.fwd (fun tq' kq' => XS.iloadN X0.here hx rfl (hb hby d1_17) rfl kq') ?_
  show OwnGo _ _ _ _ (s₁.setTop (mkF m 18 #[.val (.int (4 : Int32))] [(.int (4 : Int32))]))
  refine OwnGo.fwd (fun tq' kq' => XS.iconst X0.here hx rfl (hb hby d1_18) kq') ?_
  show OwnGo _ _ _ _ (s₁.setTop (mkF m 19 #[.val (.int (4 : Int32))] [(.int (2 : Int32)), (.int (4 : Int32))]))
  have hc19_3 : ¬ ((4 : Int) = (2 : Int)) := by decide
  refine OwnGo.fwd (fun tq' kq' => XS.icmpYes X0.here hx rfl (pc0 := 19) (pc' := 26) rfl (hb hby d1_19) rfl (own_bneq (by decide) (by decide) hc19_3).2 (by decide) (by decide) kq') ?_
  show OwnGo _ _ _ _ (s₁.setTop (mkF m 26 #[.val (.int (4 : Int32))] []))
  refine OwnGo.fwd (fun tq' kq' => XS.iloadN X0.here hx rfl (hb hby d1_26) rfl kq') ?_
  show OwnGo _ _ _ _ (s₁.setTop (mkF m 27 #[.val (.int (4 : Int32))] [(.int (4 : Int32))]))
  refine OwnGo.fwd (fun tq' kq' => XS.iconst X0.here hx rfl (hb hby d1_27) kq') ?_
  show OwnGo _ _ _ _ (s₁.setTop (mkF m 28 #[.val (.int (4 : Int32))] [(.int (3 : Int32)), (.int (4 : Int32))]))
  have hc28_4 : ¬ ((4 : Int) = (3 : Int)) := by decide
  refine OwnGo.fwd (fun tq' kq' => XS.icmpYes X0.here hx rfl (pc0 := 28) (pc' := 35) rfl (hb hby d1_28) rfl (own_bneq (by decide) (by decide) hc28_4).2 (by decide) (by decide) kq') ?_
  show OwnGo _ _ _ _ (s₁.setTop (mkF m 35 #[.val (.int (4 : Int32))] []))
  refine OwnGo.fwd (fun tq' kq' => XS.iloadN X0.here hx rfl (hb hby d1_35) rfl kq') ?_
  show OwnGo _ _ _ _ (s₁.setTop (mkF m 36 #[.val (.int (4 : Int32))] [(.int (4 : Int32))]))
  refine OwnGo.fwd (fun tq' kq' => XS.iconst X0.here hx rfl (hb hby d1_36) kq') ?_
  show OwnGo _ _ _ _ (s₁.setTop (mkF m 37 #[.val (.int (4 : Int32))] [(.int (4 : Int32)), (.int (4 : Int32))]))
  have hc37_5 : (4 : Int) = (4 : Int) := rfl
  refine OwnGo.fwd (fun tq' kq' => XS.icmpNo X0.here hx rfl (hb hby d1_37) rfl (own_beq (by decide) (by decide) hc37_5).2 kq') ?_
  show OwnGo _ _ _ _ (s₁.setTop (mkF m 40 #[.val (.int (4 : Int32))] []))
  obtain ⟨T6, X6, e6, st6⟩ := getS2 X0 hx hZ hown (host := "") (Or.inl (hw _ (List.mem_of_getElem? (i := 46) rfl))) Via.refl e0 S_INTEGER_SET (g := (mkF m 40 #[.val (.int (4 : Int32))] [])) rfl (hb hby d1_40)
  refine OwnGo.fwd st6 ?_
  show OwnGo _ _ _ _ (T6.setTop (mkF m 43 #[.val (.int (4 : Int32))] [(.ref w_INTEGER_SET)]))
  exact own_retA X6 hlk hx Bd.returns rfl rfl (hb hby d1_43) (by decide) (by decide) e6 ⟨rfl, N, rfl⟩
theorem ef_2INTEGER_SET (m : MethodId) (x0 : Addr) : entryFrame m #[(.ref x0)] 1 = mkF m 0 #[.val (.ref x0)] [] := by first | (simp [entryFrame, mkF, argsToLocals, Value.category, maxLocals]; done) | rfl
def Q2INTEGER_SET (Z : State) (w_CONDITION : Addr) (w_INTEGER : Addr) (w_SYMBOLIC : Addr) (w_CONDITION_SET : Addr) (w_INTEGER_SET : Addr) (w_SYMBOLIC_SET : Addr) (h0 : Heap) (n0 : Nat) (v : Option Value) (h : Heap) (L : List Loc) : Prop := v = some (.int 1) ∧ Fr n0 L ∧ h = h0
set_option maxRecDepth 65536 in
set_option maxHeartbeats 40000000 in
theorem rm2INTEGER_SET (l : Launch) (Z : State) (a0 : Array Value) (hw : ∀ d ∈ tables_1, d.before a0 Z = true) (ws : List Jvm.Cond) (w_CONDITION : Addr) (w_INTEGER : Addr) (w_SYMBOLIC : Addr) (w_CONDITION_SET : Addr) (w_INTEGER_SET : Addr) (w_SYMBOLIC_SET : Addr) (h0 : Heap) (n0 : Nat) (Z0 : n0 ≤ h0.size) (S_CONDITION : Sta Z h0 "com/example/ctl_checker/ctlchecker/SmvExpression$Type" "CONDITION" "Lcom/example/ctl_checker/ctlchecker/SmvExpression$Type;" (.ref w_CONDITION)) (E_w_CONDITION : Exa Z h0 w_CONDITION "com/example/ctl_checker/ctlchecker/SmvExpression$Type") (O_CONDITION : Fld Z h0 w_CONDITION "java/lang/Enum" "ordinal" "I" (.int 0)) (S_INTEGER : Sta Z h0 "com/example/ctl_checker/ctlchecker/SmvExpression$Type" "INTEGER" "Lcom/example/ctl_checker/ctlchecker/SmvExpression$Type;" (.ref w_INTEGER)) (E_w_INTEGER : Exa Z h0 w_INTEGER "com/example/ctl_checker/ctlchecker/SmvExpression$Type") (O_INTEGER : Fld Z h0 w_INTEGER "java/lang/Enum" "ordinal" "I" (.int 1)) (S_SYMBOLIC : Sta Z h0 "com/example/ctl_checker/ctlchecker/SmvExpression$Type" "SYMBOLIC" "Lcom/example/ctl_checker/ctlchecker/SmvExpression$Type;" (.ref w_SYMBOLIC)) (E_w_SYMBOLIC : Exa Z h0 w_SYMBOLIC "com/example/ctl_checker/ctlchecker/SmvExpression$Type") (O_SYMBOLIC : Fld Z h0 w_SYMBOLIC "java/lang/Enum" "ordinal" "I" (.int 2)) (S_CONDITION_SET : Sta Z h0 "com/example/ctl_checker/ctlchecker/SmvExpression$Type" "CONDITION_SET" "Lcom/example/ctl_checker/ctlchecker/SmvExpression$Type;" (.ref w_CONDITION_SET)) (E_w_CONDITION_SET : Exa Z h0 w_CONDITION_SET "com/example/ctl_checker/ctlchecker/SmvExpression$Type") (O_CONDITION_SET : Fld Z h0 w_CONDITION_SET "java/lang/Enum" "ordinal" "I" (.int 3)) (S_INTEGER_SET : Sta Z h0 "com/example/ctl_checker/ctlchecker/SmvExpression$Type" "INTEGER_SET" "Lcom/example/ctl_checker/ctlchecker/SmvExpression$Type;" (.ref w_INTEGER_SET)) (E_w_INTEGER_SET : Exa Z h0 w_INTEGER_SET "com/example/ctl_checker/ctlchecker/SmvExpression$Type") (O_INTEGER_SET : Fld Z h0 w_INTEGER_SET "java/lang/Enum" "ordinal" "I" (.int 4)) (S_SYMBOLIC_SET : Sta Z h0 "com/example/ctl_checker/ctlchecker/SmvExpression$Type" "SYMBOLIC_SET" "Lcom/example/ctl_checker/ctlchecker/SmvExpression$Type;" (.ref w_SYMBOLIC_SET)) (E_w_SYMBOLIC_SET : Exa Z h0 w_SYMBOLIC_SET "com/example/ctl_checker/ctlchecker/SmvExpression$Type") (O_SYMBOLIC_SET : Fld Z h0 w_SYMBOLIC_SET "java/lang/Enum" "ordinal" "I" (.int 5)) :
    MetFree l (⟨"com/example/ctl_checker/ctlchecker/SmvExpression$Type", "isSet", "()Z"⟩ : MethodName) (head1 (Jvm.Cond.code (⟨"com/example/ctl_checker/ctlchecker/SmvExpression$Type", "isSet", "()Z"⟩ : MethodName) prog_62_method_4_code 1 (some .boolean) :: ws) ({ frames := 0, cells := 0, slots := 0, locals := 0 } : Room)) (fun arr' U => arr' = #[(.ref w_INTEGER_SET)] ∧ Z.Warmed39 U.vm ∧ U.heap = h0) (fun _ _ _ _ _ => True) (fun _ U o U' => ∃ v L, o = .returned v ∧ (Q2INTEGER_SET Z w_CONDITION w_INTEGER w_SYMBOLIC w_CONDITION_SET w_INTEGER_SET w_SYMBOLIC_SET h0 n0) v U'.heap L ∧ FrameEnd U o U' L ({ frames := 0, cells := 0, slots := 0, locals := 0 } : Room).cells ({ frames := 0, cells := 0, slots := 0, locals := 0 } : Room).slots) := by
  refine MetFree.of_bodySF (plainFor_of_name pn_2) hisR ?_
  intro p e s m args below meth c s₁ Bd hml0 hP hK
  obtain ⟨rfl, hZ, hh⟩ := hP
  have hx := Bd.exec
  have hby := Bd.bytes
  have hlk : meth.locks = false := BodyLoose.notSynchronized Bd
  have hml : c.maxLocals = 1 := hml0
  have hown : s.vm.findClass "com/example/ctl_checker/ctlchecker/SmvExpression$Type" = some m.cls := findClass_of_methodNamed Bd.named
  have hnm := (name_of_methodNamed Bd.named Bd.method).1
  have X0 : Stand p l e ({ frames := 0, cells := 0, slots := 0, locals := 0 } : Room) s m #[(.ref w_INTEGER_SET)] below meth c s₁ [] 0 0 := Stand.of_body Bd
  have e0 : s₁.heap = h0 := by rw [← hh, Bd.state]; rfl
  have N := Fr.nil n0
  have Zs := Z0
  change OwnGo p.tables e below (OwnEnd s (Q2INTEGER_SET Z w_CONDITION w_INTEGER w_SYMBOLIC w_CONDITION_SET w_INTEGER_SET w_SYMBOLIC_SET h0 n0) ({ frames := 0, cells := 0, slots := 0, locals := 0 } : Room).cells ({ frames := 0, cells := 0, slots := 0, locals := 0 } : Room).slots) _
  refine OwnGo.fwd (fun tq' kq' => castTop (ef_2INTEGER_SET m w_INTEGER_SET) kq') ?_
  show OwnGo _ _ _ _ (s₁.setTop (mkF m 0 #[.val (.ref w_INTEGER_SET)] []))
  have ne_CONDITION_INTEGER : w_CONDITION ≠ w_INTEGER := Fld.ne O_CONDITION O_INTEGER (by decide)
  have ne_CONDITION_SYMBOLIC : w_CONDITION ≠ w_SYMBOLIC := Fld.ne O_CONDITION O_SYMBOLIC (by decide)
  have ne_CONDITION_CONDITION_SET : w_CONDITION ≠ w_CONDITION_SET := Fld.ne O_CONDITION O_CONDITION_SET (by decide)
  have ne_CONDITION_INTEGER_SET : w_CONDITION ≠ w_INTEGER_SET := Fld.ne O_CONDITION O_INTEGER_SET (by decide)
  have ne_CONDITION_SYMBOLIC_SET : w_CONDITION ≠ w_SYMBOLIC_SET := Fld.ne O_CONDITION O_SYMBOLIC_SET (by decide)
  have ne_INTEGER_SYMBOLIC : w_INTEGER ≠ w_SYMBOLIC := Fld.ne O_INTEGER O_SYMBOLIC (by decide)
  have ne_INTEGER_CONDITION_SET : w_INTEGER ≠ w_CONDITION_SET := Fld.ne O_INTEGER O_CONDITION_SET (by decide)
  have ne_INTEGER_INTEGER_SET : w_INTEGER ≠ w_INTEGER_SET := Fld.ne O_INTEGER O_INTEGER_SET (by decide)
  have ne_INTEGER_SYMBOLIC_SET : w_INTEGER ≠ w_SYMBOLIC_SET := Fld.ne O_INTEGER O_SYMBOLIC_SET (by decide)
  have ne_SYMBOLIC_CONDITION_SET : w_SYMBOLIC ≠ w_CONDITION_SET := Fld.ne O_SYMBOLIC O_CONDITION_SET (by decide)
  have ne_SYMBOLIC_INTEGER_SET : w_SYMBOLIC ≠ w_INTEGER_SET := Fld.ne O_SYMBOLIC O_INTEGER_SET (by decide)
  have ne_SYMBOLIC_SYMBOLIC_SET : w_SYMBOLIC ≠ w_SYMBOLIC_SET := Fld.ne O_SYMBOLIC O_SYMBOLIC_SET (by decide)
  have ne_CONDITION_SET_INTEGER_SET : w_CONDITION_SET ≠ w_INTEGER_SET := Fld.ne O_CONDITION_SET O_INTEGER_SET (by decide)
  have ne_CONDITION_SET_SYMBOLIC_SET : w_CONDITION_SET ≠ w_SYMBOLIC_SET := Fld.ne O_CONDITION_SET O_SYMBOLIC_SET (by decide)
  have ne_INTEGER_SET_SYMBOLIC_SET : w_INTEGER_SET ≠ w_SYMBOLIC_SET := Fld.ne O_INTEGER_SET O_SYMBOLIC_SET (by decide)
  refine OwnGo.fwd (fun tq' kq' => XS.aloadN X0.here hx rfl (hb hby d2_0) rfl rfl kq') ?_
  show OwnGo _ _ _ _ (s₁.setTop (mkF m 1 #[.val (.ref w_INTEGER_SET)] [(.ref w_INTEGER_SET)]))
  obtain ⟨T1, X1, e1, st1⟩ := getS2 X0 hx hZ hown (host := "") (Or.inl (hw _ (List.mem_of_getElem? (i := 13) rfl))) Via.refl e0 S_CONDITION_SET (g := (mkF m 1 #[.val (.ref w_INTEGER_SET)] [(.ref w_INTEGER_SET)])) rfl (hb hby d2_1)
  refine OwnGo.fwd st1 ?_
  show OwnGo _ _ _ _ (T1.setTop (mkF m 4 #[.val (.ref w_INTEGER_SET)] [(.ref w_CONDITION_SET), (.ref w_INTEGER_SET)]))
  refine OwnGo.fwd (fun tq' kq' => Jvm.RoadKit.acmp (g := (mkF m 4 #[.val (.ref w_INTEGER_SET)] [(.ref w_CONDITION_SET), (.ref w_INTEGER_SET)])) X1 hx rfl rfl rfl (pc0 := 4) (pc' := 7) (same := false) rfl (hb hby d2_4) rfl (decide_eq_false fun q => (Ne.symm ne_CONDITION_SET_INTEGER_SET) (Value.ref.inj q)) (by decide) (by decide) kq') ?_
  show OwnGo _ _ _ _ (T1.setTop (mkF m 7 #[.val (.ref w_INTEGER_SET)] []))
  refine OwnGo.fwd (fun tq' kq' => XS.aloadN X1.here hx rfl (hb hby d2_7) rfl rfl kq') ?_
  show OwnGo _ _ _ _ (T1.setTop (mkF m 8 #[.val (.ref w_INTEGER_SET)] [(.ref w_INTEGER_SET)]))
  obtain ⟨T2, X2, e2, st2⟩ := getS2 X1 hx hZ hown (host := "") (Or.inl (hw _ (List.mem_of_getElem? (i := 15) rfl))) Via.refl e1 S_INTEGER_SET (g := (mkF m 8 #[.val (.ref w_INTEGER_SET)] [(.ref w_INTEGER_SET)])) rfl (hb hby d2_8)
  refine OwnGo.fwd st2 ?_
  show OwnGo _ _ _ _ (T2.setTop (mkF m 11 #[.val (.ref w_INTEGER_SET)] [(.ref w_INTEGER_SET), (.ref w_INTEGER_SET)]))
  refine OwnGo.fwd (fun tq' kq' => Jvm.RoadKit.acmp (g := (mkF m 11 #[.val (.ref w_INTEGER_SET)] [(.ref w_INTEGER_SET), (.ref w_INTEGER_SET)])) X2 hx rfl rfl rfl (pc0 := 11) (pc' := 21) (same := true) rfl (hb hby d2_11) rfl (decide_eq_true rfl) (by decide) (by decide) kq') ?_
  show OwnGo _ _ _ _ (T2.setTop (mkF m 21 #[.val (.ref w_INTEGER_SET)] []))
  refine OwnGo.fwd (fun tq' kq' => XS.iconst X2.here hx rfl (hb hby d2_21) kq') ?_
  show OwnGo _ _ _ _ (T2.setTop (mkF m 22 #[.val (.ref w_INTEGER_SET)] [(.int (1 : Int32))]))
  refine OwnGo.fwd (fun tq' kq' => XS.goto X2.here hx rfl (pc0 := 22) (pc' := 26) rfl (hb hby d2_22) (by decide) (by decide) kq') ?_
  show OwnGo _ _ _ _ (T2.setTop (mkF m 26 #[.val (.ref w_INTEGER_SET)] [(.int (1 : Int32))]))
  exact own_retZ X2 hlk hx Bd.returns (hb hby d2_26) (by decide) (by decide) e2 ⟨rfl, N, rfl⟩
theorem ef_3INTEGER_SET (m : MethodId) (x0 : Addr) : entryFrame m #[(.ref x0)] 1 = mkF m 0 #[.val (.ref x0)] [] := by first | (simp [entryFrame, mkF, argsToLocals, Value.category, maxLocals]; done) | rfl
def Q3INTEGER_SET (Z : State) (w_CONDITION : Addr) (w_INTEGER : Addr) (w_SYMBOLIC : Addr) (w_CONDITION_SET : Addr) (w_INTEGER_SET : Addr) (w_SYMBOLIC_SET : Addr) (h0 : Heap) (n0 : Nat) (v : Option Value) (h : Heap) (L : List Loc) : Prop := v = some (.ref w_INTEGER) ∧ Fr n0 L ∧ h = h0
set_option maxRecDepth 65536 in
set_option maxHeartbeats 40000000 in
theorem rm3INTEGER_SET (l : Launch) (Z : State) (a0 : Array Value) (hw : ∀ d ∈ tables_1, d.before a0 Z = true) (ws : List Jvm.Cond) (w_CONDITION : Addr) (w_INTEGER : Addr) (w_SYMBOLIC : Addr) (w_CONDITION_SET : Addr) (w_INTEGER_SET : Addr) (w_SYMBOLIC_SET : Addr) (h0 : Heap) (n0 : Nat) (Z0 : n0 ≤ h0.size) (S_CONDITION : Sta Z h0 "com/example/ctl_checker/ctlchecker/SmvExpression$Type" "CONDITION" "Lcom/example/ctl_checker/ctlchecker/SmvExpression$Type;" (.ref w_CONDITION)) (E_w_CONDITION : Exa Z h0 w_CONDITION "com/example/ctl_checker/ctlchecker/SmvExpression$Type") (O_CONDITION : Fld Z h0 w_CONDITION "java/lang/Enum" "ordinal" "I" (.int 0)) (S_INTEGER : Sta Z h0 "com/example/ctl_checker/ctlchecker/SmvExpression$Type" "INTEGER" "Lcom/example/ctl_checker/ctlchecker/SmvExpression$Type;" (.ref w_INTEGER)) (E_w_INTEGER : Exa Z h0 w_INTEGER "com/example/ctl_checker/ctlchecker/SmvExpression$Type") (O_INTEGER : Fld Z h0 w_INTEGER "java/lang/Enum" "ordinal" "I" (.int 1)) (S_SYMBOLIC : Sta Z h0 "com/example/ctl_checker/ctlchecker/SmvExpression$Type" "SYMBOLIC" "Lcom/example/ctl_checker/ctlchecker/SmvExpression$Type;" (.ref w_SYMBOLIC)) (E_w_SYMBOLIC : Exa Z h0 w_SYMBOLIC "com/example/ctl_checker/ctlchecker/SmvExpression$Type") (O_SYMBOLIC : Fld Z h0 w_SYMBOLIC "java/lang/Enum" "ordinal" "I" (.int 2)) (S_CONDITION_SET : Sta Z h0 "com/example/ctl_checker/ctlchecker/SmvExpression$Type" "CONDITION_SET" "Lcom/example/ctl_checker/ctlchecker/SmvExpression$Type;" (.ref w_CONDITION_SET)) (E_w_CONDITION_SET : Exa Z h0 w_CONDITION_SET "com/example/ctl_checker/ctlchecker/SmvExpression$Type") (O_CONDITION_SET : Fld Z h0 w_CONDITION_SET "java/lang/Enum" "ordinal" "I" (.int 3)) (S_INTEGER_SET : Sta Z h0 "com/example/ctl_checker/ctlchecker/SmvExpression$Type" "INTEGER_SET" "Lcom/example/ctl_checker/ctlchecker/SmvExpression$Type;" (.ref w_INTEGER_SET)) (E_w_INTEGER_SET : Exa Z h0 w_INTEGER_SET "com/example/ctl_checker/ctlchecker/SmvExpression$Type") (O_INTEGER_SET : Fld Z h0 w_INTEGER_SET "java/lang/Enum" "ordinal" "I" (.int 4)) (S_SYMBOLIC_SET : Sta Z h0 "com/example/ctl_checker/ctlchecker/SmvExpression$Type" "SYMBOLIC_SET" "Lcom/example/ctl_checker/ctlchecker/SmvExpression$Type;" (.ref w_SYMBOLIC_SET)) (E_w_SYMBOLIC_SET : Exa Z h0 w_SYMBOLIC_SET "com/example/ctl_checker/ctlchecker/SmvExpression$Type") (O_SYMBOLIC_SET : Fld Z h0 w_SYMBOLIC_SET "java/lang/Enum" "ordinal" "I" (.int 5)) :
    MetFree l (⟨"com/example/ctl_checker/ctlchecker/SmvExpression$Type", "element", "()Lcom/example/ctl_checker/ctlchecker/SmvExpression$Type;"⟩ : MethodName) (head1 (Jvm.Cond.code (⟨"com/example/ctl_checker/ctlchecker/SmvExpression$Type", "element", "()Lcom/example/ctl_checker/ctlchecker/SmvExpression$Type;"⟩ : MethodName) prog_62_method_5_code 1 (some (.object "com/example/ctl_checker/ctlchecker/SmvExpression$Type")) :: ws) ({ frames := 1, cells := 0, slots := 0, locals := 13 } : Room)) (fun arr' U => arr' = #[(.ref w_INTEGER_SET)] ∧ Z.Warmed39 U.vm ∧ U.heap = h0) (fun _ _ _ _ _ => True) (fun _ U o U' => ∃ v L, o = .returned v ∧ (Q3INTEGER_SET Z w_CONDITION w_INTEGER w_SYMBOLIC w_CONDITION_SET w_INTEGER_SET w_SYMBOLIC_SET h0 n0) v U'.heap L ∧ FrameEnd U o U' L ({ frames := 1, cells := 0, slots := 0, locals := 13 } : Room).cells ({ frames := 1, cells := 0, slots := 0, locals := 13 } : Room).slots) := by
  refine MetFree.of_bodySF (plainFor_of_name pn_3) hisR ?_
  intro p e s m args below meth c s₁ Bd hml0 hP hK
  obtain ⟨rfl, hZ, hh⟩ := hP
  have hx := Bd.exec
  have hby := Bd.bytes
  have hlk : meth.locks = false := BodyLoose.notSynchronized Bd
  have hml : c.maxLocals = 1 := hml0
  have hown : s.vm.findClass "com/example/ctl_checker/ctlchecker/SmvExpression$Type" = some m.cls := findClass_of_methodNamed Bd.named
  have hnm := (name_of_methodNamed Bd.named Bd.method).1
  have X0 : Stand p l e ({ frames := 1, cells := 0, slots := 0, locals := 13 } : Room) s m #[(.ref w_INTEGER_SET)] below meth c s₁ [] 0 0 := Stand.of_body Bd
  have e0 : s₁.heap = h0 := by rw [← hh, Bd.state]; rfl
  have N := Fr.nil n0
  have Zs := Z0
  change OwnGo p.tables e below (OwnEnd s (Q3INTEGER_SET Z w_CONDITION w_INTEGER w_SYMBOLIC w_CONDITION_SET w_INTEGER_SET w_SYMBOLIC_SET h0 n0) ({ frames := 1, cells := 0, slots := 0, locals := 13 } : Room).cells ({ frames := 1, cells := 0, slots := 0, locals := 13 } : Room).slots) _
  refine OwnGo.fwd (fun tq' kq' => castTop (ef_3INTEGER_SET m w_INTEGER_SET) kq') ?_
  show OwnGo _ _ _ _ (s₁.setTop (mkF m 0 #[.val (.ref w_INTEGER_SET)] []))
  refine OwnGo.fwd (fun tq' kq' => XS.aloadN X0.here hx rfl (hb hby d3_0) rfl rfl kq') ?_
  show OwnGo _ _ _ _ (s₁.setTop (mkF m 1 #[.val (.ref w_INTEGER_SET)] [(.ref w_INTEGER_SET)]))
  obtain ⟨cq1, kq1, q1a, q1b, q1c⟩ := isOf hZ e0 E_w_INTEGER_SET
  obtain ⟨_, _, ⟨T1, L1, k1, n1⟩, -, X1, ⟨Lc1, hQ1, l1, y1, z1⟩, st1⟩ := X0.virtualBackUp hx (x := (⟨"com/example/ctl_checker/ctlchecker/SmvExpression$Type", "ordinal", "()I"⟩ : MethodName)) (y := (⟨"java/lang/Enum", "ordinal", "()I"⟩ : MethodName)) (owner := "java/lang/Enum") hown (mvT hZ (hw _ (List.mem_of_getElem? (i := 24) rfl))) (mvT hZ (hw _ (List.mem_of_getElem? (i := 25) rfl))) (mvT hZ (hw _ (List.mem_of_getElem? (i := 26) rfl))) (by decide) (mvT hZ (hw _ (List.mem_of_getElem? (i := 28) rfl))) (mvT hZ (hw _ (List.mem_of_getElem? (i := 27) rfl))) (backOf (W := 0) (rm4 l Z a0 hw [] w_INTEGER_SET (4 : Int32) h0 n0 Zs O_INTEGER_SET) hZ (hw _ (List.mem_of_getElem? (i := 30) rfl)) (hw _ (List.mem_of_getElem? (i := 29) rfl)) (by decide) (by decide)) q1a q1c (g := (mkF m 1 #[.val (.ref w_INTEGER_SET)] [(.ref w_INTEGER_SET)])) rfl (by rw [hml]; rfl) (Steps.refl _) (argsL := []) (rest := []) (lenOf pd_3 rfl) rfl (by show 2 * 0 + _ ≤ _; exact Nat.le_of_eq rfl) (hb hby d3_1) (fun _ _ => ⟨rfl, e0, (by decide : 0 + 0 ≤ _), (by decide : 0 + 0 ≤ _)⟩)
  dsimp only [Pt.U, Pt.locs, Pt.cells, Pt.slots] at X1 l1 y1 z1 st1 hQ1
  subst l1 y1 z1
  obtain ⟨rfl, N1q, e1⟩ := hQ1
  have N := Fr.app N N1q
  refine OwnGo.thru st1 ?_
  show OwnGo _ _ _ _ (T1.setTop (mkF m 4 #[.val (.ref w_INTEGER_SET)] [(.int (4 : Int32))]))
  refine OwnGo.fwd (fun tq' kq' => XS.tswIn X1.here hx rfl (pc0 := 4) (pc' := 38) (o := 34) rfl (hb hby d3_4) rfl (by decide) (by decide) (by decide) (by decide) kq') ?_
  show OwnGo _ _ _ _ (T1.setTop (mkF m 38 #[.val (.ref w_INTEGER_SET)] []))
  obtain ⟨T2, X2, e2, st2⟩ := getS2 X1 hx hZ hown (host := "") (Or.inl (hw _ (List.mem_of_getElem? (i := 47) rfl))) Via.refl e1 S_INTEGER (g := (mkF m 38 #[.val (.ref w_INTEGER_SET)] [])) rfl (hb hby d3_38)
  refine OwnGo.fwd st2 ?_
  show OwnGo _ _ _ _ (T2.setTop (mkF m 41 #[.val (.ref w_INTEGER_SET)] [(.ref w_INTEGER)]))
  refine OwnGo.fwd (fun tq' kq' => XS.goto X2.here hx rfl (pc0 := 41) (pc' := 51) rfl (hb hby d3_41) (by decide) (by decide) kq') ?_
  show OwnGo _ _ _ _ (T2.setTop (mkF m 51 #[.val (.ref w_INTEGER_SET)] [(.ref w_INTEGER)]))
  exact own_retA X2 hlk hx Bd.returns rfl rfl (hb hby d3_51) (by decide) (by decide) e2 ⟨rfl, N, rfl⟩
theorem ef_5INTEGER_SET (m : MethodId) (x0 : Addr) : entryFrame m #[(.ref x0)] 1 = mkF m 0 #[.val (.ref x0)] [] := by first | (simp [entryFrame, mkF, argsToLocals, Value.category, maxLocals]; done) | rfl
def Q5INTEGER_SET (Z : State) (w_CONDITION : Addr) (w_INTEGER : Addr) (w_SYMBOLIC : Addr) (w_CONDITION_SET : Addr) (w_INTEGER_SET : Addr) (w_SYMBOLIC_SET : Addr) (h0 : Heap) (n0 : Nat) (v : Option Value) (h : Heap) (L : List Loc) : Prop := v = some (.ref w_INTEGER_SET) ∧ Fr n0 L ∧ h = h0
set_option maxRecDepth 65536 in
set_option maxHeartbeats 40000000 in
theorem rm5INTEGER_SET (l : Launch) (Z : State) (a0 : Array Value) (hw : ∀ d ∈ tables_1, d.before a0 Z = true) (ws : List Jvm.Cond) (w_CONDITION : Addr) (w_INTEGER : Addr) (w_SYMBOLIC : Addr) (w_CONDITION_SET : Addr) (w_INTEGER_SET : Addr) (w_SYMBOLIC_SET : Addr) (h0 : Heap) (n0 : Nat) (Z0 : n0 ≤ h0.size) (S_CONDITION : Sta Z h0 "com/example/ctl_checker/ctlchecker/SmvExpression$Type" "CONDITION" "Lcom/example/ctl_checker/ctlchecker/SmvExpression$Type;" (.ref w_CONDITION)) (E_w_CONDITION : Exa Z h0 w_CONDITION "com/example/ctl_checker/ctlchecker/SmvExpression$Type") (O_CONDITION : Fld Z h0 w_CONDITION "java/lang/Enum" "ordinal" "I" (.int 0)) (S_INTEGER : Sta Z h0 "com/example/ctl_checker/ctlchecker/SmvExpression$Type" "INTEGER" "Lcom/example/ctl_checker/ctlchecker/SmvExpression$Type;" (.ref w_INTEGER)) (E_w_INTEGER : Exa Z h0 w_INTEGER "com/example/ctl_checker/ctlchecker/SmvExpression$Type") (O_INTEGER : Fld Z h0 w_INTEGER "java/lang/Enum" "ordinal" "I" (.int 1)) (S_SYMBOLIC : Sta Z h0 "com/example/ctl_checker/ctlchecker/SmvExpression$Type" "SYMBOLIC" "Lcom/example/ctl_checker/ctlchecker/SmvExpression$Type;" (.ref w_SYMBOLIC)) (E_w_SYMBOLIC : Exa Z h0 w_SYMBOLIC "com/example/ctl_checker/ctlchecker/SmvExpression$Type") (O_SYMBOLIC : Fld Z h0 w_SYMBOLIC "java/lang/Enum" "ordinal" "I" (.int 2)) (S_CONDITION_SET : Sta Z h0 "com/example/ctl_checker/ctlchecker/SmvExpression$Type" "CONDITION_SET" "Lcom/example/ctl_checker/ctlchecker/SmvExpression$Type;" (.ref w_CONDITION_SET)) (E_w_CONDITION_SET : Exa Z h0 w_CONDITION_SET "com/example/ctl_checker/ctlchecker/SmvExpression$Type") (O_CONDITION_SET : Fld Z h0 w_CONDITION_SET "java/lang/Enum" "ordinal" "I" (.int 3)) (S_INTEGER_SET : Sta Z h0 "com/example/ctl_checker/ctlchecker/SmvExpression$Type" "INTEGER_SET" "Lcom/example/ctl_checker/ctlchecker/SmvExpression$Type;" (.ref w_INTEGER_SET)) (E_w_INTEGER_SET : Exa Z h0 w_INTEGER_SET "com/example/ctl_checker/ctlchecker/SmvExpression$Type") (O_INTEGER_SET : Fld Z h0 w_INTEGER_SET "java/lang/Enum" "ordinal" "I" (.int 4)) (S_SYMBOLIC_SET : Sta Z h0 "com/example/ctl_checker/ctlchecker/SmvExpression$Type" "SYMBOLIC_SET" "Lcom/example/ctl_checker/ctlchecker/SmvExpression$Type;" (.ref w_SYMBOLIC_SET)) (E_w_SYMBOLIC_SET : Exa Z h0 w_SYMBOLIC_SET "com/example/ctl_checker/ctlchecker/SmvExpression$Type") (O_SYMBOLIC_SET : Fld Z h0 w_SYMBOLIC_SET "java/lang/Enum" "ordinal" "I" (.int 5)) :
    MetFree l (⟨"com/example/ctl_checker/ctlchecker/SmvExpression$Type", "set", "()Lcom/example/ctl_checker/ctlchecker/SmvExpression$Type;"⟩ : MethodName) (head1 (Jvm.Cond.code (⟨"com/example/ctl_checker/ctlchecker/SmvExpression$Type", "set", "()Lcom/example/ctl_checker/ctlchecker/SmvExpression$Type;"⟩ : MethodName) prog_62_method_6_code 1 (some (.object "com/example/ctl_checker/ctlchecker/SmvExpression$Type")) :: ws) ({ frames := 1, cells := 0, slots := 0, locals := 13 } : Room)) (fun arr' U => arr' = #[(.ref w_INTEGER_SET)] ∧ Z.Warmed39 U.vm ∧ U.heap = h0) (fun _ _ _ _ _ => True) (fun _ U o U' => ∃ v L, o = .returned v ∧ (Q5INTEGER_SET Z w_CONDITION w_INTEGER w_SYMBOLIC w_CONDITION_SET w_INTEGER_SET w_SYMBOLIC_SET h0 n0) v U'.heap L ∧ FrameEnd U o U' L ({ frames := 1, cells := 0, slots := 0, locals := 13 } : Room).cells ({ frames := 1, cells := 0, slots := 0, locals := 13 } : Room).slots) := by
  refine MetFree.of_bodySF (plainFor_of_name pn_5) hisR ?_
  intro p e s m args below meth c s₁ Bd hml0 hP hK
  obtain ⟨rfl, hZ, hh⟩ := hP
  have hx := Bd.exec
  have hby := Bd.bytes
  have hlk : meth.locks = false := BodyLoose.notSynchronized Bd
  have hml : c.maxLocals = 1 := hml0
  have hown : s.vm.findClass "com/example/ctl_checker/ctlchecker/SmvExpression$Type" = some m.cls := findClass_of_methodNamed Bd.named
  have hnm := (name_of_methodNamed Bd.named Bd.method).1
  have X0 : Stand p l e ({ frames := 1, cells := 0, slots := 0, locals := 13 } : Room) s m #[(.ref w_INTEGER_SET)] below meth c s₁ [] 0 0 := Stand.of_body Bd
  have e0 : s₁.heap = h0 := by rw [← hh, Bd.state]; rfl
  have N := Fr.nil n0
  have Zs := Z0
  change OwnGo p.tables e below (OwnEnd s (Q5INTEGER_SET Z w_CONDITION w_INTEGER w_SYMBOLIC w_CONDITION_SET w_INTEGER_SET w_SYMBOLIC_SET h0 n0) ({ frames := 1, cells := 0, slots := 0, locals := 13 } : Room).cells ({ frames := 1, cells := 0, slots := 0, locals := 13 } : Room).slots) _
  refine OwnGo.fwd (fun tq' kq' => castTop (ef_5INTEGER_SET m w_INTEGER_SET) kq') ?_
  show OwnGo _ _ _ _ (s₁.setTop (mkF m 0 #[.val (.ref w_INTEGER_SET)] []))
  refine OwnGo.fwd (fun tq' kq' => XS.aloadN X0.here hx rfl (hb hby d5_0) rfl rfl kq') ?_
  show OwnGo _ _ _ _ (s₁.setTop (mkF m 1 #[.val (.ref w_INTEGER_SET)] [(.ref w_INTEGER_SET)]))
  obtain ⟨cq1, kq1, q1a, q1b, q1c⟩ := isOf hZ e0 E_w_INTEGER_SET
  obtain ⟨_, _, ⟨T1, L1, k1, n1⟩, -, X1, ⟨Lc1, hQ1, l1, y1, z1⟩, st1⟩ := X0.virtualBackUp hx (x := (⟨"com/example/ctl_checker/ctlchecker/SmvExpression$Type", "ordinal", "()I"⟩ : MethodName)) (y := (⟨"java/lang/Enum", "ordinal", "()I"⟩ : MethodName)) (owner := "java/lang/Enum") hown (mvT hZ (hw _ (List.mem_of_getElem? (i := 24) rfl))) (mvT hZ (hw _ (List.mem_of_getElem? (i := 25) rfl))) (mvT hZ (hw _ (List.mem_of_getElem? (i := 26) rfl))) (by decide) (mvT hZ (hw _ (List.mem_of_getElem? (i := 28) rfl))) (mvT hZ (hw _ (List.mem_of_getElem? (i := 27) rfl))) (backOf (W := 0) (rm4 l Z a0 hw [] w_INTEGER_SET (4 : Int32) h0 n0 Zs O_INTEGER_SET) hZ (hw _ (List.mem_of_getElem? (i := 30) rfl)) (hw _ (List.mem_of_getElem? (i := 29) rfl)) (by decide) (by decide)) q1a q1c (g := (mkF m 1 #[.val (.ref w_INTEGER_SET)] [(.ref w_INTEGER_SET)])) rfl (by rw [hml]; rfl) (Steps.refl _) (argsL := []) (rest := []) (lenOf pd_3 rfl) rfl (by show 2 * 0 + _ ≤ _; exact Nat.le_of_eq rfl) (hb hby d5_1) (fun _ _ => ⟨rfl, e0, (by decide : 0 + 0 ≤ _), (by decide : 0 + 0 ≤ _)⟩)
  dsimp only [Pt.U, Pt.locs, Pt.cells, Pt.slots] at X1 l1 y1 z1 st1 hQ1
  subst l1 y1 z1
  obtain ⟨rfl, N1q, e1⟩ := hQ1
  have N := Fr.app N N1q
  refine OwnGo.thru st1 ?_
  show OwnGo _ _ _ _ (T1.setTop (mkF m 4 #[.val (.ref w_INTEGER_SET)] [(.int (4 : Int32))]))
  refine OwnGo.fwd (fun tq' kq' => XS.tswOut X1.here hx rfl (pc0 := 4) (pc' := 50) rfl (hb hby d5_4) rfl (by decide) (by decide) (by decide) kq') ?_
  show OwnGo _ _ _ _ (T1.setTop (mkF m 50 #[.val (.ref w_INTEGER_SET)] []))
  refine OwnGo.fwd (fun tq' kq' => XS.aloadN X1.here hx rfl (hb hby d5_50) rfl rfl kq') ?_
  show OwnGo _ _ _ _ (T1.setTop (mkF m 51 #[.val (.ref w_INTEGER_SET)] [(.ref w_INTEGER_SET)]))
  exact own_retA X1 hlk hx Bd.returns rfl rfl (hb hby d5_51) (by decide) (by decide) e1 ⟨rfl, N, rfl⟩
theorem ef_1SYMBOLIC_SET (m : MethodId) (x0 : Int32) : entryFrame m #[(.int x0)] 1 = mkF m 0 #[.val (.int x0)] [] := by first | (simp [entryFrame, mkF, argsToLocals, Value.category, maxLocals]; done) | rfl
def Q1SYMBOLIC_SET (Z : State) (w_CONDITION : Addr) (w_INTEGER : Addr) (w_SYMBOLIC : Addr) (w_CONDITION_SET : Addr) (w_INTEGER_SET : Addr) (w_SYMBOLIC_SET : Addr) (h0 : Heap) (n0 : Nat) (v : Option Value) (h : Heap) (L : List Loc) : Prop := v = some (.ref w_SYMBOLIC_SET) ∧ Fr n0 L ∧ h = h0
set_option maxRecDepth 65536 in
set_option maxHeartbeats 40000000 in
theorem rm1SYMBOLIC_SET (l : Launch) (Z : State) (a0 : Array Value) (hw : ∀ d ∈ tables_1, d.before a0 Z = true) (ws : List Jvm.Cond) (w_CONDITION : Addr) (w_INTEGER : Addr) (w_SYMBOLIC : Addr) (w_CONDITION_SET : Addr) (w_INTEGER_SET : Addr) (w_SYMBOLIC_SET : Addr) (h0 : Heap) (n0 : Nat) (Z0 : n0 ≤ h0.size) (S_CONDITION : Sta Z h0 "com/example/ctl_checker/ctlchecker/SmvExpression$Type" "CONDITION" "Lcom/example/ctl_checker/ctlchecker/SmvExpression$Type;" (.ref w_CONDITION)) (E_w_CONDITION : Exa Z h0 w_CONDITION "com/example/ctl_checker/ctlchecker/SmvExpression$Type") (O_CONDITION : Fld Z h0 w_CONDITION "java/lang/Enum" "ordinal" "I" (.int 0)) (S_INTEGER : Sta Z h0 "com/example/ctl_checker/ctlchecker/SmvExpression$Type" "INTEGER" "Lcom/example/ctl_checker/ctlchecker/SmvExpression$Type;" (.ref w_INTEGER)) (E_w_INTEGER : Exa Z h0 w_INTEGER "com/example/ctl_checker/ctlchecker/SmvExpression$Type") (O_INTEGER : Fld Z h0 w_INTEGER "java/lang/Enum" "ordinal" "I" (.int 1)) (S_SYMBOLIC : Sta Z h0 "com/example/ctl_checker/ctlchecker/SmvExpression$Type" "SYMBOLIC" "Lcom/example/ctl_checker/ctlchecker/SmvExpression$Type;" (.ref w_SYMBOLIC)) (E_w_SYMBOLIC : Exa Z h0 w_SYMBOLIC "com/example/ctl_checker/ctlchecker/SmvExpression$Type") (O_SYMBOLIC : Fld Z h0 w_SYMBOLIC "java/lang/Enum" "ordinal" "I" (.int 2)) (S_CONDITION_SET : Sta Z h0 "com/example/ctl_checker/ctlchecker/SmvExpression$Type" "CONDITION_SET" "Lcom/example/ctl_checker/ctlchecker/SmvExpression$Type;" (.ref w_CONDITION_SET)) (E_w_CONDITION_SET : Exa Z h0 w_CONDITION_SET "com/example/ctl_checker/ctlchecker/SmvExpression$Type") (O_CONDITION_SET : Fld Z h0 w_CONDITION_SET "java/lang/Enum" "ordinal" "I" (.int 3)) (S_INTEGER_SET : Sta Z h0 "com/example/ctl_checker/ctlchecker/SmvExpression$Type" "INTEGER_SET" "Lcom/example/ctl_checker/ctlchecker/SmvExpression$Type;" (.ref w_INTEGER_SET)) (E_w_INTEGER_SET : Exa Z h0 w_INTEGER_SET "com/example/ctl_checker/ctlchecker/SmvExpression$Type") (O_INTEGER_SET : Fld Z h0 w_INTEGER_SET "java/lang/Enum" "ordinal" "I" (.int 4)) (S_SYMBOLIC_SET : Sta Z h0 "com/example/ctl_checker/ctlchecker/SmvExpression$Type" "SYMBOLIC_SET" "Lcom/example/ctl_checker/ctlchecker/SmvExpression$Type;" (.ref w_SYMBOLIC_SET)) (E_w_SYMBOLIC_SET : Exa Z h0 w_SYMBOLIC_SET "com/example/ctl_checker/ctlchecker/SmvExpression$Type") (O_SYMBOLIC_SET : Fld Z h0 w_SYMBOLIC_SET "java/lang/Enum" "ordinal" "I" (.int 5)) :
    MetFree l (⟨"com/example/ctl_checker/ctlchecker/TypeIsSetPinLaw", "pick", "(I)Lcom/example/ctl_checker/ctlchecker/SmvExpression$Type;"⟩ : MethodName) (head1 (Jvm.Cond.code (⟨"com/example/ctl_checker/ctlchecker/TypeIsSetPinLaw", "pick", "(I)Lcom/example/ctl_checker/ctlchecker/SmvExpression$Type;"⟩ : MethodName) method_2_code 1 (some (.object "com/example/ctl_checker/ctlchecker/SmvExpression$Type")) :: ws) ({ frames := 0, cells := 0, slots := 0, locals := 0 } : Room)) (fun arr' U => arr' = #[(.int (5 : Int32))] ∧ Z.Warmed39 U.vm ∧ U.heap = h0) (fun _ _ _ _ _ => True) (fun _ U o U' => ∃ v L, o = .returned v ∧ (Q1SYMBOLIC_SET Z w_CONDITION w_INTEGER w_SYMBOLIC w_CONDITION_SET w_INTEGER_SET w_SYMBOLIC_SET h0 n0) v U'.heap L ∧ FrameEnd U o U' L ({ frames := 0, cells := 0, slots := 0, locals := 0 } : Room).cells ({ frames := 0, cells := 0, slots := 0, locals := 0 } : Room).slots) := by
  refine MetFree.of_bodySF (plainFor_of_name pn_1) hisR ?_
  intro p e s m args below meth c s₁ Bd hml0 hP hK
  obtain ⟨rfl, hZ, hh⟩ := hP
  have hx := Bd.exec
  have hby := Bd.bytes
  have hlk : meth.locks = false := BodyLoose.notSynchronized Bd
  have hml : c.maxLocals = 1 := hml0
  have hown : s.vm.findClass "com/example/ctl_checker/ctlchecker/TypeIsSetPinLaw" = some m.cls := findClass_of_methodNamed Bd.named
  have hnm := (name_of_methodNamed Bd.named Bd.method).1
  have X0 : Stand p l e ({ frames := 0, cells := 0, slots := 0, locals := 0 } : Room) s m #[(.int (5 : Int32))] below meth c s₁ [] 0 0 := Stand.of_body Bd
  have e0 : s₁.heap = h0 := by rw [← hh, Bd.state]; rfl
  have N := Fr.nil n0
  have Zs := Z0
  change OwnGo p.tables e below (OwnEnd s (Q1SYMBOLIC_SET Z w_CONDITION w_INTEGER w_SYMBOLIC w_CONDITION_SET w_INTEGER_SET w_SYMBOLIC_SET h0 n0) ({ frames := 0, cells := 0, slots := 0, locals := 0 } : Room).cells ({ frames := 0, cells := 0, slots := 0, locals := 0 } : Room).slots) _
  refine OwnGo.fwd (fun tq' kq' => castTop (ef_1SYMBOLIC_SET m (5 : Int32)) kq') ?_
  show OwnGo _ _ _ _ (s₁.setTop (mkF m 0 #[.val (.int (5 : Int32))] []))
  refine OwnGo.fwd (fun tq' kq' => XS.iloadN X0.here hx rfl (hb hby d1_0) rfl kq') ?_
  show OwnGo _ _ _ _ (s₁.setTop (mkF m 1 #[.val (.int (5 : Int32))] [(.int (5 : Int32))]))
  have hc1_1 : ¬ ((5 : Int) = (0 : Int)) := by decide
  refine OwnGo.fwd (fun tq' kq' => XS.ifYes X0.here hx rfl (pc0 := 1) (pc' := 8) rfl (hb hby d1_1) rfl ((if0 _ _).trans (own_bneq (by decide) (by decide) hc1_1).2) (by decide) (by decide) kq') ?_
  show OwnGo _ _ _ _ (s₁.setTop (mkF m 8 #[.val (.int (5 : Int32))] []))
  refine OwnGo.fwd (fun tq' kq' => XS.iloadN X0.here hx rfl (hb hby d1_8) rfl kq') ?_
  show OwnGo _ _ _ _ (s₁.setTop (mkF m 9 #[.val (.int (5 : Int32))] [(.int (5 : Int32))]))
  refine OwnGo.fwd (fun tq' kq' => XS.iconst X0.here hx rfl (hb hby d1_9) kq') ?_
  show OwnGo _ _ _ _ (s₁.setTop (mkF m 10 #[.val (.int (5 : Int32))] [(.int (1 : Int32)), (.int (5 : Int32))]))
  have hc10_2 : ¬ ((5 : Int) = (1 : Int)) := by decide
  refine OwnGo.fwd (fun tq' kq' => XS.icmpYes X0.here hx rfl (pc0 := 10) (pc' := 17) rfl (hb hby d1_10) rfl (own_bneq (by decide) (by decide) hc10_2).2 (by decide) (by decide) kq') ?_
  show OwnGo _ _ _ _ (s₁.setTop (mkF m 17 #[.val (.int (5 : Int32))] []))
  refine OwnGo.fwd (fun tq' kq' => XS.iloadN X0.here hx rfl (hb hby d1_17) rfl kq') ?_
  show OwnGo _ _ _ _ (s₁.setTop (mkF m 18 #[.val (.int (5 : Int32))] [(.int (5 : Int32))]))
  refine OwnGo.fwd (fun tq' kq' => XS.iconst X0.here hx rfl (hb hby d1_18) kq') ?_
  show OwnGo _ _ _ _ (s₁.setTop (mkF m 19 #[.val (.int (5 : Int32))] [(.int (2 : Int32)), (.int (5 : Int32))]))
  have hc19_3 : ¬ ((5 : Int) = (2 : Int)) := by decide
  refine OwnGo.fwd (fun tq' kq' => XS.icmpYes X0.here hx rfl (pc0 := 19) (pc' := 26) rfl (hb hby d1_19) rfl (own_bneq (by decide) (by decide) hc19_3).2 (by decide) (by decide) kq') ?_
  show OwnGo _ _ _ _ (s₁.setTop (mkF m 26 #[.val (.int (5 : Int32))] []))
  refine OwnGo.fwd (fun tq' kq' => XS.iloadN X0.here hx rfl (hb hby d1_26) rfl kq') ?_
  show OwnGo _ _ _ _ (s₁.setTop (mkF m 27 #[.val (.int (5 : Int32))] [(.int (5 : Int32))]))
  refine OwnGo.fwd (fun tq' kq' => XS.iconst X0.here hx rfl (hb hby d1_27) kq') ?_
  show OwnGo _ _ _ _ (s₁.setTop (mkF m 28 #[.val (.int (5 : Int32))] [(.int (3 : Int32)), (.int (5 : Int32))]))
  have hc28_4 : ¬ ((5 : Int) = (3 : Int)) := by decide
  refine OwnGo.fwd (fun tq' kq' => XS.icmpYes X0.here hx rfl (pc0 := 28) (pc' := 35) rfl (hb hby d1_28) rfl (own_bneq (by decide) (by decide) hc28_4).2 (by decide) (by decide) kq') ?_
  show OwnGo _ _ _ _ (s₁.setTop (mkF m 35 #[.val (.int (5 : Int32))] []))
  refine OwnGo.fwd (fun tq' kq' => XS.iloadN X0.here hx rfl (hb hby d1_35) rfl kq') ?_
  show OwnGo _ _ _ _ (s₁.setTop (mkF m 36 #[.val (.int (5 : Int32))] [(.int (5 : Int32))]))
  refine OwnGo.fwd (fun tq' kq' => XS.iconst X0.here hx rfl (hb hby d1_36) kq') ?_
  show OwnGo _ _ _ _ (s₁.setTop (mkF m 37 #[.val (.int (5 : Int32))] [(.int (4 : Int32)), (.int (5 : Int32))]))
  have hc37_5 : ¬ ((5 : Int) = (4 : Int)) := by decide
  refine OwnGo.fwd (fun tq' kq' => XS.icmpYes X0.here hx rfl (pc0 := 37) (pc' := 44) rfl (hb hby d1_37) rfl (own_bneq (by decide) (by decide) hc37_5).2 (by decide) (by decide) kq') ?_
  show OwnGo _ _ _ _ (s₁.setTop (mkF m 44 #[.val (.int (5 : Int32))] []))
  obtain ⟨T6, X6, e6, st6⟩ := getS2 X0 hx hZ hown (host := "") (Or.inl (hw _ (List.mem_of_getElem? (i := 44) rfl))) Via.refl e0 S_SYMBOLIC_SET (g := (mkF m 44 #[.val (.int (5 : Int32))] [])) rfl (hb hby d1_44)
  refine OwnGo.fwd st6 ?_
  show OwnGo _ _ _ _ (T6.setTop (mkF m 47 #[.val (.int (5 : Int32))] [(.ref w_SYMBOLIC_SET)]))
  exact own_retA X6 hlk hx Bd.returns rfl rfl (hb hby d1_47) (by decide) (by decide) e6 ⟨rfl, N, rfl⟩
theorem ef_2SYMBOLIC_SET (m : MethodId) (x0 : Addr) : entryFrame m #[(.ref x0)] 1 = mkF m 0 #[.val (.ref x0)] [] := by first | (simp [entryFrame, mkF, argsToLocals, Value.category, maxLocals]; done) | rfl
def Q2SYMBOLIC_SET (Z : State) (w_CONDITION : Addr) (w_INTEGER : Addr) (w_SYMBOLIC : Addr) (w_CONDITION_SET : Addr) (w_INTEGER_SET : Addr) (w_SYMBOLIC_SET : Addr) (h0 : Heap) (n0 : Nat) (v : Option Value) (h : Heap) (L : List Loc) : Prop := v = some (.int 1) ∧ Fr n0 L ∧ h = h0
set_option maxRecDepth 65536 in
set_option maxHeartbeats 40000000 in
theorem rm2SYMBOLIC_SET (l : Launch) (Z : State) (a0 : Array Value) (hw : ∀ d ∈ tables_1, d.before a0 Z = true) (ws : List Jvm.Cond) (w_CONDITION : Addr) (w_INTEGER : Addr) (w_SYMBOLIC : Addr) (w_CONDITION_SET : Addr) (w_INTEGER_SET : Addr) (w_SYMBOLIC_SET : Addr) (h0 : Heap) (n0 : Nat) (Z0 : n0 ≤ h0.size) (S_CONDITION : Sta Z h0 "com/example/ctl_checker/ctlchecker/SmvExpression$Type" "CONDITION" "Lcom/example/ctl_checker/ctlchecker/SmvExpression$Type;" (.ref w_CONDITION)) (E_w_CONDITION : Exa Z h0 w_CONDITION "com/example/ctl_checker/ctlchecker/SmvExpression$Type") (O_CONDITION : Fld Z h0 w_CONDITION "java/lang/Enum" "ordinal" "I" (.int 0)) (S_INTEGER : Sta Z h0 "com/example/ctl_checker/ctlchecker/SmvExpression$Type" "INTEGER" "Lcom/example/ctl_checker/ctlchecker/SmvExpression$Type;" (.ref w_INTEGER)) (E_w_INTEGER : Exa Z h0 w_INTEGER "com/example/ctl_checker/ctlchecker/SmvExpression$Type") (O_INTEGER : Fld Z h0 w_INTEGER "java/lang/Enum" "ordinal" "I" (.int 1)) (S_SYMBOLIC : Sta Z h0 "com/example/ctl_checker/ctlchecker/SmvExpression$Type" "SYMBOLIC" "Lcom/example/ctl_checker/ctlchecker/SmvExpression$Type;" (.ref w_SYMBOLIC)) (E_w_SYMBOLIC : Exa Z h0 w_SYMBOLIC "com/example/ctl_checker/ctlchecker/SmvExpression$Type") (O_SYMBOLIC : Fld Z h0 w_SYMBOLIC "java/lang/Enum" "ordinal" "I" (.int 2)) (S_CONDITION_SET : Sta Z h0 "com/example/ctl_checker/ctlchecker/SmvExpression$Type" "CONDITION_SET" "Lcom/example/ctl_checker/ctlchecker/SmvExpression$Type;" (.ref w_CONDITION_SET)) (E_w_CONDITION_SET : Exa Z h0 w_CONDITION_SET "com/example/ctl_checker/ctlchecker/SmvExpression$Type") (O_CONDITION_SET : Fld Z h0 w_CONDITION_SET "java/lang/Enum" "ordinal" "I" (.int 3)) (S_INTEGER_SET : Sta Z h0 "com/example/ctl_checker/ctlchecker/SmvExpression$Type" "INTEGER_SET" "Lcom/example/ctl_checker/ctlchecker/SmvExpression$Type;" (.ref w_INTEGER_SET)) (E_w_INTEGER_SET : Exa Z h0 w_INTEGER_SET "com/example/ctl_checker/ctlchecker/SmvExpression$Type") (O_INTEGER_SET : Fld Z h0 w_INTEGER_SET "java/lang/Enum" "ordinal" "I" (.int 4)) (S_SYMBOLIC_SET : Sta Z h0 "com/example/ctl_checker/ctlchecker/SmvExpression$Type" "SYMBOLIC_SET" "Lcom/example/ctl_checker/ctlchecker/SmvExpression$Type;" (.ref w_SYMBOLIC_SET)) (E_w_SYMBOLIC_SET : Exa Z h0 w_SYMBOLIC_SET "com/example/ctl_checker/ctlchecker/SmvExpression$Type") (O_SYMBOLIC_SET : Fld Z h0 w_SYMBOLIC_SET "java/lang/Enum" "ordinal" "I" (.int 5)) :
    MetFree l (⟨"com/example/ctl_checker/ctlchecker/SmvExpression$Type", "isSet", "()Z"⟩ : MethodName) (head1 (Jvm.Cond.code (⟨"com/example/ctl_checker/ctlchecker/SmvExpression$Type", "isSet", "()Z"⟩ : MethodName) prog_62_method_4_code 1 (some .boolean) :: ws) ({ frames := 0, cells := 0, slots := 0, locals := 0 } : Room)) (fun arr' U => arr' = #[(.ref w_SYMBOLIC_SET)] ∧ Z.Warmed39 U.vm ∧ U.heap = h0) (fun _ _ _ _ _ => True) (fun _ U o U' => ∃ v L, o = .returned v ∧ (Q2SYMBOLIC_SET Z w_CONDITION w_INTEGER w_SYMBOLIC w_CONDITION_SET w_INTEGER_SET w_SYMBOLIC_SET h0 n0) v U'.heap L ∧ FrameEnd U o U' L ({ frames := 0, cells := 0, slots := 0, locals := 0 } : Room).cells ({ frames := 0, cells := 0, slots := 0, locals := 0 } : Room).slots) := by
  refine MetFree.of_bodySF (plainFor_of_name pn_2) hisR ?_
  intro p e s m args below meth c s₁ Bd hml0 hP hK
  obtain ⟨rfl, hZ, hh⟩ := hP
  have hx := Bd.exec
  have hby := Bd.bytes
  have hlk : meth.locks = false := BodyLoose.notSynchronized Bd
  have hml : c.maxLocals = 1 := hml0
  have hown : s.vm.findClass "com/example/ctl_checker/ctlchecker/SmvExpression$Type" = some m.cls := findClass_of_methodNamed Bd.named
  have hnm := (name_of_methodNamed Bd.named Bd.method).1
  have X0 : Stand p l e ({ frames := 0, cells := 0, slots := 0, locals := 0 } : Room) s m #[(.ref w_SYMBOLIC_SET)] below meth c s₁ [] 0 0 := Stand.of_body Bd
  have e0 : s₁.heap = h0 := by rw [← hh, Bd.state]; rfl
  have N := Fr.nil n0
  have Zs := Z0
  change OwnGo p.tables e below (OwnEnd s (Q2SYMBOLIC_SET Z w_CONDITION w_INTEGER w_SYMBOLIC w_CONDITION_SET w_INTEGER_SET w_SYMBOLIC_SET h0 n0) ({ frames := 0, cells := 0, slots := 0, locals := 0 } : Room).cells ({ frames := 0, cells := 0, slots := 0, locals := 0 } : Room).slots) _
  refine OwnGo.fwd (fun tq' kq' => castTop (ef_2SYMBOLIC_SET m w_SYMBOLIC_SET) kq') ?_
  show OwnGo _ _ _ _ (s₁.setTop (mkF m 0 #[.val (.ref w_SYMBOLIC_SET)] []))
  have ne_CONDITION_INTEGER : w_CONDITION ≠ w_INTEGER := Fld.ne O_CONDITION O_INTEGER (by decide)
  have ne_CONDITION_SYMBOLIC : w_CONDITION ≠ w_SYMBOLIC := Fld.ne O_CONDITION O_SYMBOLIC (by decide)
  have ne_CONDITION_CONDITION_SET : w_CONDITION ≠ w_CONDITION_SET := Fld.ne O_CONDITION O_CONDITION_SET (by decide)
  have ne_CONDITION_INTEGER_SET : w_CONDITION ≠ w_INTEGER_SET := Fld.ne O_CONDITION O_INTEGER_SET (by decide)
  have ne_CONDITION_SYMBOLIC_SET : w_CONDITION ≠ w_SYMBOLIC_SET := Fld.ne O_CONDITION O_SYMBOLIC_SET (by decide)
  have ne_INTEGER_SYMBOLIC : w_INTEGER ≠ w_SYMBOLIC := Fld.ne O_INTEGER O_SYMBOLIC (by decide)
  have ne_INTEGER_CONDITION_SET : w_INTEGER ≠ w_CONDITION_SET := Fld.ne O_INTEGER O_CONDITION_SET (by decide)
  have ne_INTEGER_INTEGER_SET : w_INTEGER ≠ w_INTEGER_SET := Fld.ne O_INTEGER O_INTEGER_SET (by decide)
  have ne_INTEGER_SYMBOLIC_SET : w_INTEGER ≠ w_SYMBOLIC_SET := Fld.ne O_INTEGER O_SYMBOLIC_SET (by decide)
  have ne_SYMBOLIC_CONDITION_SET : w_SYMBOLIC ≠ w_CONDITION_SET := Fld.ne O_SYMBOLIC O_CONDITION_SET (by decide)
  have ne_SYMBOLIC_INTEGER_SET : w_SYMBOLIC ≠ w_INTEGER_SET := Fld.ne O_SYMBOLIC O_INTEGER_SET (by decide)
  have ne_SYMBOLIC_SYMBOLIC_SET : w_SYMBOLIC ≠ w_SYMBOLIC_SET := Fld.ne O_SYMBOLIC O_SYMBOLIC_SET (by decide)
  have ne_CONDITION_SET_INTEGER_SET : w_CONDITION_SET ≠ w_INTEGER_SET := Fld.ne O_CONDITION_SET O_INTEGER_SET (by decide)
  have ne_CONDITION_SET_SYMBOLIC_SET : w_CONDITION_SET ≠ w_SYMBOLIC_SET := Fld.ne O_CONDITION_SET O_SYMBOLIC_SET (by decide)
  have ne_INTEGER_SET_SYMBOLIC_SET : w_INTEGER_SET ≠ w_SYMBOLIC_SET := Fld.ne O_INTEGER_SET O_SYMBOLIC_SET (by decide)
  refine OwnGo.fwd (fun tq' kq' => XS.aloadN X0.here hx rfl (hb hby d2_0) rfl rfl kq') ?_
  show OwnGo _ _ _ _ (s₁.setTop (mkF m 1 #[.val (.ref w_SYMBOLIC_SET)] [(.ref w_SYMBOLIC_SET)]))
  obtain ⟨T1, X1, e1, st1⟩ := getS2 X0 hx hZ hown (host := "") (Or.inl (hw _ (List.mem_of_getElem? (i := 13) rfl))) Via.refl e0 S_CONDITION_SET (g := (mkF m 1 #[.val (.ref w_SYMBOLIC_SET)] [(.ref w_SYMBOLIC_SET)])) rfl (hb hby d2_1)
  refine OwnGo.fwd st1 ?_
  show OwnGo _ _ _ _ (T1.setTop (mkF m 4 #[.val (.ref w_SYMBOLIC_SET)] [(.ref w_CONDITION_SET), (.ref w_SYMBOLIC_SET)]))
  refine OwnGo.fwd (fun tq' kq' => Jvm.RoadKit.acmp (g := (mkF m 4 #[.val (.ref w_SYMBOLIC_SET)] [(.ref w_CONDITION_SET), (.ref w_SYMBOLIC_SET)])) X1 hx rfl rfl rfl (pc0 := 4) (pc' := 7) (same := false) rfl (hb hby d2_4) rfl (decide_eq_false fun q => (Ne.symm ne_CONDITION_SET_SYMBOLIC_SET) (Value.ref.inj q)) (by decide) (by decide) kq') ?_
  show OwnGo _ _ _ _ (T1.setTop (mkF m 7 #[.val (.ref w_SYMBOLIC_SET)] []))
  refine OwnGo.fwd (fun tq' kq' => XS.aloadN X1.here hx rfl (hb hby d2_7) rfl rfl kq') ?_
  show OwnGo _ _ _ _ (T1.setTop (mkF m 8 #[.val (.ref w_SYMBOLIC_SET)] [(.ref w_SYMBOLIC_SET)]))
  obtain ⟨T2, X2, e2, st2⟩ := getS2 X1 hx hZ hown (host := "") (Or.inl (hw _ (List.mem_of_getElem? (i := 15) rfl))) Via.refl e1 S_INTEGER_SET (g := (mkF m 8 #[.val (.ref w_SYMBOLIC_SET)] [(.ref w_SYMBOLIC_SET)])) rfl (hb hby d2_8)
  refine OwnGo.fwd st2 ?_
  show OwnGo _ _ _ _ (T2.setTop (mkF m 11 #[.val (.ref w_SYMBOLIC_SET)] [(.ref w_INTEGER_SET), (.ref w_SYMBOLIC_SET)]))
  refine OwnGo.fwd (fun tq' kq' => Jvm.RoadKit.acmp (g := (mkF m 11 #[.val (.ref w_SYMBOLIC_SET)] [(.ref w_INTEGER_SET), (.ref w_SYMBOLIC_SET)])) X2 hx rfl rfl rfl (pc0 := 11) (pc' := 14) (same := false) rfl (hb hby d2_11) rfl (decide_eq_false fun q => (Ne.symm ne_INTEGER_SET_SYMBOLIC_SET) (Value.ref.inj q)) (by decide) (by decide) kq') ?_
  show OwnGo _ _ _ _ (T2.setTop (mkF m 14 #[.val (.ref w_SYMBOLIC_SET)] []))
  refine OwnGo.fwd (fun tq' kq' => XS.aloadN X2.here hx rfl (hb hby d2_14) rfl rfl kq') ?_
  show OwnGo _ _ _ _ (T2.setTop (mkF m 15 #[.val (.ref w_SYMBOLIC_SET)] [(.ref w_SYMBOLIC_SET)]))
  obtain ⟨T3, X3, e3, st3⟩ := getS2 X2 hx hZ hown (host := "") (Or.inl (hw _ (List.mem_of_getElem? (i := 17) rfl))) Via.refl e2 S_SYMBOLIC_SET (g := (mkF m 15 #[.val (.ref w_SYMBOLIC_SET)] [(.ref w_SYMBOLIC_SET)])) rfl (hb hby d2_15)
  refine OwnGo.fwd st3 ?_
  show OwnGo _ _ _ _ (T3.setTop (mkF m 18 #[.val (.ref w_SYMBOLIC_SET)] [(.ref w_SYMBOLIC_SET), (.ref w_SYMBOLIC_SET)]))
  refine OwnGo.fwd (fun tq' kq' => Jvm.RoadKit.acmp (g := (mkF m 18 #[.val (.ref w_SYMBOLIC_SET)] [(.ref w_SYMBOLIC_SET), (.ref w_SYMBOLIC_SET)])) X3 hx rfl rfl rfl (pc0 := 18) (pc' := 21) (same := true) rfl (hb hby d2_18) rfl (decide_eq_true rfl) (by decide) (by decide) kq') ?_
  show OwnGo _ _ _ _ (T3.setTop (mkF m 21 #[.val (.ref w_SYMBOLIC_SET)] []))
  refine OwnGo.fwd (fun tq' kq' => XS.iconst X3.here hx rfl (hb hby d2_21) kq') ?_
  show OwnGo _ _ _ _ (T3.setTop (mkF m 22 #[.val (.ref w_SYMBOLIC_SET)] [(.int (1 : Int32))]))
  refine OwnGo.fwd (fun tq' kq' => XS.goto X3.here hx rfl (pc0 := 22) (pc' := 26) rfl (hb hby d2_22) (by decide) (by decide) kq') ?_
  show OwnGo _ _ _ _ (T3.setTop (mkF m 26 #[.val (.ref w_SYMBOLIC_SET)] [(.int (1 : Int32))]))
  exact own_retZ X3 hlk hx Bd.returns (hb hby d2_26) (by decide) (by decide) e3 ⟨rfl, N, rfl⟩
theorem ef_3SYMBOLIC_SET (m : MethodId) (x0 : Addr) : entryFrame m #[(.ref x0)] 1 = mkF m 0 #[.val (.ref x0)] [] := by first | (simp [entryFrame, mkF, argsToLocals, Value.category, maxLocals]; done) | rfl
def Q3SYMBOLIC_SET (Z : State) (w_CONDITION : Addr) (w_INTEGER : Addr) (w_SYMBOLIC : Addr) (w_CONDITION_SET : Addr) (w_INTEGER_SET : Addr) (w_SYMBOLIC_SET : Addr) (h0 : Heap) (n0 : Nat) (v : Option Value) (h : Heap) (L : List Loc) : Prop := v = some (.ref w_SYMBOLIC) ∧ Fr n0 L ∧ h = h0
set_option maxRecDepth 65536 in
set_option maxHeartbeats 40000000 in
theorem rm3SYMBOLIC_SET (l : Launch) (Z : State) (a0 : Array Value) (hw : ∀ d ∈ tables_1, d.before a0 Z = true) (ws : List Jvm.Cond) (w_CONDITION : Addr) (w_INTEGER : Addr) (w_SYMBOLIC : Addr) (w_CONDITION_SET : Addr) (w_INTEGER_SET : Addr) (w_SYMBOLIC_SET : Addr) (h0 : Heap) (n0 : Nat) (Z0 : n0 ≤ h0.size) (S_CONDITION : Sta Z h0 "com/example/ctl_checker/ctlchecker/SmvExpression$Type" "CONDITION" "Lcom/example/ctl_checker/ctlchecker/SmvExpression$Type;" (.ref w_CONDITION)) (E_w_CONDITION : Exa Z h0 w_CONDITION "com/example/ctl_checker/ctlchecker/SmvExpression$Type") (O_CONDITION : Fld Z h0 w_CONDITION "java/lang/Enum" "ordinal" "I" (.int 0)) (S_INTEGER : Sta Z h0 "com/example/ctl_checker/ctlchecker/SmvExpression$Type" "INTEGER" "Lcom/example/ctl_checker/ctlchecker/SmvExpression$Type;" (.ref w_INTEGER)) (E_w_INTEGER : Exa Z h0 w_INTEGER "com/example/ctl_checker/ctlchecker/SmvExpression$Type") (O_INTEGER : Fld Z h0 w_INTEGER "java/lang/Enum" "ordinal" "I" (.int 1)) (S_SYMBOLIC : Sta Z h0 "com/example/ctl_checker/ctlchecker/SmvExpression$Type" "SYMBOLIC" "Lcom/example/ctl_checker/ctlchecker/SmvExpression$Type;" (.ref w_SYMBOLIC)) (E_w_SYMBOLIC : Exa Z h0 w_SYMBOLIC "com/example/ctl_checker/ctlchecker/SmvExpression$Type") (O_SYMBOLIC : Fld Z h0 w_SYMBOLIC "java/lang/Enum" "ordinal" "I" (.int 2)) (S_CONDITION_SET : Sta Z h0 "com/example/ctl_checker/ctlchecker/SmvExpression$Type" "CONDITION_SET" "Lcom/example/ctl_checker/ctlchecker/SmvExpression$Type;" (.ref w_CONDITION_SET)) (E_w_CONDITION_SET : Exa Z h0 w_CONDITION_SET "com/example/ctl_checker/ctlchecker/SmvExpression$Type") (O_CONDITION_SET : Fld Z h0 w_CONDITION_SET "java/lang/Enum" "ordinal" "I" (.int 3)) (S_INTEGER_SET : Sta Z h0 "com/example/ctl_checker/ctlchecker/SmvExpression$Type" "INTEGER_SET" "Lcom/example/ctl_checker/ctlchecker/SmvExpression$Type;" (.ref w_INTEGER_SET)) (E_w_INTEGER_SET : Exa Z h0 w_INTEGER_SET "com/example/ctl_checker/ctlchecker/SmvExpression$Type") (O_INTEGER_SET : Fld Z h0 w_INTEGER_SET "java/lang/Enum" "ordinal" "I" (.int 4)) (S_SYMBOLIC_SET : Sta Z h0 "com/example/ctl_checker/ctlchecker/SmvExpression$Type" "SYMBOLIC_SET" "Lcom/example/ctl_checker/ctlchecker/SmvExpression$Type;" (.ref w_SYMBOLIC_SET)) (E_w_SYMBOLIC_SET : Exa Z h0 w_SYMBOLIC_SET "com/example/ctl_checker/ctlchecker/SmvExpression$Type") (O_SYMBOLIC_SET : Fld Z h0 w_SYMBOLIC_SET "java/lang/Enum" "ordinal" "I" (.int 5)) :
    MetFree l (⟨"com/example/ctl_checker/ctlchecker/SmvExpression$Type", "element", "()Lcom/example/ctl_checker/ctlchecker/SmvExpression$Type;"⟩ : MethodName) (head1 (Jvm.Cond.code (⟨"com/example/ctl_checker/ctlchecker/SmvExpression$Type", "element", "()Lcom/example/ctl_checker/ctlchecker/SmvExpression$Type;"⟩ : MethodName) prog_62_method_5_code 1 (some (.object "com/example/ctl_checker/ctlchecker/SmvExpression$Type")) :: ws) ({ frames := 1, cells := 0, slots := 0, locals := 13 } : Room)) (fun arr' U => arr' = #[(.ref w_SYMBOLIC_SET)] ∧ Z.Warmed39 U.vm ∧ U.heap = h0) (fun _ _ _ _ _ => True) (fun _ U o U' => ∃ v L, o = .returned v ∧ (Q3SYMBOLIC_SET Z w_CONDITION w_INTEGER w_SYMBOLIC w_CONDITION_SET w_INTEGER_SET w_SYMBOLIC_SET h0 n0) v U'.heap L ∧ FrameEnd U o U' L ({ frames := 1, cells := 0, slots := 0, locals := 13 } : Room).cells ({ frames := 1, cells := 0, slots := 0, locals := 13 } : Room).slots) := by
  refine MetFree.of_bodySF (plainFor_of_name pn_3) hisR ?_
  intro p e s m args below meth c s₁ Bd hml0 hP hK
  obtain ⟨rfl, hZ, hh⟩ := hP
  have hx := Bd.exec
  have hby := Bd.bytes
  have hlk : meth.locks = false := BodyLoose.notSynchronized Bd
  have hml : c.maxLocals = 1 := hml0
  have hown : s.vm.findClass "com/example/ctl_checker/ctlchecker/SmvExpression$Type" = some m.cls := findClass_of_methodNamed Bd.named
  have hnm := (name_of_methodNamed Bd.named Bd.method).1
  have X0 : Stand p l e ({ frames := 1, cells := 0, slots := 0, locals := 13 } : Room) s m #[(.ref w_SYMBOLIC_SET)] below meth c s₁ [] 0 0 := Stand.of_body Bd
  have e0 : s₁.heap = h0 := by rw [← hh, Bd.state]; rfl
  have N := Fr.nil n0
  have Zs := Z0
  change OwnGo p.tables e below (OwnEnd s (Q3SYMBOLIC_SET Z w_CONDITION w_INTEGER w_SYMBOLIC w_CONDITION_SET w_INTEGER_SET w_SYMBOLIC_SET h0 n0) ({ frames := 1, cells := 0, slots := 0, locals := 13 } : Room).cells ({ frames := 1, cells := 0, slots := 0, locals := 13 } : Room).slots) _
  refine OwnGo.fwd (fun tq' kq' => castTop (ef_3SYMBOLIC_SET m w_SYMBOLIC_SET) kq') ?_
  show OwnGo _ _ _ _ (s₁.setTop (mkF m 0 #[.val (.ref w_SYMBOLIC_SET)] []))
  refine OwnGo.fwd (fun tq' kq' => XS.aloadN X0.here hx rfl (hb hby d3_0) rfl rfl kq') ?_
  show OwnGo _ _ _ _ (s₁.setTop (mkF m 1 #[.val (.ref w_SYMBOLIC_SET)] [(.ref w_SYMBOLIC_SET)]))
  obtain ⟨cq1, kq1, q1a, q1b, q1c⟩ := isOf hZ e0 E_w_SYMBOLIC_SET
  obtain ⟨_, _, ⟨T1, L1, k1, n1⟩, -, X1, ⟨Lc1, hQ1, l1, y1, z1⟩, st1⟩ := X0.virtualBackUp hx (x := (⟨"com/example/ctl_checker/ctlchecker/SmvExpression$Type", "ordinal", "()I"⟩ : MethodName)) (y := (⟨"java/lang/Enum", "ordinal", "()I"⟩ : MethodName)) (owner := "java/lang/Enum") hown (mvT hZ (hw _ (List.mem_of_getElem? (i := 24) rfl))) (mvT hZ (hw _ (List.mem_of_getElem? (i := 25) rfl))) (mvT hZ (hw _ (List.mem_of_getElem? (i := 26) rfl))) (by decide) (mvT hZ (hw _ (List.mem_of_getElem? (i := 28) rfl))) (mvT hZ (hw _ (List.mem_of_getElem? (i := 27) rfl))) (backOf (W := 0) (rm4 l Z a0 hw [] w_SYMBOLIC_SET (5 : Int32) h0 n0 Zs O_SYMBOLIC_SET) hZ (hw _ (List.mem_of_getElem? (i := 30) rfl)) (hw _ (List.mem_of_getElem? (i := 29) rfl)) (by decide) (by decide)) q1a q1c (g := (mkF m 1 #[.val (.ref w_SYMBOLIC_SET)] [(.ref w_SYMBOLIC_SET)])) rfl (by rw [hml]; rfl) (Steps.refl _) (argsL := []) (rest := []) (lenOf pd_3 rfl) rfl (by show 2 * 0 + _ ≤ _; exact Nat.le_of_eq rfl) (hb hby d3_1) (fun _ _ => ⟨rfl, e0, (by decide : 0 + 0 ≤ _), (by decide : 0 + 0 ≤ _)⟩)
  dsimp only [Pt.U, Pt.locs, Pt.cells, Pt.slots] at X1 l1 y1 z1 st1 hQ1
  subst l1 y1 z1
  obtain ⟨rfl, N1q, e1⟩ := hQ1
  have N := Fr.app N N1q
  refine OwnGo.thru st1 ?_
  show OwnGo _ _ _ _ (T1.setTop (mkF m 4 #[.val (.ref w_SYMBOLIC_SET)] [(.int (5 : Int32))]))
  refine OwnGo.fwd (fun tq' kq' => XS.tswIn X1.here hx rfl (pc0 := 4) (pc' := 44) (o := 40) rfl (hb hby d3_4) rfl (by decide) (by decide) (by decide) (by decide) kq') ?_
  show OwnGo _ _ _ _ (T1.setTop (mkF m 44 #[.val (.ref w_SYMBOLIC_SET)] []))
  obtain ⟨T2, X2, e2, st2⟩ := getS2 X1 hx hZ hown (host := "") (Or.inl (hw _ (List.mem_of_getElem? (i := 45) rfl))) Via.refl e1 S_SYMBOLIC (g := (mkF m 44 #[.val (.ref w_SYMBOLIC_SET)] [])) rfl (hb hby d3_44)
  refine OwnGo.fwd st2 ?_
  show OwnGo _ _ _ _ (T2.setTop (mkF m 47 #[.val (.ref w_SYMBOLIC_SET)] [(.ref w_SYMBOLIC)]))
  refine OwnGo.fwd (fun tq' kq' => XS.goto X2.here hx rfl (pc0 := 47) (pc' := 51) rfl (hb hby d3_47) (by decide) (by decide) kq') ?_
  show OwnGo _ _ _ _ (T2.setTop (mkF m 51 #[.val (.ref w_SYMBOLIC_SET)] [(.ref w_SYMBOLIC)]))
  exact own_retA X2 hlk hx Bd.returns rfl rfl (hb hby d3_51) (by decide) (by decide) e2 ⟨rfl, N, rfl⟩
theorem ef_5SYMBOLIC_SET (m : MethodId) (x0 : Addr) : entryFrame m #[(.ref x0)] 1 = mkF m 0 #[.val (.ref x0)] [] := by first | (simp [entryFrame, mkF, argsToLocals, Value.category, maxLocals]; done) | rfl
def Q5SYMBOLIC_SET (Z : State) (w_CONDITION : Addr) (w_INTEGER : Addr) (w_SYMBOLIC : Addr) (w_CONDITION_SET : Addr) (w_INTEGER_SET : Addr) (w_SYMBOLIC_SET : Addr) (h0 : Heap) (n0 : Nat) (v : Option Value) (h : Heap) (L : List Loc) : Prop := v = some (.ref w_SYMBOLIC_SET) ∧ Fr n0 L ∧ h = h0
set_option maxRecDepth 65536 in
set_option maxHeartbeats 40000000 in
theorem rm5SYMBOLIC_SET (l : Launch) (Z : State) (a0 : Array Value) (hw : ∀ d ∈ tables_1, d.before a0 Z = true) (ws : List Jvm.Cond) (w_CONDITION : Addr) (w_INTEGER : Addr) (w_SYMBOLIC : Addr) (w_CONDITION_SET : Addr) (w_INTEGER_SET : Addr) (w_SYMBOLIC_SET : Addr) (h0 : Heap) (n0 : Nat) (Z0 : n0 ≤ h0.size) (S_CONDITION : Sta Z h0 "com/example/ctl_checker/ctlchecker/SmvExpression$Type" "CONDITION" "Lcom/example/ctl_checker/ctlchecker/SmvExpression$Type;" (.ref w_CONDITION)) (E_w_CONDITION : Exa Z h0 w_CONDITION "com/example/ctl_checker/ctlchecker/SmvExpression$Type") (O_CONDITION : Fld Z h0 w_CONDITION "java/lang/Enum" "ordinal" "I" (.int 0)) (S_INTEGER : Sta Z h0 "com/example/ctl_checker/ctlchecker/SmvExpression$Type" "INTEGER" "Lcom/example/ctl_checker/ctlchecker/SmvExpression$Type;" (.ref w_INTEGER)) (E_w_INTEGER : Exa Z h0 w_INTEGER "com/example/ctl_checker/ctlchecker/SmvExpression$Type") (O_INTEGER : Fld Z h0 w_INTEGER "java/lang/Enum" "ordinal" "I" (.int 1)) (S_SYMBOLIC : Sta Z h0 "com/example/ctl_checker/ctlchecker/SmvExpression$Type" "SYMBOLIC" "Lcom/example/ctl_checker/ctlchecker/SmvExpression$Type;" (.ref w_SYMBOLIC)) (E_w_SYMBOLIC : Exa Z h0 w_SYMBOLIC "com/example/ctl_checker/ctlchecker/SmvExpression$Type") (O_SYMBOLIC : Fld Z h0 w_SYMBOLIC "java/lang/Enum" "ordinal" "I" (.int 2)) (S_CONDITION_SET : Sta Z h0 "com/example/ctl_checker/ctlchecker/SmvExpression$Type" "CONDITION_SET" "Lcom/example/ctl_checker/ctlchecker/SmvExpression$Type;" (.ref w_CONDITION_SET)) (E_w_CONDITION_SET : Exa Z h0 w_CONDITION_SET "com/example/ctl_checker/ctlchecker/SmvExpression$Type") (O_CONDITION_SET : Fld Z h0 w_CONDITION_SET "java/lang/Enum" "ordinal" "I" (.int 3)) (S_INTEGER_SET : Sta Z h0 "com/example/ctl_checker/ctlchecker/SmvExpression$Type" "INTEGER_SET" "Lcom/example/ctl_checker/ctlchecker/SmvExpression$Type;" (.ref w_INTEGER_SET)) (E_w_INTEGER_SET : Exa Z h0 w_INTEGER_SET "com/example/ctl_checker/ctlchecker/SmvExpression$Type") (O_INTEGER_SET : Fld Z h0 w_INTEGER_SET "java/lang/Enum" "ordinal" "I" (.int 4)) (S_SYMBOLIC_SET : Sta Z h0 "com/example/ctl_checker/ctlchecker/SmvExpression$Type" "SYMBOLIC_SET" "Lcom/example/ctl_checker/ctlchecker/SmvExpression$Type;" (.ref w_SYMBOLIC_SET)) (E_w_SYMBOLIC_SET : Exa Z h0 w_SYMBOLIC_SET "com/example/ctl_checker/ctlchecker/SmvExpression$Type") (O_SYMBOLIC_SET : Fld Z h0 w_SYMBOLIC_SET "java/lang/Enum" "ordinal" "I" (.int 5)) :
    MetFree l (⟨"com/example/ctl_checker/ctlchecker/SmvExpression$Type", "set", "()Lcom/example/ctl_checker/ctlchecker/SmvExpression$Type;"⟩ : MethodName) (head1 (Jvm.Cond.code (⟨"com/example/ctl_checker/ctlchecker/SmvExpression$Type", "set", "()Lcom/example/ctl_checker/ctlchecker/SmvExpression$Type;"⟩ : MethodName) prog_62_method_6_code 1 (some (.object "com/example/ctl_checker/ctlchecker/SmvExpression$Type")) :: ws) ({ frames := 1, cells := 0, slots := 0, locals := 13 } : Room)) (fun arr' U => arr' = #[(.ref w_SYMBOLIC_SET)] ∧ Z.Warmed39 U.vm ∧ U.heap = h0) (fun _ _ _ _ _ => True) (fun _ U o U' => ∃ v L, o = .returned v ∧ (Q5SYMBOLIC_SET Z w_CONDITION w_INTEGER w_SYMBOLIC w_CONDITION_SET w_INTEGER_SET w_SYMBOLIC_SET h0 n0) v U'.heap L ∧ FrameEnd U o U' L ({ frames := 1, cells := 0, slots := 0, locals := 13 } : Room).cells ({ frames := 1, cells := 0, slots := 0, locals := 13 } : Room).slots) := by
  refine MetFree.of_bodySF (plainFor_of_name pn_5) hisR ?_
  intro p e s m args below meth c s₁ Bd hml0 hP hK
  obtain ⟨rfl, hZ, hh⟩ := hP
  have hx := Bd.exec
  have hby := Bd.bytes
  have hlk : meth.locks = false := BodyLoose.notSynchronized Bd
  have hml : c.maxLocals = 1 := hml0
  have hown : s.vm.findClass "com/example/ctl_checker/ctlchecker/SmvExpression$Type" = some m.cls := findClass_of_methodNamed Bd.named
  have hnm := (name_of_methodNamed Bd.named Bd.method).1
  have X0 : Stand p l e ({ frames := 1, cells := 0, slots := 0, locals := 13 } : Room) s m #[(.ref w_SYMBOLIC_SET)] below meth c s₁ [] 0 0 := Stand.of_body Bd
  have e0 : s₁.heap = h0 := by rw [← hh, Bd.state]; rfl
  have N := Fr.nil n0
  have Zs := Z0
  change OwnGo p.tables e below (OwnEnd s (Q5SYMBOLIC_SET Z w_CONDITION w_INTEGER w_SYMBOLIC w_CONDITION_SET w_INTEGER_SET w_SYMBOLIC_SET h0 n0) ({ frames := 1, cells := 0, slots := 0, locals := 13 } : Room).cells ({ frames := 1, cells := 0, slots := 0, locals := 13 } : Room).slots) _
  refine OwnGo.fwd (fun tq' kq' => castTop (ef_5SYMBOLIC_SET m w_SYMBOLIC_SET) kq') ?_
  show OwnGo _ _ _ _ (s₁.setTop (mkF m 0 #[.val (.ref w_SYMBOLIC_SET)] []))
  refine OwnGo.fwd (fun tq' kq' => XS.aloadN X0.here hx rfl (hb hby d5_0) rfl rfl kq') ?_
  show OwnGo _ _ _ _ (s₁.setTop (mkF m 1 #[.val (.ref w_SYMBOLIC_SET)] [(.ref w_SYMBOLIC_SET)]))
  obtain ⟨cq1, kq1, q1a, q1b, q1c⟩ := isOf hZ e0 E_w_SYMBOLIC_SET
  obtain ⟨_, _, ⟨T1, L1, k1, n1⟩, -, X1, ⟨Lc1, hQ1, l1, y1, z1⟩, st1⟩ := X0.virtualBackUp hx (x := (⟨"com/example/ctl_checker/ctlchecker/SmvExpression$Type", "ordinal", "()I"⟩ : MethodName)) (y := (⟨"java/lang/Enum", "ordinal", "()I"⟩ : MethodName)) (owner := "java/lang/Enum") hown (mvT hZ (hw _ (List.mem_of_getElem? (i := 24) rfl))) (mvT hZ (hw _ (List.mem_of_getElem? (i := 25) rfl))) (mvT hZ (hw _ (List.mem_of_getElem? (i := 26) rfl))) (by decide) (mvT hZ (hw _ (List.mem_of_getElem? (i := 28) rfl))) (mvT hZ (hw _ (List.mem_of_getElem? (i := 27) rfl))) (backOf (W := 0) (rm4 l Z a0 hw [] w_SYMBOLIC_SET (5 : Int32) h0 n0 Zs O_SYMBOLIC_SET) hZ (hw _ (List.mem_of_getElem? (i := 30) rfl)) (hw _ (List.mem_of_getElem? (i := 29) rfl)) (by decide) (by decide)) q1a q1c (g := (mkF m 1 #[.val (.ref w_SYMBOLIC_SET)] [(.ref w_SYMBOLIC_SET)])) rfl (by rw [hml]; rfl) (Steps.refl _) (argsL := []) (rest := []) (lenOf pd_3 rfl) rfl (by show 2 * 0 + _ ≤ _; exact Nat.le_of_eq rfl) (hb hby d5_1) (fun _ _ => ⟨rfl, e0, (by decide : 0 + 0 ≤ _), (by decide : 0 + 0 ≤ _)⟩)
  dsimp only [Pt.U, Pt.locs, Pt.cells, Pt.slots] at X1 l1 y1 z1 st1 hQ1
  subst l1 y1 z1
  obtain ⟨rfl, N1q, e1⟩ := hQ1
  have N := Fr.app N N1q
  refine OwnGo.thru st1 ?_
  show OwnGo _ _ _ _ (T1.setTop (mkF m 4 #[.val (.ref w_SYMBOLIC_SET)] [(.int (5 : Int32))]))
  refine OwnGo.fwd (fun tq' kq' => XS.tswOut X1.here hx rfl (pc0 := 4) (pc' := 50) rfl (hb hby d5_4) rfl (by decide) (by decide) (by decide) kq') ?_
  show OwnGo _ _ _ _ (T1.setTop (mkF m 50 #[.val (.ref w_SYMBOLIC_SET)] []))
  refine OwnGo.fwd (fun tq' kq' => XS.aloadN X1.here hx rfl (hb hby d5_50) rfl rfl kq') ?_
  show OwnGo _ _ _ _ (T1.setTop (mkF m 51 #[.val (.ref w_SYMBOLIC_SET)] [(.ref w_SYMBOLIC_SET)]))
  exact own_retA X1 hlk hx Bd.returns rfl rfl (hb hby d5_51) (by decide) (by decide) e1 ⟨rfl, N, rfl⟩
theorem own_six (x : Int32) : (x &&& (2147483647 : Int32)) % (6 : Int32) = 0 ∨ (x &&& (2147483647 : Int32)) % (6 : Int32) = 1 ∨ (x &&& (2147483647 : Int32)) % (6 : Int32) = 2 ∨ (x &&& (2147483647 : Int32)) % (6 : Int32) = 3 ∨ (x &&& (2147483647 : Int32)) % (6 : Int32) = 4 ∨ (x &&& (2147483647 : Int32)) % (6 : Int32) = 5 := by
  have q := c_and x (2147483647 : Int32) (by decide)
  have r := (c_irem (x &&& (2147483647 : Int32)) (6 : Int32) 6 (by decide)).1 q.1
  simp only [← Int32.toInt_inj, r, Int32.reduceToInt]
  omega
theorem pn_0 : plainName "com/example/ctl_checker/ctlchecker/TypeIsSetPinLaw" = true := by first | (simp [plainName, overriddenIn]; done) | decide +kernel
theorem ef_0 (m : MethodId) (x0 : Int32) : entryFrame m #[(.int x0)] maxLocals = mkF m 0 #[.val (.int x0), .unset, .unset, .unset, .unset, .unset] [] := by first | (simp [entryFrame, mkF, argsToLocals, Value.category, maxLocals]; done) | rfl
def Q0 (Z : State) (p1 : Int32) (w_CONDITION : Addr) (w_INTEGER : Addr) (w_SYMBOLIC : Addr) (w_CONDITION_SET : Addr) (w_INTEGER_SET : Addr) (w_SYMBOLIC_SET : Addr) (h0 : Heap) (n0 : Nat) (v : Option Value) (h : Heap) (L : List Loc) : Prop := v = some (.int 1) ∧ Fr n0 L
set_option maxRecDepth 65536 in
set_option maxHeartbeats 40000000 in
theorem rm0 (l : Launch) (Z : State) (a0 : Array Value) (hw : ∀ d ∈ tables_1, d.before a0 Z = true) (ws : List Jvm.Cond) (p1 : Int32) (w_CONDITION : Addr) (w_INTEGER : Addr) (w_SYMBOLIC : Addr) (w_CONDITION_SET : Addr) (w_INTEGER_SET : Addr) (w_SYMBOLIC_SET : Addr) (h0 : Heap) (n0 : Nat) (Z0 : n0 ≤ h0.size) (S_CONDITION : Sta Z h0 "com/example/ctl_checker/ctlchecker/SmvExpression$Type" "CONDITION" "Lcom/example/ctl_checker/ctlchecker/SmvExpression$Type;" (.ref w_CONDITION)) (E_w_CONDITION : Exa Z h0 w_CONDITION "com/example/ctl_checker/ctlchecker/SmvExpression$Type") (O_CONDITION : Fld Z h0 w_CONDITION "java/lang/Enum" "ordinal" "I" (.int 0)) (S_INTEGER : Sta Z h0 "com/example/ctl_checker/ctlchecker/SmvExpression$Type" "INTEGER" "Lcom/example/ctl_checker/ctlchecker/SmvExpression$Type;" (.ref w_INTEGER)) (E_w_INTEGER : Exa Z h0 w_INTEGER "com/example/ctl_checker/ctlchecker/SmvExpression$Type") (O_INTEGER : Fld Z h0 w_INTEGER "java/lang/Enum" "ordinal" "I" (.int 1)) (S_SYMBOLIC : Sta Z h0 "com/example/ctl_checker/ctlchecker/SmvExpression$Type" "SYMBOLIC" "Lcom/example/ctl_checker/ctlchecker/SmvExpression$Type;" (.ref w_SYMBOLIC)) (E_w_SYMBOLIC : Exa Z h0 w_SYMBOLIC "com/example/ctl_checker/ctlchecker/SmvExpression$Type") (O_SYMBOLIC : Fld Z h0 w_SYMBOLIC "java/lang/Enum" "ordinal" "I" (.int 2)) (S_CONDITION_SET : Sta Z h0 "com/example/ctl_checker/ctlchecker/SmvExpression$Type" "CONDITION_SET" "Lcom/example/ctl_checker/ctlchecker/SmvExpression$Type;" (.ref w_CONDITION_SET)) (E_w_CONDITION_SET : Exa Z h0 w_CONDITION_SET "com/example/ctl_checker/ctlchecker/SmvExpression$Type") (O_CONDITION_SET : Fld Z h0 w_CONDITION_SET "java/lang/Enum" "ordinal" "I" (.int 3)) (S_INTEGER_SET : Sta Z h0 "com/example/ctl_checker/ctlchecker/SmvExpression$Type" "INTEGER_SET" "Lcom/example/ctl_checker/ctlchecker/SmvExpression$Type;" (.ref w_INTEGER_SET)) (E_w_INTEGER_SET : Exa Z h0 w_INTEGER_SET "com/example/ctl_checker/ctlchecker/SmvExpression$Type") (O_INTEGER_SET : Fld Z h0 w_INTEGER_SET "java/lang/Enum" "ordinal" "I" (.int 4)) (S_SYMBOLIC_SET : Sta Z h0 "com/example/ctl_checker/ctlchecker/SmvExpression$Type" "SYMBOLIC_SET" "Lcom/example/ctl_checker/ctlchecker/SmvExpression$Type;" (.ref w_SYMBOLIC_SET)) (E_w_SYMBOLIC_SET : Exa Z h0 w_SYMBOLIC_SET "com/example/ctl_checker/ctlchecker/SmvExpression$Type") (O_SYMBOLIC_SET : Fld Z h0 w_SYMBOLIC_SET "java/lang/Enum" "ordinal" "I" (.int 5)) :
    MetFree l x (head1 (Jvm.Cond.code x code maxLocals ret :: ws) room_1) (fun arr' U => arr' = #[(.int p1)] ∧ Z.Warmed39 U.vm ∧ U.heap = h0) (fun _ _ _ _ _ => True) (fun _ U o U' => ∃ v L, o = .returned v ∧ (Q0 Z p1 w_CONDITION w_INTEGER w_SYMBOLIC w_CONDITION_SET w_INTEGER_SET w_SYMBOLIC_SET h0 n0) v U'.heap L ∧ FrameEnd U o U' L room_1.cells room_1.slots) := by
  refine MetFree.of_bodySF (plainFor_of_name pn_0) hisR ?_
  intro p e s m args below meth c s₁ Bd hml0 hP hK
  obtain ⟨rfl, hZ, hh⟩ := hP
  have hx := Bd.exec
  have hby := Bd.bytes
  have hlk : meth.locks = false := BodyLoose.notSynchronized Bd
  have hml : c.maxLocals = 6 := hml0
  have hown : s.vm.findClass "com/example/ctl_checker/ctlchecker/TypeIsSetPinLaw" = some m.cls := findClass_of_methodNamed Bd.named
  have hnm := (name_of_methodNamed Bd.named Bd.method).1
  have X0 : Stand p l e room_1 s m #[(.int p1)] below meth c s₁ [] 0 0 := Stand.of_body Bd
  have e0 : s₁.heap = h0 := by rw [← hh, Bd.state]; rfl
  have N := Fr.nil n0
  have Zs := Z0
  change OwnGo p.tables e below (OwnEnd s (Q0 Z p1 w_CONDITION w_INTEGER w_SYMBOLIC w_CONDITION_SET w_INTEGER_SET w_SYMBOLIC_SET h0 n0) room_1.cells room_1.slots) _
  refine OwnGo.fwd (fun tq' kq' => castTop (ef_0 m p1) kq') ?_
  show OwnGo _ _ _ _ (s₁.setTop (mkF m 0 #[.val (.int p1), .unset, .unset, .unset, .unset, .unset] []))
  have ne_CONDITION_INTEGER : w_CONDITION ≠ w_INTEGER := Fld.ne O_CONDITION O_INTEGER (by decide)
  have ne_CONDITION_SYMBOLIC : w_CONDITION ≠ w_SYMBOLIC := Fld.ne O_CONDITION O_SYMBOLIC (by decide)
  have ne_CONDITION_CONDITION_SET : w_CONDITION ≠ w_CONDITION_SET := Fld.ne O_CONDITION O_CONDITION_SET (by decide)
  have ne_CONDITION_INTEGER_SET : w_CONDITION ≠ w_INTEGER_SET := Fld.ne O_CONDITION O_INTEGER_SET (by decide)
  have ne_CONDITION_SYMBOLIC_SET : w_CONDITION ≠ w_SYMBOLIC_SET := Fld.ne O_CONDITION O_SYMBOLIC_SET (by decide)
  have ne_INTEGER_SYMBOLIC : w_INTEGER ≠ w_SYMBOLIC := Fld.ne O_INTEGER O_SYMBOLIC (by decide)
  have ne_INTEGER_CONDITION_SET : w_INTEGER ≠ w_CONDITION_SET := Fld.ne O_INTEGER O_CONDITION_SET (by decide)
  have ne_INTEGER_INTEGER_SET : w_INTEGER ≠ w_INTEGER_SET := Fld.ne O_INTEGER O_INTEGER_SET (by decide)
  have ne_INTEGER_SYMBOLIC_SET : w_INTEGER ≠ w_SYMBOLIC_SET := Fld.ne O_INTEGER O_SYMBOLIC_SET (by decide)
  have ne_SYMBOLIC_CONDITION_SET : w_SYMBOLIC ≠ w_CONDITION_SET := Fld.ne O_SYMBOLIC O_CONDITION_SET (by decide)
  have ne_SYMBOLIC_INTEGER_SET : w_SYMBOLIC ≠ w_INTEGER_SET := Fld.ne O_SYMBOLIC O_INTEGER_SET (by decide)
  have ne_SYMBOLIC_SYMBOLIC_SET : w_SYMBOLIC ≠ w_SYMBOLIC_SET := Fld.ne O_SYMBOLIC O_SYMBOLIC_SET (by decide)
  have ne_CONDITION_SET_INTEGER_SET : w_CONDITION_SET ≠ w_INTEGER_SET := Fld.ne O_CONDITION_SET O_INTEGER_SET (by decide)
  have ne_CONDITION_SET_SYMBOLIC_SET : w_CONDITION_SET ≠ w_SYMBOLIC_SET := Fld.ne O_CONDITION_SET O_SYMBOLIC_SET (by decide)
  have ne_INTEGER_SET_SYMBOLIC_SET : w_INTEGER_SET ≠ w_SYMBOLIC_SET := Fld.ne O_INTEGER_SET O_SYMBOLIC_SET (by decide)
  refine OwnGo.fwd (fun tq' kq' => XS.iloadN X0.here hx rfl (hb hby at_0) rfl kq') ?_
  show OwnGo _ _ _ _ (s₁.setTop (mkF m 1 #[.val (.int p1), .unset, .unset, .unset, .unset, .unset] [(.int p1)]))
  refine OwnGo.fwd (fun tq' kq' => X0.ldcInt hx hown (mvT hZ (hw _ (List.mem_of_getElem? (i := 0) rfl))) (g := (mkF m 1 #[.val (.int p1), .unset, .unset, .unset, .unset, .unset] [(.int p1)])) rfl (hb hby at_1) tq' kq') ?_
  show OwnGo _ _ _ _ (s₁.setTop (mkF m 3 #[.val (.int p1), .unset, .unset, .unset, .unset, .unset] [(.int (2147483647 : Int32)), (.int p1)]))
  refine OwnGo.fwd (fun tq' kq' => XS.iand X0.here hx rfl (hb hby at_3) rfl kq') ?_
  show OwnGo _ _ _ _ (s₁.setTop (mkF m 4 #[.val (.int p1), .unset, .unset, .unset, .unset, .unset] [(.int (p1 &&& (2147483647 : Int32)))]))
  refine OwnGo.fwd (fun tq' kq' => XS.bipush X0.here hx rfl (hb hby at_4) kq') ?_
  show OwnGo _ _ _ _ (s₁.setTop (mkF m 6 #[.val (.int p1), .unset, .unset, .unset, .unset, .unset] [(.int (6 : Int32)), (.int (p1 &&& (2147483647 : Int32)))]))
  refine OwnGo.fwd (fun tq' kq' => iremM X0 hx rfl (hb hby at_6) rfl (by decide) kq') ?_
  show OwnGo _ _ _ _ (s₁.setTop (mkF m 7 #[.val (.int p1), .unset, .unset, .unset, .unset, .unset] [(.int ((p1 &&& (2147483647 : Int32)) % (6 : Int32)))]))
  obtain ⟨kk, hv_kk⟩ : ∃ q : Int32, q = ((p1 &&& (2147483647 : Int32)) % (6 : Int32)) := ⟨_, rfl⟩
  rw [← hv_kk]
  show OwnGo _ _ _ _ (s₁.setTop (mkF m 7 #[.val (.int p1), .unset, .unset, .unset, .unset, .unset] [(.int kk)]))
  have hk7 := own_six p1
  rw [← hv_kk] at hk7
  rcases (show kk = (0 : Int32) ∨ kk = (1 : Int32) ∨ kk = (2 : Int32) ∨ kk = (3 : Int32) ∨ kk = (4 : Int32) ∨ kk = (5 : Int32) from hk7) with rfl | rfl | rfl | rfl | rfl | rfl
  · show OwnGo _ _ _ _ (s₁.setTop (mkF m 7 #[.val (.int p1), .unset, .unset, .unset, .unset, .unset] [(.int (0 : Int32))]))
    refine OwnGo.fwd (fun tq' kq' => XS.istoreN X0.here hx rfl (hb hby at_7) rfl (l' := #[.val (.int p1), .val (.int (0 : Int32)), .unset, .unset, .unset, .unset]) rfl kq') ?_
    show OwnGo _ _ _ _ (s₁.setTop (mkF m 8 #[.val (.int p1), .val (.int (0 : Int32)), .unset, .unset, .unset, .unset] []))
    refine OwnGo.fwd (fun tq' kq' => XS.iloadN X0.here hx rfl (hb hby at_8) rfl kq') ?_
    show OwnGo _ _ _ _ (s₁.setTop (mkF m 9 #[.val (.int p1), .val (.int (0 : Int32)), .unset, .unset, .unset, .unset] [(.int (0 : Int32))]))
    obtain ⟨_, _, ⟨T1, L1, k1, n1⟩, -, X1, ⟨Lc1, hQ1, l1, y1, z1⟩, st1⟩ := Jvm.LawKit.callS X0 hx (y := (⟨"com/example/ctl_checker/ctlchecker/TypeIsSetPinLaw", "pick", "(I)Lcom/example/ctl_checker/ctlchecker/SmvExpression$Type;"⟩ : MethodName)) hown (mvT hZ (hw _ (List.mem_of_getElem? (i := 1) rfl))) (mvT hZ (hw _ (List.mem_of_getElem? (i := 2) rfl))) (mvT hZ (hw _ (List.mem_of_getElem? (i := 3) rfl))) (mvT hZ (hw _ (List.mem_of_getElem? (i := 4) rfl))) (by decide) (backOf (W := 0) (rm1CONDITION l Z a0 hw [] w_CONDITION w_INTEGER w_SYMBOLIC w_CONDITION_SET w_INTEGER_SET w_SYMBOLIC_SET h0 n0 Zs S_CONDITION E_w_CONDITION O_CONDITION S_INTEGER E_w_INTEGER O_INTEGER S_SYMBOLIC E_w_SYMBOLIC O_SYMBOLIC S_CONDITION_SET E_w_CONDITION_SET O_CONDITION_SET S_INTEGER_SET E_w_INTEGER_SET O_INTEGER_SET S_SYMBOLIC_SET E_w_SYMBOLIC_SET O_SYMBOLIC_SET) hZ (hw _ (List.mem_of_getElem? (i := 4) rfl)) (hw _ (List.mem_of_getElem? (i := 3) rfl)) (by decide) (by decide)) (g := (mkF m 9 #[.val (.int p1), .val (.int (0 : Int32)), .unset, .unset, .unset, .unset] [(.int (0 : Int32))])) rfl (by rw [hml]; rfl) (argsL := [(.int (0 : Int32))]) (rest := []) (lenOf pd_0 rfl) rfl (by show 2 * 0 + _ ≤ _; exact Nat.le_of_eq rfl) (hb hby at_9) (fun _ _ => ⟨rfl, e0, (by decide : 0 + 0 ≤ _), (by decide : 0 + 0 ≤ _)⟩)
    dsimp only [Pt.U, Pt.locs, Pt.cells, Pt.slots] at X1 l1 y1 z1 st1 hQ1
    subst l1 y1 z1
    obtain ⟨rfl, N1q, e1⟩ := hQ1
    have N := Fr.app N N1q
    refine OwnGo.fwd st1 ?_
    show OwnGo _ _ _ _ (T1.setTop (mkF m 12 #[.val (.int p1), .val (.int (0 : Int32)), .unset, .unset, .unset, .unset] [(.ref w_CONDITION)]))
    refine OwnGo.fwd (fun tq' kq' => XS.astoreN X1.here hx rfl (hb hby at_12) rfl rfl (l' := #[.val (.int p1), .val (.int (0 : Int32)), .val (.ref w_CONDITION), .unset, .unset, .unset]) rfl kq') ?_
    show OwnGo _ _ _ _ (T1.setTop (mkF m 13 #[.val (.int p1), .val (.int (0 : Int32)), .val (.ref w_CONDITION), .unset, .unset, .unset] []))
    refine OwnGo.fwd (fun tq' kq' => XS.aloadN X1.here hx rfl (hb hby at_13) rfl rfl kq') ?_
    show OwnGo _ _ _ _ (T1.setTop (mkF m 14 #[.val (.int p1), .val (.int (0 : Int32)), .val (.ref w_CONDITION), .unset, .unset, .unset] [(.ref w_CONDITION)]))
    obtain ⟨cq2, kq2, q2a, q2b, q2c⟩ := isOf hZ e1 E_w_CONDITION
    obtain ⟨_, _, ⟨T2, L2, k2, n2⟩, -, X2, ⟨Lc2, hQ2, l2, y2, z2⟩, st2⟩ := X1.virtualBack hx (y := (⟨"com/example/ctl_checker/ctlchecker/SmvExpression$Type", "isSet", "()Z"⟩ : MethodName)) (z := (⟨"com/example/ctl_checker/ctlchecker/SmvExpression$Type", "isSet", "()Z"⟩ : MethodName)) hown (mvT hZ (hw _ (List.mem_of_getElem? (i := 8) rfl))) (mvT hZ (hw _ (List.mem_of_getElem? (i := 9) rfl))) (notFace_of_selects (args := #[]) (mvT hZ (hw _ (List.mem_of_getElem? (i := 11) rfl)))) (mvT hZ (hw _ (List.mem_of_getElem? (i := 11) rfl))) (mvT hZ (hw _ (List.mem_of_getElem? (i := 10) rfl))) (by decide) (backOf (W := 0) (rm2CONDITION l Z a0 hw [] w_CONDITION w_INTEGER w_SYMBOLIC w_CONDITION_SET w_INTEGER_SET w_SYMBOLIC_SET h0 n0 Zs S_CONDITION E_w_CONDITION O_CONDITION S_INTEGER E_w_INTEGER O_INTEGER S_SYMBOLIC E_w_SYMBOLIC O_SYMBOLIC S_CONDITION_SET E_w_CONDITION_SET O_CONDITION_SET S_INTEGER_SET E_w_INTEGER_SET O_INTEGER_SET S_SYMBOLIC_SET E_w_SYMBOLIC_SET O_SYMBOLIC_SET) hZ (hw _ (List.mem_of_getElem? (i := 12) rfl)) (hw _ (List.mem_of_getElem? (i := 6) rfl)) (by decide) (by decide)) q2a q2c (g := (mkF m 14 #[.val (.int p1), .val (.int (0 : Int32)), .val (.ref w_CONDITION), .unset, .unset, .unset] [(.ref w_CONDITION)])) rfl (by rw [hml]; rfl) (Steps.refl _) (argsL := []) (rest := []) (lenOf pd_1 rfl) rfl (by show 2 * 0 + _ ≤ _; exact Nat.le_of_eq rfl) (hb hby at_14) (fun _ _ => ⟨rfl, e1, (by decide : 0 + 0 ≤ _), (by decide : 0 + 0 ≤ _)⟩)
    dsimp only [Pt.U, Pt.locs, Pt.cells, Pt.slots] at X2 l2 y2 z2 st2 hQ2
    subst l2 y2 z2
    obtain ⟨rfl, N2q, e2⟩ := hQ2
    have N := Fr.app N N2q
    refine OwnGo.thru st2 ?_
    show OwnGo _ _ _ _ (T2.setTop (mkF m 17 #[.val (.int p1), .val (.int (0 : Int32)), .val (.ref w_CONDITION), .unset, .unset, .unset] [(.int (0 : Int32))]))
    refine OwnGo.fwd (fun tq' kq' => XS.istoreN X2.here hx rfl (hb hby at_17) rfl (l' := #[.val (.int p1), .val (.int (0 : Int32)), .val (.ref w_CONDITION), .val (.int (0 : Int32)), .unset, .unset]) rfl kq') ?_
    show OwnGo _ _ _ _ (T2.setTop (mkF m 18 #[.val (.int p1), .val (.int (0 : Int32)), .val (.ref w_CONDITION), .val (.int (0 : Int32)), .unset, .unset] []))
    refine OwnGo.fwd (fun tq' kq' => XS.iloadN X2.here hx rfl (hb hby at_18) rfl kq') ?_
    show OwnGo _ _ _ _ (T2.setTop (mkF m 19 #[.val (.int p1), .val (.int (0 : Int32)), .val (.ref w_CONDITION), .val (.int (0 : Int32)), .unset, .unset] [(.int (0 : Int32))]))
    refine OwnGo.fwd (fun tq' kq' => XS.iconst X2.here hx rfl (hb hby at_19) kq') ?_
    show OwnGo _ _ _ _ (T2.setTop (mkF m 20 #[.val (.int p1), .val (.int (0 : Int32)), .val (.ref w_CONDITION), .val (.int (0 : Int32)), .unset, .unset] [(.int (3 : Int32)), (.int (0 : Int32))]))
    have hc20_3 : (0 : Int) < (3 : Int) := by decide
    refine OwnGo.fwd (fun tq' kq' => XS.icmpYes X2.here hx rfl (pc0 := 20) (pc' := 27) rfl (hb hby at_20) rfl (own_blt (by decide) (by decide) hc20_3).1 (by decide) (by decide) kq') ?_
    show OwnGo _ _ _ _ (T2.setTop (mkF m 27 #[.val (.int p1), .val (.int (0 : Int32)), .val (.ref w_CONDITION), .val (.int (0 : Int32)), .unset, .unset] []))
    refine OwnGo.fwd (fun tq' kq' => XS.iconst X2.here hx rfl (hb hby at_27) kq') ?_
    show OwnGo _ _ _ _ (T2.setTop (mkF m 28 #[.val (.int p1), .val (.int (0 : Int32)), .val (.ref w_CONDITION), .val (.int (0 : Int32)), .unset, .unset] [(.int (0 : Int32))]))
    refine OwnGo.fwd (fun tq' kq' => XS.istore X2.here hx rfl (hb hby at_28) rfl (l' := #[.val (.int p1), .val (.int (0 : Int32)), .val (.ref w_CONDITION), .val (.int (0 : Int32)), .val (.int (0 : Int32)), .unset]) rfl kq') ?_
    show OwnGo _ _ _ _ (T2.setTop (mkF m 30 #[.val (.int p1), .val (.int (0 : Int32)), .val (.ref w_CONDITION), .val (.int (0 : Int32)), .val (.int (0 : Int32)), .unset] []))
    refine OwnGo.fwd (fun tq' kq' => XS.iloadN X2.here hx rfl (hb hby at_30) rfl kq') ?_
    show OwnGo _ _ _ _ (T2.setTop (mkF m 31 #[.val (.int p1), .val (.int (0 : Int32)), .val (.ref w_CONDITION), .val (.int (0 : Int32)), .val (.int (0 : Int32)), .unset] [(.int (0 : Int32))]))
    refine OwnGo.fwd (fun tq' kq' => XS.iload X2.here hx rfl (hb hby at_31) rfl kq') ?_
    show OwnGo _ _ _ _ (T2.setTop (mkF m 33 #[.val (.int p1), .val (.int (0 : Int32)), .val (.ref w_CONDITION), .val (.int (0 : Int32)), .val (.int (0 : Int32)), .unset] [(.int (0 : Int32)), (.int (0 : Int32))]))
    have hc33_4 : (0 : Int) = (0 : Int) := rfl
    refine OwnGo.fwd (fun tq' kq' => XS.icmpYes X2.here hx rfl (pc0 := 33) (pc' := 38) rfl (hb hby at_33) rfl (own_beq (by decide) (by decide) hc33_4).1 (by decide) (by decide) kq') ?_
    show OwnGo _ _ _ _ (T2.setTop (mkF m 38 #[.val (.int p1), .val (.int (0 : Int32)), .val (.ref w_CONDITION), .val (.int (0 : Int32)), .val (.int (0 : Int32)), .unset] []))
    refine OwnGo.fwd (fun tq' kq' => XS.aloadN X2.here hx rfl (hb hby at_38) rfl rfl kq') ?_
    show OwnGo _ _ _ _ (T2.setTop (mkF m 39 #[.val (.int p1), .val (.int (0 : Int32)), .val (.ref w_CONDITION), .val (.int (0 : Int32)), .val (.int (0 : Int32)), .unset] [(.ref w_CONDITION)]))
    obtain ⟨cq5, kq5, q5a, q5b, q5c⟩ := isOf hZ e2 E_w_CONDITION
    obtain ⟨_, _, ⟨T5, L5, k5, n5⟩, -, X5, ⟨Lc5, hQ5, l5, y5, z5⟩, st5⟩ := X2.virtualBack hx (y := (⟨"com/example/ctl_checker/ctlchecker/SmvExpression$Type", "element", "()Lcom/example/ctl_checker/ctlchecker/SmvExpression$Type;"⟩ : MethodName)) (z := (⟨"com/example/ctl_checker/ctlchecker/SmvExpression$Type", "element", "()Lcom/example/ctl_checker/ctlchecker/SmvExpression$Type;"⟩ : MethodName)) hown (mvT hZ (hw _ (List.mem_of_getElem? (i := 19) rfl))) (mvT hZ (hw _ (List.mem_of_getElem? (i := 20) rfl))) (notFace_of_selects (args := #[]) (mvT hZ (hw _ (List.mem_of_getElem? (i := 22) rfl)))) (mvT hZ (hw _ (List.mem_of_getElem? (i := 22) rfl))) (mvT hZ (hw _ (List.mem_of_getElem? (i := 21) rfl))) (by decide) (backOf (W := 0) (rm3CONDITION l Z a0 hw [] w_CONDITION w_INTEGER w_SYMBOLIC w_CONDITION_SET w_INTEGER_SET w_SYMBOLIC_SET h0 n0 Zs S_CONDITION E_w_CONDITION O_CONDITION S_INTEGER E_w_INTEGER O_INTEGER S_SYMBOLIC E_w_SYMBOLIC O_SYMBOLIC S_CONDITION_SET E_w_CONDITION_SET O_CONDITION_SET S_INTEGER_SET E_w_INTEGER_SET O_INTEGER_SET S_SYMBOLIC_SET E_w_SYMBOLIC_SET O_SYMBOLIC_SET) hZ (hw _ (List.mem_of_getElem? (i := 23) rfl)) (hw _ (List.mem_of_getElem? (i := 6) rfl)) (by decide) (by decide)) q5a q5c (g := (mkF m 39 #[.val (.int p1), .val (.int (0 : Int32)), .val (.ref w_CONDITION), .val (.int (0 : Int32)), .val (.int (0 : Int32)), .unset] [(.ref w_CONDITION)])) rfl (by rw [hml]; rfl) (Steps.refl _) (argsL := []) (rest := []) (lenOf pd_2 rfl) rfl (by show 2 * 0 + _ ≤ _; exact Nat.le_of_eq rfl) (hb hby at_39) (fun _ _ => ⟨rfl, e2, (by decide : 0 + 0 ≤ _), (by decide : 0 + 0 ≤ _)⟩)
    dsimp only [Pt.U, Pt.locs, Pt.cells, Pt.slots] at X5 l5 y5 z5 st5 hQ5
    subst l5 y5 z5
    obtain ⟨rfl, N5q, e5⟩ := hQ5
    have N := Fr.app N N5q
    refine OwnGo.thru st5 ?_
    show OwnGo _ _ _ _ (T5.setTop (mkF m 42 #[.val (.int p1), .val (.int (0 : Int32)), .val (.ref w_CONDITION), .val (.int (0 : Int32)), .val (.int (0 : Int32)), .unset] [(.ref w_CONDITION)]))
    refine OwnGo.fwd (fun tq' kq' => XS.astore X5.here hx rfl (hb hby at_42) rfl rfl (l' := #[.val (.int p1), .val (.int (0 : Int32)), .val (.ref w_CONDITION), .val (.int (0 : Int32)), .val (.int (0 : Int32)), .val (.ref w_CONDITION)]) rfl kq') ?_
    show OwnGo _ _ _ _ (T5.setTop (mkF m 44 #[.val (.int p1), .val (.int (0 : Int32)), .val (.ref w_CONDITION), .val (.int (0 : Int32)), .val (.int (0 : Int32)), .val (.ref w_CONDITION)] []))
    refine OwnGo.fwd (fun tq' kq' => XS.iloadN X5.here hx rfl (hb hby at_44) rfl kq') ?_
    show OwnGo _ _ _ _ (T5.setTop (mkF m 45 #[.val (.int p1), .val (.int (0 : Int32)), .val (.ref w_CONDITION), .val (.int (0 : Int32)), .val (.int (0 : Int32)), .val (.ref w_CONDITION)] [(.int (0 : Int32))]))
    refine OwnGo.fwd (fun tq' kq' => XS.aload X5.here hx rfl (hb hby at_45) rfl rfl kq') ?_
    show OwnGo _ _ _ _ (T5.setTop (mkF m 47 #[.val (.int p1), .val (.int (0 : Int32)), .val (.ref w_CONDITION), .val (.int (0 : Int32)), .val (.int (0 : Int32)), .val (.ref w_CONDITION)] [(.ref w_CONDITION), (.int (0 : Int32))]))
    refine OwnGo.fwd (fun tq' kq' => XS.aloadN X5.here hx rfl (hb hby at_47) rfl rfl kq') ?_
    show OwnGo _ _ _ _ (T5.setTop (mkF m 48 #[.val (.int p1), .val (.int (0 : Int32)), .val (.ref w_CONDITION), .val (.int (0 : Int32)), .val (.int (0 : Int32)), .val (.ref w_CONDITION)] [(.ref w_CONDITION), (.ref w_CONDITION), (.int (0 : Int32))]))
    refine OwnGo.fwd (fun tq' kq' => Jvm.RoadKit.acmp (g := (mkF m 48 #[.val (.int p1), .val (.int (0 : Int32)), .val (.ref w_CONDITION), .val (.int (0 : Int32)), .val (.int (0 : Int32)), .val (.ref w_CONDITION)] [(.ref w_CONDITION), (.ref w_CONDITION), (.int (0 : Int32))])) X5 hx rfl rfl rfl (pc0 := 48) (pc' := 55) (same := true) rfl (hb hby at_48) rfl (decide_eq_true rfl) (by decide) (by decide) kq') ?_
    show OwnGo _ _ _ _ (T5.setTop (mkF m 55 #[.val (.int p1), .val (.int (0 : Int32)), .val (.ref w_CONDITION), .val (.int (0 : Int32)), .val (.int (0 : Int32)), .val (.ref w_CONDITION)] [(.int (0 : Int32))]))
    refine OwnGo.fwd (fun tq' kq' => XS.iconst X5.here hx rfl (hb hby at_55) kq') ?_
    show OwnGo _ _ _ _ (T5.setTop (mkF m 56 #[.val (.int p1), .val (.int (0 : Int32)), .val (.ref w_CONDITION), .val (.int (0 : Int32)), .val (.int (0 : Int32)), .val (.ref w_CONDITION)] [(.int (0 : Int32)), (.int (0 : Int32))]))
    have hc56_6 : (0 : Int) = (0 : Int) := rfl
    refine OwnGo.fwd (fun tq' kq' => XS.icmpYes X5.here hx rfl (pc0 := 56) (pc' := 61) rfl (hb hby at_56) rfl (own_beq (by decide) (by decide) hc56_6).1 (by decide) (by decide) kq') ?_
    show OwnGo _ _ _ _ (T5.setTop (mkF m 61 #[.val (.int p1), .val (.int (0 : Int32)), .val (.ref w_CONDITION), .val (.int (0 : Int32)), .val (.int (0 : Int32)), .val (.ref w_CONDITION)] []))
    refine OwnGo.fwd (fun tq' kq' => XS.aloadN X5.here hx rfl (hb hby at_61) rfl rfl kq') ?_
    show OwnGo _ _ _ _ (T5.setTop (mkF m 62 #[.val (.int p1), .val (.int (0 : Int32)), .val (.ref w_CONDITION), .val (.int (0 : Int32)), .val (.int (0 : Int32)), .val (.ref w_CONDITION)] [(.ref w_CONDITION)]))
    obtain ⟨cq7, kq7, q7a, q7b, q7c⟩ := isOf hZ e5 E_w_CONDITION
    obtain ⟨_, _, ⟨T7, L7, k7, n7⟩, -, X7, ⟨Lc7, hQ7, l7, y7, z7⟩, st7⟩ := X5.virtualBack hx (y := (⟨"com/example/ctl_checker/ctlchecker/SmvExpression$Type", "set", "()Lcom/example/ctl_checker/ctlchecker/SmvExpression$Type;"⟩ : MethodName)) (z := (⟨"com/example/ctl_checker/ctlchecker/SmvExpression$Type", "set", "()Lcom/example/ctl_checker/ctlchecker/SmvExpression$Type;"⟩ : MethodName)) hown (mvT hZ (hw _ (List.mem_of_getElem? (i := 33) rfl))) (mvT hZ (hw _ (List.mem_of_getElem? (i := 34) rfl))) (notFace_of_selects (args := #[]) (mvT hZ (hw _ (List.mem_of_getElem? (i := 36) rfl)))) (mvT hZ (hw _ (List.mem_of_getElem? (i := 36) rfl))) (mvT hZ (hw _ (List.mem_of_getElem? (i := 35) rfl))) (by decide) (backOf (W := 0) (rm5CONDITION l Z a0 hw [] w_CONDITION w_INTEGER w_SYMBOLIC w_CONDITION_SET w_INTEGER_SET w_SYMBOLIC_SET h0 n0 Zs S_CONDITION E_w_CONDITION O_CONDITION S_INTEGER E_w_INTEGER O_INTEGER S_SYMBOLIC E_w_SYMBOLIC O_SYMBOLIC S_CONDITION_SET E_w_CONDITION_SET O_CONDITION_SET S_INTEGER_SET E_w_INTEGER_SET O_INTEGER_SET S_SYMBOLIC_SET E_w_SYMBOLIC_SET O_SYMBOLIC_SET) hZ (hw _ (List.mem_of_getElem? (i := 37) rfl)) (hw _ (List.mem_of_getElem? (i := 6) rfl)) (by decide) (by decide)) q7a q7c (g := (mkF m 62 #[.val (.int p1), .val (.int (0 : Int32)), .val (.ref w_CONDITION), .val (.int (0 : Int32)), .val (.int (0 : Int32)), .val (.ref w_CONDITION)] [(.ref w_CONDITION)])) rfl (by rw [hml]; rfl) (Steps.refl _) (argsL := []) (rest := []) (lenOf pd_2 rfl) rfl (by show 2 * 0 + _ ≤ _; exact Nat.le_of_eq rfl) (hb hby at_62) (fun _ _ => ⟨rfl, e5, (by decide : 0 + 0 ≤ _), (by decide : 0 + 0 ≤ _)⟩)
    dsimp only [Pt.U, Pt.locs, Pt.cells, Pt.slots] at X7 l7 y7 z7 st7 hQ7
    subst l7 y7 z7
    obtain ⟨rfl, N7q, e7⟩ := hQ7
    have N := Fr.app N N7q
    refine OwnGo.thru st7 ?_
    show OwnGo _ _ _ _ (T7.setTop (mkF m 65 #[.val (.int p1), .val (.int (0 : Int32)), .val (.ref w_CONDITION), .val (.int (0 : Int32)), .val (.int (0 : Int32)), .val (.ref w_CONDITION)] [(.ref w_CONDITION_SET)]))
    obtain ⟨cq8, kq8, q8a, q8b, q8c⟩ := isOf hZ e7 E_w_CONDITION_SET
    obtain ⟨_, _, ⟨T8, L8, k8, n8⟩, -, X8, ⟨Lc8, hQ8, l8, y8, z8⟩, st8⟩ := X7.virtualBack hx (y := (⟨"com/example/ctl_checker/ctlchecker/SmvExpression$Type", "isSet", "()Z"⟩ : MethodName)) (z := (⟨"com/example/ctl_checker/ctlchecker/SmvExpression$Type", "isSet", "()Z"⟩ : MethodName)) hown (mvT hZ (hw _ (List.mem_of_getElem? (i := 8) rfl))) (mvT hZ (hw _ (List.mem_of_getElem? (i := 9) rfl))) (notFace_of_selects (args := #[]) (mvT hZ (hw _ (List.mem_of_getElem? (i := 11) rfl)))) (mvT hZ (hw _ (List.mem_of_getElem? (i := 11) rfl))) (mvT hZ (hw _ (List.mem_of_getElem? (i := 10) rfl))) (by decide) (backOf (W := 0) (rm2CONDITION_SET l Z a0 hw [] w_CONDITION w_INTEGER w_SYMBOLIC w_CONDITION_SET w_INTEGER_SET w_SYMBOLIC_SET h0 n0 Zs S_CONDITION E_w_CONDITION O_CONDITION S_INTEGER E_w_INTEGER O_INTEGER S_SYMBOLIC E_w_SYMBOLIC O_SYMBOLIC S_CONDITION_SET E_w_CONDITION_SET O_CONDITION_SET S_INTEGER_SET E_w_INTEGER_SET O_INTEGER_SET S_SYMBOLIC_SET E_w_SYMBOLIC_SET O_SYMBOLIC_SET) hZ (hw _ (List.mem_of_getElem? (i := 12) rfl)) (hw _ (List.mem_of_getElem? (i := 6) rfl)) (by decide) (by decide)) q8a q8c (g := (mkF m 65 #[.val (.int p1), .val (.int (0 : Int32)), .val (.ref w_CONDITION), .val (.int (0 : Int32)), .val (.int (0 : Int32)), .val (.ref w_CONDITION)] [(.ref w_CONDITION_SET)])) rfl (by rw [hml]; rfl) (Steps.refl _) (argsL := []) (rest := []) (lenOf pd_1 rfl) rfl (by show 2 * 0 + _ ≤ _; exact Nat.le_of_eq rfl) (hb hby at_65) (fun _ _ => ⟨rfl, e7, (by decide : 0 + 0 ≤ _), (by decide : 0 + 0 ≤ _)⟩)
    dsimp only [Pt.U, Pt.locs, Pt.cells, Pt.slots] at X8 l8 y8 z8 st8 hQ8
    subst l8 y8 z8
    obtain ⟨rfl, N8q, e8⟩ := hQ8
    have N := Fr.app N N8q
    refine OwnGo.thru st8 ?_
    show OwnGo _ _ _ _ (T8.setTop (mkF m 68 #[.val (.int p1), .val (.int (0 : Int32)), .val (.ref w_CONDITION), .val (.int (0 : Int32)), .val (.int (0 : Int32)), .val (.ref w_CONDITION)] [(.int (1 : Int32))]))
    have hc68_9 : ¬ ((1 : Int) = (0 : Int)) := by decide
    refine OwnGo.fwd (fun tq' kq' => XS.ifYes X8.here hx rfl (pc0 := 68) (pc' := 73) rfl (hb hby at_68) rfl ((if0 _ _).trans (own_bneq (by decide) (by decide) hc68_9).2) (by decide) (by decide) kq') ?_
    show OwnGo _ _ _ _ (T8.setTop (mkF m 73 #[.val (.int p1), .val (.int (0 : Int32)), .val (.ref w_CONDITION), .val (.int (0 : Int32)), .val (.int (0 : Int32)), .val (.ref w_CONDITION)] []))
    refine OwnGo.fwd (fun tq' kq' => XS.aload X8.here hx rfl (hb hby at_73) rfl rfl kq') ?_
    show OwnGo _ _ _ _ (T8.setTop (mkF m 75 #[.val (.int p1), .val (.int (0 : Int32)), .val (.ref w_CONDITION), .val (.int (0 : Int32)), .val (.int (0 : Int32)), .val (.ref w_CONDITION)] [(.ref w_CONDITION)]))
    obtain ⟨cq10, kq10, q10a, q10b, q10c⟩ := isOf hZ e8 E_w_CONDITION
    obtain ⟨_, _, ⟨T10, L10, k10, n10⟩, -, X10, ⟨Lc10, hQ10, l10, y10, z10⟩, st10⟩ := X8.virtualBack hx (y := (⟨"com/example/ctl_checker/ctlchecker/SmvExpression$Type", "isSet", "()Z"⟩ : MethodName)) (z := (⟨"com/example/ctl_checker/ctlchecker/SmvExpression$Type", "isSet", "()Z"⟩ : MethodName)) hown (mvT hZ (hw _ (List.mem_of_getElem? (i := 8) rfl))) (mvT hZ (hw _ (List.mem_of_getElem? (i := 9) rfl))) (notFace_of_selects (args := #[]) (mvT hZ (hw _ (List.mem_of_getElem? (i := 11) rfl)))) (mvT hZ (hw _ (List.mem_of_getElem? (i := 11) rfl))) (mvT hZ (hw _ (List.mem_of_getElem? (i := 10) rfl))) (by decide) (backOf (W := 0) (rm2CONDITION l Z a0 hw [] w_CONDITION w_INTEGER w_SYMBOLIC w_CONDITION_SET w_INTEGER_SET w_SYMBOLIC_SET h0 n0 Zs S_CONDITION E_w_CONDITION O_CONDITION S_INTEGER E_w_INTEGER O_INTEGER S_SYMBOLIC E_w_SYMBOLIC O_SYMBOLIC S_CONDITION_SET E_w_CONDITION_SET O_CONDITION_SET S_INTEGER_SET E_w_INTEGER_SET O_INTEGER_SET S_SYMBOLIC_SET E_w_SYMBOLIC_SET O_SYMBOLIC_SET) hZ (hw _ (List.mem_of_getElem? (i := 12) rfl)) (hw _ (List.mem_of_getElem? (i := 6) rfl)) (by decide) (by decide)) q10a q10c (g := (mkF m 75 #[.val (.int p1), .val (.int (0 : Int32)), .val (.ref w_CONDITION), .val (.int (0 : Int32)), .val (.int (0 : Int32)), .val (.ref w_CONDITION)] [(.ref w_CONDITION)])) rfl (by rw [hml]; rfl) (Steps.refl _) (argsL := []) (rest := []) (lenOf pd_1 rfl) rfl (by show 2 * 0 + _ ≤ _; exact Nat.le_of_eq rfl) (hb hby at_75) (fun _ _ => ⟨rfl, e8, (by decide : 0 + 0 ≤ _), (by decide : 0 + 0 ≤ _)⟩)
    dsimp only [Pt.U, Pt.locs, Pt.cells, Pt.slots] at X10 l10 y10 z10 st10 hQ10
    subst l10 y10 z10
    obtain ⟨rfl, N10q, e10⟩ := hQ10
    have N := Fr.app N N10q
    refine OwnGo.thru st10 ?_
    show OwnGo _ _ _ _ (T10.setTop (mkF m 78 #[.val (.int p1), .val (.int (0 : Int32)), .val (.ref w_CONDITION), .val (.int (0 : Int32)), .val (.int (0 : Int32)), .val (.ref w_CONDITION)] [(.int (0 : Int32))]))
    have hc78_11 : (0 : Int) = (0 : Int) := rfl
    refine OwnGo.fwd (fun tq' kq' => XS.ifNo X10.here hx rfl (hb hby at_78) rfl ((if0 _ _).trans (own_beq (by decide) (by decide) hc78_11).2) kq') ?_
    show OwnGo _ _ _ _ (T10.setTop (mkF m 81 #[.val (.int p1), .val (.int (0 : Int32)), .val (.ref w_CONDITION), .val (.int (0 : Int32)), .val (.int (0 : Int32)), .val (.ref w_CONDITION)] []))
    refine OwnGo.fwd (fun tq' kq' => XS.iconst X10.here hx rfl (hb hby at_81) kq') ?_
    show OwnGo _ _ _ _ (T10.setTop (mkF m 82 #[.val (.int p1), .val (.int (0 : Int32)), .val (.ref w_CONDITION), .val (.int (0 : Int32)), .val (.int (0 : Int32)), .val (.ref w_CONDITION)] [(.int (1 : Int32))]))
    refine OwnGo.fwd (fun tq' kq' => XS.goto X10.here hx rfl (pc0 := 82) (pc' := 86) rfl (hb hby at_82) (by decide) (by decide) kq') ?_
    show OwnGo _ _ _ _ (T10.setTop (mkF m 86 #[.val (.int p1), .val (.int (0 : Int32)), .val (.ref w_CONDITION), .val (.int (0 : Int32)), .val (.int (0 : Int32)), .val (.ref w_CONDITION)] [(.int (1 : Int32))]))
    exact own_retZ X10 hlk hx Bd.returns (hb hby at_86) (by decide) (by decide) e10 ⟨rfl, N⟩
  · show OwnGo _ _ _ _ (s₁.setTop (mkF m 7 #[.val (.int p1), .unset, .unset, .unset, .unset, .unset] [(.int (1 : Int32))]))
    refine OwnGo.fwd (fun tq' kq' => XS.istoreN X0.here hx rfl (hb hby at_7) rfl (l' := #[.val (.int p1), .val (.int (1 : Int32)), .unset, .unset, .unset, .unset]) rfl kq') ?_
    show OwnGo _ _ _ _ (s₁.setTop (mkF m 8 #[.val (.int p1), .val (.int (1 : Int32)), .unset, .unset, .unset, .unset] []))
    refine OwnGo.fwd (fun tq' kq' => XS.iloadN X0.here hx rfl (hb hby at_8) rfl kq') ?_
    show OwnGo _ _ _ _ (s₁.setTop (mkF m 9 #[.val (.int p1), .val (.int (1 : Int32)), .unset, .unset, .unset, .unset] [(.int (1 : Int32))]))
    obtain ⟨_, _, ⟨T12, L12, k12, n12⟩, -, X12, ⟨Lc12, hQ12, l12, y12, z12⟩, st12⟩ := Jvm.LawKit.callS X0 hx (y := (⟨"com/example/ctl_checker/ctlchecker/TypeIsSetPinLaw", "pick", "(I)Lcom/example/ctl_checker/ctlchecker/SmvExpression$Type;"⟩ : MethodName)) hown (mvT hZ (hw _ (List.mem_of_getElem? (i := 1) rfl))) (mvT hZ (hw _ (List.mem_of_getElem? (i := 2) rfl))) (mvT hZ (hw _ (List.mem_of_getElem? (i := 3) rfl))) (mvT hZ (hw _ (List.mem_of_getElem? (i := 4) rfl))) (by decide) (backOf (W := 0) (rm1INTEGER l Z a0 hw [] w_CONDITION w_INTEGER w_SYMBOLIC w_CONDITION_SET w_INTEGER_SET w_SYMBOLIC_SET h0 n0 Zs S_CONDITION E_w_CONDITION O_CONDITION S_INTEGER E_w_INTEGER O_INTEGER S_SYMBOLIC E_w_SYMBOLIC O_SYMBOLIC S_CONDITION_SET E_w_CONDITION_SET O_CONDITION_SET S_INTEGER_SET E_w_INTEGER_SET O_INTEGER_SET S_SYMBOLIC_SET E_w_SYMBOLIC_SET O_SYMBOLIC_SET) hZ (hw _ (List.mem_of_getElem? (i := 4) rfl)) (hw _ (List.mem_of_getElem? (i := 3) rfl)) (by decide) (by decide)) (g := (mkF m 9 #[.val (.int p1), .val (.int (1 : Int32)), .unset, .unset, .unset, .unset] [(.int (1 : Int32))])) rfl (by rw [hml]; rfl) (argsL := [(.int (1 : Int32))]) (rest := []) (lenOf pd_0 rfl) rfl (by show 2 * 0 + _ ≤ _; exact Nat.le_of_eq rfl) (hb hby at_9) (fun _ _ => ⟨rfl, e0, (by decide : 0 + 0 ≤ _), (by decide : 0 + 0 ≤ _)⟩)
    dsimp only [Pt.U, Pt.locs, Pt.cells, Pt.slots] at X12 l12 y12 z12 st12 hQ12
    subst l12 y12 z12
    obtain ⟨rfl, N12q, e12⟩ := hQ12
    have N := Fr.app N N12q
    refine OwnGo.fwd st12 ?_
    show OwnGo _ _ _ _ (T12.setTop (mkF m 12 #[.val (.int p1), .val (.int (1 : Int32)), .unset, .unset, .unset, .unset] [(.ref w_INTEGER)]))
    refine OwnGo.fwd (fun tq' kq' => XS.astoreN X12.here hx rfl (hb hby at_12) rfl rfl (l' := #[.val (.int p1), .val (.int (1 : Int32)), .val (.ref w_INTEGER), .unset, .unset, .unset]) rfl kq') ?_
    show OwnGo _ _ _ _ (T12.setTop (mkF m 13 #[.val (.int p1), .val (.int (1 : Int32)), .val (.ref w_INTEGER), .unset, .unset, .unset] []))
    refine OwnGo.fwd (fun tq' kq' => XS.aloadN X12.here hx rfl (hb hby at_13) rfl rfl kq') ?_
    show OwnGo _ _ _ _ (T12.setTop (mkF m 14 #[.val (.int p1), .val (.int (1 : Int32)), .val (.ref w_INTEGER), .unset, .unset, .unset] [(.ref w_INTEGER)]))
    obtain ⟨cq13, kq13, q13a, q13b, q13c⟩ := isOf hZ e12 E_w_INTEGER
    obtain ⟨_, _, ⟨T13, L13, k13, n13⟩, -, X13, ⟨Lc13, hQ13, l13, y13, z13⟩, st13⟩ := X12.virtualBack hx (y := (⟨"com/example/ctl_checker/ctlchecker/SmvExpression$Type", "isSet", "()Z"⟩ : MethodName)) (z := (⟨"com/example/ctl_checker/ctlchecker/SmvExpression$Type", "isSet", "()Z"⟩ : MethodName)) hown (mvT hZ (hw _ (List.mem_of_getElem? (i := 8) rfl))) (mvT hZ (hw _ (List.mem_of_getElem? (i := 9) rfl))) (notFace_of_selects (args := #[]) (mvT hZ (hw _ (List.mem_of_getElem? (i := 11) rfl)))) (mvT hZ (hw _ (List.mem_of_getElem? (i := 11) rfl))) (mvT hZ (hw _ (List.mem_of_getElem? (i := 10) rfl))) (by decide) (backOf (W := 0) (rm2INTEGER l Z a0 hw [] w_CONDITION w_INTEGER w_SYMBOLIC w_CONDITION_SET w_INTEGER_SET w_SYMBOLIC_SET h0 n0 Zs S_CONDITION E_w_CONDITION O_CONDITION S_INTEGER E_w_INTEGER O_INTEGER S_SYMBOLIC E_w_SYMBOLIC O_SYMBOLIC S_CONDITION_SET E_w_CONDITION_SET O_CONDITION_SET S_INTEGER_SET E_w_INTEGER_SET O_INTEGER_SET S_SYMBOLIC_SET E_w_SYMBOLIC_SET O_SYMBOLIC_SET) hZ (hw _ (List.mem_of_getElem? (i := 12) rfl)) (hw _ (List.mem_of_getElem? (i := 6) rfl)) (by decide) (by decide)) q13a q13c (g := (mkF m 14 #[.val (.int p1), .val (.int (1 : Int32)), .val (.ref w_INTEGER), .unset, .unset, .unset] [(.ref w_INTEGER)])) rfl (by rw [hml]; rfl) (Steps.refl _) (argsL := []) (rest := []) (lenOf pd_1 rfl) rfl (by show 2 * 0 + _ ≤ _; exact Nat.le_of_eq rfl) (hb hby at_14) (fun _ _ => ⟨rfl, e12, (by decide : 0 + 0 ≤ _), (by decide : 0 + 0 ≤ _)⟩)
    dsimp only [Pt.U, Pt.locs, Pt.cells, Pt.slots] at X13 l13 y13 z13 st13 hQ13
    subst l13 y13 z13
    obtain ⟨rfl, N13q, e13⟩ := hQ13
    have N := Fr.app N N13q
    refine OwnGo.thru st13 ?_
    show OwnGo _ _ _ _ (T13.setTop (mkF m 17 #[.val (.int p1), .val (.int (1 : Int32)), .val (.ref w_INTEGER), .unset, .unset, .unset] [(.int (0 : Int32))]))
    refine OwnGo.fwd (fun tq' kq' => XS.istoreN X13.here hx rfl (hb hby at_17) rfl (l' := #[.val (.int p1), .val (.int (1 : Int32)), .val (.ref w_INTEGER), .val (.int (0 : Int32)), .unset, .unset]) rfl kq') ?_
    show OwnGo _ _ _ _ (T13.setTop (mkF m 18 #[.val (.int p1), .val (.int (1 : Int32)), .val (.ref w_INTEGER), .val (.int (0 : Int32)), .unset, .unset] []))
    refine OwnGo.fwd (fun tq' kq' => XS.iloadN X13.here hx rfl (hb hby at_18) rfl kq') ?_
    show OwnGo _ _ _ _ (T13.setTop (mkF m 19 #[.val (.int p1), .val (.int (1 : Int32)), .val (.ref w_INTEGER), .val (.int (0 : Int32)), .unset, .unset] [(.int (1 : Int32))]))
    refine OwnGo.fwd (fun tq' kq' => XS.iconst X13.here hx rfl (hb hby at_19) kq') ?_
    show OwnGo _ _ _ _ (T13.setTop (mkF m 20 #[.val (.int p1), .val (.int (1 : Int32)), .val (.ref w_INTEGER), .val (.int (0 : Int32)), .unset, .unset] [(.int (3 : Int32)), (.int (1 : Int32))]))
    have hc20_14 : (1 : Int) < (3 : Int) := by decide
    refine OwnGo.fwd (fun tq' kq' => XS.icmpYes X13.here hx rfl (pc0 := 20) (pc' := 27) rfl (hb hby at_20) rfl (own_blt (by decide) (by decide) hc20_14).1 (by decide) (by decide) kq') ?_
    show OwnGo _ _ _ _ (T13.setTop (mkF m 27 #[.val (.int p1), .val (.int (1 : Int32)), .val (.ref w_INTEGER), .val (.int (0 : Int32)), .unset, .unset] []))
    refine OwnGo.fwd (fun tq' kq' => XS.iconst X13.here hx rfl (hb hby at_27) kq') ?_
    show OwnGo _ _ _ _ (T13.setTop (mkF m 28 #[.val (.int p1), .val (.int (1 : Int32)), .val (.ref w_INTEGER), .val (.int (0 : Int32)), .unset, .unset] [(.int (0 : Int32))]))
    refine OwnGo.fwd (fun tq' kq' => XS.istore X13.here hx rfl (hb hby at_28) rfl (l' := #[.val (.int p1), .val (.int (1 : Int32)), .val (.ref w_INTEGER), .val (.int (0 : Int32)), .val (.int (0 : Int32)), .unset]) rfl kq') ?_
    show OwnGo _ _ _ _ (T13.setTop (mkF m 30 #[.val (.int p1), .val (.int (1 : Int32)), .val (.ref w_INTEGER), .val (.int (0 : Int32)), .val (.int (0 : Int32)), .unset] []))
    refine OwnGo.fwd (fun tq' kq' => XS.iloadN X13.here hx rfl (hb hby at_30) rfl kq') ?_
    show OwnGo _ _ _ _ (T13.setTop (mkF m 31 #[.val (.int p1), .val (.int (1 : Int32)), .val (.ref w_INTEGER), .val (.int (0 : Int32)), .val (.int (0 : Int32)), .unset] [(.int (0 : Int32))]))
    refine OwnGo.fwd (fun tq' kq' => XS.iload X13.here hx rfl (hb hby at_31) rfl kq') ?_
    show OwnGo _ _ _ _ (T13.setTop (mkF m 33 #[.val (.int p1), .val (.int (1 : Int32)), .val (.ref w_INTEGER), .val (.int (0 : Int32)), .val (.int (0 : Int32)), .unset] [(.int (0 : Int32)), (.int (0 : Int32))]))
    have hc33_15 : (0 : Int) = (0 : Int) := rfl
    refine OwnGo.fwd (fun tq' kq' => XS.icmpYes X13.here hx rfl (pc0 := 33) (pc' := 38) rfl (hb hby at_33) rfl (own_beq (by decide) (by decide) hc33_15).1 (by decide) (by decide) kq') ?_
    show OwnGo _ _ _ _ (T13.setTop (mkF m 38 #[.val (.int p1), .val (.int (1 : Int32)), .val (.ref w_INTEGER), .val (.int (0 : Int32)), .val (.int (0 : Int32)), .unset] []))
    refine OwnGo.fwd (fun tq' kq' => XS.aloadN X13.here hx rfl (hb hby at_38) rfl rfl kq') ?_
    show OwnGo _ _ _ _ (T13.setTop (mkF m 39 #[.val (.int p1), .val (.int (1 : Int32)), .val (.ref w_INTEGER), .val (.int (0 : Int32)), .val (.int (0 : Int32)), .unset] [(.ref w_INTEGER)]))
    obtain ⟨cq16, kq16, q16a, q16b, q16c⟩ := isOf hZ e13 E_w_INTEGER
    obtain ⟨_, _, ⟨T16, L16, k16, n16⟩, -, X16, ⟨Lc16, hQ16, l16, y16, z16⟩, st16⟩ := X13.virtualBack hx (y := (⟨"com/example/ctl_checker/ctlchecker/SmvExpression$Type", "element", "()Lcom/example/ctl_checker/ctlchecker/SmvExpression$Type;"⟩ : MethodName)) (z := (⟨"com/example/ctl_checker/ctlchecker/SmvExpression$Type", "element", "()Lcom/example/ctl_checker/ctlchecker/SmvExpression$Type;"⟩ : MethodName)) hown (mvT hZ (hw _ (List.mem_of_getElem? (i := 19) rfl))) (mvT hZ (hw _ (List.mem_of_getElem? (i := 20) rfl))) (notFace_of_selects (args := #[]) (mvT hZ (hw _ (List.mem_of_getElem? (i := 22) rfl)))) (mvT hZ (hw _ (List.mem_of_getElem? (i := 22) rfl))) (mvT hZ (hw _ (List.mem_of_getElem? (i := 21) rfl))) (by decide) (backOf (W := 0) (rm3INTEGER l Z a0 hw [] w_CONDITION w_INTEGER w_SYMBOLIC w_CONDITION_SET w_INTEGER_SET w_SYMBOLIC_SET h0 n0 Zs S_CONDITION E_w_CONDITION O_CONDITION S_INTEGER E_w_INTEGER O_INTEGER S_SYMBOLIC E_w_SYMBOLIC O_SYMBOLIC S_CONDITION_SET E_w_CONDITION_SET O_CONDITION_SET S_INTEGER_SET E_w_INTEGER_SET O_INTEGER_SET S_SYMBOLIC_SET E_w_SYMBOLIC_SET O_SYMBOLIC_SET) hZ (hw _ (List.mem_of_getElem? (i := 23) rfl)) (hw _ (List.mem_of_getElem? (i := 6) rfl)) (by decide) (by decide)) q16a q16c (g := (mkF m 39 #[.val (.int p1), .val (.int (1 : Int32)), .val (.ref w_INTEGER), .val (.int (0 : Int32)), .val (.int (0 : Int32)), .unset] [(.ref w_INTEGER)])) rfl (by rw [hml]; rfl) (Steps.refl _) (argsL := []) (rest := []) (lenOf pd_2 rfl) rfl (by show 2 * 0 + _ ≤ _; exact Nat.le_of_eq rfl) (hb hby at_39) (fun _ _ => ⟨rfl, e13, (by decide : 0 + 0 ≤ _), (by decide : 0 + 0 ≤ _)⟩)
    dsimp only [Pt.U, Pt.locs, Pt.cells, Pt.slots] at X16 l16 y16 z16 st16 hQ16
    subst l16 y16 z16
    obtain ⟨rfl, N16q, e16⟩ := hQ16
    have N := Fr.app N N16q
    refine OwnGo.thru st16 ?_
    show OwnGo _ _ _ _ (T16.setTop (mkF m 42 #[.val (.int p1), .val (.int (1 : Int32)), .val (.ref w_INTEGER), .val (.int (0 : Int32)), .val (.int (0 : Int32)), .unset] [(.ref w_INTEGER)]))
    refine OwnGo.fwd (fun tq' kq' => XS.astore X16.here hx rfl (hb hby at_42) rfl rfl (l' := #[.val (.int p1), .val (.int (1 : Int32)), .val (.ref w_INTEGER), .val (.int (0 : Int32)), .val (.int (0 : Int32)), .val (.ref w_INTEGER)]) rfl kq') ?_
    show OwnGo _ _ _ _ (T16.setTop (mkF m 44 #[.val (.int p1), .val (.int (1 : Int32)), .val (.ref w_INTEGER), .val (.int (0 : Int32)), .val (.int (0 : Int32)), .val (.ref w_INTEGER)] []))
    refine OwnGo.fwd (fun tq' kq' => XS.iloadN X16.here hx rfl (hb hby at_44) rfl kq') ?_
    show OwnGo _ _ _ _ (T16.setTop (mkF m 45 #[.val (.int p1), .val (.int (1 : Int32)), .val (.ref w_INTEGER), .val (.int (0 : Int32)), .val (.int (0 : Int32)), .val (.ref w_INTEGER)] [(.int (0 : Int32))]))
    refine OwnGo.fwd (fun tq' kq' => XS.aload X16.here hx rfl (hb hby at_45) rfl rfl kq') ?_
    show OwnGo _ _ _ _ (T16.setTop (mkF m 47 #[.val (.int p1), .val (.int (1 : Int32)), .val (.ref w_INTEGER), .val (.int (0 : Int32)), .val (.int (0 : Int32)), .val (.ref w_INTEGER)] [(.ref w_INTEGER), (.int (0 : Int32))]))
    refine OwnGo.fwd (fun tq' kq' => XS.aloadN X16.here hx rfl (hb hby at_47) rfl rfl kq') ?_
    show OwnGo _ _ _ _ (T16.setTop (mkF m 48 #[.val (.int p1), .val (.int (1 : Int32)), .val (.ref w_INTEGER), .val (.int (0 : Int32)), .val (.int (0 : Int32)), .val (.ref w_INTEGER)] [(.ref w_INTEGER), (.ref w_INTEGER), (.int (0 : Int32))]))
    refine OwnGo.fwd (fun tq' kq' => Jvm.RoadKit.acmp (g := (mkF m 48 #[.val (.int p1), .val (.int (1 : Int32)), .val (.ref w_INTEGER), .val (.int (0 : Int32)), .val (.int (0 : Int32)), .val (.ref w_INTEGER)] [(.ref w_INTEGER), (.ref w_INTEGER), (.int (0 : Int32))])) X16 hx rfl rfl rfl (pc0 := 48) (pc' := 55) (same := true) rfl (hb hby at_48) rfl (decide_eq_true rfl) (by decide) (by decide) kq') ?_
    show OwnGo _ _ _ _ (T16.setTop (mkF m 55 #[.val (.int p1), .val (.int (1 : Int32)), .val (.ref w_INTEGER), .val (.int (0 : Int32)), .val (.int (0 : Int32)), .val (.ref w_INTEGER)] [(.int (0 : Int32))]))
    refine OwnGo.fwd (fun tq' kq' => XS.iconst X16.here hx rfl (hb hby at_55) kq') ?_
    show OwnGo _ _ _ _ (T16.setTop (mkF m 56 #[.val (.int p1), .val (.int (1 : Int32)), .val (.ref w_INTEGER), .val (.int (0 : Int32)), .val (.int (0 : Int32)), .val (.ref w_INTEGER)] [(.int (0 : Int32)), (.int (0 : Int32))]))
    have hc56_17 : (0 : Int) = (0 : Int) := rfl
    refine OwnGo.fwd (fun tq' kq' => XS.icmpYes X16.here hx rfl (pc0 := 56) (pc' := 61) rfl (hb hby at_56) rfl (own_beq (by decide) (by decide) hc56_17).1 (by decide) (by decide) kq') ?_
    show OwnGo _ _ _ _ (T16.setTop (mkF m 61 #[.val (.int p1), .val (.int (1 : Int32)), .val (.ref w_INTEGER), .val (.int (0 : Int32)), .val (.int (0 : Int32)), .val (.ref w_INTEGER)] []))
    refine OwnGo.fwd (fun tq' kq' => XS.aloadN X16.here hx rfl (hb hby at_61) rfl rfl kq') ?_
    show OwnGo _ _ _ _ (T16.setTop (mkF m 62 #[.val (.int p1), .val (.int (1 : Int32)), .val (.ref w_INTEGER), .val (.int (0 : Int32)), .val (.int (0 : Int32)), .val (.ref w_INTEGER)] [(.ref w_INTEGER)]))
    obtain ⟨cq18, kq18, q18a, q18b, q18c⟩ := isOf hZ e16 E_w_INTEGER
    obtain ⟨_, _, ⟨T18, L18, k18, n18⟩, -, X18, ⟨Lc18, hQ18, l18, y18, z18⟩, st18⟩ := X16.virtualBack hx (y := (⟨"com/example/ctl_checker/ctlchecker/SmvExpression$Type", "set", "()Lcom/example/ctl_checker/ctlchecker/SmvExpression$Type;"⟩ : MethodName)) (z := (⟨"com/example/ctl_checker/ctlchecker/SmvExpression$Type", "set", "()Lcom/example/ctl_checker/ctlchecker/SmvExpression$Type;"⟩ : MethodName)) hown (mvT hZ (hw _ (List.mem_of_getElem? (i := 33) rfl))) (mvT hZ (hw _ (List.mem_of_getElem? (i := 34) rfl))) (notFace_of_selects (args := #[]) (mvT hZ (hw _ (List.mem_of_getElem? (i := 36) rfl)))) (mvT hZ (hw _ (List.mem_of_getElem? (i := 36) rfl))) (mvT hZ (hw _ (List.mem_of_getElem? (i := 35) rfl))) (by decide) (backOf (W := 0) (rm5INTEGER l Z a0 hw [] w_CONDITION w_INTEGER w_SYMBOLIC w_CONDITION_SET w_INTEGER_SET w_SYMBOLIC_SET h0 n0 Zs S_CONDITION E_w_CONDITION O_CONDITION S_INTEGER E_w_INTEGER O_INTEGER S_SYMBOLIC E_w_SYMBOLIC O_SYMBOLIC S_CONDITION_SET E_w_CONDITION_SET O_CONDITION_SET S_INTEGER_SET E_w_INTEGER_SET O_INTEGER_SET S_SYMBOLIC_SET E_w_SYMBOLIC_SET O_SYMBOLIC_SET) hZ (hw _ (List.mem_of_getElem? (i := 37) rfl)) (hw _ (List.mem_of_getElem? (i := 6) rfl)) (by decide) (by decide)) q18a q18c (g := (mkF m 62 #[.val (.int p1), .val (.int (1 : Int32)), .val (.ref w_INTEGER), .val (.int (0 : Int32)), .val (.int (0 : Int32)), .val (.ref w_INTEGER)] [(.ref w_INTEGER)])) rfl (by rw [hml]; rfl) (Steps.refl _) (argsL := []) (rest := []) (lenOf pd_2 rfl) rfl (by show 2 * 0 + _ ≤ _; exact Nat.le_of_eq rfl) (hb hby at_62) (fun _ _ => ⟨rfl, e16, (by decide : 0 + 0 ≤ _), (by decide : 0 + 0 ≤ _)⟩)
    dsimp only [Pt.U, Pt.locs, Pt.cells, Pt.slots] at X18 l18 y18 z18 st18 hQ18
    subst l18 y18 z18
    obtain ⟨rfl, N18q, e18⟩ := hQ18
    have N := Fr.app N N18q
    refine OwnGo.thru st18 ?_
    show OwnGo _ _ _ _ (T18.setTop (mkF m 65 #[.val (.int p1), .val (.int (1 : Int32)), .val (.ref w_INTEGER), .val (.int (0 : Int32)), .val (.int (0 : Int32)), .val (.ref w_INTEGER)] [(.ref w_INTEGER_SET)]))
    obtain ⟨cq19, kq19, q19a, q19b, q19c⟩ := isOf hZ e18 E_w_INTEGER_SET
    obtain ⟨_, _, ⟨T19, L19, k19, n19⟩, -, X19, ⟨Lc19, hQ19, l19, y19, z19⟩, st19⟩ := X18.virtualBack hx (y := (⟨"com/example/ctl_checker/ctlchecker/SmvExpression$Type", "isSet", "()Z"⟩ : MethodName)) (z := (⟨"com/example/ctl_checker/ctlchecker/SmvExpression$Type", "isSet", "()Z"⟩ : MethodName)) hown (mvT hZ (hw _ (List.mem_of_getElem? (i := 8) rfl))) (mvT hZ (hw _ (List.mem_of_getElem? (i := 9) rfl))) (notFace_of_selects (args := #[]) (mvT hZ (hw _ (List.mem_of_getElem? (i := 11) rfl)))) (mvT hZ (hw _ (List.mem_of_getElem? (i := 11) rfl))) (mvT hZ (hw _ (List.mem_of_getElem? (i := 10) rfl))) (by decide) (backOf (W := 0) (rm2INTEGER_SET l Z a0 hw [] w_CONDITION w_INTEGER w_SYMBOLIC w_CONDITION_SET w_INTEGER_SET w_SYMBOLIC_SET h0 n0 Zs S_CONDITION E_w_CONDITION O_CONDITION S_INTEGER E_w_INTEGER O_INTEGER S_SYMBOLIC E_w_SYMBOLIC O_SYMBOLIC S_CONDITION_SET E_w_CONDITION_SET O_CONDITION_SET S_INTEGER_SET E_w_INTEGER_SET O_INTEGER_SET S_SYMBOLIC_SET E_w_SYMBOLIC_SET O_SYMBOLIC_SET) hZ (hw _ (List.mem_of_getElem? (i := 12) rfl)) (hw _ (List.mem_of_getElem? (i := 6) rfl)) (by decide) (by decide)) q19a q19c (g := (mkF m 65 #[.val (.int p1), .val (.int (1 : Int32)), .val (.ref w_INTEGER), .val (.int (0 : Int32)), .val (.int (0 : Int32)), .val (.ref w_INTEGER)] [(.ref w_INTEGER_SET)])) rfl (by rw [hml]; rfl) (Steps.refl _) (argsL := []) (rest := []) (lenOf pd_1 rfl) rfl (by show 2 * 0 + _ ≤ _; exact Nat.le_of_eq rfl) (hb hby at_65) (fun _ _ => ⟨rfl, e18, (by decide : 0 + 0 ≤ _), (by decide : 0 + 0 ≤ _)⟩)
    dsimp only [Pt.U, Pt.locs, Pt.cells, Pt.slots] at X19 l19 y19 z19 st19 hQ19
    subst l19 y19 z19
    obtain ⟨rfl, N19q, e19⟩ := hQ19
    have N := Fr.app N N19q
    refine OwnGo.thru st19 ?_
    show OwnGo _ _ _ _ (T19.setTop (mkF m 68 #[.val (.int p1), .val (.int (1 : Int32)), .val (.ref w_INTEGER), .val (.int (0 : Int32)), .val (.int (0 : Int32)), .val (.ref w_INTEGER)] [(.int (1 : Int32))]))
    have hc68_20 : ¬ ((1 : Int) = (0 : Int)) := by decide
    refine OwnGo.fwd (fun tq' kq' => XS.ifYes X19.here hx rfl (pc0 := 68) (pc' := 73) rfl (hb hby at_68) rfl ((if0 _ _).trans (own_bneq (by decide) (by decide) hc68_20).2) (by decide) (by decide) kq') ?_
    show OwnGo _ _ _ _ (T19.setTop (mkF m 73 #[.val (.int p1), .val (.int (1 : Int32)), .val (.ref w_INTEGER), .val (.int (0 : Int32)), .val (.int (0 : Int32)), .val (.ref w_INTEGER)] []))
    refine OwnGo.fwd (fun tq' kq' => XS.aload X19.here hx rfl (hb hby at_73) rfl rfl kq') ?_
    show OwnGo _ _ _ _ (T19.setTop (mkF m 75 #[.val (.int p1), .val (.int (1 : Int32)), .val (.ref w_INTEGER), .val (.int (0 : Int32)), .val (.int (0 : Int32)), .val (.ref w_INTEGER)] [(.ref w_INTEGER)]))
    obtain ⟨cq21, kq21, q21a, q21b, q21c⟩ := isOf hZ e19 E_w_INTEGER
    obtain ⟨_, _, ⟨T21, L21, k21, n21⟩, -, X21, ⟨Lc21, hQ21, l21, y21, z21⟩, st21⟩ := X19.virtualBack hx (y := (⟨"com/example/ctl_checker/ctlchecker/SmvExpression$Type", "isSet", "()Z"⟩ : MethodName)) (z := (⟨"com/example/ctl_checker/ctlchecker/SmvExpression$Type", "isSet", "()Z"⟩ : MethodName)) hown (mvT hZ (hw _ (List.mem_of_getElem? (i := 8) rfl))) (mvT hZ (hw _ (List.mem_of_getElem? (i := 9) rfl))) (notFace_of_selects (args := #[]) (mvT hZ (hw _ (List.mem_of_getElem? (i := 11) rfl)))) (mvT hZ (hw _ (List.mem_of_getElem? (i := 11) rfl))) (mvT hZ (hw _ (List.mem_of_getElem? (i := 10) rfl))) (by decide) (backOf (W := 0) (rm2INTEGER l Z a0 hw [] w_CONDITION w_INTEGER w_SYMBOLIC w_CONDITION_SET w_INTEGER_SET w_SYMBOLIC_SET h0 n0 Zs S_CONDITION E_w_CONDITION O_CONDITION S_INTEGER E_w_INTEGER O_INTEGER S_SYMBOLIC E_w_SYMBOLIC O_SYMBOLIC S_CONDITION_SET E_w_CONDITION_SET O_CONDITION_SET S_INTEGER_SET E_w_INTEGER_SET O_INTEGER_SET S_SYMBOLIC_SET E_w_SYMBOLIC_SET O_SYMBOLIC_SET) hZ (hw _ (List.mem_of_getElem? (i := 12) rfl)) (hw _ (List.mem_of_getElem? (i := 6) rfl)) (by decide) (by decide)) q21a q21c (g := (mkF m 75 #[.val (.int p1), .val (.int (1 : Int32)), .val (.ref w_INTEGER), .val (.int (0 : Int32)), .val (.int (0 : Int32)), .val (.ref w_INTEGER)] [(.ref w_INTEGER)])) rfl (by rw [hml]; rfl) (Steps.refl _) (argsL := []) (rest := []) (lenOf pd_1 rfl) rfl (by show 2 * 0 + _ ≤ _; exact Nat.le_of_eq rfl) (hb hby at_75) (fun _ _ => ⟨rfl, e19, (by decide : 0 + 0 ≤ _), (by decide : 0 + 0 ≤ _)⟩)
    dsimp only [Pt.U, Pt.locs, Pt.cells, Pt.slots] at X21 l21 y21 z21 st21 hQ21
    subst l21 y21 z21
    obtain ⟨rfl, N21q, e21⟩ := hQ21
    have N := Fr.app N N21q
    refine OwnGo.thru st21 ?_
    show OwnGo _ _ _ _ (T21.setTop (mkF m 78 #[.val (.int p1), .val (.int (1 : Int32)), .val (.ref w_INTEGER), .val (.int (0 : Int32)), .val (.int (0 : Int32)), .val (.ref w_INTEGER)] [(.int (0 : Int32))]))
    have hc78_22 : (0 : Int) = (0 : Int) := rfl
    refine OwnGo.fwd (fun tq' kq' => XS.ifNo X21.here hx rfl (hb hby at_78) rfl ((if0 _ _).trans (own_beq (by decide) (by decide) hc78_22).2) kq') ?_
    show OwnGo _ _ _ _ (T21.setTop (mkF m 81 #[.val (.int p1), .val (.int (1 : Int32)), .val (.ref w_INTEGER), .val (.int (0 : Int32)), .val (.int (0 : Int32)), .val (.ref w_INTEGER)] []))
    refine OwnGo.fwd (fun tq' kq' => XS.iconst X21.here hx rfl (hb hby at_81) kq') ?_
    show OwnGo _ _ _ _ (T21.setTop (mkF m 82 #[.val (.int p1), .val (.int (1 : Int32)), .val (.ref w_INTEGER), .val (.int (0 : Int32)), .val (.int (0 : Int32)), .val (.ref w_INTEGER)] [(.int (1 : Int32))]))
    refine OwnGo.fwd (fun tq' kq' => XS.goto X21.here hx rfl (pc0 := 82) (pc' := 86) rfl (hb hby at_82) (by decide) (by decide) kq') ?_
    show OwnGo _ _ _ _ (T21.setTop (mkF m 86 #[.val (.int p1), .val (.int (1 : Int32)), .val (.ref w_INTEGER), .val (.int (0 : Int32)), .val (.int (0 : Int32)), .val (.ref w_INTEGER)] [(.int (1 : Int32))]))
    exact own_retZ X21 hlk hx Bd.returns (hb hby at_86) (by decide) (by decide) e21 ⟨rfl, N⟩
  · show OwnGo _ _ _ _ (s₁.setTop (mkF m 7 #[.val (.int p1), .unset, .unset, .unset, .unset, .unset] [(.int (2 : Int32))]))
    refine OwnGo.fwd (fun tq' kq' => XS.istoreN X0.here hx rfl (hb hby at_7) rfl (l' := #[.val (.int p1), .val (.int (2 : Int32)), .unset, .unset, .unset, .unset]) rfl kq') ?_
    show OwnGo _ _ _ _ (s₁.setTop (mkF m 8 #[.val (.int p1), .val (.int (2 : Int32)), .unset, .unset, .unset, .unset] []))
    refine OwnGo.fwd (fun tq' kq' => XS.iloadN X0.here hx rfl (hb hby at_8) rfl kq') ?_
    show OwnGo _ _ _ _ (s₁.setTop (mkF m 9 #[.val (.int p1), .val (.int (2 : Int32)), .unset, .unset, .unset, .unset] [(.int (2 : Int32))]))
    obtain ⟨_, _, ⟨T23, L23, k23, n23⟩, -, X23, ⟨Lc23, hQ23, l23, y23, z23⟩, st23⟩ := Jvm.LawKit.callS X0 hx (y := (⟨"com/example/ctl_checker/ctlchecker/TypeIsSetPinLaw", "pick", "(I)Lcom/example/ctl_checker/ctlchecker/SmvExpression$Type;"⟩ : MethodName)) hown (mvT hZ (hw _ (List.mem_of_getElem? (i := 1) rfl))) (mvT hZ (hw _ (List.mem_of_getElem? (i := 2) rfl))) (mvT hZ (hw _ (List.mem_of_getElem? (i := 3) rfl))) (mvT hZ (hw _ (List.mem_of_getElem? (i := 4) rfl))) (by decide) (backOf (W := 0) (rm1SYMBOLIC l Z a0 hw [] w_CONDITION w_INTEGER w_SYMBOLIC w_CONDITION_SET w_INTEGER_SET w_SYMBOLIC_SET h0 n0 Zs S_CONDITION E_w_CONDITION O_CONDITION S_INTEGER E_w_INTEGER O_INTEGER S_SYMBOLIC E_w_SYMBOLIC O_SYMBOLIC S_CONDITION_SET E_w_CONDITION_SET O_CONDITION_SET S_INTEGER_SET E_w_INTEGER_SET O_INTEGER_SET S_SYMBOLIC_SET E_w_SYMBOLIC_SET O_SYMBOLIC_SET) hZ (hw _ (List.mem_of_getElem? (i := 4) rfl)) (hw _ (List.mem_of_getElem? (i := 3) rfl)) (by decide) (by decide)) (g := (mkF m 9 #[.val (.int p1), .val (.int (2 : Int32)), .unset, .unset, .unset, .unset] [(.int (2 : Int32))])) rfl (by rw [hml]; rfl) (argsL := [(.int (2 : Int32))]) (rest := []) (lenOf pd_0 rfl) rfl (by show 2 * 0 + _ ≤ _; exact Nat.le_of_eq rfl) (hb hby at_9) (fun _ _ => ⟨rfl, e0, (by decide : 0 + 0 ≤ _), (by decide : 0 + 0 ≤ _)⟩)
    dsimp only [Pt.U, Pt.locs, Pt.cells, Pt.slots] at X23 l23 y23 z23 st23 hQ23
    subst l23 y23 z23
    obtain ⟨rfl, N23q, e23⟩ := hQ23
    have N := Fr.app N N23q
    refine OwnGo.fwd st23 ?_
    show OwnGo _ _ _ _ (T23.setTop (mkF m 12 #[.val (.int p1), .val (.int (2 : Int32)), .unset, .unset, .unset, .unset] [(.ref w_SYMBOLIC)]))
    refine OwnGo.fwd (fun tq' kq' => XS.astoreN X23.here hx rfl (hb hby at_12) rfl rfl (l' := #[.val (.int p1), .val (.int (2 : Int32)), .val (.ref w_SYMBOLIC), .unset, .unset, .unset]) rfl kq') ?_
    show OwnGo _ _ _ _ (T23.setTop (mkF m 13 #[.val (.int p1), .val (.int (2 : Int32)), .val (.ref w_SYMBOLIC), .unset, .unset, .unset] []))
    refine OwnGo.fwd (fun tq' kq' => XS.aloadN X23.here hx rfl (hb hby at_13) rfl rfl kq') ?_
    show OwnGo _ _ _ _ (T23.setTop (mkF m 14 #[.val (.int p1), .val (.int (2 : Int32)), .val (.ref w_SYMBOLIC), .unset, .unset, .unset] [(.ref w_SYMBOLIC)]))
    obtain ⟨cq24, kq24, q24a, q24b, q24c⟩ := isOf hZ e23 E_w_SYMBOLIC
    obtain ⟨_, _, ⟨T24, L24, k24, n24⟩, -, X24, ⟨Lc24, hQ24, l24, y24, z24⟩, st24⟩ := X23.virtualBack hx (y := (⟨"com/example/ctl_checker/ctlchecker/SmvExpression$Type", "isSet", "()Z"⟩ : MethodName)) (z := (⟨"com/example/ctl_checker/ctlchecker/SmvExpression$Type", "isSet", "()Z"⟩ : MethodName)) hown (mvT hZ (hw _ (List.mem_of_getElem? (i := 8) rfl))) (mvT hZ (hw _ (List.mem_of_getElem? (i := 9) rfl))) (notFace_of_selects (args := #[]) (mvT hZ (hw _ (List.mem_of_getElem? (i := 11) rfl)))) (mvT hZ (hw _ (List.mem_of_getElem? (i := 11) rfl))) (mvT hZ (hw _ (List.mem_of_getElem? (i := 10) rfl))) (by decide) (backOf (W := 0) (rm2SYMBOLIC l Z a0 hw [] w_CONDITION w_INTEGER w_SYMBOLIC w_CONDITION_SET w_INTEGER_SET w_SYMBOLIC_SET h0 n0 Zs S_CONDITION E_w_CONDITION O_CONDITION S_INTEGER E_w_INTEGER O_INTEGER S_SYMBOLIC E_w_SYMBOLIC O_SYMBOLIC S_CONDITION_SET E_w_CONDITION_SET O_CONDITION_SET S_INTEGER_SET E_w_INTEGER_SET O_INTEGER_SET S_SYMBOLIC_SET E_w_SYMBOLIC_SET O_SYMBOLIC_SET) hZ (hw _ (List.mem_of_getElem? (i := 12) rfl)) (hw _ (List.mem_of_getElem? (i := 6) rfl)) (by decide) (by decide)) q24a q24c (g := (mkF m 14 #[.val (.int p1), .val (.int (2 : Int32)), .val (.ref w_SYMBOLIC), .unset, .unset, .unset] [(.ref w_SYMBOLIC)])) rfl (by rw [hml]; rfl) (Steps.refl _) (argsL := []) (rest := []) (lenOf pd_1 rfl) rfl (by show 2 * 0 + _ ≤ _; exact Nat.le_of_eq rfl) (hb hby at_14) (fun _ _ => ⟨rfl, e23, (by decide : 0 + 0 ≤ _), (by decide : 0 + 0 ≤ _)⟩)
    dsimp only [Pt.U, Pt.locs, Pt.cells, Pt.slots] at X24 l24 y24 z24 st24 hQ24
    subst l24 y24 z24
    obtain ⟨rfl, N24q, e24⟩ := hQ24
    have N := Fr.app N N24q
    refine OwnGo.thru st24 ?_
    show OwnGo _ _ _ _ (T24.setTop (mkF m 17 #[.val (.int p1), .val (.int (2 : Int32)), .val (.ref w_SYMBOLIC), .unset, .unset, .unset] [(.int (0 : Int32))]))
    refine OwnGo.fwd (fun tq' kq' => XS.istoreN X24.here hx rfl (hb hby at_17) rfl (l' := #[.val (.int p1), .val (.int (2 : Int32)), .val (.ref w_SYMBOLIC), .val (.int (0 : Int32)), .unset, .unset]) rfl kq') ?_
    show OwnGo _ _ _ _ (T24.setTop (mkF m 18 #[.val (.int p1), .val (.int (2 : Int32)), .val (.ref w_SYMBOLIC), .val (.int (0 : Int32)), .unset, .unset] []))
    refine OwnGo.fwd (fun tq' kq' => XS.iloadN X24.here hx rfl (hb hby at_18) rfl kq') ?_
    show OwnGo _ _ _ _ (T24.setTop (mkF m 19 #[.val (.int p1), .val (.int (2 : Int32)), .val (.ref w_SYMBOLIC), .val (.int (0 : Int32)), .unset, .unset] [(.int (2 : Int32))]))
    refine OwnGo.fwd (fun tq' kq' => XS.iconst X24.here hx rfl (hb hby at_19) kq') ?_
    show OwnGo _ _ _ _ (T24.setTop (mkF m 20 #[.val (.int p1), .val (.int (2 : Int32)), .val (.ref w_SYMBOLIC), .val (.int (0 : Int32)), .unset, .unset] [(.int (3 : Int32)), (.int (2 : Int32))]))
    have hc20_25 : (2 : Int) < (3 : Int) := by decide
    refine OwnGo.fwd (fun tq' kq' => XS.icmpYes X24.here hx rfl (pc0 := 20) (pc' := 27) rfl (hb hby at_20) rfl (own_blt (by decide) (by decide) hc20_25).1 (by decide) (by decide) kq') ?_
    show OwnGo _ _ _ _ (T24.setTop (mkF m 27 #[.val (.int p1), .val (.int (2 : Int32)), .val (.ref w_SYMBOLIC), .val (.int (0 : Int32)), .unset, .unset] []))
    refine OwnGo.fwd (fun tq' kq' => XS.iconst X24.here hx rfl (hb hby at_27) kq') ?_
    show OwnGo _ _ _ _ (T24.setTop (mkF m 28 #[.val (.int p1), .val (.int (2 : Int32)), .val (.ref w_SYMBOLIC), .val (.int (0 : Int32)), .unset, .unset] [(.int (0 : Int32))]))
    refine OwnGo.fwd (fun tq' kq' => XS.istore X24.here hx rfl (hb hby at_28) rfl (l' := #[.val (.int p1), .val (.int (2 : Int32)), .val (.ref w_SYMBOLIC), .val (.int (0 : Int32)), .val (.int (0 : Int32)), .unset]) rfl kq') ?_
    show OwnGo _ _ _ _ (T24.setTop (mkF m 30 #[.val (.int p1), .val (.int (2 : Int32)), .val (.ref w_SYMBOLIC), .val (.int (0 : Int32)), .val (.int (0 : Int32)), .unset] []))
    refine OwnGo.fwd (fun tq' kq' => XS.iloadN X24.here hx rfl (hb hby at_30) rfl kq') ?_
    show OwnGo _ _ _ _ (T24.setTop (mkF m 31 #[.val (.int p1), .val (.int (2 : Int32)), .val (.ref w_SYMBOLIC), .val (.int (0 : Int32)), .val (.int (0 : Int32)), .unset] [(.int (0 : Int32))]))
    refine OwnGo.fwd (fun tq' kq' => XS.iload X24.here hx rfl (hb hby at_31) rfl kq') ?_
    show OwnGo _ _ _ _ (T24.setTop (mkF m 33 #[.val (.int p1), .val (.int (2 : Int32)), .val (.ref w_SYMBOLIC), .val (.int (0 : Int32)), .val (.int (0 : Int32)), .unset] [(.int (0 : Int32)), (.int (0 : Int32))]))
    have hc33_26 : (0 : Int) = (0 : Int) := rfl
    refine OwnGo.fwd (fun tq' kq' => XS.icmpYes X24.here hx rfl (pc0 := 33) (pc' := 38) rfl (hb hby at_33) rfl (own_beq (by decide) (by decide) hc33_26).1 (by decide) (by decide) kq') ?_
    show OwnGo _ _ _ _ (T24.setTop (mkF m 38 #[.val (.int p1), .val (.int (2 : Int32)), .val (.ref w_SYMBOLIC), .val (.int (0 : Int32)), .val (.int (0 : Int32)), .unset] []))
    refine OwnGo.fwd (fun tq' kq' => XS.aloadN X24.here hx rfl (hb hby at_38) rfl rfl kq') ?_
    show OwnGo _ _ _ _ (T24.setTop (mkF m 39 #[.val (.int p1), .val (.int (2 : Int32)), .val (.ref w_SYMBOLIC), .val (.int (0 : Int32)), .val (.int (0 : Int32)), .unset] [(.ref w_SYMBOLIC)]))
    obtain ⟨cq27, kq27, q27a, q27b, q27c⟩ := isOf hZ e24 E_w_SYMBOLIC
    obtain ⟨_, _, ⟨T27, L27, k27, n27⟩, -, X27, ⟨Lc27, hQ27, l27, y27, z27⟩, st27⟩ := X24.virtualBack hx (y := (⟨"com/example/ctl_checker/ctlchecker/SmvExpression$Type", "element", "()Lcom/example/ctl_checker/ctlchecker/SmvExpression$Type;"⟩ : MethodName)) (z := (⟨"com/example/ctl_checker/ctlchecker/SmvExpression$Type", "element", "()Lcom/example/ctl_checker/ctlchecker/SmvExpression$Type;"⟩ : MethodName)) hown (mvT hZ (hw _ (List.mem_of_getElem? (i := 19) rfl))) (mvT hZ (hw _ (List.mem_of_getElem? (i := 20) rfl))) (notFace_of_selects (args := #[]) (mvT hZ (hw _ (List.mem_of_getElem? (i := 22) rfl)))) (mvT hZ (hw _ (List.mem_of_getElem? (i := 22) rfl))) (mvT hZ (hw _ (List.mem_of_getElem? (i := 21) rfl))) (by decide) (backOf (W := 0) (rm3SYMBOLIC l Z a0 hw [] w_CONDITION w_INTEGER w_SYMBOLIC w_CONDITION_SET w_INTEGER_SET w_SYMBOLIC_SET h0 n0 Zs S_CONDITION E_w_CONDITION O_CONDITION S_INTEGER E_w_INTEGER O_INTEGER S_SYMBOLIC E_w_SYMBOLIC O_SYMBOLIC S_CONDITION_SET E_w_CONDITION_SET O_CONDITION_SET S_INTEGER_SET E_w_INTEGER_SET O_INTEGER_SET S_SYMBOLIC_SET E_w_SYMBOLIC_SET O_SYMBOLIC_SET) hZ (hw _ (List.mem_of_getElem? (i := 23) rfl)) (hw _ (List.mem_of_getElem? (i := 6) rfl)) (by decide) (by decide)) q27a q27c (g := (mkF m 39 #[.val (.int p1), .val (.int (2 : Int32)), .val (.ref w_SYMBOLIC), .val (.int (0 : Int32)), .val (.int (0 : Int32)), .unset] [(.ref w_SYMBOLIC)])) rfl (by rw [hml]; rfl) (Steps.refl _) (argsL := []) (rest := []) (lenOf pd_2 rfl) rfl (by show 2 * 0 + _ ≤ _; exact Nat.le_of_eq rfl) (hb hby at_39) (fun _ _ => ⟨rfl, e24, (by decide : 0 + 0 ≤ _), (by decide : 0 + 0 ≤ _)⟩)
    dsimp only [Pt.U, Pt.locs, Pt.cells, Pt.slots] at X27 l27 y27 z27 st27 hQ27
    subst l27 y27 z27
    obtain ⟨rfl, N27q, e27⟩ := hQ27
    have N := Fr.app N N27q
    refine OwnGo.thru st27 ?_
    show OwnGo _ _ _ _ (T27.setTop (mkF m 42 #[.val (.int p1), .val (.int (2 : Int32)), .val (.ref w_SYMBOLIC), .val (.int (0 : Int32)), .val (.int (0 : Int32)), .unset] [(.ref w_SYMBOLIC)]))
    refine OwnGo.fwd (fun tq' kq' => XS.astore X27.here hx rfl (hb hby at_42) rfl rfl (l' := #[.val (.int p1), .val (.int (2 : Int32)), .val (.ref w_SYMBOLIC), .val (.int (0 : Int32)), .val (.int (0 : Int32)), .val (.ref w_SYMBOLIC)]) rfl kq') ?_
    show OwnGo _ _ _ _ (T27.setTop (mkF m 44 #[.val (.int p1), .val (.int (2 : Int32)), .val (.ref w_SYMBOLIC), .val (.int (0 : Int32)), .val (.int (0 : Int32)), .val (.ref w_SYMBOLIC)] []))
    refine OwnGo.fwd (fun tq' kq' => XS.iloadN X27.here hx rfl (hb hby at_44) rfl kq') ?_
    show OwnGo _ _ _ _ (T27.setTop (mkF m 45 #[.val (.int p1), .val (.int (2 : Int32)), .val (.ref w_SYMBOLIC), .val (.int (0 : Int32)), .val (.int (0 : Int32)), .val (.ref w_SYMBOLIC)] [(.int (0 : Int32))]))
    refine OwnGo.fwd (fun tq' kq' => XS.aload X27.here hx rfl (hb hby at_45) rfl rfl kq') ?_
    show OwnGo _ _ _ _ (T27.setTop (mkF m 47 #[.val (.int p1), .val (.int (2 : Int32)), .val (.ref w_SYMBOLIC), .val (.int (0 : Int32)), .val (.int (0 : Int32)), .val (.ref w_SYMBOLIC)] [(.ref w_SYMBOLIC), (.int (0 : Int32))]))
    refine OwnGo.fwd (fun tq' kq' => XS.aloadN X27.here hx rfl (hb hby at_47) rfl rfl kq') ?_
    show OwnGo _ _ _ _ (T27.setTop (mkF m 48 #[.val (.int p1), .val (.int (2 : Int32)), .val (.ref w_SYMBOLIC), .val (.int (0 : Int32)), .val (.int (0 : Int32)), .val (.ref w_SYMBOLIC)] [(.ref w_SYMBOLIC), (.ref w_SYMBOLIC), (.int (0 : Int32))]))
    refine OwnGo.fwd (fun tq' kq' => Jvm.RoadKit.acmp (g := (mkF m 48 #[.val (.int p1), .val (.int (2 : Int32)), .val (.ref w_SYMBOLIC), .val (.int (0 : Int32)), .val (.int (0 : Int32)), .val (.ref w_SYMBOLIC)] [(.ref w_SYMBOLIC), (.ref w_SYMBOLIC), (.int (0 : Int32))])) X27 hx rfl rfl rfl (pc0 := 48) (pc' := 55) (same := true) rfl (hb hby at_48) rfl (decide_eq_true rfl) (by decide) (by decide) kq') ?_
    show OwnGo _ _ _ _ (T27.setTop (mkF m 55 #[.val (.int p1), .val (.int (2 : Int32)), .val (.ref w_SYMBOLIC), .val (.int (0 : Int32)), .val (.int (0 : Int32)), .val (.ref w_SYMBOLIC)] [(.int (0 : Int32))]))
    refine OwnGo.fwd (fun tq' kq' => XS.iconst X27.here hx rfl (hb hby at_55) kq') ?_
    show OwnGo _ _ _ _ (T27.setTop (mkF m 56 #[.val (.int p1), .val (.int (2 : Int32)), .val (.ref w_SYMBOLIC), .val (.int (0 : Int32)), .val (.int (0 : Int32)), .val (.ref w_SYMBOLIC)] [(.int (0 : Int32)), (.int (0 : Int32))]))
    have hc56_28 : (0 : Int) = (0 : Int) := rfl
    refine OwnGo.fwd (fun tq' kq' => XS.icmpYes X27.here hx rfl (pc0 := 56) (pc' := 61) rfl (hb hby at_56) rfl (own_beq (by decide) (by decide) hc56_28).1 (by decide) (by decide) kq') ?_
    show OwnGo _ _ _ _ (T27.setTop (mkF m 61 #[.val (.int p1), .val (.int (2 : Int32)), .val (.ref w_SYMBOLIC), .val (.int (0 : Int32)), .val (.int (0 : Int32)), .val (.ref w_SYMBOLIC)] []))
    refine OwnGo.fwd (fun tq' kq' => XS.aloadN X27.here hx rfl (hb hby at_61) rfl rfl kq') ?_
    show OwnGo _ _ _ _ (T27.setTop (mkF m 62 #[.val (.int p1), .val (.int (2 : Int32)), .val (.ref w_SYMBOLIC), .val (.int (0 : Int32)), .val (.int (0 : Int32)), .val (.ref w_SYMBOLIC)] [(.ref w_SYMBOLIC)]))
    obtain ⟨cq29, kq29, q29a, q29b, q29c⟩ := isOf hZ e27 E_w_SYMBOLIC
    obtain ⟨_, _, ⟨T29, L29, k29, n29⟩, -, X29, ⟨Lc29, hQ29, l29, y29, z29⟩, st29⟩ := X27.virtualBack hx (y := (⟨"com/example/ctl_checker/ctlchecker/SmvExpression$Type", "set", "()Lcom/example/ctl_checker/ctlchecker/SmvExpression$Type;"⟩ : MethodName)) (z := (⟨"com/example/ctl_checker/ctlchecker/SmvExpression$Type", "set", "()Lcom/example/ctl_checker/ctlchecker/SmvExpression$Type;"⟩ : MethodName)) hown (mvT hZ (hw _ (List.mem_of_getElem? (i := 33) rfl))) (mvT hZ (hw _ (List.mem_of_getElem? (i := 34) rfl))) (notFace_of_selects (args := #[]) (mvT hZ (hw _ (List.mem_of_getElem? (i := 36) rfl)))) (mvT hZ (hw _ (List.mem_of_getElem? (i := 36) rfl))) (mvT hZ (hw _ (List.mem_of_getElem? (i := 35) rfl))) (by decide) (backOf (W := 0) (rm5SYMBOLIC l Z a0 hw [] w_CONDITION w_INTEGER w_SYMBOLIC w_CONDITION_SET w_INTEGER_SET w_SYMBOLIC_SET h0 n0 Zs S_CONDITION E_w_CONDITION O_CONDITION S_INTEGER E_w_INTEGER O_INTEGER S_SYMBOLIC E_w_SYMBOLIC O_SYMBOLIC S_CONDITION_SET E_w_CONDITION_SET O_CONDITION_SET S_INTEGER_SET E_w_INTEGER_SET O_INTEGER_SET S_SYMBOLIC_SET E_w_SYMBOLIC_SET O_SYMBOLIC_SET) hZ (hw _ (List.mem_of_getElem? (i := 37) rfl)) (hw _ (List.mem_of_getElem? (i := 6) rfl)) (by decide) (by decide)) q29a q29c (g := (mkF m 62 #[.val (.int p1), .val (.int (2 : Int32)), .val (.ref w_SYMBOLIC), .val (.int (0 : Int32)), .val (.int (0 : Int32)), .val (.ref w_SYMBOLIC)] [(.ref w_SYMBOLIC)])) rfl (by rw [hml]; rfl) (Steps.refl _) (argsL := []) (rest := []) (lenOf pd_2 rfl) rfl (by show 2 * 0 + _ ≤ _; exact Nat.le_of_eq rfl) (hb hby at_62) (fun _ _ => ⟨rfl, e27, (by decide : 0 + 0 ≤ _), (by decide : 0 + 0 ≤ _)⟩)
    dsimp only [Pt.U, Pt.locs, Pt.cells, Pt.slots] at X29 l29 y29 z29 st29 hQ29
    subst l29 y29 z29
    obtain ⟨rfl, N29q, e29⟩ := hQ29
    have N := Fr.app N N29q
    refine OwnGo.thru st29 ?_
    show OwnGo _ _ _ _ (T29.setTop (mkF m 65 #[.val (.int p1), .val (.int (2 : Int32)), .val (.ref w_SYMBOLIC), .val (.int (0 : Int32)), .val (.int (0 : Int32)), .val (.ref w_SYMBOLIC)] [(.ref w_SYMBOLIC_SET)]))
    obtain ⟨cq30, kq30, q30a, q30b, q30c⟩ := isOf hZ e29 E_w_SYMBOLIC_SET
    obtain ⟨_, _, ⟨T30, L30, k30, n30⟩, -, X30, ⟨Lc30, hQ30, l30, y30, z30⟩, st30⟩ := X29.virtualBack hx (y := (⟨"com/example/ctl_checker/ctlchecker/SmvExpression$Type", "isSet", "()Z"⟩ : MethodName)) (z := (⟨"com/example/ctl_checker/ctlchecker/SmvExpression$Type", "isSet", "()Z"⟩ : MethodName)) hown (mvT hZ (hw _ (List.mem_of_getElem? (i := 8) rfl))) (mvT hZ (hw _ (List.mem_of_getElem? (i := 9) rfl))) (notFace_of_selects (args := #[]) (mvT hZ (hw _ (List.mem_of_getElem? (i := 11) rfl)))) (mvT hZ (hw _ (List.mem_of_getElem? (i := 11) rfl))) (mvT hZ (hw _ (List.mem_of_getElem? (i := 10) rfl))) (by decide) (backOf (W := 0) (rm2SYMBOLIC_SET l Z a0 hw [] w_CONDITION w_INTEGER w_SYMBOLIC w_CONDITION_SET w_INTEGER_SET w_SYMBOLIC_SET h0 n0 Zs S_CONDITION E_w_CONDITION O_CONDITION S_INTEGER E_w_INTEGER O_INTEGER S_SYMBOLIC E_w_SYMBOLIC O_SYMBOLIC S_CONDITION_SET E_w_CONDITION_SET O_CONDITION_SET S_INTEGER_SET E_w_INTEGER_SET O_INTEGER_SET S_SYMBOLIC_SET E_w_SYMBOLIC_SET O_SYMBOLIC_SET) hZ (hw _ (List.mem_of_getElem? (i := 12) rfl)) (hw _ (List.mem_of_getElem? (i := 6) rfl)) (by decide) (by decide)) q30a q30c (g := (mkF m 65 #[.val (.int p1), .val (.int (2 : Int32)), .val (.ref w_SYMBOLIC), .val (.int (0 : Int32)), .val (.int (0 : Int32)), .val (.ref w_SYMBOLIC)] [(.ref w_SYMBOLIC_SET)])) rfl (by rw [hml]; rfl) (Steps.refl _) (argsL := []) (rest := []) (lenOf pd_1 rfl) rfl (by show 2 * 0 + _ ≤ _; exact Nat.le_of_eq rfl) (hb hby at_65) (fun _ _ => ⟨rfl, e29, (by decide : 0 + 0 ≤ _), (by decide : 0 + 0 ≤ _)⟩)
    dsimp only [Pt.U, Pt.locs, Pt.cells, Pt.slots] at X30 l30 y30 z30 st30 hQ30
    subst l30 y30 z30
    obtain ⟨rfl, N30q, e30⟩ := hQ30
    have N := Fr.app N N30q
    refine OwnGo.thru st30 ?_
    show OwnGo _ _ _ _ (T30.setTop (mkF m 68 #[.val (.int p1), .val (.int (2 : Int32)), .val (.ref w_SYMBOLIC), .val (.int (0 : Int32)), .val (.int (0 : Int32)), .val (.ref w_SYMBOLIC)] [(.int (1 : Int32))]))
    have hc68_31 : ¬ ((1 : Int) = (0 : Int)) := by decide
    refine OwnGo.fwd (fun tq' kq' => XS.ifYes X30.here hx rfl (pc0 := 68) (pc' := 73) rfl (hb hby at_68) rfl ((if0 _ _).trans (own_bneq (by decide) (by decide) hc68_31).2) (by decide) (by decide) kq') ?_
    show OwnGo _ _ _ _ (T30.setTop (mkF m 73 #[.val (.int p1), .val (.int (2 : Int32)), .val (.ref w_SYMBOLIC), .val (.int (0 : Int32)), .val (.int (0 : Int32)), .val (.ref w_SYMBOLIC)] []))
    refine OwnGo.fwd (fun tq' kq' => XS.aload X30.here hx rfl (hb hby at_73) rfl rfl kq') ?_
    show OwnGo _ _ _ _ (T30.setTop (mkF m 75 #[.val (.int p1), .val (.int (2 : Int32)), .val (.ref w_SYMBOLIC), .val (.int (0 : Int32)), .val (.int (0 : Int32)), .val (.ref w_SYMBOLIC)] [(.ref w_SYMBOLIC)]))
    obtain ⟨cq32, kq32, q32a, q32b, q32c⟩ := isOf hZ e30 E_w_SYMBOLIC
    obtain ⟨_, _, ⟨T32, L32, k32, n32⟩, -, X32, ⟨Lc32, hQ32, l32, y32, z32⟩, st32⟩ := X30.virtualBack hx (y := (⟨"com/example/ctl_checker/ctlchecker/SmvExpression$Type", "isSet", "()Z"⟩ : MethodName)) (z := (⟨"com/example/ctl_checker/ctlchecker/SmvExpression$Type", "isSet", "()Z"⟩ : MethodName)) hown (mvT hZ (hw _ (List.mem_of_getElem? (i := 8) rfl))) (mvT hZ (hw _ (List.mem_of_getElem? (i := 9) rfl))) (notFace_of_selects (args := #[]) (mvT hZ (hw _ (List.mem_of_getElem? (i := 11) rfl)))) (mvT hZ (hw _ (List.mem_of_getElem? (i := 11) rfl))) (mvT hZ (hw _ (List.mem_of_getElem? (i := 10) rfl))) (by decide) (backOf (W := 0) (rm2SYMBOLIC l Z a0 hw [] w_CONDITION w_INTEGER w_SYMBOLIC w_CONDITION_SET w_INTEGER_SET w_SYMBOLIC_SET h0 n0 Zs S_CONDITION E_w_CONDITION O_CONDITION S_INTEGER E_w_INTEGER O_INTEGER S_SYMBOLIC E_w_SYMBOLIC O_SYMBOLIC S_CONDITION_SET E_w_CONDITION_SET O_CONDITION_SET S_INTEGER_SET E_w_INTEGER_SET O_INTEGER_SET S_SYMBOLIC_SET E_w_SYMBOLIC_SET O_SYMBOLIC_SET) hZ (hw _ (List.mem_of_getElem? (i := 12) rfl)) (hw _ (List.mem_of_getElem? (i := 6) rfl)) (by decide) (by decide)) q32a q32c (g := (mkF m 75 #[.val (.int p1), .val (.int (2 : Int32)), .val (.ref w_SYMBOLIC), .val (.int (0 : Int32)), .val (.int (0 : Int32)), .val (.ref w_SYMBOLIC)] [(.ref w_SYMBOLIC)])) rfl (by rw [hml]; rfl) (Steps.refl _) (argsL := []) (rest := []) (lenOf pd_1 rfl) rfl (by show 2 * 0 + _ ≤ _; exact Nat.le_of_eq rfl) (hb hby at_75) (fun _ _ => ⟨rfl, e30, (by decide : 0 + 0 ≤ _), (by decide : 0 + 0 ≤ _)⟩)
    dsimp only [Pt.U, Pt.locs, Pt.cells, Pt.slots] at X32 l32 y32 z32 st32 hQ32
    subst l32 y32 z32
    obtain ⟨rfl, N32q, e32⟩ := hQ32
    have N := Fr.app N N32q
    refine OwnGo.thru st32 ?_
    show OwnGo _ _ _ _ (T32.setTop (mkF m 78 #[.val (.int p1), .val (.int (2 : Int32)), .val (.ref w_SYMBOLIC), .val (.int (0 : Int32)), .val (.int (0 : Int32)), .val (.ref w_SYMBOLIC)] [(.int (0 : Int32))]))
    have hc78_33 : (0 : Int) = (0 : Int) := rfl
    refine OwnGo.fwd (fun tq' kq' => XS.ifNo X32.here hx rfl (hb hby at_78) rfl ((if0 _ _).trans (own_beq (by decide) (by decide) hc78_33).2) kq') ?_
    show OwnGo _ _ _ _ (T32.setTop (mkF m 81 #[.val (.int p1), .val (.int (2 : Int32)), .val (.ref w_SYMBOLIC), .val (.int (0 : Int32)), .val (.int (0 : Int32)), .val (.ref w_SYMBOLIC)] []))
    refine OwnGo.fwd (fun tq' kq' => XS.iconst X32.here hx rfl (hb hby at_81) kq') ?_
    show OwnGo _ _ _ _ (T32.setTop (mkF m 82 #[.val (.int p1), .val (.int (2 : Int32)), .val (.ref w_SYMBOLIC), .val (.int (0 : Int32)), .val (.int (0 : Int32)), .val (.ref w_SYMBOLIC)] [(.int (1 : Int32))]))
    refine OwnGo.fwd (fun tq' kq' => XS.goto X32.here hx rfl (pc0 := 82) (pc' := 86) rfl (hb hby at_82) (by decide) (by decide) kq') ?_
    show OwnGo _ _ _ _ (T32.setTop (mkF m 86 #[.val (.int p1), .val (.int (2 : Int32)), .val (.ref w_SYMBOLIC), .val (.int (0 : Int32)), .val (.int (0 : Int32)), .val (.ref w_SYMBOLIC)] [(.int (1 : Int32))]))
    exact own_retZ X32 hlk hx Bd.returns (hb hby at_86) (by decide) (by decide) e32 ⟨rfl, N⟩
  · show OwnGo _ _ _ _ (s₁.setTop (mkF m 7 #[.val (.int p1), .unset, .unset, .unset, .unset, .unset] [(.int (3 : Int32))]))
    refine OwnGo.fwd (fun tq' kq' => XS.istoreN X0.here hx rfl (hb hby at_7) rfl (l' := #[.val (.int p1), .val (.int (3 : Int32)), .unset, .unset, .unset, .unset]) rfl kq') ?_
    show OwnGo _ _ _ _ (s₁.setTop (mkF m 8 #[.val (.int p1), .val (.int (3 : Int32)), .unset, .unset, .unset, .unset] []))
    refine OwnGo.fwd (fun tq' kq' => XS.iloadN X0.here hx rfl (hb hby at_8) rfl kq') ?_
    show OwnGo _ _ _ _ (s₁.setTop (mkF m 9 #[.val (.int p1), .val (.int (3 : Int32)), .unset, .unset, .unset, .unset] [(.int (3 : Int32))]))
    obtain ⟨_, _, ⟨T34, L34, k34, n34⟩, -, X34, ⟨Lc34, hQ34, l34, y34, z34⟩, st34⟩ := Jvm.LawKit.callS X0 hx (y := (⟨"com/example/ctl_checker/ctlchecker/TypeIsSetPinLaw", "pick", "(I)Lcom/example/ctl_checker/ctlchecker/SmvExpression$Type;"⟩ : MethodName)) hown (mvT hZ (hw _ (List.mem_of_getElem? (i := 1) rfl))) (mvT hZ (hw _ (List.mem_of_getElem? (i := 2) rfl))) (mvT hZ (hw _ (List.mem_of_getElem? (i := 3) rfl))) (mvT hZ (hw _ (List.mem_of_getElem? (i := 4) rfl))) (by decide) (backOf (W := 0) (rm1CONDITION_SET l Z a0 hw [] w_CONDITION w_INTEGER w_SYMBOLIC w_CONDITION_SET w_INTEGER_SET w_SYMBOLIC_SET h0 n0 Zs S_CONDITION E_w_CONDITION O_CONDITION S_INTEGER E_w_INTEGER O_INTEGER S_SYMBOLIC E_w_SYMBOLIC O_SYMBOLIC S_CONDITION_SET E_w_CONDITION_SET O_CONDITION_SET S_INTEGER_SET E_w_INTEGER_SET O_INTEGER_SET S_SYMBOLIC_SET E_w_SYMBOLIC_SET O_SYMBOLIC_SET) hZ (hw _ (List.mem_of_getElem? (i := 4) rfl)) (hw _ (List.mem_of_getElem? (i := 3) rfl)) (by decide) (by decide)) (g := (mkF m 9 #[.val (.int p1), .val (.int (3 : Int32)), .unset, .unset, .unset, .unset] [(.int (3 : Int32))])) rfl (by rw [hml]; rfl) (argsL := [(.int (3 : Int32))]) (rest := []) (lenOf pd_0 rfl) rfl (by show 2 * 0 + _ ≤ _; exact Nat.le_of_eq rfl) (hb hby at_9) (fun _ _ => ⟨rfl, e0, (by decide : 0 + 0 ≤ _), (by decide : 0 + 0 ≤ _)⟩)
    dsimp only [Pt.U, Pt.locs, Pt.cells, Pt.slots] at X34 l34 y34 z34 st34 hQ34
    subst l34 y34 z34
    obtain ⟨rfl, N34q, e34⟩ := hQ34
    have N := Fr.app N N34q
    refine OwnGo.fwd st34 ?_
    show OwnGo _ _ _ _ (T34.setTop (mkF m 12 #[.val (.int p1), .val (.int (3 : Int32)), .unset, .unset, .unset, .unset] [(.ref w_CONDITION_SET)]))
    refine OwnGo.fwd (fun tq' kq' => XS.astoreN X34.here hx rfl (hb hby at_12) rfl rfl (l' := #[.val (.int p1), .val (.int (3 : Int32)), .val (.ref w_CONDITION_SET), .unset, .unset, .unset]) rfl kq') ?_
    show OwnGo _ _ _ _ (T34.setTop (mkF m 13 #[.val (.int p1), .val (.int (3 : Int32)), .val (.ref w_CONDITION_SET), .unset, .unset, .unset] []))
    refine OwnGo.fwd (fun tq' kq' => XS.aloadN X34.here hx rfl (hb hby at_13) rfl rfl kq') ?_
    show OwnGo _ _ _ _ (T34.setTop (mkF m 14 #[.val (.int p1), .val (.int (3 : Int32)), .val (.ref w_CONDITION_SET), .unset, .unset, .unset] [(.ref w_CONDITION_SET)]))
    obtain ⟨cq35, kq35, q35a, q35b, q35c⟩ := isOf hZ e34 E_w_CONDITION_SET
    obtain ⟨_, _, ⟨T35, L35, k35, n35⟩, -, X35, ⟨Lc35, hQ35, l35, y35, z35⟩, st35⟩ := X34.virtualBack hx (y := (⟨"com/example/ctl_checker/ctlchecker/SmvExpression$Type", "isSet", "()Z"⟩ : MethodName)) (z := (⟨"com/example/ctl_checker/ctlchecker/SmvExpression$Type", "isSet", "()Z"⟩ : MethodName)) hown (mvT hZ (hw _ (List.mem_of_getElem? (i := 8) rfl))) (mvT hZ (hw _ (List.mem_of_getElem? (i := 9) rfl))) (notFace_of_selects (args := #[]) (mvT hZ (hw _ (List.mem_of_getElem? (i := 11) rfl)))) (mvT hZ (hw _ (List.mem_of_getElem? (i := 11) rfl))) (mvT hZ (hw _ (List.mem_of_getElem? (i := 10) rfl))) (by decide) (backOf (W := 0) (rm2CONDITION_SET l Z a0 hw [] w_CONDITION w_INTEGER w_SYMBOLIC w_CONDITION_SET w_INTEGER_SET w_SYMBOLIC_SET h0 n0 Zs S_CONDITION E_w_CONDITION O_CONDITION S_INTEGER E_w_INTEGER O_INTEGER S_SYMBOLIC E_w_SYMBOLIC O_SYMBOLIC S_CONDITION_SET E_w_CONDITION_SET O_CONDITION_SET S_INTEGER_SET E_w_INTEGER_SET O_INTEGER_SET S_SYMBOLIC_SET E_w_SYMBOLIC_SET O_SYMBOLIC_SET) hZ (hw _ (List.mem_of_getElem? (i := 12) rfl)) (hw _ (List.mem_of_getElem? (i := 6) rfl)) (by decide) (by decide)) q35a q35c (g := (mkF m 14 #[.val (.int p1), .val (.int (3 : Int32)), .val (.ref w_CONDITION_SET), .unset, .unset, .unset] [(.ref w_CONDITION_SET)])) rfl (by rw [hml]; rfl) (Steps.refl _) (argsL := []) (rest := []) (lenOf pd_1 rfl) rfl (by show 2 * 0 + _ ≤ _; exact Nat.le_of_eq rfl) (hb hby at_14) (fun _ _ => ⟨rfl, e34, (by decide : 0 + 0 ≤ _), (by decide : 0 + 0 ≤ _)⟩)
    dsimp only [Pt.U, Pt.locs, Pt.cells, Pt.slots] at X35 l35 y35 z35 st35 hQ35
    subst l35 y35 z35
    obtain ⟨rfl, N35q, e35⟩ := hQ35
    have N := Fr.app N N35q
    refine OwnGo.thru st35 ?_
    show OwnGo _ _ _ _ (T35.setTop (mkF m 17 #[.val (.int p1), .val (.int (3 : Int32)), .val (.ref w_CONDITION_SET), .unset, .unset, .unset] [(.int (1 : Int32))]))
    refine OwnGo.fwd (fun tq' kq' => XS.istoreN X35.here hx rfl (hb hby at_17) rfl (l' := #[.val (.int p1), .val (.int (3 : Int32)), .val (.ref w_CONDITION_SET), .val (.int (1 : Int32)), .unset, .unset]) rfl kq') ?_
    show OwnGo _ _ _ _ (T35.setTop (mkF m 18 #[.val (.int p1), .val (.int (3 : Int32)), .val (.ref w_CONDITION_SET), .val (.int (1 : Int32)), .unset, .unset] []))
    refine OwnGo.fwd (fun tq' kq' => XS.iloadN X35.here hx rfl (hb hby at_18) rfl kq') ?_
    show OwnGo _ _ _ _ (T35.setTop (mkF m 19 #[.val (.int p1), .val (.int (3 : Int32)), .val (.ref w_CONDITION_SET), .val (.int (1 : Int32)), .unset, .unset] [(.int (3 : Int32))]))
    refine OwnGo.fwd (fun tq' kq' => XS.iconst X35.here hx rfl (hb hby at_19) kq') ?_
    show OwnGo _ _ _ _ (T35.setTop (mkF m 20 #[.val (.int p1), .val (.int (3 : Int32)), .val (.ref w_CONDITION_SET), .val (.int (1 : Int32)), .unset, .unset] [(.int (3 : Int32)), (.int (3 : Int32))]))
    have hc20_36 : ¬ ((3 : Int) < (3 : Int)) := by decide
    refine OwnGo.fwd (fun tq' kq' => XS.icmpNo X35.here hx rfl (hb hby at_20) rfl (own_bnlt (by decide) (by decide) hc20_36).1 kq') ?_
    show OwnGo _ _ _ _ (T35.setTop (mkF m 23 #[.val (.int p1), .val (.int (3 : Int32)), .val (.ref w_CONDITION_SET), .val (.int (1 : Int32)), .unset, .unset] []))
    refine OwnGo.fwd (fun tq' kq' => XS.iconst X35.here hx rfl (hb hby at_23) kq') ?_
    show OwnGo _ _ _ _ (T35.setTop (mkF m 24 #[.val (.int p1), .val (.int (3 : Int32)), .val (.ref w_CONDITION_SET), .val (.int (1 : Int32)), .unset, .unset] [(.int (1 : Int32))]))
    refine OwnGo.fwd (fun tq' kq' => XS.goto X35.here hx rfl (pc0 := 24) (pc' := 28) rfl (hb hby at_24) (by decide) (by decide) kq') ?_
    show OwnGo _ _ _ _ (T35.setTop (mkF m 28 #[.val (.int p1), .val (.int (3 : Int32)), .val (.ref w_CONDITION_SET), .val (.int (1 : Int32)), .unset, .unset] [(.int (1 : Int32))]))
    refine OwnGo.fwd (fun tq' kq' => XS.istore X35.here hx rfl (hb hby at_28) rfl (l' := #[.val (.int p1), .val (.int (3 : Int32)), .val (.ref w_CONDITION_SET), .val (.int (1 : Int32)), .val (.int (1 : Int32)), .unset]) rfl kq') ?_
    show OwnGo _ _ _ _ (T35.setTop (mkF m 30 #[.val (.int p1), .val (.int (3 : Int32)), .val (.ref w_CONDITION_SET), .val (.int (1 : Int32)), .val (.int (1 : Int32)), .unset] []))
    refine OwnGo.fwd (fun tq' kq' => XS.iloadN X35.here hx rfl (hb hby at_30) rfl kq') ?_
    show OwnGo _ _ _ _ (T35.setTop (mkF m 31 #[.val (.int p1), .val (.int (3 : Int32)), .val (.ref w_CONDITION_SET), .val (.int (1 : Int32)), .val (.int (1 : Int32)), .unset] [(.int (1 : Int32))]))
    refine OwnGo.fwd (fun tq' kq' => XS.iload X35.here hx rfl (hb hby at_31) rfl kq') ?_
    show OwnGo _ _ _ _ (T35.setTop (mkF m 33 #[.val (.int p1), .val (.int (3 : Int32)), .val (.ref w_CONDITION_SET), .val (.int (1 : Int32)), .val (.int (1 : Int32)), .unset] [(.int (1 : Int32)), (.int (1 : Int32))]))
    have hc33_37 : (1 : Int) = (1 : Int) := rfl
    refine OwnGo.fwd (fun tq' kq' => XS.icmpYes X35.here hx rfl (pc0 := 33) (pc' := 38) rfl (hb hby at_33) rfl (own_beq (by decide) (by decide) hc33_37).1 (by decide) (by decide) kq') ?_
    show OwnGo _ _ _ _ (T35.setTop (mkF m 38 #[.val (.int p1), .val (.int (3 : Int32)), .val (.ref w_CONDITION_SET), .val (.int (1 : Int32)), .val (.int (1 : Int32)), .unset] []))
    refine OwnGo.fwd (fun tq' kq' => XS.aloadN X35.here hx rfl (hb hby at_38) rfl rfl kq') ?_
    show OwnGo _ _ _ _ (T35.setTop (mkF m 39 #[.val (.int p1), .val (.int (3 : Int32)), .val (.ref w_CONDITION_SET), .val (.int (1 : Int32)), .val (.int (1 : Int32)), .unset] [(.ref w_CONDITION_SET)]))
    obtain ⟨cq38, kq38, q38a, q38b, q38c⟩ := isOf hZ e35 E_w_CONDITION_SET
    obtain ⟨_, _, ⟨T38, L38, k38, n38⟩, -, X38, ⟨Lc38, hQ38, l38, y38, z38⟩, st38⟩ := X35.virtualBack hx (y := (⟨"com/example/ctl_checker/ctlchecker/SmvExpression$Type", "element", "()Lcom/example/ctl_checker/ctlchecker/SmvExpression$Type;"⟩ : MethodName)) (z := (⟨"com/example/ctl_checker/ctlchecker/SmvExpression$Type", "element", "()Lcom/example/ctl_checker/ctlchecker/SmvExpression$Type;"⟩ : MethodName)) hown (mvT hZ (hw _ (List.mem_of_getElem? (i := 19) rfl))) (mvT hZ (hw _ (List.mem_of_getElem? (i := 20) rfl))) (notFace_of_selects (args := #[]) (mvT hZ (hw _ (List.mem_of_getElem? (i := 22) rfl)))) (mvT hZ (hw _ (List.mem_of_getElem? (i := 22) rfl))) (mvT hZ (hw _ (List.mem_of_getElem? (i := 21) rfl))) (by decide) (backOf (W := 0) (rm3CONDITION_SET l Z a0 hw [] w_CONDITION w_INTEGER w_SYMBOLIC w_CONDITION_SET w_INTEGER_SET w_SYMBOLIC_SET h0 n0 Zs S_CONDITION E_w_CONDITION O_CONDITION S_INTEGER E_w_INTEGER O_INTEGER S_SYMBOLIC E_w_SYMBOLIC O_SYMBOLIC S_CONDITION_SET E_w_CONDITION_SET O_CONDITION_SET S_INTEGER_SET E_w_INTEGER_SET O_INTEGER_SET S_SYMBOLIC_SET E_w_SYMBOLIC_SET O_SYMBOLIC_SET) hZ (hw _ (List.mem_of_getElem? (i := 23) rfl)) (hw _ (List.mem_of_getElem? (i := 6) rfl)) (by decide) (by decide)) q38a q38c (g := (mkF m 39 #[.val (.int p1), .val (.int (3 : Int32)), .val (.ref w_CONDITION_SET), .val (.int (1 : Int32)), .val (.int (1 : Int32)), .unset] [(.ref w_CONDITION_SET)])) rfl (by rw [hml]; rfl) (Steps.refl _) (argsL := []) (rest := []) (lenOf pd_2 rfl) rfl (by show 2 * 0 + _ ≤ _; exact Nat.le_of_eq rfl) (hb hby at_39) (fun _ _ => ⟨rfl, e35, (by decide : 0 + 0 ≤ _), (by decide : 0 + 0 ≤ _)⟩)
    dsimp only [Pt.U, Pt.locs, Pt.cells, Pt.slots] at X38 l38 y38 z38 st38 hQ38
    subst l38 y38 z38
    obtain ⟨rfl, N38q, e38⟩ := hQ38
    have N := Fr.app N N38q
    refine OwnGo.thru st38 ?_
    show OwnGo _ _ _ _ (T38.setTop (mkF m 42 #[.val (.int p1), .val (.int (3 : Int32)), .val (.ref w_CONDITION_SET), .val (.int (1 : Int32)), .val (.int (1 : Int32)), .unset] [(.ref w_CONDITION)]))
    refine OwnGo.fwd (fun tq' kq' => XS.astore X38.here hx rfl (hb hby at_42) rfl rfl (l' := #[.val (.int p1), .val (.int (3 : Int32)), .val (.ref w_CONDITION_SET), .val (.int (1 : Int32)), .val (.int (1 : Int32)), .val (.ref w_CONDITION)]) rfl kq') ?_
    show OwnGo _ _ _ _ (T38.setTop (mkF m 44 #[.val (.int p1), .val (.int (3 : Int32)), .val (.ref w_CONDITION_SET), .val (.int (1 : Int32)), .val (.int (1 : Int32)), .val (.ref w_CONDITION)] []))
    refine OwnGo.fwd (fun tq' kq' => XS.iloadN X38.here hx rfl (hb hby at_44) rfl kq') ?_
    show OwnGo _ _ _ _ (T38.setTop (mkF m 45 #[.val (.int p1), .val (.int (3 : Int32)), .val (.ref w_CONDITION_SET), .val (.int (1 : Int32)), .val (.int (1 : Int32)), .val (.ref w_CONDITION)] [(.int (1 : Int32))]))
    refine OwnGo.fwd (fun tq' kq' => XS.aload X38.here hx rfl (hb hby at_45) rfl rfl kq') ?_
    show OwnGo _ _ _ _ (T38.setTop (mkF m 47 #[.val (.int p1), .val (.int (3 : Int32)), .val (.ref w_CONDITION_SET), .val (.int (1 : Int32)), .val (.int (1 : Int32)), .val (.ref w_CONDITION)] [(.ref w_CONDITION), (.int (1 : Int32))]))
    refine OwnGo.fwd (fun tq' kq' => XS.aloadN X38.here hx rfl (hb hby at_47) rfl rfl kq') ?_
    show OwnGo _ _ _ _ (T38.setTop (mkF m 48 #[.val (.int p1), .val (.int (3 : Int32)), .val (.ref w_CONDITION_SET), .val (.int (1 : Int32)), .val (.int (1 : Int32)), .val (.ref w_CONDITION)] [(.ref w_CONDITION_SET), (.ref w_CONDITION), (.int (1 : Int32))]))
    refine OwnGo.fwd (fun tq' kq' => Jvm.RoadKit.acmp (g := (mkF m 48 #[.val (.int p1), .val (.int (3 : Int32)), .val (.ref w_CONDITION_SET), .val (.int (1 : Int32)), .val (.int (1 : Int32)), .val (.ref w_CONDITION)] [(.ref w_CONDITION_SET), (.ref w_CONDITION), (.int (1 : Int32))])) X38 hx rfl rfl rfl (pc0 := 48) (pc' := 51) (same := false) rfl (hb hby at_48) rfl (decide_eq_false fun q => ne_CONDITION_CONDITION_SET (Value.ref.inj q)) (by decide) (by decide) kq') ?_
    show OwnGo _ _ _ _ (T38.setTop (mkF m 51 #[.val (.int p1), .val (.int (3 : Int32)), .val (.ref w_CONDITION_SET), .val (.int (1 : Int32)), .val (.int (1 : Int32)), .val (.ref w_CONDITION)] [(.int (1 : Int32))]))
    refine OwnGo.fwd (fun tq' kq' => XS.iconst X38.here hx rfl (hb hby at_51) kq') ?_
    show OwnGo _ _ _ _ (T38.setTop (mkF m 52 #[.val (.int p1), .val (.int (3 : Int32)), .val (.ref w_CONDITION_SET), .val (.int (1 : Int32)), .val (.int (1 : Int32)), .val (.ref w_CONDITION)] [(.int (1 : Int32)), (.int (1 : Int32))]))
    refine OwnGo.fwd (fun tq' kq' => XS.goto X38.here hx rfl (pc0 := 52) (pc' := 56) rfl (hb hby at_52) (by decide) (by decide) kq') ?_
    show OwnGo _ _ _ _ (T38.setTop (mkF m 56 #[.val (.int p1), .val (.int (3 : Int32)), .val (.ref w_CONDITION_SET), .val (.int (1 : Int32)), .val (.int (1 : Int32)), .val (.ref w_CONDITION)] [(.int (1 : Int32)), (.int (1 : Int32))]))
    have hc56_39 : (1 : Int) = (1 : Int) := rfl
    refine OwnGo.fwd (fun tq' kq' => XS.icmpYes X38.here hx rfl (pc0 := 56) (pc' := 61) rfl (hb hby at_56) rfl (own_beq (by decide) (by decide) hc56_39).1 (by decide) (by decide) kq') ?_
    show OwnGo _ _ _ _ (T38.setTop (mkF m 61 #[.val (.int p1), .val (.int (3 : Int32)), .val (.ref w_CONDITION_SET), .val (.int (1 : Int32)), .val (.int (1 : Int32)), .val (.ref w_CONDITION)] []))
    refine OwnGo.fwd (fun tq' kq' => XS.aloadN X38.here hx rfl (hb hby at_61) rfl rfl kq') ?_
    show OwnGo _ _ _ _ (T38.setTop (mkF m 62 #[.val (.int p1), .val (.int (3 : Int32)), .val (.ref w_CONDITION_SET), .val (.int (1 : Int32)), .val (.int (1 : Int32)), .val (.ref w_CONDITION)] [(.ref w_CONDITION_SET)]))
    obtain ⟨cq40, kq40, q40a, q40b, q40c⟩ := isOf hZ e38 E_w_CONDITION_SET
    obtain ⟨_, _, ⟨T40, L40, k40, n40⟩, -, X40, ⟨Lc40, hQ40, l40, y40, z40⟩, st40⟩ := X38.virtualBack hx (y := (⟨"com/example/ctl_checker/ctlchecker/SmvExpression$Type", "set", "()Lcom/example/ctl_checker/ctlchecker/SmvExpression$Type;"⟩ : MethodName)) (z := (⟨"com/example/ctl_checker/ctlchecker/SmvExpression$Type", "set", "()Lcom/example/ctl_checker/ctlchecker/SmvExpression$Type;"⟩ : MethodName)) hown (mvT hZ (hw _ (List.mem_of_getElem? (i := 33) rfl))) (mvT hZ (hw _ (List.mem_of_getElem? (i := 34) rfl))) (notFace_of_selects (args := #[]) (mvT hZ (hw _ (List.mem_of_getElem? (i := 36) rfl)))) (mvT hZ (hw _ (List.mem_of_getElem? (i := 36) rfl))) (mvT hZ (hw _ (List.mem_of_getElem? (i := 35) rfl))) (by decide) (backOf (W := 0) (rm5CONDITION_SET l Z a0 hw [] w_CONDITION w_INTEGER w_SYMBOLIC w_CONDITION_SET w_INTEGER_SET w_SYMBOLIC_SET h0 n0 Zs S_CONDITION E_w_CONDITION O_CONDITION S_INTEGER E_w_INTEGER O_INTEGER S_SYMBOLIC E_w_SYMBOLIC O_SYMBOLIC S_CONDITION_SET E_w_CONDITION_SET O_CONDITION_SET S_INTEGER_SET E_w_INTEGER_SET O_INTEGER_SET S_SYMBOLIC_SET E_w_SYMBOLIC_SET O_SYMBOLIC_SET) hZ (hw _ (List.mem_of_getElem? (i := 37) rfl)) (hw _ (List.mem_of_getElem? (i := 6) rfl)) (by decide) (by decide)) q40a q40c (g := (mkF m 62 #[.val (.int p1), .val (.int (3 : Int32)), .val (.ref w_CONDITION_SET), .val (.int (1 : Int32)), .val (.int (1 : Int32)), .val (.ref w_CONDITION)] [(.ref w_CONDITION_SET)])) rfl (by rw [hml]; rfl) (Steps.refl _) (argsL := []) (rest := []) (lenOf pd_2 rfl) rfl (by show 2 * 0 + _ ≤ _; exact Nat.le_of_eq rfl) (hb hby at_62) (fun _ _ => ⟨rfl, e38, (by decide : 0 + 0 ≤ _), (by decide : 0 + 0 ≤ _)⟩)
    dsimp only [Pt.U, Pt.locs, Pt.cells, Pt.slots] at X40 l40 y40 z40 st40 hQ40
    subst l40 y40 z40
    obtain ⟨rfl, N40q, e40⟩ := hQ40
    have N := Fr.app N N40q
    refine OwnGo.thru st40 ?_
    show OwnGo _ _ _ _ (T40.setTop (mkF m 65 #[.val (.int p1), .val (.int (3 : Int32)), .val (.ref w_CONDITION_SET), .val (.int (1 : Int32)), .val (.int (1 : Int32)), .val (.ref w_CONDITION)] [(.ref w_CONDITION_SET)]))
    obtain ⟨cq41, kq41, q41a, q41b, q41c⟩ := isOf hZ e40 E_w_CONDITION_SET
    obtain ⟨_, _, ⟨T41, L41, k41, n41⟩, -, X41, ⟨Lc41, hQ41, l41, y41, z41⟩, st41⟩ := X40.virtualBack hx (y := (⟨"com/example/ctl_checker/ctlchecker/SmvExpression$Type", "isSet", "()Z"⟩ : MethodName)) (z := (⟨"com/example/ctl_checker/ctlchecker/SmvExpression$Type", "isSet", "()Z"⟩ : MethodName)) hown (mvT hZ (hw _ (List.mem_of_getElem? (i := 8) rfl))) (mvT hZ (hw _ (List.mem_of_getElem? (i := 9) rfl))) (notFace_of_selects (args := #[]) (mvT hZ (hw _ (List.mem_of_getElem? (i := 11) rfl)))) (mvT hZ (hw _ (List.mem_of_getElem? (i := 11) rfl))) (mvT hZ (hw _ (List.mem_of_getElem? (i := 10) rfl))) (by decide) (backOf (W := 0) (rm2CONDITION_SET l Z a0 hw [] w_CONDITION w_INTEGER w_SYMBOLIC w_CONDITION_SET w_INTEGER_SET w_SYMBOLIC_SET h0 n0 Zs S_CONDITION E_w_CONDITION O_CONDITION S_INTEGER E_w_INTEGER O_INTEGER S_SYMBOLIC E_w_SYMBOLIC O_SYMBOLIC S_CONDITION_SET E_w_CONDITION_SET O_CONDITION_SET S_INTEGER_SET E_w_INTEGER_SET O_INTEGER_SET S_SYMBOLIC_SET E_w_SYMBOLIC_SET O_SYMBOLIC_SET) hZ (hw _ (List.mem_of_getElem? (i := 12) rfl)) (hw _ (List.mem_of_getElem? (i := 6) rfl)) (by decide) (by decide)) q41a q41c (g := (mkF m 65 #[.val (.int p1), .val (.int (3 : Int32)), .val (.ref w_CONDITION_SET), .val (.int (1 : Int32)), .val (.int (1 : Int32)), .val (.ref w_CONDITION)] [(.ref w_CONDITION_SET)])) rfl (by rw [hml]; rfl) (Steps.refl _) (argsL := []) (rest := []) (lenOf pd_1 rfl) rfl (by show 2 * 0 + _ ≤ _; exact Nat.le_of_eq rfl) (hb hby at_65) (fun _ _ => ⟨rfl, e40, (by decide : 0 + 0 ≤ _), (by decide : 0 + 0 ≤ _)⟩)
    dsimp only [Pt.U, Pt.locs, Pt.cells, Pt.slots] at X41 l41 y41 z41 st41 hQ41
    subst l41 y41 z41
    obtain ⟨rfl, N41q, e41⟩ := hQ41
    have N := Fr.app N N41q
    refine OwnGo.thru st41 ?_
    show OwnGo _ _ _ _ (T41.setTop (mkF m 68 #[.val (.int p1), .val (.int (3 : Int32)), .val (.ref w_CONDITION_SET), .val (.int (1 : Int32)), .val (.int (1 : Int32)), .val (.ref w_CONDITION)] [(.int (1 : Int32))]))
    have hc68_42 : ¬ ((1 : Int) = (0 : Int)) := by decide
    refine OwnGo.fwd (fun tq' kq' => XS.ifYes X41.here hx rfl (pc0 := 68) (pc' := 73) rfl (hb hby at_68) rfl ((if0 _ _).trans (own_bneq (by decide) (by decide) hc68_42).2) (by decide) (by decide) kq') ?_
    show OwnGo _ _ _ _ (T41.setTop (mkF m 73 #[.val (.int p1), .val (.int (3 : Int32)), .val (.ref w_CONDITION_SET), .val (.int (1 : Int32)), .val (.int (1 : Int32)), .val (.ref w_CONDITION)] []))
    refine OwnGo.fwd (fun tq' kq' => XS.aload X41.here hx rfl (hb hby at_73) rfl rfl kq') ?_
    show OwnGo _ _ _ _ (T41.setTop (mkF m 75 #[.val (.int p1), .val (.int (3 : Int32)), .val (.ref w_CONDITION_SET), .val (.int (1 : Int32)), .val (.int (1 : Int32)), .val (.ref w_CONDITION)] [(.ref w_CONDITION)]))
    obtain ⟨cq43, kq43, q43a, q43b, q43c⟩ := isOf hZ e41 E_w_CONDITION
    obtain ⟨_, _, ⟨T43, L43, k43, n43⟩, -, X43, ⟨Lc43, hQ43, l43, y43, z43⟩, st43⟩ := X41.virtualBack hx (y := (⟨"com/example/ctl_checker/ctlchecker/SmvExpression$Type", "isSet", "()Z"⟩ : MethodName)) (z := (⟨"com/example/ctl_checker/ctlchecker/SmvExpression$Type", "isSet", "()Z"⟩ : MethodName)) hown (mvT hZ (hw _ (List.mem_of_getElem? (i := 8) rfl))) (mvT hZ (hw _ (List.mem_of_getElem? (i := 9) rfl))) (notFace_of_selects (args := #[]) (mvT hZ (hw _ (List.mem_of_getElem? (i := 11) rfl)))) (mvT hZ (hw _ (List.mem_of_getElem? (i := 11) rfl))) (mvT hZ (hw _ (List.mem_of_getElem? (i := 10) rfl))) (by decide) (backOf (W := 0) (rm2CONDITION l Z a0 hw [] w_CONDITION w_INTEGER w_SYMBOLIC w_CONDITION_SET w_INTEGER_SET w_SYMBOLIC_SET h0 n0 Zs S_CONDITION E_w_CONDITION O_CONDITION S_INTEGER E_w_INTEGER O_INTEGER S_SYMBOLIC E_w_SYMBOLIC O_SYMBOLIC S_CONDITION_SET E_w_CONDITION_SET O_CONDITION_SET S_INTEGER_SET E_w_INTEGER_SET O_INTEGER_SET S_SYMBOLIC_SET E_w_SYMBOLIC_SET O_SYMBOLIC_SET) hZ (hw _ (List.mem_of_getElem? (i := 12) rfl)) (hw _ (List.mem_of_getElem? (i := 6) rfl)) (by decide) (by decide)) q43a q43c (g := (mkF m 75 #[.val (.int p1), .val (.int (3 : Int32)), .val (.ref w_CONDITION_SET), .val (.int (1 : Int32)), .val (.int (1 : Int32)), .val (.ref w_CONDITION)] [(.ref w_CONDITION)])) rfl (by rw [hml]; rfl) (Steps.refl _) (argsL := []) (rest := []) (lenOf pd_1 rfl) rfl (by show 2 * 0 + _ ≤ _; exact Nat.le_of_eq rfl) (hb hby at_75) (fun _ _ => ⟨rfl, e41, (by decide : 0 + 0 ≤ _), (by decide : 0 + 0 ≤ _)⟩)
    dsimp only [Pt.U, Pt.locs, Pt.cells, Pt.slots] at X43 l43 y43 z43 st43 hQ43
    subst l43 y43 z43
    obtain ⟨rfl, N43q, e43⟩ := hQ43
    have N := Fr.app N N43q
    refine OwnGo.thru st43 ?_
    show OwnGo _ _ _ _ (T43.setTop (mkF m 78 #[.val (.int p1), .val (.int (3 : Int32)), .val (.ref w_CONDITION_SET), .val (.int (1 : Int32)), .val (.int (1 : Int32)), .val (.ref w_CONDITION)] [(.int (0 : Int32))]))
    have hc78_44 : (0 : Int) = (0 : Int) := rfl
    refine OwnGo.fwd (fun tq' kq' => XS.ifNo X43.here hx rfl (hb hby at_78) rfl ((if0 _ _).trans (own_beq (by decide) (by decide) hc78_44).2) kq') ?_
    show OwnGo _ _ _ _ (T43.setTop (mkF m 81 #[.val (.int p1), .val (.int (3 : Int32)), .val (.ref w_CONDITION_SET), .val (.int (1 : Int32)), .val (.int (1 : Int32)), .val (.ref w_CONDITION)] []))
    refine OwnGo.fwd (fun tq' kq' => XS.iconst X43.here hx rfl (hb hby at_81) kq') ?_
    show OwnGo _ _ _ _ (T43.setTop (mkF m 82 #[.val (.int p1), .val (.int (3 : Int32)), .val (.ref w_CONDITION_SET), .val (.int (1 : Int32)), .val (.int (1 : Int32)), .val (.ref w_CONDITION)] [(.int (1 : Int32))]))
    refine OwnGo.fwd (fun tq' kq' => XS.goto X43.here hx rfl (pc0 := 82) (pc' := 86) rfl (hb hby at_82) (by decide) (by decide) kq') ?_
    show OwnGo _ _ _ _ (T43.setTop (mkF m 86 #[.val (.int p1), .val (.int (3 : Int32)), .val (.ref w_CONDITION_SET), .val (.int (1 : Int32)), .val (.int (1 : Int32)), .val (.ref w_CONDITION)] [(.int (1 : Int32))]))
    exact own_retZ X43 hlk hx Bd.returns (hb hby at_86) (by decide) (by decide) e43 ⟨rfl, N⟩
  · show OwnGo _ _ _ _ (s₁.setTop (mkF m 7 #[.val (.int p1), .unset, .unset, .unset, .unset, .unset] [(.int (4 : Int32))]))
    refine OwnGo.fwd (fun tq' kq' => XS.istoreN X0.here hx rfl (hb hby at_7) rfl (l' := #[.val (.int p1), .val (.int (4 : Int32)), .unset, .unset, .unset, .unset]) rfl kq') ?_
    show OwnGo _ _ _ _ (s₁.setTop (mkF m 8 #[.val (.int p1), .val (.int (4 : Int32)), .unset, .unset, .unset, .unset] []))
    refine OwnGo.fwd (fun tq' kq' => XS.iloadN X0.here hx rfl (hb hby at_8) rfl kq') ?_
    show OwnGo _ _ _ _ (s₁.setTop (mkF m 9 #[.val (.int p1), .val (.int (4 : Int32)), .unset, .unset, .unset, .unset] [(.int (4 : Int32))]))
    obtain ⟨_, _, ⟨T45, L45, k45, n45⟩, -, X45, ⟨Lc45, hQ45, l45, y45, z45⟩, st45⟩ := Jvm.LawKit.callS X0 hx (y := (⟨"com/example/ctl_checker/ctlchecker/TypeIsSetPinLaw", "pick", "(I)Lcom/example/ctl_checker/ctlchecker/SmvExpression$Type;"⟩ : MethodName)) hown (mvT hZ (hw _ (List.mem_of_getElem? (i := 1) rfl))) (mvT hZ (hw _ (List.mem_of_getElem? (i := 2) rfl))) (mvT hZ (hw _ (List.mem_of_getElem? (i := 3) rfl))) (mvT hZ (hw _ (List.mem_of_getElem? (i := 4) rfl))) (by decide) (backOf (W := 0) (rm1INTEGER_SET l Z a0 hw [] w_CONDITION w_INTEGER w_SYMBOLIC w_CONDITION_SET w_INTEGER_SET w_SYMBOLIC_SET h0 n0 Zs S_CONDITION E_w_CONDITION O_CONDITION S_INTEGER E_w_INTEGER O_INTEGER S_SYMBOLIC E_w_SYMBOLIC O_SYMBOLIC S_CONDITION_SET E_w_CONDITION_SET O_CONDITION_SET S_INTEGER_SET E_w_INTEGER_SET O_INTEGER_SET S_SYMBOLIC_SET E_w_SYMBOLIC_SET O_SYMBOLIC_SET) hZ (hw _ (List.mem_of_getElem? (i := 4) rfl)) (hw _ (List.mem_of_getElem? (i := 3) rfl)) (by decide) (by decide)) (g := (mkF m 9 #[.val (.int p1), .val (.int (4 : Int32)), .unset, .unset, .unset, .unset] [(.int (4 : Int32))])) rfl (by rw [hml]; rfl) (argsL := [(.int (4 : Int32))]) (rest := []) (lenOf pd_0 rfl) rfl (by show 2 * 0 + _ ≤ _; exact Nat.le_of_eq rfl) (hb hby at_9) (fun _ _ => ⟨rfl, e0, (by decide : 0 + 0 ≤ _), (by decide : 0 + 0 ≤ _)⟩)
    dsimp only [Pt.U, Pt.locs, Pt.cells, Pt.slots] at X45 l45 y45 z45 st45 hQ45
    subst l45 y45 z45
    obtain ⟨rfl, N45q, e45⟩ := hQ45
    have N := Fr.app N N45q
    refine OwnGo.fwd st45 ?_
    show OwnGo _ _ _ _ (T45.setTop (mkF m 12 #[.val (.int p1), .val (.int (4 : Int32)), .unset, .unset, .unset, .unset] [(.ref w_INTEGER_SET)]))
    refine OwnGo.fwd (fun tq' kq' => XS.astoreN X45.here hx rfl (hb hby at_12) rfl rfl (l' := #[.val (.int p1), .val (.int (4 : Int32)), .val (.ref w_INTEGER_SET), .unset, .unset, .unset]) rfl kq') ?_
    show OwnGo _ _ _ _ (T45.setTop (mkF m 13 #[.val (.int p1), .val (.int (4 : Int32)), .val (.ref w_INTEGER_SET), .unset, .unset, .unset] []))
    refine OwnGo.fwd (fun tq' kq' => XS.aloadN X45.here hx rfl (hb hby at_13) rfl rfl kq') ?_
    show OwnGo _ _ _ _ (T45.setTop (mkF m 14 #[.val (.int p1), .val (.int (4 : Int32)), .val (.ref w_INTEGER_SET), .unset, .unset, .unset] [(.ref w_INTEGER_SET)]))
    obtain ⟨cq46, kq46, q46a, q46b, q46c⟩ := isOf hZ e45 E_w_INTEGER_SET
    obtain ⟨_, _, ⟨T46, L46, k46, n46⟩, -, X46, ⟨Lc46, hQ46, l46, y46, z46⟩, st46⟩ := X45.virtualBack hx (y := (⟨"com/example/ctl_checker/ctlchecker/SmvExpression$Type", "isSet", "()Z"⟩ : MethodName)) (z := (⟨"com/example/ctl_checker/ctlchecker/SmvExpression$Type", "isSet", "()Z"⟩ : MethodName)) hown (mvT hZ (hw _ (List.mem_of_getElem? (i := 8) rfl))) (mvT hZ (hw _ (List.mem_of_getElem? (i := 9) rfl))) (notFace_of_selects (args := #[]) (mvT hZ (hw _ (List.mem_of_getElem? (i := 11) rfl)))) (mvT hZ (hw _ (List.mem_of_getElem? (i := 11) rfl))) (mvT hZ (hw _ (List.mem_of_getElem? (i := 10) rfl))) (by decide) (backOf (W := 0) (rm2INTEGER_SET l Z a0 hw [] w_CONDITION w_INTEGER w_SYMBOLIC w_CONDITION_SET w_INTEGER_SET w_SYMBOLIC_SET h0 n0 Zs S_CONDITION E_w_CONDITION O_CONDITION S_INTEGER E_w_INTEGER O_INTEGER S_SYMBOLIC E_w_SYMBOLIC O_SYMBOLIC S_CONDITION_SET E_w_CONDITION_SET O_CONDITION_SET S_INTEGER_SET E_w_INTEGER_SET O_INTEGER_SET S_SYMBOLIC_SET E_w_SYMBOLIC_SET O_SYMBOLIC_SET) hZ (hw _ (List.mem_of_getElem? (i := 12) rfl)) (hw _ (List.mem_of_getElem? (i := 6) rfl)) (by decide) (by decide)) q46a q46c (g := (mkF m 14 #[.val (.int p1), .val (.int (4 : Int32)), .val (.ref w_INTEGER_SET), .unset, .unset, .unset] [(.ref w_INTEGER_SET)])) rfl (by rw [hml]; rfl) (Steps.refl _) (argsL := []) (rest := []) (lenOf pd_1 rfl) rfl (by show 2 * 0 + _ ≤ _; exact Nat.le_of_eq rfl) (hb hby at_14) (fun _ _ => ⟨rfl, e45, (by decide : 0 + 0 ≤ _), (by decide : 0 + 0 ≤ _)⟩)
    dsimp only [Pt.U, Pt.locs, Pt.cells, Pt.slots] at X46 l46 y46 z46 st46 hQ46
    subst l46 y46 z46
    obtain ⟨rfl, N46q, e46⟩ := hQ46
    have N := Fr.app N N46q
    refine OwnGo.thru st46 ?_
    show OwnGo _ _ _ _ (T46.setTop (mkF m 17 #[.val (.int p1), .val (.int (4 : Int32)), .val (.ref w_INTEGER_SET), .unset, .unset, .unset] [(.int (1 : Int32))]))
    refine OwnGo.fwd (fun tq' kq' => XS.istoreN X46.here hx rfl (hb hby at_17) rfl (l' := #[.val (.int p1), .val (.int (4 : Int32)), .val (.ref w_INTEGER_SET), .val (.int (1 : Int32)), .unset, .unset]) rfl kq') ?_
    show OwnGo _ _ _ _ (T46.setTop (mkF m 18 #[.val (.int p1), .val (.int (4 : Int32)), .val (.ref w_INTEGER_SET), .val (.int (1 : Int32)), .unset, .unset] []))
    refine OwnGo.fwd (fun tq' kq' => XS.iloadN X46.here hx rfl (hb hby at_18) rfl kq') ?_
    show OwnGo _ _ _ _ (T46.setTop (mkF m 19 #[.val (.int p1), .val (.int (4 : Int32)), .val (.ref w_INTEGER_SET), .val (.int (1 : Int32)), .unset, .unset] [(.int (4 : Int32))]))
    refine OwnGo.fwd (fun tq' kq' => XS.iconst X46.here hx rfl (hb hby at_19) kq') ?_
    show OwnGo _ _ _ _ (T46.setTop (mkF m 20 #[.val (.int p1), .val (.int (4 : Int32)), .val (.ref w_INTEGER_SET), .val (.int (1 : Int32)), .unset, .unset] [(.int (3 : Int32)), (.int (4 : Int32))]))
    have hc20_47 : ¬ ((4 : Int) < (3 : Int)) := by decide
    refine OwnGo.fwd (fun tq' kq' => XS.icmpNo X46.here hx rfl (hb hby at_20) rfl (own_bnlt (by decide) (by decide) hc20_47).1 kq') ?_
    show OwnGo _ _ _ _ (T46.setTop (mkF m 23 #[.val (.int p1), .val (.int (4 : Int32)), .val (.ref w_INTEGER_SET), .val (.int (1 : Int32)), .unset, .unset] []))
    refine OwnGo.fwd (fun tq' kq' => XS.iconst X46.here hx rfl (hb hby at_23) kq') ?_
    show OwnGo _ _ _ _ (T46.setTop (mkF m 24 #[.val (.int p1), .val (.int (4 : Int32)), .val (.ref w_INTEGER_SET), .val (.int (1 : Int32)), .unset, .unset] [(.int (1 : Int32))]))
    refine OwnGo.fwd (fun tq' kq' => XS.goto X46.here hx rfl (pc0 := 24) (pc' := 28) rfl (hb hby at_24) (by decide) (by decide) kq') ?_
    show OwnGo _ _ _ _ (T46.setTop (mkF m 28 #[.val (.int p1), .val (.int (4 : Int32)), .val (.ref w_INTEGER_SET), .val (.int (1 : Int32)), .unset, .unset] [(.int (1 : Int32))]))
    refine OwnGo.fwd (fun tq' kq' => XS.istore X46.here hx rfl (hb hby at_28) rfl (l' := #[.val (.int p1), .val (.int (4 : Int32)), .val (.ref w_INTEGER_SET), .val (.int (1 : Int32)), .val (.int (1 : Int32)), .unset]) rfl kq') ?_
    show OwnGo _ _ _ _ (T46.setTop (mkF m 30 #[.val (.int p1), .val (.int (4 : Int32)), .val (.ref w_INTEGER_SET), .val (.int (1 : Int32)), .val (.int (1 : Int32)), .unset] []))
    refine OwnGo.fwd (fun tq' kq' => XS.iloadN X46.here hx rfl (hb hby at_30) rfl kq') ?_
    show OwnGo _ _ _ _ (T46.setTop (mkF m 31 #[.val (.int p1), .val (.int (4 : Int32)), .val (.ref w_INTEGER_SET), .val (.int (1 : Int32)), .val (.int (1 : Int32)), .unset] [(.int (1 : Int32))]))
    refine OwnGo.fwd (fun tq' kq' => XS.iload X46.here hx rfl (hb hby at_31) rfl kq') ?_
    show OwnGo _ _ _ _ (T46.setTop (mkF m 33 #[.val (.int p1), .val (.int (4 : Int32)), .val (.ref w_INTEGER_SET), .val (.int (1 : Int32)), .val (.int (1 : Int32)), .unset] [(.int (1 : Int32)), (.int (1 : Int32))]))
    have hc33_48 : (1 : Int) = (1 : Int) := rfl
    refine OwnGo.fwd (fun tq' kq' => XS.icmpYes X46.here hx rfl (pc0 := 33) (pc' := 38) rfl (hb hby at_33) rfl (own_beq (by decide) (by decide) hc33_48).1 (by decide) (by decide) kq') ?_
    show OwnGo _ _ _ _ (T46.setTop (mkF m 38 #[.val (.int p1), .val (.int (4 : Int32)), .val (.ref w_INTEGER_SET), .val (.int (1 : Int32)), .val (.int (1 : Int32)), .unset] []))
    refine OwnGo.fwd (fun tq' kq' => XS.aloadN X46.here hx rfl (hb hby at_38) rfl rfl kq') ?_
    show OwnGo _ _ _ _ (T46.setTop (mkF m 39 #[.val (.int p1), .val (.int (4 : Int32)), .val (.ref w_INTEGER_SET), .val (.int (1 : Int32)), .val (.int (1 : Int32)), .unset] [(.ref w_INTEGER_SET)]))
    obtain ⟨cq49, kq49, q49a, q49b, q49c⟩ := isOf hZ e46 E_w_INTEGER_SET
    obtain ⟨_, _, ⟨T49, L49, k49, n49⟩, -, X49, ⟨Lc49, hQ49, l49, y49, z49⟩, st49⟩ := X46.virtualBack hx (y := (⟨"com/example/ctl_checker/ctlchecker/SmvExpression$Type", "element", "()Lcom/example/ctl_checker/ctlchecker/SmvExpression$Type;"⟩ : MethodName)) (z := (⟨"com/example/ctl_checker/ctlchecker/SmvExpression$Type", "element", "()Lcom/example/ctl_checker/ctlchecker/SmvExpression$Type;"⟩ : MethodName)) hown (mvT hZ (hw _ (List.mem_of_getElem? (i := 19) rfl))) (mvT hZ (hw _ (List.mem_of_getElem? (i := 20) rfl))) (notFace_of_selects (args := #[]) (mvT hZ (hw _ (List.mem_of_getElem? (i := 22) rfl)))) (mvT hZ (hw _ (List.mem_of_getElem? (i := 22) rfl))) (mvT hZ (hw _ (List.mem_of_getElem? (i := 21) rfl))) (by decide) (backOf (W := 0) (rm3INTEGER_SET l Z a0 hw [] w_CONDITION w_INTEGER w_SYMBOLIC w_CONDITION_SET w_INTEGER_SET w_SYMBOLIC_SET h0 n0 Zs S_CONDITION E_w_CONDITION O_CONDITION S_INTEGER E_w_INTEGER O_INTEGER S_SYMBOLIC E_w_SYMBOLIC O_SYMBOLIC S_CONDITION_SET E_w_CONDITION_SET O_CONDITION_SET S_INTEGER_SET E_w_INTEGER_SET O_INTEGER_SET S_SYMBOLIC_SET E_w_SYMBOLIC_SET O_SYMBOLIC_SET) hZ (hw _ (List.mem_of_getElem? (i := 23) rfl)) (hw _ (List.mem_of_getElem? (i := 6) rfl)) (by decide) (by decide)) q49a q49c (g := (mkF m 39 #[.val (.int p1), .val (.int (4 : Int32)), .val (.ref w_INTEGER_SET), .val (.int (1 : Int32)), .val (.int (1 : Int32)), .unset] [(.ref w_INTEGER_SET)])) rfl (by rw [hml]; rfl) (Steps.refl _) (argsL := []) (rest := []) (lenOf pd_2 rfl) rfl (by show 2 * 0 + _ ≤ _; exact Nat.le_of_eq rfl) (hb hby at_39) (fun _ _ => ⟨rfl, e46, (by decide : 0 + 0 ≤ _), (by decide : 0 + 0 ≤ _)⟩)
    dsimp only [Pt.U, Pt.locs, Pt.cells, Pt.slots] at X49 l49 y49 z49 st49 hQ49
    subst l49 y49 z49
    obtain ⟨rfl, N49q, e49⟩ := hQ49
    have N := Fr.app N N49q
    refine OwnGo.thru st49 ?_
    show OwnGo _ _ _ _ (T49.setTop (mkF m 42 #[.val (.int p1), .val (.int (4 : Int32)), .val (.ref w_INTEGER_SET), .val (.int (1 : Int32)), .val (.int (1 : Int32)), .unset] [(.ref w_INTEGER)]))
    refine OwnGo.fwd (fun tq' kq' => XS.astore X49.here hx rfl (hb hby at_42) rfl rfl (l' := #[.val (.int p1), .val (.int (4 : Int32)), .val (.ref w_INTEGER_SET), .val (.int (1 : Int32)), .val (.int (1 : Int32)), .val (.ref w_INTEGER)]) rfl kq') ?_
    show OwnGo _ _ _ _ (T49.setTop (mkF m 44 #[.val (.int p1), .val (.int (4 : Int32)), .val (.ref w_INTEGER_SET), .val (.int (1 : Int32)), .val (.int (1 : Int32)), .val (.ref w_INTEGER)] []))
    refine OwnGo.fwd (fun tq' kq' => XS.iloadN X49.here hx rfl (hb hby at_44) rfl kq') ?_
    show OwnGo _ _ _ _ (T49.setTop (mkF m 45 #[.val (.int p1), .val (.int (4 : Int32)), .val (.ref w_INTEGER_SET), .val (.int (1 : Int32)), .val (.int (1 : Int32)), .val (.ref w_INTEGER)] [(.int (1 : Int32))]))
    refine OwnGo.fwd (fun tq' kq' => XS.aload X49.here hx rfl (hb hby at_45) rfl rfl kq') ?_
    show OwnGo _ _ _ _ (T49.setTop (mkF m 47 #[.val (.int p1), .val (.int (4 : Int32)), .val (.ref w_INTEGER_SET), .val (.int (1 : Int32)), .val (.int (1 : Int32)), .val (.ref w_INTEGER)] [(.ref w_INTEGER), (.int (1 : Int32))]))
    refine OwnGo.fwd (fun tq' kq' => XS.aloadN X49.here hx rfl (hb hby at_47) rfl rfl kq') ?_
    show OwnGo _ _ _ _ (T49.setTop (mkF m 48 #[.val (.int p1), .val (.int (4 : Int32)), .val (.ref w_INTEGER_SET), .val (.int (1 : Int32)), .val (.int (1 : Int32)), .val (.ref w_INTEGER)] [(.ref w_INTEGER_SET), (.ref w_INTEGER), (.int (1 : Int32))]))
    refine OwnGo.fwd (fun tq' kq' => Jvm.RoadKit.acmp (g := (mkF m 48 #[.val (.int p1), .val (.int (4 : Int32)), .val (.ref w_INTEGER_SET), .val (.int (1 : Int32)), .val (.int (1 : Int32)), .val (.ref w_INTEGER)] [(.ref w_INTEGER_SET), (.ref w_INTEGER), (.int (1 : Int32))])) X49 hx rfl rfl rfl (pc0 := 48) (pc' := 51) (same := false) rfl (hb hby at_48) rfl (decide_eq_false fun q => ne_INTEGER_INTEGER_SET (Value.ref.inj q)) (by decide) (by decide) kq') ?_
    show OwnGo _ _ _ _ (T49.setTop (mkF m 51 #[.val (.int p1), .val (.int (4 : Int32)), .val (.ref w_INTEGER_SET), .val (.int (1 : Int32)), .val (.int (1 : Int32)), .val (.ref w_INTEGER)] [(.int (1 : Int32))]))
    refine OwnGo.fwd (fun tq' kq' => XS.iconst X49.here hx rfl (hb hby at_51) kq') ?_
    show OwnGo _ _ _ _ (T49.setTop (mkF m 52 #[.val (.int p1), .val (.int (4 : Int32)), .val (.ref w_INTEGER_SET), .val (.int (1 : Int32)), .val (.int (1 : Int32)), .val (.ref w_INTEGER)] [(.int (1 : Int32)), (.int (1 : Int32))]))
    refine OwnGo.fwd (fun tq' kq' => XS.goto X49.here hx rfl (pc0 := 52) (pc' := 56) rfl (hb hby at_52) (by decide) (by decide) kq') ?_
    show OwnGo _ _ _ _ (T49.setTop (mkF m 56 #[.val (.int p1), .val (.int (4 : Int32)), .val (.ref w_INTEGER_SET), .val (.int (1 : Int32)), .val (.int (1 : Int32)), .val (.ref w_INTEGER)] [(.int (1 : Int32)), (.int (1 : Int32))]))
    have hc56_50 : (1 : Int) = (1 : Int) := rfl
    refine OwnGo.fwd (fun tq' kq' => XS.icmpYes X49.here hx rfl (pc0 := 56) (pc' := 61) rfl (hb hby at_56) rfl (own_beq (by decide) (by decide) hc56_50).1 (by decide) (by decide) kq') ?_
    show OwnGo _ _ _ _ (T49.setTop (mkF m 61 #[.val (.int p1), .val (.int (4 : Int32)), .val (.ref w_INTEGER_SET), .val (.int (1 : Int32)), .val (.int (1 : Int32)), .val (.ref w_INTEGER)] []))
    refine OwnGo.fwd (fun tq' kq' => XS.aloadN X49.here hx rfl (hb hby at_61) rfl rfl kq') ?_
    show OwnGo _ _ _ _ (T49.setTop (mkF m 62 #[.val (.int p1), .val (.int (4 : Int32)), .val (.ref w_INTEGER_SET), .val (.int (1 : Int32)), .val (.int (1 : Int32)), .val (.ref w_INTEGER)] [(.ref w_INTEGER_SET)]))
    obtain ⟨cq51, kq51, q51a, q51b, q51c⟩ := isOf hZ e49 E_w_INTEGER_SET
    obtain ⟨_, _, ⟨T51, L51, k51, n51⟩, -, X51, ⟨Lc51, hQ51, l51, y51, z51⟩, st51⟩ := X49.virtualBack hx (y := (⟨"com/example/ctl_checker/ctlchecker/SmvExpression$Type", "set", "()Lcom/example/ctl_checker/ctlchecker/SmvExpression$Type;"⟩ : MethodName)) (z := (⟨"com/example/ctl_checker/ctlchecker/SmvExpression$Type", "set", "()Lcom/example/ctl_checker/ctlchecker/SmvExpression$Type;"⟩ : MethodName)) hown (mvT hZ (hw _ (List.mem_of_getElem? (i := 33) rfl))) (mvT hZ (hw _ (List.mem_of_getElem? (i := 34) rfl))) (notFace_of_selects (args := #[]) (mvT hZ (hw _ (List.mem_of_getElem? (i := 36) rfl)))) (mvT hZ (hw _ (List.mem_of_getElem? (i := 36) rfl))) (mvT hZ (hw _ (List.mem_of_getElem? (i := 35) rfl))) (by decide) (backOf (W := 0) (rm5INTEGER_SET l Z a0 hw [] w_CONDITION w_INTEGER w_SYMBOLIC w_CONDITION_SET w_INTEGER_SET w_SYMBOLIC_SET h0 n0 Zs S_CONDITION E_w_CONDITION O_CONDITION S_INTEGER E_w_INTEGER O_INTEGER S_SYMBOLIC E_w_SYMBOLIC O_SYMBOLIC S_CONDITION_SET E_w_CONDITION_SET O_CONDITION_SET S_INTEGER_SET E_w_INTEGER_SET O_INTEGER_SET S_SYMBOLIC_SET E_w_SYMBOLIC_SET O_SYMBOLIC_SET) hZ (hw _ (List.mem_of_getElem? (i := 37) rfl)) (hw _ (List.mem_of_getElem? (i := 6) rfl)) (by decide) (by decide)) q51a q51c (g := (mkF m 62 #[.val (.int p1), .val (.int (4 : Int32)), .val (.ref w_INTEGER_SET), .val (.int (1 : Int32)), .val (.int (1 : Int32)), .val (.ref w_INTEGER)] [(.ref w_INTEGER_SET)])) rfl (by rw [hml]; rfl) (Steps.refl _) (argsL := []) (rest := []) (lenOf pd_2 rfl) rfl (by show 2 * 0 + _ ≤ _; exact Nat.le_of_eq rfl) (hb hby at_62) (fun _ _ => ⟨rfl, e49, (by decide : 0 + 0 ≤ _), (by decide : 0 + 0 ≤ _)⟩)
    dsimp only [Pt.U, Pt.locs, Pt.cells, Pt.slots] at X51 l51 y51 z51 st51 hQ51
    subst l51 y51 z51
    obtain ⟨rfl, N51q, e51⟩ := hQ51
    have N := Fr.app N N51q
    refine OwnGo.thru st51 ?_
    show OwnGo _ _ _ _ (T51.setTop (mkF m 65 #[.val (.int p1), .val (.int (4 : Int32)), .val (.ref w_INTEGER_SET), .val (.int (1 : Int32)), .val (.int (1 : Int32)), .val (.ref w_INTEGER)] [(.ref w_INTEGER_SET)]))
    obtain ⟨cq52, kq52, q52a, q52b, q52c⟩ := isOf hZ e51 E_w_INTEGER_SET
    obtain ⟨_, _, ⟨T52, L52, k52, n52⟩, -, X52, ⟨Lc52, hQ52, l52, y52, z52⟩, st52⟩ := X51.virtualBack hx (y := (⟨"com/example/ctl_checker/ctlchecker/SmvExpression$Type", "isSet", "()Z"⟩ : MethodName)) (z := (⟨"com/example/ctl_checker/ctlchecker/SmvExpression$Type", "isSet", "()Z"⟩ : MethodName)) hown (mvT hZ (hw _ (List.mem_of_getElem? (i := 8) rfl))) (mvT hZ (hw _ (List.mem_of_getElem? (i := 9) rfl))) (notFace_of_selects (args := #[]) (mvT hZ (hw _ (List.mem_of_getElem? (i := 11) rfl)))) (mvT hZ (hw _ (List.mem_of_getElem? (i := 11) rfl))) (mvT hZ (hw _ (List.mem_of_getElem? (i := 10) rfl))) (by decide) (backOf (W := 0) (rm2INTEGER_SET l Z a0 hw [] w_CONDITION w_INTEGER w_SYMBOLIC w_CONDITION_SET w_INTEGER_SET w_SYMBOLIC_SET h0 n0 Zs S_CONDITION E_w_CONDITION O_CONDITION S_INTEGER E_w_INTEGER O_INTEGER S_SYMBOLIC E_w_SYMBOLIC O_SYMBOLIC S_CONDITION_SET E_w_CONDITION_SET O_CONDITION_SET S_INTEGER_SET E_w_INTEGER_SET O_INTEGER_SET S_SYMBOLIC_SET E_w_SYMBOLIC_SET O_SYMBOLIC_SET) hZ (hw _ (List.mem_of_getElem? (i := 12) rfl)) (hw _ (List.mem_of_getElem? (i := 6) rfl)) (by decide) (by decide)) q52a q52c (g := (mkF m 65 #[.val (.int p1), .val (.int (4 : Int32)), .val (.ref w_INTEGER_SET), .val (.int (1 : Int32)), .val (.int (1 : Int32)), .val (.ref w_INTEGER)] [(.ref w_INTEGER_SET)])) rfl (by rw [hml]; rfl) (Steps.refl _) (argsL := []) (rest := []) (lenOf pd_1 rfl) rfl (by show 2 * 0 + _ ≤ _; exact Nat.le_of_eq rfl) (hb hby at_65) (fun _ _ => ⟨rfl, e51, (by decide : 0 + 0 ≤ _), (by decide : 0 + 0 ≤ _)⟩)
    dsimp only [Pt.U, Pt.locs, Pt.cells, Pt.slots] at X52 l52 y52 z52 st52 hQ52
    subst l52 y52 z52
    obtain ⟨rfl, N52q, e52⟩ := hQ52
    have N := Fr.app N N52q
    refine OwnGo.thru st52 ?_
    show OwnGo _ _ _ _ (T52.setTop (mkF m 68 #[.val (.int p1), .val (.int (4 : Int32)), .val (.ref w_INTEGER_SET), .val (.int (1 : Int32)), .val (.int (1 : Int32)), .val (.ref w_INTEGER)] [(.int (1 : Int32))]))
    have hc68_53 : ¬ ((1 : Int) = (0 : Int)) := by decide
    refine OwnGo.fwd (fun tq' kq' => XS.ifYes X52.here hx rfl (pc0 := 68) (pc' := 73) rfl (hb hby at_68) rfl ((if0 _ _).trans (own_bneq (by decide) (by decide) hc68_53).2) (by decide) (by decide) kq') ?_
    show OwnGo _ _ _ _ (T52.setTop (mkF m 73 #[.val (.int p1), .val (.int (4 : Int32)), .val (.ref w_INTEGER_SET), .val (.int (1 : Int32)), .val (.int (1 : Int32)), .val (.ref w_INTEGER)] []))
    refine OwnGo.fwd (fun tq' kq' => XS.aload X52.here hx rfl (hb hby at_73) rfl rfl kq') ?_
    show OwnGo _ _ _ _ (T52.setTop (mkF m 75 #[.val (.int p1), .val (.int (4 : Int32)), .val (.ref w_INTEGER_SET), .val (.int (1 : Int32)), .val (.int (1 : Int32)), .val (.ref w_INTEGER)] [(.ref w_INTEGER)]))
    obtain ⟨cq54, kq54, q54a, q54b, q54c⟩ := isOf hZ e52 E_w_INTEGER
    obtain ⟨_, _, ⟨T54, L54, k54, n54⟩, -, X54, ⟨Lc54, hQ54, l54, y54, z54⟩, st54⟩ := X52.virtualBack hx (y := (⟨"com/example/ctl_checker/ctlchecker/SmvExpression$Type", "isSet", "()Z"⟩ : MethodName)) (z := (⟨"com/example/ctl_checker/ctlchecker/SmvExpression$Type", "isSet", "()Z"⟩ : MethodName)) hown (mvT hZ (hw _ (List.mem_of_getElem? (i := 8) rfl))) (mvT hZ (hw _ (List.mem_of_getElem? (i := 9) rfl))) (notFace_of_selects (args := #[]) (mvT hZ (hw _ (List.mem_of_getElem? (i := 11) rfl)))) (mvT hZ (hw _ (List.mem_of_getElem? (i := 11) rfl))) (mvT hZ (hw _ (List.mem_of_getElem? (i := 10) rfl))) (by decide) (backOf (W := 0) (rm2INTEGER l Z a0 hw [] w_CONDITION w_INTEGER w_SYMBOLIC w_CONDITION_SET w_INTEGER_SET w_SYMBOLIC_SET h0 n0 Zs S_CONDITION E_w_CONDITION O_CONDITION S_INTEGER E_w_INTEGER O_INTEGER S_SYMBOLIC E_w_SYMBOLIC O_SYMBOLIC S_CONDITION_SET E_w_CONDITION_SET O_CONDITION_SET S_INTEGER_SET E_w_INTEGER_SET O_INTEGER_SET S_SYMBOLIC_SET E_w_SYMBOLIC_SET O_SYMBOLIC_SET) hZ (hw _ (List.mem_of_getElem? (i := 12) rfl)) (hw _ (List.mem_of_getElem? (i := 6) rfl)) (by decide) (by decide)) q54a q54c (g := (mkF m 75 #[.val (.int p1), .val (.int (4 : Int32)), .val (.ref w_INTEGER_SET), .val (.int (1 : Int32)), .val (.int (1 : Int32)), .val (.ref w_INTEGER)] [(.ref w_INTEGER)])) rfl (by rw [hml]; rfl) (Steps.refl _) (argsL := []) (rest := []) (lenOf pd_1 rfl) rfl (by show 2 * 0 + _ ≤ _; exact Nat.le_of_eq rfl) (hb hby at_75) (fun _ _ => ⟨rfl, e52, (by decide : 0 + 0 ≤ _), (by decide : 0 + 0 ≤ _)⟩)
    dsimp only [Pt.U, Pt.locs, Pt.cells, Pt.slots] at X54 l54 y54 z54 st54 hQ54
    subst l54 y54 z54
    obtain ⟨rfl, N54q, e54⟩ := hQ54
    have N := Fr.app N N54q
    refine OwnGo.thru st54 ?_
    show OwnGo _ _ _ _ (T54.setTop (mkF m 78 #[.val (.int p1), .val (.int (4 : Int32)), .val (.ref w_INTEGER_SET), .val (.int (1 : Int32)), .val (.int (1 : Int32)), .val (.ref w_INTEGER)] [(.int (0 : Int32))]))
    have hc78_55 : (0 : Int) = (0 : Int) := rfl
    refine OwnGo.fwd (fun tq' kq' => XS.ifNo X54.here hx rfl (hb hby at_78) rfl ((if0 _ _).trans (own_beq (by decide) (by decide) hc78_55).2) kq') ?_
    show OwnGo _ _ _ _ (T54.setTop (mkF m 81 #[.val (.int p1), .val (.int (4 : Int32)), .val (.ref w_INTEGER_SET), .val (.int (1 : Int32)), .val (.int (1 : Int32)), .val (.ref w_INTEGER)] []))
    refine OwnGo.fwd (fun tq' kq' => XS.iconst X54.here hx rfl (hb hby at_81) kq') ?_
    show OwnGo _ _ _ _ (T54.setTop (mkF m 82 #[.val (.int p1), .val (.int (4 : Int32)), .val (.ref w_INTEGER_SET), .val (.int (1 : Int32)), .val (.int (1 : Int32)), .val (.ref w_INTEGER)] [(.int (1 : Int32))]))
    refine OwnGo.fwd (fun tq' kq' => XS.goto X54.here hx rfl (pc0 := 82) (pc' := 86) rfl (hb hby at_82) (by decide) (by decide) kq') ?_
    show OwnGo _ _ _ _ (T54.setTop (mkF m 86 #[.val (.int p1), .val (.int (4 : Int32)), .val (.ref w_INTEGER_SET), .val (.int (1 : Int32)), .val (.int (1 : Int32)), .val (.ref w_INTEGER)] [(.int (1 : Int32))]))
    exact own_retZ X54 hlk hx Bd.returns (hb hby at_86) (by decide) (by decide) e54 ⟨rfl, N⟩
  · show OwnGo _ _ _ _ (s₁.setTop (mkF m 7 #[.val (.int p1), .unset, .unset, .unset, .unset, .unset] [(.int (5 : Int32))]))
    refine OwnGo.fwd (fun tq' kq' => XS.istoreN X0.here hx rfl (hb hby at_7) rfl (l' := #[.val (.int p1), .val (.int (5 : Int32)), .unset, .unset, .unset, .unset]) rfl kq') ?_
    show OwnGo _ _ _ _ (s₁.setTop (mkF m 8 #[.val (.int p1), .val (.int (5 : Int32)), .unset, .unset, .unset, .unset] []))
    refine OwnGo.fwd (fun tq' kq' => XS.iloadN X0.here hx rfl (hb hby at_8) rfl kq') ?_
    show OwnGo _ _ _ _ (s₁.setTop (mkF m 9 #[.val (.int p1), .val (.int (5 : Int32)), .unset, .unset, .unset, .unset] [(.int (5 : Int32))]))
    obtain ⟨_, _, ⟨T56, L56, k56, n56⟩, -, X56, ⟨Lc56, hQ56, l56, y56, z56⟩, st56⟩ := Jvm.LawKit.callS X0 hx (y := (⟨"com/example/ctl_checker/ctlchecker/TypeIsSetPinLaw", "pick", "(I)Lcom/example/ctl_checker/ctlchecker/SmvExpression$Type;"⟩ : MethodName)) hown (mvT hZ (hw _ (List.mem_of_getElem? (i := 1) rfl))) (mvT hZ (hw _ (List.mem_of_getElem? (i := 2) rfl))) (mvT hZ (hw _ (List.mem_of_getElem? (i := 3) rfl))) (mvT hZ (hw _ (List.mem_of_getElem? (i := 4) rfl))) (by decide) (backOf (W := 0) (rm1SYMBOLIC_SET l Z a0 hw [] w_CONDITION w_INTEGER w_SYMBOLIC w_CONDITION_SET w_INTEGER_SET w_SYMBOLIC_SET h0 n0 Zs S_CONDITION E_w_CONDITION O_CONDITION S_INTEGER E_w_INTEGER O_INTEGER S_SYMBOLIC E_w_SYMBOLIC O_SYMBOLIC S_CONDITION_SET E_w_CONDITION_SET O_CONDITION_SET S_INTEGER_SET E_w_INTEGER_SET O_INTEGER_SET S_SYMBOLIC_SET E_w_SYMBOLIC_SET O_SYMBOLIC_SET) hZ (hw _ (List.mem_of_getElem? (i := 4) rfl)) (hw _ (List.mem_of_getElem? (i := 3) rfl)) (by decide) (by decide)) (g := (mkF m 9 #[.val (.int p1), .val (.int (5 : Int32)), .unset, .unset, .unset, .unset] [(.int (5 : Int32))])) rfl (by rw [hml]; rfl) (argsL := [(.int (5 : Int32))]) (rest := []) (lenOf pd_0 rfl) rfl (by show 2 * 0 + _ ≤ _; exact Nat.le_of_eq rfl) (hb hby at_9) (fun _ _ => ⟨rfl, e0, (by decide : 0 + 0 ≤ _), (by decide : 0 + 0 ≤ _)⟩)
    dsimp only [Pt.U, Pt.locs, Pt.cells, Pt.slots] at X56 l56 y56 z56 st56 hQ56
    subst l56 y56 z56
    obtain ⟨rfl, N56q, e56⟩ := hQ56
    have N := Fr.app N N56q
    refine OwnGo.fwd st56 ?_
    show OwnGo _ _ _ _ (T56.setTop (mkF m 12 #[.val (.int p1), .val (.int (5 : Int32)), .unset, .unset, .unset, .unset] [(.ref w_SYMBOLIC_SET)]))
    refine OwnGo.fwd (fun tq' kq' => XS.astoreN X56.here hx rfl (hb hby at_12) rfl rfl (l' := #[.val (.int p1), .val (.int (5 : Int32)), .val (.ref w_SYMBOLIC_SET), .unset, .unset, .unset]) rfl kq') ?_
    show OwnGo _ _ _ _ (T56.setTop (mkF m 13 #[.val (.int p1), .val (.int (5 : Int32)), .val (.ref w_SYMBOLIC_SET), .unset, .unset, .unset] []))
    refine OwnGo.fwd (fun tq' kq' => XS.aloadN X56.here hx rfl (hb hby at_13) rfl rfl kq') ?_
    show OwnGo _ _ _ _ (T56.setTop (mkF m 14 #[.val (.int p1), .val (.int (5 : Int32)), .val (.ref w_SYMBOLIC_SET), .unset, .unset, .unset] [(.ref w_SYMBOLIC_SET)]))
    obtain ⟨cq57, kq57, q57a, q57b, q57c⟩ := isOf hZ e56 E_w_SYMBOLIC_SET
    obtain ⟨_, _, ⟨T57, L57, k57, n57⟩, -, X57, ⟨Lc57, hQ57, l57, y57, z57⟩, st57⟩ := X56.virtualBack hx (y := (⟨"com/example/ctl_checker/ctlchecker/SmvExpression$Type", "isSet", "()Z"⟩ : MethodName)) (z := (⟨"com/example/ctl_checker/ctlchecker/SmvExpression$Type", "isSet", "()Z"⟩ : MethodName)) hown (mvT hZ (hw _ (List.mem_of_getElem? (i := 8) rfl))) (mvT hZ (hw _ (List.mem_of_getElem? (i := 9) rfl))) (notFace_of_selects (args := #[]) (mvT hZ (hw _ (List.mem_of_getElem? (i := 11) rfl)))) (mvT hZ (hw _ (List.mem_of_getElem? (i := 11) rfl))) (mvT hZ (hw _ (List.mem_of_getElem? (i := 10) rfl))) (by decide) (backOf (W := 0) (rm2SYMBOLIC_SET l Z a0 hw [] w_CONDITION w_INTEGER w_SYMBOLIC w_CONDITION_SET w_INTEGER_SET w_SYMBOLIC_SET h0 n0 Zs S_CONDITION E_w_CONDITION O_CONDITION S_INTEGER E_w_INTEGER O_INTEGER S_SYMBOLIC E_w_SYMBOLIC O_SYMBOLIC S_CONDITION_SET E_w_CONDITION_SET O_CONDITION_SET S_INTEGER_SET E_w_INTEGER_SET O_INTEGER_SET S_SYMBOLIC_SET E_w_SYMBOLIC_SET O_SYMBOLIC_SET) hZ (hw _ (List.mem_of_getElem? (i := 12) rfl)) (hw _ (List.mem_of_getElem? (i := 6) rfl)) (by decide) (by decide)) q57a q57c (g := (mkF m 14 #[.val (.int p1), .val (.int (5 : Int32)), .val (.ref w_SYMBOLIC_SET), .unset, .unset, .unset] [(.ref w_SYMBOLIC_SET)])) rfl (by rw [hml]; rfl) (Steps.refl _) (argsL := []) (rest := []) (lenOf pd_1 rfl) rfl (by show 2 * 0 + _ ≤ _; exact Nat.le_of_eq rfl) (hb hby at_14) (fun _ _ => ⟨rfl, e56, (by decide : 0 + 0 ≤ _), (by decide : 0 + 0 ≤ _)⟩)
    dsimp only [Pt.U, Pt.locs, Pt.cells, Pt.slots] at X57 l57 y57 z57 st57 hQ57
    subst l57 y57 z57
    obtain ⟨rfl, N57q, e57⟩ := hQ57
    have N := Fr.app N N57q
    refine OwnGo.thru st57 ?_
    show OwnGo _ _ _ _ (T57.setTop (mkF m 17 #[.val (.int p1), .val (.int (5 : Int32)), .val (.ref w_SYMBOLIC_SET), .unset, .unset, .unset] [(.int (1 : Int32))]))
    refine OwnGo.fwd (fun tq' kq' => XS.istoreN X57.here hx rfl (hb hby at_17) rfl (l' := #[.val (.int p1), .val (.int (5 : Int32)), .val (.ref w_SYMBOLIC_SET), .val (.int (1 : Int32)), .unset, .unset]) rfl kq') ?_
    show OwnGo _ _ _ _ (T57.setTop (mkF m 18 #[.val (.int p1), .val (.int (5 : Int32)), .val (.ref w_SYMBOLIC_SET), .val (.int (1 : Int32)), .unset, .unset] []))
    refine OwnGo.fwd (fun tq' kq' => XS.iloadN X57.here hx rfl (hb hby at_18) rfl kq') ?_
    show OwnGo _ _ _ _ (T57.setTop (mkF m 19 #[.val (.int p1), .val (.int (5 : Int32)), .val (.ref w_SYMBOLIC_SET), .val (.int (1 : Int32)), .unset, .unset] [(.int (5 : Int32))]))
    refine OwnGo.fwd (fun tq' kq' => XS.iconst X57.here hx rfl (hb hby at_19) kq') ?_
    show OwnGo _ _ _ _ (T57.setTop (mkF m 20 #[.val (.int p1), .val (.int (5 : Int32)), .val (.ref w_SYMBOLIC_SET), .val (.int (1 : Int32)), .unset, .unset] [(.int (3 : Int32)), (.int (5 : Int32))]))
    have hc20_58 : ¬ ((5 : Int) < (3 : Int)) := by decide
    refine OwnGo.fwd (fun tq' kq' => XS.icmpNo X57.here hx rfl (hb hby at_20) rfl (own_bnlt (by decide) (by decide) hc20_58).1 kq') ?_
    show OwnGo _ _ _ _ (T57.setTop (mkF m 23 #[.val (.int p1), .val (.int (5 : Int32)), .val (.ref w_SYMBOLIC_SET), .val (.int (1 : Int32)), .unset, .unset] []))
    refine OwnGo.fwd (fun tq' kq' => XS.iconst X57.here hx rfl (hb hby at_23) kq') ?_
    show OwnGo _ _ _ _ (T57.setTop (mkF m 24 #[.val (.int p1), .val (.int (5 : Int32)), .val (.ref w_SYMBOLIC_SET), .val (.int (1 : Int32)), .unset, .unset] [(.int (1 : Int32))]))
    refine OwnGo.fwd (fun tq' kq' => XS.goto X57.here hx rfl (pc0 := 24) (pc' := 28) rfl (hb hby at_24) (by decide) (by decide) kq') ?_
    show OwnGo _ _ _ _ (T57.setTop (mkF m 28 #[.val (.int p1), .val (.int (5 : Int32)), .val (.ref w_SYMBOLIC_SET), .val (.int (1 : Int32)), .unset, .unset] [(.int (1 : Int32))]))
    refine OwnGo.fwd (fun tq' kq' => XS.istore X57.here hx rfl (hb hby at_28) rfl (l' := #[.val (.int p1), .val (.int (5 : Int32)), .val (.ref w_SYMBOLIC_SET), .val (.int (1 : Int32)), .val (.int (1 : Int32)), .unset]) rfl kq') ?_
    show OwnGo _ _ _ _ (T57.setTop (mkF m 30 #[.val (.int p1), .val (.int (5 : Int32)), .val (.ref w_SYMBOLIC_SET), .val (.int (1 : Int32)), .val (.int (1 : Int32)), .unset] []))
    refine OwnGo.fwd (fun tq' kq' => XS.iloadN X57.here hx rfl (hb hby at_30) rfl kq') ?_
    show OwnGo _ _ _ _ (T57.setTop (mkF m 31 #[.val (.int p1), .val (.int (5 : Int32)), .val (.ref w_SYMBOLIC_SET), .val (.int (1 : Int32)), .val (.int (1 : Int32)), .unset] [(.int (1 : Int32))]))
    refine OwnGo.fwd (fun tq' kq' => XS.iload X57.here hx rfl (hb hby at_31) rfl kq') ?_
    show OwnGo _ _ _ _ (T57.setTop (mkF m 33 #[.val (.int p1), .val (.int (5 : Int32)), .val (.ref w_SYMBOLIC_SET), .val (.int (1 : Int32)), .val (.int (1 : Int32)), .unset] [(.int (1 : Int32)), (.int (1 : Int32))]))
    have hc33_59 : (1 : Int) = (1 : Int) := rfl
    refine OwnGo.fwd (fun tq' kq' => XS.icmpYes X57.here hx rfl (pc0 := 33) (pc' := 38) rfl (hb hby at_33) rfl (own_beq (by decide) (by decide) hc33_59).1 (by decide) (by decide) kq') ?_
    show OwnGo _ _ _ _ (T57.setTop (mkF m 38 #[.val (.int p1), .val (.int (5 : Int32)), .val (.ref w_SYMBOLIC_SET), .val (.int (1 : Int32)), .val (.int (1 : Int32)), .unset] []))
    refine OwnGo.fwd (fun tq' kq' => XS.aloadN X57.here hx rfl (hb hby at_38) rfl rfl kq') ?_
    show OwnGo _ _ _ _ (T57.setTop (mkF m 39 #[.val (.int p1), .val (.int (5 : Int32)), .val (.ref w_SYMBOLIC_SET), .val (.int (1 : Int32)), .val (.int (1 : Int32)), .unset] [(.ref w_SYMBOLIC_SET)]))
    obtain ⟨cq60, kq60, q60a, q60b, q60c⟩ := isOf hZ e57 E_w_SYMBOLIC_SET
    obtain ⟨_, _, ⟨T60, L60, k60, n60⟩, -, X60, ⟨Lc60, hQ60, l60, y60, z60⟩, st60⟩ := X57.virtualBack hx (y := (⟨"com/example/ctl_checker/ctlchecker/SmvExpression$Type", "element", "()Lcom/example/ctl_checker/ctlchecker/SmvExpression$Type;"⟩ : MethodName)) (z := (⟨"com/example/ctl_checker/ctlchecker/SmvExpression$Type", "element", "()Lcom/example/ctl_checker/ctlchecker/SmvExpression$Type;"⟩ : MethodName)) hown (mvT hZ (hw _ (List.mem_of_getElem? (i := 19) rfl))) (mvT hZ (hw _ (List.mem_of_getElem? (i := 20) rfl))) (notFace_of_selects (args := #[]) (mvT hZ (hw _ (List.mem_of_getElem? (i := 22) rfl)))) (mvT hZ (hw _ (List.mem_of_getElem? (i := 22) rfl))) (mvT hZ (hw _ (List.mem_of_getElem? (i := 21) rfl))) (by decide) (backOf (W := 0) (rm3SYMBOLIC_SET l Z a0 hw [] w_CONDITION w_INTEGER w_SYMBOLIC w_CONDITION_SET w_INTEGER_SET w_SYMBOLIC_SET h0 n0 Zs S_CONDITION E_w_CONDITION O_CONDITION S_INTEGER E_w_INTEGER O_INTEGER S_SYMBOLIC E_w_SYMBOLIC O_SYMBOLIC S_CONDITION_SET E_w_CONDITION_SET O_CONDITION_SET S_INTEGER_SET E_w_INTEGER_SET O_INTEGER_SET S_SYMBOLIC_SET E_w_SYMBOLIC_SET O_SYMBOLIC_SET) hZ (hw _ (List.mem_of_getElem? (i := 23) rfl)) (hw _ (List.mem_of_getElem? (i := 6) rfl)) (by decide) (by decide)) q60a q60c (g := (mkF m 39 #[.val (.int p1), .val (.int (5 : Int32)), .val (.ref w_SYMBOLIC_SET), .val (.int (1 : Int32)), .val (.int (1 : Int32)), .unset] [(.ref w_SYMBOLIC_SET)])) rfl (by rw [hml]; rfl) (Steps.refl _) (argsL := []) (rest := []) (lenOf pd_2 rfl) rfl (by show 2 * 0 + _ ≤ _; exact Nat.le_of_eq rfl) (hb hby at_39) (fun _ _ => ⟨rfl, e57, (by decide : 0 + 0 ≤ _), (by decide : 0 + 0 ≤ _)⟩)
    dsimp only [Pt.U, Pt.locs, Pt.cells, Pt.slots] at X60 l60 y60 z60 st60 hQ60
    subst l60 y60 z60
    obtain ⟨rfl, N60q, e60⟩ := hQ60
    have N := Fr.app N N60q
    refine OwnGo.thru st60 ?_
    show OwnGo _ _ _ _ (T60.setTop (mkF m 42 #[.val (.int p1), .val (.int (5 : Int32)), .val (.ref w_SYMBOLIC_SET), .val (.int (1 : Int32)), .val (.int (1 : Int32)), .unset] [(.ref w_SYMBOLIC)]))
    refine OwnGo.fwd (fun tq' kq' => XS.astore X60.here hx rfl (hb hby at_42) rfl rfl (l' := #[.val (.int p1), .val (.int (5 : Int32)), .val (.ref w_SYMBOLIC_SET), .val (.int (1 : Int32)), .val (.int (1 : Int32)), .val (.ref w_SYMBOLIC)]) rfl kq') ?_
    show OwnGo _ _ _ _ (T60.setTop (mkF m 44 #[.val (.int p1), .val (.int (5 : Int32)), .val (.ref w_SYMBOLIC_SET), .val (.int (1 : Int32)), .val (.int (1 : Int32)), .val (.ref w_SYMBOLIC)] []))
    refine OwnGo.fwd (fun tq' kq' => XS.iloadN X60.here hx rfl (hb hby at_44) rfl kq') ?_
    show OwnGo _ _ _ _ (T60.setTop (mkF m 45 #[.val (.int p1), .val (.int (5 : Int32)), .val (.ref w_SYMBOLIC_SET), .val (.int (1 : Int32)), .val (.int (1 : Int32)), .val (.ref w_SYMBOLIC)] [(.int (1 : Int32))]))
    refine OwnGo.fwd (fun tq' kq' => XS.aload X60.here hx rfl (hb hby at_45) rfl rfl kq') ?_
    show OwnGo _ _ _ _ (T60.setTop (mkF m 47 #[.val (.int p1), .val (.int (5 : Int32)), .val (.ref w_SYMBOLIC_SET), .val (.int (1 : Int32)), .val (.int (1 : Int32)), .val (.ref w_SYMBOLIC)] [(.ref w_SYMBOLIC), (.int (1 : Int32))]))
    refine OwnGo.fwd (fun tq' kq' => XS.aloadN X60.here hx rfl (hb hby at_47) rfl rfl kq') ?_
    show OwnGo _ _ _ _ (T60.setTop (mkF m 48 #[.val (.int p1), .val (.int (5 : Int32)), .val (.ref w_SYMBOLIC_SET), .val (.int (1 : Int32)), .val (.int (1 : Int32)), .val (.ref w_SYMBOLIC)] [(.ref w_SYMBOLIC_SET), (.ref w_SYMBOLIC), (.int (1 : Int32))]))
    refine OwnGo.fwd (fun tq' kq' => Jvm.RoadKit.acmp (g := (mkF m 48 #[.val (.int p1), .val (.int (5 : Int32)), .val (.ref w_SYMBOLIC_SET), .val (.int (1 : Int32)), .val (.int (1 : Int32)), .val (.ref w_SYMBOLIC)] [(.ref w_SYMBOLIC_SET), (.ref w_SYMBOLIC), (.int (1 : Int32))])) X60 hx rfl rfl rfl (pc0 := 48) (pc' := 51) (same := false) rfl (hb hby at_48) rfl (decide_eq_false fun q => ne_SYMBOLIC_SYMBOLIC_SET (Value.ref.inj q)) (by decide) (by decide) kq') ?_
    show OwnGo _ _ _ _ (T60.setTop (mkF m 51 #[.val (.int p1), .val (.int (5 : Int32)), .val (.ref w_SYMBOLIC_SET), .val (.int (1 : Int32)), .val (.int (1 : Int32)), .val (.ref w_SYMBOLIC)] [(.int (1 : Int32))]))
    refine OwnGo.fwd (fun tq' kq' => XS.iconst X60.here hx rfl (hb hby at_51) kq') ?_
    show OwnGo _ _ _ _ (T60.setTop (mkF m 52 #[.val (.int p1), .val (.int (5 : Int32)), .val (.ref w_SYMBOLIC_SET), .val (.int (1 : Int32)), .val (.int (1 : Int32)), .val (.ref w_SYMBOLIC)] [(.int (1 : Int32)), (.int (1 : Int32))]))
    refine OwnGo.fwd (fun tq' kq' => XS.goto X60.here hx rfl (pc0 := 52) (pc' := 56) rfl (hb hby at_52) (by decide) (by decide) kq') ?_
    show OwnGo _ _ _ _ (T60.setTop (mkF m 56 #[.val (.int p1), .val (.int (5 : Int32)), .val (.ref w_SYMBOLIC_SET), .val (.int (1 : Int32)), .val (.int (1 : Int32)), .val (.ref w_SYMBOLIC)] [(.int (1 : Int32)), (.int (1 : Int32))]))
    have hc56_61 : (1 : Int) = (1 : Int) := rfl
    refine OwnGo.fwd (fun tq' kq' => XS.icmpYes X60.here hx rfl (pc0 := 56) (pc' := 61) rfl (hb hby at_56) rfl (own_beq (by decide) (by decide) hc56_61).1 (by decide) (by decide) kq') ?_
    show OwnGo _ _ _ _ (T60.setTop (mkF m 61 #[.val (.int p1), .val (.int (5 : Int32)), .val (.ref w_SYMBOLIC_SET), .val (.int (1 : Int32)), .val (.int (1 : Int32)), .val (.ref w_SYMBOLIC)] []))
    refine OwnGo.fwd (fun tq' kq' => XS.aloadN X60.here hx rfl (hb hby at_61) rfl rfl kq') ?_
    show OwnGo _ _ _ _ (T60.setTop (mkF m 62 #[.val (.int p1), .val (.int (5 : Int32)), .val (.ref w_SYMBOLIC_SET), .val (.int (1 : Int32)), .val (.int (1 : Int32)), .val (.ref w_SYMBOLIC)] [(.ref w_SYMBOLIC_SET)]))
    obtain ⟨cq62, kq62, q62a, q62b, q62c⟩ := isOf hZ e60 E_w_SYMBOLIC_SET
    obtain ⟨_, _, ⟨T62, L62, k62, n62⟩, -, X62, ⟨Lc62, hQ62, l62, y62, z62⟩, st62⟩ := X60.virtualBack hx (y := (⟨"com/example/ctl_checker/ctlchecker/SmvExpression$Type", "set", "()Lcom/example/ctl_checker/ctlchecker/SmvExpression$Type;"⟩ : MethodName)) (z := (⟨"com/example/ctl_checker/ctlchecker/SmvExpression$Type", "set", "()Lcom/example/ctl_checker/ctlchecker/SmvExpression$Type;"⟩ : MethodName)) hown (mvT hZ (hw _ (List.mem_of_getElem? (i := 33) rfl))) (mvT hZ (hw _ (List.mem_of_getElem? (i := 34) rfl))) (notFace_of_selects (args := #[]) (mvT hZ (hw _ (List.mem_of_getElem? (i := 36) rfl)))) (mvT hZ (hw _ (List.mem_of_getElem? (i := 36) rfl))) (mvT hZ (hw _ (List.mem_of_getElem? (i := 35) rfl))) (by decide) (backOf (W := 0) (rm5SYMBOLIC_SET l Z a0 hw [] w_CONDITION w_INTEGER w_SYMBOLIC w_CONDITION_SET w_INTEGER_SET w_SYMBOLIC_SET h0 n0 Zs S_CONDITION E_w_CONDITION O_CONDITION S_INTEGER E_w_INTEGER O_INTEGER S_SYMBOLIC E_w_SYMBOLIC O_SYMBOLIC S_CONDITION_SET E_w_CONDITION_SET O_CONDITION_SET S_INTEGER_SET E_w_INTEGER_SET O_INTEGER_SET S_SYMBOLIC_SET E_w_SYMBOLIC_SET O_SYMBOLIC_SET) hZ (hw _ (List.mem_of_getElem? (i := 37) rfl)) (hw _ (List.mem_of_getElem? (i := 6) rfl)) (by decide) (by decide)) q62a q62c (g := (mkF m 62 #[.val (.int p1), .val (.int (5 : Int32)), .val (.ref w_SYMBOLIC_SET), .val (.int (1 : Int32)), .val (.int (1 : Int32)), .val (.ref w_SYMBOLIC)] [(.ref w_SYMBOLIC_SET)])) rfl (by rw [hml]; rfl) (Steps.refl _) (argsL := []) (rest := []) (lenOf pd_2 rfl) rfl (by show 2 * 0 + _ ≤ _; exact Nat.le_of_eq rfl) (hb hby at_62) (fun _ _ => ⟨rfl, e60, (by decide : 0 + 0 ≤ _), (by decide : 0 + 0 ≤ _)⟩)
    dsimp only [Pt.U, Pt.locs, Pt.cells, Pt.slots] at X62 l62 y62 z62 st62 hQ62
    subst l62 y62 z62
    obtain ⟨rfl, N62q, e62⟩ := hQ62
    have N := Fr.app N N62q
    refine OwnGo.thru st62 ?_
    show OwnGo _ _ _ _ (T62.setTop (mkF m 65 #[.val (.int p1), .val (.int (5 : Int32)), .val (.ref w_SYMBOLIC_SET), .val (.int (1 : Int32)), .val (.int (1 : Int32)), .val (.ref w_SYMBOLIC)] [(.ref w_SYMBOLIC_SET)]))
    obtain ⟨cq63, kq63, q63a, q63b, q63c⟩ := isOf hZ e62 E_w_SYMBOLIC_SET
    obtain ⟨_, _, ⟨T63, L63, k63, n63⟩, -, X63, ⟨Lc63, hQ63, l63, y63, z63⟩, st63⟩ := X62.virtualBack hx (y := (⟨"com/example/ctl_checker/ctlchecker/SmvExpression$Type", "isSet", "()Z"⟩ : MethodName)) (z := (⟨"com/example/ctl_checker/ctlchecker/SmvExpression$Type", "isSet", "()Z"⟩ : MethodName)) hown (mvT hZ (hw _ (List.mem_of_getElem? (i := 8) rfl))) (mvT hZ (hw _ (List.mem_of_getElem? (i := 9) rfl))) (notFace_of_selects (args := #[]) (mvT hZ (hw _ (List.mem_of_getElem? (i := 11) rfl)))) (mvT hZ (hw _ (List.mem_of_getElem? (i := 11) rfl))) (mvT hZ (hw _ (List.mem_of_getElem? (i := 10) rfl))) (by decide) (backOf (W := 0) (rm2SYMBOLIC_SET l Z a0 hw [] w_CONDITION w_INTEGER w_SYMBOLIC w_CONDITION_SET w_INTEGER_SET w_SYMBOLIC_SET h0 n0 Zs S_CONDITION E_w_CONDITION O_CONDITION S_INTEGER E_w_INTEGER O_INTEGER S_SYMBOLIC E_w_SYMBOLIC O_SYMBOLIC S_CONDITION_SET E_w_CONDITION_SET O_CONDITION_SET S_INTEGER_SET E_w_INTEGER_SET O_INTEGER_SET S_SYMBOLIC_SET E_w_SYMBOLIC_SET O_SYMBOLIC_SET) hZ (hw _ (List.mem_of_getElem? (i := 12) rfl)) (hw _ (List.mem_of_getElem? (i := 6) rfl)) (by decide) (by decide)) q63a q63c (g := (mkF m 65 #[.val (.int p1), .val (.int (5 : Int32)), .val (.ref w_SYMBOLIC_SET), .val (.int (1 : Int32)), .val (.int (1 : Int32)), .val (.ref w_SYMBOLIC)] [(.ref w_SYMBOLIC_SET)])) rfl (by rw [hml]; rfl) (Steps.refl _) (argsL := []) (rest := []) (lenOf pd_1 rfl) rfl (by show 2 * 0 + _ ≤ _; exact Nat.le_of_eq rfl) (hb hby at_65) (fun _ _ => ⟨rfl, e62, (by decide : 0 + 0 ≤ _), (by decide : 0 + 0 ≤ _)⟩)
    dsimp only [Pt.U, Pt.locs, Pt.cells, Pt.slots] at X63 l63 y63 z63 st63 hQ63
    subst l63 y63 z63
    obtain ⟨rfl, N63q, e63⟩ := hQ63
    have N := Fr.app N N63q
    refine OwnGo.thru st63 ?_
    show OwnGo _ _ _ _ (T63.setTop (mkF m 68 #[.val (.int p1), .val (.int (5 : Int32)), .val (.ref w_SYMBOLIC_SET), .val (.int (1 : Int32)), .val (.int (1 : Int32)), .val (.ref w_SYMBOLIC)] [(.int (1 : Int32))]))
    have hc68_64 : ¬ ((1 : Int) = (0 : Int)) := by decide
    refine OwnGo.fwd (fun tq' kq' => XS.ifYes X63.here hx rfl (pc0 := 68) (pc' := 73) rfl (hb hby at_68) rfl ((if0 _ _).trans (own_bneq (by decide) (by decide) hc68_64).2) (by decide) (by decide) kq') ?_
    show OwnGo _ _ _ _ (T63.setTop (mkF m 73 #[.val (.int p1), .val (.int (5 : Int32)), .val (.ref w_SYMBOLIC_SET), .val (.int (1 : Int32)), .val (.int (1 : Int32)), .val (.ref w_SYMBOLIC)] []))
    refine OwnGo.fwd (fun tq' kq' => XS.aload X63.here hx rfl (hb hby at_73) rfl rfl kq') ?_
    show OwnGo _ _ _ _ (T63.setTop (mkF m 75 #[.val (.int p1), .val (.int (5 : Int32)), .val (.ref w_SYMBOLIC_SET), .val (.int (1 : Int32)), .val (.int (1 : Int32)), .val (.ref w_SYMBOLIC)] [(.ref w_SYMBOLIC)]))
    obtain ⟨cq65, kq65, q65a, q65b, q65c⟩ := isOf hZ e63 E_w_SYMBOLIC
    obtain ⟨_, _, ⟨T65, L65, k65, n65⟩, -, X65, ⟨Lc65, hQ65, l65, y65, z65⟩, st65⟩ := X63.virtualBack hx (y := (⟨"com/example/ctl_checker/ctlchecker/SmvExpression$Type", "isSet", "()Z"⟩ : MethodName)) (z := (⟨"com/example/ctl_checker/ctlchecker/SmvExpression$Type", "isSet", "()Z"⟩ : MethodName)) hown (mvT hZ (hw _ (List.mem_of_getElem? (i := 8) rfl))) (mvT hZ (hw _ (List.mem_of_getElem? (i := 9) rfl))) (notFace_of_selects (args := #[]) (mvT hZ (hw _ (List.mem_of_getElem? (i := 11) rfl)))) (mvT hZ (hw _ (List.mem_of_getElem? (i := 11) rfl))) (mvT hZ (hw _ (List.mem_of_getElem? (i := 10) rfl))) (by decide) (backOf (W := 0) (rm2SYMBOLIC l Z a0 hw [] w_CONDITION w_INTEGER w_SYMBOLIC w_CONDITION_SET w_INTEGER_SET w_SYMBOLIC_SET h0 n0 Zs S_CONDITION E_w_CONDITION O_CONDITION S_INTEGER E_w_INTEGER O_INTEGER S_SYMBOLIC E_w_SYMBOLIC O_SYMBOLIC S_CONDITION_SET E_w_CONDITION_SET O_CONDITION_SET S_INTEGER_SET E_w_INTEGER_SET O_INTEGER_SET S_SYMBOLIC_SET E_w_SYMBOLIC_SET O_SYMBOLIC_SET) hZ (hw _ (List.mem_of_getElem? (i := 12) rfl)) (hw _ (List.mem_of_getElem? (i := 6) rfl)) (by decide) (by decide)) q65a q65c (g := (mkF m 75 #[.val (.int p1), .val (.int (5 : Int32)), .val (.ref w_SYMBOLIC_SET), .val (.int (1 : Int32)), .val (.int (1 : Int32)), .val (.ref w_SYMBOLIC)] [(.ref w_SYMBOLIC)])) rfl (by rw [hml]; rfl) (Steps.refl _) (argsL := []) (rest := []) (lenOf pd_1 rfl) rfl (by show 2 * 0 + _ ≤ _; exact Nat.le_of_eq rfl) (hb hby at_75) (fun _ _ => ⟨rfl, e63, (by decide : 0 + 0 ≤ _), (by decide : 0 + 0 ≤ _)⟩)
    dsimp only [Pt.U, Pt.locs, Pt.cells, Pt.slots] at X65 l65 y65 z65 st65 hQ65
    subst l65 y65 z65
    obtain ⟨rfl, N65q, e65⟩ := hQ65
    have N := Fr.app N N65q
    refine OwnGo.thru st65 ?_
    show OwnGo _ _ _ _ (T65.setTop (mkF m 78 #[.val (.int p1), .val (.int (5 : Int32)), .val (.ref w_SYMBOLIC_SET), .val (.int (1 : Int32)), .val (.int (1 : Int32)), .val (.ref w_SYMBOLIC)] [(.int (0 : Int32))]))
    have hc78_66 : (0 : Int) = (0 : Int) := rfl
    refine OwnGo.fwd (fun tq' kq' => XS.ifNo X65.here hx rfl (hb hby at_78) rfl ((if0 _ _).trans (own_beq (by decide) (by decide) hc78_66).2) kq') ?_
    show OwnGo _ _ _ _ (T65.setTop (mkF m 81 #[.val (.int p1), .val (.int (5 : Int32)), .val (.ref w_SYMBOLIC_SET), .val (.int (1 : Int32)), .val (.int (1 : Int32)), .val (.ref w_SYMBOLIC)] []))
    refine OwnGo.fwd (fun tq' kq' => XS.iconst X65.here hx rfl (hb hby at_81) kq') ?_
    show OwnGo _ _ _ _ (T65.setTop (mkF m 82 #[.val (.int p1), .val (.int (5 : Int32)), .val (.ref w_SYMBOLIC_SET), .val (.int (1 : Int32)), .val (.int (1 : Int32)), .val (.ref w_SYMBOLIC)] [(.int (1 : Int32))]))
    refine OwnGo.fwd (fun tq' kq' => XS.goto X65.here hx rfl (pc0 := 82) (pc' := 86) rfl (hb hby at_82) (by decide) (by decide) kq') ?_
    show OwnGo _ _ _ _ (T65.setTop (mkF m 86 #[.val (.int p1), .val (.int (5 : Int32)), .val (.ref w_SYMBOLIC_SET), .val (.int (1 : Int32)), .val (.int (1 : Int32)), .val (.ref w_SYMBOLIC)] [(.int (1 : Int32))]))
    exact own_retZ X65 hlk hx Bd.returns (hb hby at_86) (by decide) (by decide) e65 ⟨rfl, N⟩
set_option maxRecDepth 65536 in
set_option maxHeartbeats 40000000 in
theorem comes_1 {Post : Tables → Env → Array Value → State → Outcome → State → Prop} (hpost : ∀ tb e args s v u, (limb_1_1.after args s (.returned v) u = true ∧ limb_1_2.after args s (.returned v) u = true ∧ True) → FrameEnd s (.returned v) u (Jvm.fieldLocs frame_1_writes args s ++ Jvm.arrayLocs frame_1_arrays args s ++ Jvm.staticLocs frame_1_statics s) 0 0 → Post tb e args s (.returned v) u) :
    ArmFor flags0 classFile x code maxLocals ret World_1 tables_1 room_1 Calls_1 rest_1 Pre_1 Post := by
  intro l hfl _ _ p e ha hc hk s m args below hf hA hF happ hP
  obtain ⟨hcalls, hrest, hpre⟩ := hP
  obtain ⟨-, -, -, hnamed, -, -, -, hat⟩ := (Spec.applies_iff hf).mp happ
  obtain ⟨hg, hn⟩ := and_e (Cond.before_iff.mp (show (Jvm.Cond.and given_1 narrow_1).before args s = true from hpre))
  obtain ⟨gc, gr0⟩ := and_e hg
  obtain ⟨w0, rfl⟩ : ∃ w0 : Value, args = #[w0] := by
    have hs : args.size = 1 := by simpa [Cond.value, given_1] using gc
    obtain ⟨L⟩ := args
    match L, hs with
    | [w0], _ => exact ⟨w0, rfl⟩
  have hw := fun d (hd : d ∈ tables_1) => atoms_spec (ws := Jvm.Cond.code x code maxLocals ret :: tables_1) hat d (List.mem_cons_of_mem _ hd)
  have hfit : Fit s := fun {y c} hc i hi => by
    obtain ⟨ha, rfl⟩ := Array.getElem?_eq_some_iff.mp hc
    have q := List.all_eq_true.mp ((Array.all_eq_true_iff_forall_mem.mp hF) _ (Array.getElem_mem ha)) i (List.mem_range.mpr hi)
    simpa [Array.getElem?_eq_getElem hi] using q
  obtain ⟨i0, ei0⟩ := is_v gr0
  obtain rfl : w0 = (.int i0) := Option.some.inj ei0
  obtain ⟨cx_CONDITION, cr0⟩ := and_e hn
  obtain ⟨cx_CONDITION_SET, cr1⟩ := and_e cr0
  obtain ⟨co_CONDITION, cr2⟩ := and_e cr1
  obtain ⟨co_CONDITION_SET, cr3⟩ := and_e cr2
  obtain ⟨cx_INTEGER_SET, cr4⟩ := and_e cr3
  obtain ⟨co_INTEGER_SET, cr5⟩ := and_e cr4
  obtain ⟨cx_SYMBOLIC_SET, cr6⟩ := and_e cr5
  obtain ⟨co_SYMBOLIC_SET, cr7⟩ := and_e cr6
  obtain ⟨cx_SYMBOLIC, cr8⟩ := and_e cr7
  obtain ⟨co_SYMBOLIC, cr9⟩ := and_e cr8
  obtain ⟨cx_INTEGER, cr10⟩ := and_e cr9
  have co_INTEGER := cr10
  obtain ⟨w_CONDITION, ev_CONDITION⟩ := exa_v cx_CONDITION
  have S_CONDITION : Sta s s.heap "com/example/ctl_checker/ctlchecker/SmvExpression$Type" "CONDITION" "Lcom/example/ctl_checker/ctlchecker/SmvExpression$Type;" (.ref w_CONDITION) := Sta.start ev_CONDITION (Or.inr ⟨(hw _ (List.mem_of_getElem? (i := 6) rfl)), (hw _ (List.mem_of_getElem? (i := 7) rfl))⟩)
  have E_w_CONDITION : Exa s s.heap w_CONDITION "com/example/ctl_checker/ctlchecker/SmvExpression$Type" := Exa.start ev_CONDITION cx_CONDITION
  have O_CONDITION : Fld s s.heap w_CONDITION "java/lang/Enum" "ordinal" "I" (.int 0) := own_fieldInt ev_CONDITION co_CONDITION
  obtain ⟨w_INTEGER, ev_INTEGER⟩ := exa_v cx_INTEGER
  have S_INTEGER : Sta s s.heap "com/example/ctl_checker/ctlchecker/SmvExpression$Type" "INTEGER" "Lcom/example/ctl_checker/ctlchecker/SmvExpression$Type;" (.ref w_INTEGER) := Sta.start ev_INTEGER (Or.inr ⟨(hw _ (List.mem_of_getElem? (i := 6) rfl)), (hw _ (List.mem_of_getElem? (i := 43) rfl))⟩)
  have E_w_INTEGER : Exa s s.heap w_INTEGER "com/example/ctl_checker/ctlchecker/SmvExpression$Type" := Exa.start ev_INTEGER cx_INTEGER
  have O_INTEGER : Fld s s.heap w_INTEGER "java/lang/Enum" "ordinal" "I" (.int 1) := own_fieldInt ev_INTEGER co_INTEGER
  obtain ⟨w_SYMBOLIC, ev_SYMBOLIC⟩ := exa_v cx_SYMBOLIC
  have S_SYMBOLIC : Sta s s.heap "com/example/ctl_checker/ctlchecker/SmvExpression$Type" "SYMBOLIC" "Lcom/example/ctl_checker/ctlchecker/SmvExpression$Type;" (.ref w_SYMBOLIC) := Sta.start ev_SYMBOLIC (Or.inr ⟨(hw _ (List.mem_of_getElem? (i := 6) rfl)), (hw _ (List.mem_of_getElem? (i := 41) rfl))⟩)
  have E_w_SYMBOLIC : Exa s s.heap w_SYMBOLIC "com/example/ctl_checker/ctlchecker/SmvExpression$Type" := Exa.start ev_SYMBOLIC cx_SYMBOLIC
  have O_SYMBOLIC : Fld s s.heap w_SYMBOLIC "java/lang/Enum" "ordinal" "I" (.int 2) := own_fieldInt ev_SYMBOLIC co_SYMBOLIC
  obtain ⟨w_CONDITION_SET, ev_CONDITION_SET⟩ := exa_v cx_CONDITION_SET
  have S_CONDITION_SET : Sta s s.heap "com/example/ctl_checker/ctlchecker/SmvExpression$Type" "CONDITION_SET" "Lcom/example/ctl_checker/ctlchecker/SmvExpression$Type;" (.ref w_CONDITION_SET) := Sta.start ev_CONDITION_SET (Or.inr ⟨(hw _ (List.mem_of_getElem? (i := 6) rfl)), (hw _ (List.mem_of_getElem? (i := 14) rfl))⟩)
  have E_w_CONDITION_SET : Exa s s.heap w_CONDITION_SET "com/example/ctl_checker/ctlchecker/SmvExpression$Type" := Exa.start ev_CONDITION_SET cx_CONDITION_SET
  have O_CONDITION_SET : Fld s s.heap w_CONDITION_SET "java/lang/Enum" "ordinal" "I" (.int 3) := own_fieldInt ev_CONDITION_SET co_CONDITION_SET
  obtain ⟨w_INTEGER_SET, ev_INTEGER_SET⟩ := exa_v cx_INTEGER_SET
  have S_INTEGER_SET : Sta s s.heap "com/example/ctl_checker/ctlchecker/SmvExpression$Type" "INTEGER_SET" "Lcom/example/ctl_checker/ctlchecker/SmvExpression$Type;" (.ref w_INTEGER_SET) := Sta.start ev_INTEGER_SET (Or.inr ⟨(hw _ (List.mem_of_getElem? (i := 6) rfl)), (hw _ (List.mem_of_getElem? (i := 16) rfl))⟩)
  have E_w_INTEGER_SET : Exa s s.heap w_INTEGER_SET "com/example/ctl_checker/ctlchecker/SmvExpression$Type" := Exa.start ev_INTEGER_SET cx_INTEGER_SET
  have O_INTEGER_SET : Fld s s.heap w_INTEGER_SET "java/lang/Enum" "ordinal" "I" (.int 4) := own_fieldInt ev_INTEGER_SET co_INTEGER_SET
  obtain ⟨w_SYMBOLIC_SET, ev_SYMBOLIC_SET⟩ := exa_v cx_SYMBOLIC_SET
  have S_SYMBOLIC_SET : Sta s s.heap "com/example/ctl_checker/ctlchecker/SmvExpression$Type" "SYMBOLIC_SET" "Lcom/example/ctl_checker/ctlchecker/SmvExpression$Type;" (.ref w_SYMBOLIC_SET) := Sta.start ev_SYMBOLIC_SET (Or.inr ⟨(hw _ (List.mem_of_getElem? (i := 6) rfl)), (hw _ (List.mem_of_getElem? (i := 18) rfl))⟩)
  have E_w_SYMBOLIC_SET : Exa s s.heap w_SYMBOLIC_SET "com/example/ctl_checker/ctlchecker/SmvExpression$Type" := Exa.start ev_SYMBOLIC_SET cx_SYMBOLIC_SET
  have O_SYMBOLIC_SET : Fld s s.heap w_SYMBOLIC_SET "java/lang/Enum" "ordinal" "I" (.int 5) := own_fieldInt ev_SYMBOLIC_SET co_SYMBOLIC_SET
  obtain ⟨n, o, h1, h2, h3, _, L, rfl, ⟨rfl, N⟩, hq⟩ := rm0 l s _ hw tables_1 i0 w_CONDITION w_INTEGER w_SYMBOLIC w_CONDITION_SET w_INTEGER_SET w_SYMBOLIC_SET s.heap s.heap.size (Nat.le_refl _) S_CONDITION E_w_CONDITION O_CONDITION S_INTEGER E_w_INTEGER O_INTEGER S_SYMBOLIC E_w_SYMBOLIC O_SYMBOLIC S_CONDITION_SET E_w_CONDITION_SET O_CONDITION_SET S_INTEGER_SET E_w_INTEGER_SET O_INTEGER_SET S_SYMBOLIC_SET E_w_SYMBOLIC_SET O_SYMBOLIC_SET p e ha hc hk s m _ below hf ((Spec.applies_iff_loose hf).mp happ).1 ⟨rfl, State.Warmed39.refl s, rfl⟩ trivial
  refine ⟨n, _, h1, h2, h3, hpost _ _ _ _ _ _ ⟨Cond.after_iff.mpr rfl, Cond.after_iff.mpr (eq_i res_at (Term.int_eval (1)) rfl), trivial⟩ ⟨hq.1, hq.2.1, (hq.2.2.sift fun y hy => Or.inr (N y hy)).mono (by decide) (by decide)⟩⟩
theorem main_1_1 : Claimed_1_1 := comes_1 fun _ _ _ _ _ _ h hF => ⟨h.1, hF⟩
theorem main_1_2 : Claimed_1_2 := comes_1 fun _ _ _ _ _ _ h hF => ⟨h.2.1, hF⟩
end Jvm.Pilot.@@N@@
namespace Jvm.Pilot.@@N@@
open Jvm Jvm.ClassFile Sem Op Lib Jvm.Free Jvm.Stand Jvm.Pilot.@@N@@.Jvm.D
/-! MADE BY PROGRAM (witnessworld.py) out of the Statement's table words and the real class files: 12 classes; the members and pool entries that the words name. The judged class is class 1, her method 2. -/
namespace start1
open Jvm.ClassFile
def u (s : String) : CpInfo := .utf8 (stringToUtf16 s)
/-- a pool by its gaps: so many unusable entries, then the entry; so many at the end -/
def gap : Nat → List CpInfo → List CpInfo
  | 0, r => r
  | n + 1, r => .unusable :: gap n r
def poolList (es : List (Nat × CpInfo)) (last : Nat) : List CpInfo := es.foldr (fun e r => gap e.1 (e.2 :: r)) (gap last [])
def pool (es : List (Nat × CpInfo)) (last : Nat) : Array CpInfo := ⟨poolList es last⟩
def fileOf (pool : Array CpInfo) (this : Nat) (attrs : Array Attribute := #[]) (ms : Array MethodInfo := #[]) (fl : Nat := 33) (sup : Nat := 0) (ifs : Array Nat := #[]) (fds : Array FieldInfo := #[]) : ClassFile where
  minorVersion := 0
  majorVersion := 65
  constantPool := pool
  accessFlags := fl
  thisClass := this
  superClass := sup
  interfaces := ifs
  fields := fds
  methods := ms
  attributes := attrs
def plain (name : String) (sup : Option ClassId) : Class where
  name := name
  kind := .ordinary
  loader := none
  accessFlags := 33
  super := sup
  interfaces := #[]
  cf := none
  fields := #[]
  methods := #[]
  instanceTypes := #[]
  staticTypes := #[]
  resolved := #[]
  callSites := []
  init := .initialized
  statics := none
  mirror := none

def pool0 : Array CpInfo := pool [(5, u "<init>"), (0, u "()V"), (1, .class_ 10), (1, u "java/lang/Object")] 113

def k0m0 : Method := { name := "<init>", desc := "()V", sig := { parameters := [], returnType := none }, accessFlags := 1, code := none }
/-- java/lang/Object -/
def k0 : Class := { plain "java/lang/Object" none with
  accessFlags := 33
  interfaces := #[]
  cf := some (fileOf pool0 8 #[] #[{ accessFlags := 1, nameIndex := 5, descriptorIndex := 6, attributes := #[] }] 33 0 #[] #[])
  fields := #[]
  methods := #[k0m0]
  instanceTypes := #[]
  staticTypes := #[]
  resolved := Array.replicate 124 none
  statics := none }

def pool1 : Array CpInfo := pool [(2, .class_ 4), (1, u "java/lang/Object"), (0, u "<init>"), (0, u "()V"), (0, .fieldref 8 9), (0, .class_ 10), (0, .nameAndType 11 12), (0, u "com/example/ctl_checker/ctlchecker/SmvExpression$Type"), (0, u "CONDITION"), (0, u "Lcom/example/ctl_checker/ctlchecker/SmvExpression$Type;"), (0, .fieldref 8 14), (0, .nameAndType 15 12), (0, u "INTEGER"), (0, .fieldref 8 17), (0, .nameAndType 18 12), (0, u "SYMBOLIC"), (0, .fieldref 8 20), (0, .nameAndType 21 12), (0, u "CONDITION_SET"), (0, .fieldref 8 23), (0, .nameAndType 24 12), (0, u "INTEGER_SET"), (0, .fieldref 8 26), (0, .nameAndType 27 12), (0, u "SYMBOLIC_SET"), (0, .integer 2147483647), (0, .methodref 30 31), (0, .class_ 32), (0, .nameAndType 33 34), (0, u "com/example/ctl_checker/ctlchecker/TypeIsSetPinLaw"), (0, u "pick"), (0, u "(I)Lcom/example/ctl_checker/ctlchecker/SmvExpression$Type;"), (0, .methodref 8 36), (0, .nameAndType 37 38), (0, u "isSet"), (0, u "()Z"), (0, .methodref 8 40), (0, .nameAndType 41 42), (0, u "element"), (0, u "()Lcom/example/ctl_checker/ctlchecker/SmvExpression$Type;"), (0, .methodref 8 44), (0, .nameAndType 45 42), (0, u "set"), (3, u "law"), (0, u "(I)Z")] 6

def k1m0 : Method := { name := "<init>", desc := "()V", sig := { parameters := [], returnType := none }, accessFlags := 1, code := none }
def k1c1 : Code := { maxStack := 2, maxLocals := 1, code := method_2_code, exceptionTable := #[], attributes := #[] }
def k1m1 : Method := { name := "pick", desc := "(I)Lcom/example/ctl_checker/ctlchecker/SmvExpression$Type;", sig := { parameters := [.int], returnType := some (.object "com/example/ctl_checker/ctlchecker/SmvExpression$Type") }, accessFlags := 10, code := some k1c1 }
def k1c2 : Code := { maxStack := 3, maxLocals := 6, code := code, exceptionTable := #[], attributes := #[] }
def k1m2 : Method := { name := "law", desc := "(I)Z", sig := { parameters := [.int], returnType := some .boolean }, accessFlags := 9, code := some k1c2 }
/-- com/example/ctl_checker/ctlchecker/TypeIsSetPinLaw -/
def k1 : Class := { plain "com/example/ctl_checker/ctlchecker/TypeIsSetPinLaw" (some 0) with
  accessFlags := 49
  interfaces := #[]
  cf := some (fileOf pool1 30 #[] #[{ accessFlags := 1, nameIndex := 5, descriptorIndex := 6, attributes := #[] }, { accessFlags := 10, nameIndex := 33, descriptorIndex := 34, attributes := #[] }, { accessFlags := 9, nameIndex := 49, descriptorIndex := 50, attributes := #[] }] 49 2 #[] #[])
  fields := #[]
  methods := #[k1m0, k1m1, k1m2]
  instanceTypes := #[]
  staticTypes := #[]
  resolved := Array.replicate 57 none
  statics := none }

def pool2 : Array CpInfo := pool [(1, .class_ 2), (0, u "java/lang/constant/Constable"), (0, .class_ 4), (0, u "java/lang/Object")] 6

/-- java/lang/constant/Constable -/
def k2 : Class := { plain "java/lang/constant/Constable" (some 0) with
  accessFlags := 1537
  interfaces := #[]
  cf := some (fileOf pool2 1 #[] #[] 1537 3 #[] #[])
  fields := #[]
  methods := #[]
  instanceTypes := #[]
  staticTypes := #[]
  resolved := Array.replicate 11 none
  statics := none }

def pool3 : Array CpInfo := pool [(1, .class_ 2), (0, u "java/lang/Comparable"), (0, .class_ 4), (0, u "java/lang/Object")] 7

/-- java/lang/Comparable -/
def k3 : Class := { plain "java/lang/Comparable" (some 0) with
  accessFlags := 1537
  interfaces := #[]
  cf := some (fileOf pool3 1 #[] #[] 1537 3 #[] #[])
  fields := #[]
  methods := #[]
  instanceTypes := #[]
  staticTypes := #[]
  resolved := Array.replicate 12 none
  statics := none }

def pool4 : Array CpInfo := pool [(1, .class_ 2), (0, u "java/io/Serializable"), (0, .class_ 4), (0, u "java/lang/Object")] 2

/-- java/io/Serializable -/
def k4 : Class := { plain "java/io/Serializable" (some 0) with
  accessFlags := 1537
  interfaces := #[]
  cf := some (fileOf pool4 1 #[] #[] 1537 3 #[] #[])
  fields := #[]
  methods := #[]
  instanceTypes := #[]
  staticTypes := #[]
  resolved := Array.replicate 7 none
  statics := none }

def pool5 : Array CpInfo := pool [(2, .class_ 4), (1, u "java/lang/Enum"), (0, u "name"), (0, u "Ljava/lang/String;"), (0, .fieldref 2 8), (0, .nameAndType 9 10), (0, u "ordinal"), (0, u "I"), (1, .class_ 14), (1, u "java/lang/Object"), (4, u "hash"), (86, .class_ 108), (1, u "java/lang/Enum$EnumDesc"), (2, .class_ 112), (0, u "java/lang/constant/Constable"), (0, .class_ 114), (0, u "java/lang/Comparable"), (0, .class_ 116), (0, u "java/io/Serializable"), (9, u "()I")] 77

def k5c0 : Code := { maxStack := 1, maxLocals := 1, code := jdk_37_method_2_code, exceptionTable := #[], attributes := #[] }
def k5m0 : Method := { name := "ordinal", desc := "()I", sig := { parameters := [], returnType := some .int }, accessFlags := 17, code := some k5c0 }
/-- java/lang/Enum -/
def k5 : Class := { plain "java/lang/Enum" (some 0) with
  accessFlags := 1057
  interfaces := #[2, 3, 4]
  cf := some (fileOf pool5 2 #[.nestMembers #[106]] #[{ accessFlags := 17, nameIndex := 9, descriptorIndex := 126, attributes := #[] }] 1057 12 #[111, 113, 115] #[{ accessFlags := 18, nameIndex := 5, descriptorIndex := 6, attributes := #[] }, { accessFlags := 18, nameIndex := 9, descriptorIndex := 10, attributes := #[] }, { accessFlags := 2, nameIndex := 19, descriptorIndex := 10, attributes := #[] }])
  fields := #[{ name := "name", type := (.object "java/lang/String"), accessFlags := 18, slot := 0, constantValue := 0 }, { name := "ordinal", type := .int, accessFlags := 18, slot := 1, constantValue := 0 }, { name := "hash", type := .int, accessFlags := 2, slot := 2, constantValue := 0 }]
  methods := #[k5m0]
  instanceTypes := #[(.object "java/lang/String"), .int, .int]
  staticTypes := #[]
  resolved := Array.replicate 204 none
  statics := none }

def pool6 : Array CpInfo := pool [(1, .class_ 2), (0, u "com/example/ctl_checker/ctlchecker/SmvExpression$Type"), (0, .fieldref 1 4), (0, .nameAndType 5 6), (0, u "CONDITION"), (0, u "Lcom/example/ctl_checker/ctlchecker/SmvExpression$Type;"), (0, .fieldref 1 8), (0, .nameAndType 9 6), (0, u "INTEGER"), (0, .fieldref 1 11), (0, .nameAndType 12 6), (0, u "SYMBOLIC"), (0, .fieldref 1 14), (0, .nameAndType 15 6), (0, u "CONDITION_SET"), (0, .fieldref 1 17), (0, .nameAndType 18 6), (0, u "INTEGER_SET"), (0, .fieldref 1 20), (0, .nameAndType 21 6), (0, u "SYMBOLIC_SET"), (2, u "$VALUES"), (0, u "[Lcom/example/ctl_checker/ctlchecker/SmvExpression$Type;"), (6, .class_ 34), (1, u "java/lang/Enum"), (6, .methodref 1 42), (0, .nameAndType 43 44), (0, u "ordinal"), (0, u "()I"), (18, u "isSet"), (0, u "()Z"), (1, u "element"), (0, u "()Lcom/example/ctl_checker/ctlchecker/SmvExpression$Type;"), (0, u "set"), (5, .class_ 75), (0, u "com/example/ctl_checker/ctlchecker/SmvExpression")] 2

def k6c0 : Code := { maxStack := 2, maxLocals := 1, code := prog_62_method_4_code, exceptionTable := #[], attributes := #[] }
def k6m0 : Method := { name := "isSet", desc := "()Z", sig := { parameters := [], returnType := some .boolean }, accessFlags := 0, code := some k6c0 }
def k6c1 : Code := { maxStack := 1, maxLocals := 1, code := prog_62_method_5_code, exceptionTable := #[], attributes := #[] }
def k6m1 : Method := { name := "element", desc := "()Lcom/example/ctl_checker/ctlchecker/SmvExpression$Type;", sig := { parameters := [], returnType := some (.object "com/example/ctl_checker/ctlchecker/SmvExpression$Type") }, accessFlags := 0, code := some k6c1 }
def k6c2 : Code := { maxStack := 1, maxLocals := 1, code := prog_62_method_6_code, exceptionTable := #[], attributes := #[] }
def k6m2 : Method := { name := "set", desc := "()Lcom/example/ctl_checker/ctlchecker/SmvExpression$Type;", sig := { parameters := [], returnType := some (.object "com/example/ctl_checker/ctlchecker/SmvExpression$Type") }, accessFlags := 0, code := some k6c2 }
/-- com/example/ctl_checker/ctlchecker/SmvExpression$Type -/
def k6 : Class := { plain "com/example/ctl_checker/ctlchecker/SmvExpression$Type" (some 5) with
  accessFlags := 16432
  interfaces := #[]
  cf := some (fileOf pool6 1 #[.nestHost 74] #[{ accessFlags := 0, nameIndex := 63, descriptorIndex := 64, attributes := #[] }, { accessFlags := 0, nameIndex := 66, descriptorIndex := 67, attributes := #[] }, { accessFlags := 0, nameIndex := 68, descriptorIndex := 67, attributes := #[] }] 16432 32 #[] #[{ accessFlags := 16409, nameIndex := 5, descriptorIndex := 6, attributes := #[] }, { accessFlags := 16409, nameIndex := 9, descriptorIndex := 6, attributes := #[] }, { accessFlags := 16409, nameIndex := 12, descriptorIndex := 6, attributes := #[] }, { accessFlags := 16409, nameIndex := 15, descriptorIndex := 6, attributes := #[] }, { accessFlags := 16409, nameIndex := 18, descriptorIndex := 6, attributes := #[] }, { accessFlags := 16409, nameIndex := 21, descriptorIndex := 6, attributes := #[] }, { accessFlags := 4122, nameIndex := 24, descriptorIndex := 25, attributes := #[] }])
  fields := #[{ name := "CONDITION", type := (.object "com/example/ctl_checker/ctlchecker/SmvExpression$Type"), accessFlags := 16409, slot := 0, constantValue := 0 }, { name := "INTEGER", type := (.object "com/example/ctl_checker/ctlchecker/SmvExpression$Type"), accessFlags := 16409, slot := 1, constantValue := 0 }, { name := "SYMBOLIC", type := (.object "com/example/ctl_checker/ctlchecker/SmvExpression$Type"), accessFlags := 16409, slot := 2, constantValue := 0 }, { name := "CONDITION_SET", type := (.object "com/example/ctl_checker/ctlchecker/SmvExpression$Type"), accessFlags := 16409, slot := 3, constantValue := 0 }, { name := "INTEGER_SET", type := (.object "com/example/ctl_checker/ctlchecker/SmvExpression$Type"), accessFlags := 16409, slot := 4, constantValue := 0 }, { name := "SYMBOLIC_SET", type := (.object "com/example/ctl_checker/ctlchecker/SmvExpression$Type"), accessFlags := 16409, slot := 5, constantValue := 0 }, { name := "$VALUES", type := (.array (.object "com/example/ctl_checker/ctlchecker/SmvExpression$Type")), accessFlags := 4122, slot := 6, constantValue := 0 }]
  methods := #[k6m0, k6m1, k6m2]
  instanceTypes := #[(.object "java/lang/String"), .int, .int]
  staticTypes := #[(.object "com/example/ctl_checker/ctlchecker/SmvExpression$Type"), (.object "com/example/ctl_checker/ctlchecker/SmvExpression$Type"), (.object "com/example/ctl_checker/ctlchecker/SmvExpression$Type"), (.object "com/example/ctl_checker/ctlchecker/SmvExpression$Type"), (.object "com/example/ctl_checker/ctlchecker/SmvExpression$Type"), (.object "com/example/ctl_checker/ctlchecker/SmvExpression$Type"), (.array (.object "com/example/ctl_checker/ctlchecker/SmvExpression$Type"))]
  resolved := Array.replicate 78 none
  statics := some 0 }

def pool7 : Array CpInfo := pool [(1, u "java/lang/Cloneable"), (0, .class_ 1), (0, u "java/lang/Object"), (0, .class_ 3)] 3

/-- java/lang/Cloneable -/
def k7 : Class := { plain "java/lang/Cloneable" (some 0) with
  accessFlags := 1537
  interfaces := #[]
  cf := some (fileOf pool7 2 #[] #[] 1537 4 #[] #[])
  fields := #[]
  methods := #[]
  instanceTypes := #[]
  staticTypes := #[]
  resolved := Array.replicate 8 none
  statics := none }

/-- the primitive byte -/
def k8 : Class := { plain "byte" none with kind := .primitive 'B', accessFlags := 0x411 }
/-- [B -/
def k9 : Class := { plain "[B" (some 0) with kind := .array 8 .byte, interfaces := #[7, 4], accessFlags := 1041 }

/-- the primitive int -/
def k10 : Class := { plain "int" none with kind := .primitive 'I', accessFlags := 0x411 }
/-- [I -/
def k11 : Class := { plain "[I" (some 0) with kind := .array 10 .int, interfaces := #[7, 4], accessFlags := 1041 }

def heap : Heap := #[{ cls := 6, slots := #[.ref 1, .ref 2, .ref 3, .ref 4, .ref 5, .ref 6, .null], vm := .statics 6 },
  { cls := 6, slots := #[.null, .int 0, .int 0], vm := .none },
  { cls := 6, slots := #[.null, .int 1, .int 0], vm := .none },
  { cls := 6, slots := #[.null, .int 2, .int 0], vm := .none },
  { cls := 6, slots := #[.null, .int 3, .int 0], vm := .none },
  { cls := 6, slots := #[.null, .int 4, .int 0], vm := .none },
  { cls := 6, slots := #[.null, .int 5, .int 0], vm := .none }]
def classes : Array Class := #[k0, k1, k2, k3, k4, k5, k6, k7, k8, k9, k10, k11]
def interned : List (Array UInt16 × Addr) := []
def slotsUsed : Nat := 25
def theMethod : MethodId := ⟨1, 2⟩
def args0 : Array Value := #[.int 4]
def aboutOver (below : List Frame) : State where
  vm := { classes := classes, interned := interned.toArray }
  heap := heap
  slotsUsed := slotsUsed
  threads := #[{ frames := .invoking theMethod args0 :: below }]
def below0 : List Frame := [.native { method := ⟨0, 0⟩, args := #[] }]
def about1 : State := aboutOver below0
def p0 : Program := .bare "" "" ""
def e0 : Env := launch0.env 0 0 0
theorem w_frames : about1.frames = Frame.invoking theMethod args0 :: below0 := rfl
set_option maxRecDepth 65536 in
theorem w_args : argsFit about1.vm theMethod args0 = true := by decide +kernel
set_option maxRecDepth 65536 in
theorem w_heap : heapFits about1 = true := by decide +kernel
set_option maxRecDepth 65536 in
theorem w_runnable : about1.curStatus? = some .runnable := by decide +kernel
set_option maxRecDepth 65536 in
theorem w_alone : about1.alone = true := by decide +kernel
set_option maxRecDepth 65536 in
theorem w_named : about1.methodNamed? x = some theMethod := by decide +kernel
set_option maxRecDepth 65536 in
theorem w_hears : about1.hears theMethod below0 = true := by decide +kernel
set_option maxRecDepth 65536 in
theorem w_ripe : about1.ripe theMethod args0 below0 = true := by decide +kernel
theorem w_running : about1.status = .running := rfl
set_option maxRecDepth 65536 in
theorem w_room : about1.hasRoom e0.platform room_1 = true :=
  launch0.hasRoom_least _ room_1 (by decide +kernel) (by decide +kernel) (by decide +kernel) (by decide +kernel) (by decide +kernel) (by decide +kernel)
theorem allAtoms_all (ts : List Jvm.Cond) (a : Array Jvm.Value) (st : Jvm.State) : (allAtoms ts).before a st = ts.all (fun c => c.before a st) := by
  induction ts with
  | nil => rfl
  | cons c t ih =>
    show (Jvm.Cond.and c (allAtoms t)).before a st = _
    rw [Jvm.Cond.before_and, ih, List.all_cons]
def words1 : List Jvm.Cond := Jvm.Cond.code x code maxLocals ret :: tables_1
/-- a 'code' word, met by the world's own term for the bytes: nothing is compared byte by byte -/
theorem code_word {y : MethodName} {bytes : ByteArray} {mx : Nat} {rt : Option FieldType} {a : Array Value} {s : State} {m : MethodId} {meth : Method} {c : Code} (h1 : s.methodNamed? y = some m) (h2 : s.vm.method? m = some meth) (h3 : meth.code = some c) (h4 : c.code = bytes)
    (h5 : (c.maxLocals == mx && c.exceptionTable.isEmpty && decide (c.maxStack ≤ mostOperands) && decide (meth.sig.returnType = rt) && !meth.locks && decide (parseMethodDescriptor y.desc = some meth.sig)) = true) : (Jvm.Cond.code y bytes mx rt).before a s = true := by
  simp only [Bool.and_eq_true, beq_iff_eq, Bool.not_eq_true', decide_eq_true_eq] at h5
  obtain ⟨⟨⟨⟨⟨g1, g2⟩, g3⟩, g4⟩, g5⟩, g6⟩ := h5
  simp [Cond.before, Cond.holds, Cond.value, h1, h2, h3, h4, g1, g2, g3, g4, g5, g6]
def isCode : Jvm.Cond → Bool
  | .code _ _ _ _ => true
  | _ => false
theorem all_split {L : List Jvm.Cond} {P : Jvm.Cond → Bool} (h1 : L.all (fun c => isCode c || P c) = true) (h2 : ∀ c ∈ L.filter isCode, P c = true) : L.all P = true := by
  refine List.all_eq_true.mpr fun c hc => ?_
  have h := List.all_eq_true.mp h1 c hc
  rcases Bool.eq_false_or_eq_true (isCode c) with hi | hi
  · exact h2 c (List.mem_filter.mpr ⟨hc, hi⟩)
  · simpa [hi] using h
set_option maxRecDepth 65536 in
theorem w_c0 : (Jvm.Cond.code x code maxLocals ret).before args0 about1 = true := code_word (m := ⟨1, 2⟩) (meth := k1m2) (c := k1c2) (by decide +kernel) rfl rfl rfl (by decide +kernel)
set_option maxRecDepth 65536 in
theorem w_c1 : (Jvm.Cond.code ({ cls := "com/example/ctl_checker/ctlchecker/TypeIsSetPinLaw", name := "pick", desc := "(I)Lcom/example/ctl_checker/ctlchecker/SmvExpression$Type;" } : Jvm.MethodName) method_2_code (1 : Nat) (Option.some (Jvm.ClassFile.FieldType.object "com/example/ctl_checker/ctlchecker/SmvExpression$Type"))).before args0 about1 = true := code_word (m := ⟨1, 1⟩) (meth := k1m1) (c := k1c1) (by decide +kernel) rfl rfl rfl (by decide +kernel)
set_option maxRecDepth 65536 in
theorem w_c2 : (Jvm.Cond.code ({ cls := "com/example/ctl_checker/ctlchecker/SmvExpression$Type", name := "isSet", desc := "()Z" } : Jvm.MethodName) prog_62_method_4_code (1 : Nat) (Option.some Jvm.ClassFile.FieldType.boolean)).before args0 about1 = true := code_word (m := ⟨6, 0⟩) (meth := k6m0) (c := k6c0) (by decide +kernel) rfl rfl rfl (by decide +kernel)
set_option maxRecDepth 65536 in
theorem w_c3 : (Jvm.Cond.code ({ cls := "com/example/ctl_checker/ctlchecker/SmvExpression$Type", name := "element", desc := "()Lcom/example/ctl_checker/ctlchecker/SmvExpression$Type;" } : Jvm.MethodName) prog_62_method_5_code (1 : Nat) (Option.some (Jvm.ClassFile.FieldType.object "com/example/ctl_checker/ctlchecker/SmvExpression$Type"))).before args0 about1 = true := code_word (m := ⟨6, 1⟩) (meth := k6m1) (c := k6c1) (by decide +kernel) rfl rfl rfl (by decide +kernel)
set_option maxRecDepth 65536 in
theorem w_c4 : (Jvm.Cond.code ({ cls := "java/lang/Enum", name := "ordinal", desc := "()I" } : Jvm.MethodName) jdk_37_method_2_code (1 : Nat) (Option.some Jvm.ClassFile.FieldType.int)).before args0 about1 = true := code_word (m := ⟨5, 0⟩) (meth := k5m0) (c := k5c0) (by decide +kernel) rfl rfl rfl (by decide +kernel)
set_option maxRecDepth 65536 in
theorem w_c5 : (Jvm.Cond.code ({ cls := "com/example/ctl_checker/ctlchecker/SmvExpression$Type", name := "set", desc := "()Lcom/example/ctl_checker/ctlchecker/SmvExpression$Type;" } : Jvm.MethodName) prog_62_method_6_code (1 : Nat) (Option.some (Jvm.ClassFile.FieldType.object "com/example/ctl_checker/ctlchecker/SmvExpression$Type"))).before args0 about1 = true := code_word (m := ⟨6, 2⟩) (meth := k6m2) (c := k6c2) (by decide +kernel) rfl rfl rfl (by decide +kernel)
def codes1 : List Jvm.Cond := [Jvm.Cond.code x code maxLocals ret, Jvm.Cond.code ({ cls := "com/example/ctl_checker/ctlchecker/TypeIsSetPinLaw", name := "pick", desc := "(I)Lcom/example/ctl_checker/ctlchecker/SmvExpression$Type;" } : Jvm.MethodName) method_2_code (1 : Nat) (Option.some (Jvm.ClassFile.FieldType.object "com/example/ctl_checker/ctlchecker/SmvExpression$Type")), Jvm.Cond.code ({ cls := "com/example/ctl_checker/ctlchecker/SmvExpression$Type", name := "isSet", desc := "()Z" } : Jvm.MethodName) prog_62_method_4_code (1 : Nat) (Option.some Jvm.ClassFile.FieldType.boolean), Jvm.Cond.code ({ cls := "com/example/ctl_checker/ctlchecker/SmvExpression$Type", name := "element", desc := "()Lcom/example/ctl_checker/ctlchecker/SmvExpression$Type;" } : Jvm.MethodName) prog_62_method_5_code (1 : Nat) (Option.some (Jvm.ClassFile.FieldType.object "com/example/ctl_checker/ctlchecker/SmvExpression$Type")), Jvm.Cond.code ({ cls := "java/lang/Enum", name := "ordinal", desc := "()I" } : Jvm.MethodName) jdk_37_method_2_code (1 : Nat) (Option.some Jvm.ClassFile.FieldType.int), Jvm.Cond.code ({ cls := "com/example/ctl_checker/ctlchecker/SmvExpression$Type", name := "set", desc := "()Lcom/example/ctl_checker/ctlchecker/SmvExpression$Type;" } : Jvm.MethodName) prog_62_method_6_code (1 : Nat) (Option.some (Jvm.ClassFile.FieldType.object "com/example/ctl_checker/ctlchecker/SmvExpression$Type"))]
set_option maxRecDepth 65536 in
theorem codes_eq : words1.filter isCode = codes1 := rfl
theorem w_codes : ∀ c ∈ words1.filter isCode, c.before args0 about1 = true := by
  rw [codes_eq]
  intro c hc
  simp only [codes1, List.mem_cons, List.not_mem_nil, or_false] at hc
  rcases hc with rfl | rfl | rfl | rfl | rfl | rfl
  · exact w_c0
  · exact w_c1
  · exact w_c2
  · exact w_c3
  · exact w_c4
  · exact w_c5
set_option maxRecDepth 65536 in
theorem w_t1 : (words1.take 24).all (fun c => isCode c || c.before args0 about1) = true := by decide +kernel
set_option maxRecDepth 65536 in
theorem w_t2 : ((words1.drop 24).take 24).all (fun c => isCode c || c.before args0 about1) = true := by decide +kernel
set_option maxRecDepth 65536 in
theorem w_t3 : ((words1.drop 24).drop 24).all (fun c => isCode c || c.before args0 about1) = true := by decide +kernel
theorem w_tables : (allAtoms (Jvm.Cond.code x code maxLocals ret :: tables_1)).before args0 about1 = true := by
  rw [allAtoms_all]
  show words1.all (fun c => c.before args0 about1) = true
  refine all_split ?_ w_codes
  rw [← List.take_append_drop 24 words1, List.all_append, w_t1, ← List.take_append_drop 24 (words1.drop 24), List.all_append, w_t2, w_t3]
  rfl
set_option maxRecDepth 65536 in
theorem w_case : (Jvm.Cond.and given_1 narrow_1).before args0 about1 = true := by decide +kernel
theorem w_applies : (headSpec (Jvm.Cond.code x code maxLocals ret :: tables_1) room_1).applies x e0.platform about1 = true :=
  (Spec.applies_iff w_frames).mpr ⟨w_running, w_runnable, w_alone, w_named, w_hears, w_ripe, w_room, w_tables⟩
theorem atStart : AtStart classFile x code maxLocals ret World_1 tables_1 room_1 Calls_1 rest_1 Pre_1 launch0 p0 e0 about1 theMethod args0 below0 :=
  ⟨lists_1, trivial, launch0.admits_env _ _ _, launch0.least_env, fairChoices_fair.cas, fairChoices_fair.clock, w_frames, w_args, w_heap, w_applies, trivial, trivial, w_case⟩
end start1
theorem witness_1 : WitnessClaimed_1 := ⟨start1.p0, start1.e0, start1.about1, start1.theMethod, start1.args0, start1.below0, start1.atStart⟩
end Jvm.Pilot.@@N@@

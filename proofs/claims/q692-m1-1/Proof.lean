import JvmDerived
import JvmDerived.Pilot.@@N@@Statement
import JvmDerived.Pilot.@@N@@Code
set_option linter.unusedVariables false
set_option linter.unusedSimpArgs false
namespace Jvm.RoadKit
open Sem ClassFile Op Lib Jvm.Stand Jvm.Free Jvm.LawKit
section New
variable {p : Program} {l : Launch} {e : Env} {R : Room} {s : State} {m : MethodId} {args : Array Value} {below : List Frame} {meth : Method} {c : Code} {T : State} {locs : List Loc} {cells slots : Nat}
theorem retI (X : Stand p l e R s m args below meth c T locs cells slots) (hx : p.tables.exec = Jvm.exec) {pc : Nat} {Ls : Array Slot} {z : Int32} {rest : List Value} (hret : meth.sig.returnType = some .int) (hd : decode c.code pc = .ok (.ireturn, 1)) {fs : List Frame}
    (hl : ∀ (f : JFrame) (acts : List Action), f.method = m → f.locked = none → f.entered = [] → (doReturn e (T.setTop f) acts (some (.int z))).1 = T.setFrames fs) : Steps p.tables e below (T.setTop (mkF m pc Ls (.int z :: rest))) (T.setFrames fs) := by
  have hm' : T.vm.method? m = some meth := X.method'
  have hn : narrow .int (.int z) = .int z := rfl
  show Steps p.tables e below (T.setTop { method := m, pc := pc, locals := Ls, stack := _ :: rest, locked := none }) _
  jvm_step X.here [X.here.top, hx, hd, hm', hret, hn]
  first | (intro acts; rw [hl _ acts rfl rfl rfl]) | rw [hl _ _ rfl rfl rfl]
  exact Steps.refl _
end New
end Jvm.RoadKit
namespace Jvm.Pilot.@@N@@
open Jvm Jvm.ClassFile Sem Op Lib Jvm.Free Jvm.Stand Jvm.LawKit Jvm.RoadKit Bundle Jvm.Pilot.@@N@@.Jvm.D
theorem own_retD {p : Program} {l : Launch} {e : Env} {R : Room} {s : State} {m : MethodId} {args : Array Value} {below : List Frame} {meth : Method} {c : Code} {T : State} {locs : List Loc} {cells slots : Nat} (X : Stand p l e R s m args below meth c T locs cells slots) (hx : p.tables.exec = Jvm.exec) {pc : Nat} {Ls : Array Slot} {z : UInt64} {rest : List Value} (hret : meth.sig.returnType = some .double) (hd : decode c.code pc = .ok (.dreturn, 1)) {fs : List Frame}
    (hl : ∀ (f : JFrame) (acts : List Action), f.method = m → f.locked = none → f.entered = [] → (doReturn e (T.setTop f) acts (some (.double z))).1 = T.setFrames fs) : Steps p.tables e below (T.setTop (mkF m pc Ls (.double z :: rest))) (T.setFrames fs) := by
  have hm' : T.vm.method? m = some meth := X.method'
  show Steps p.tables e below (T.setTop { method := m, pc := pc, locals := Ls, stack := _ :: rest, locked := none }) _
  jvm_step X.here [X.here.top, hx, hd, hm', hret, narrow]
  first | (intro acts; rw [hl _ acts rfl rfl rfl]) | rw [hl _ _ rfl rfl rfl]
  exact Steps.refl _
theorem own_retL {p : Program} {l : Launch} {e : Env} {R : Room} {s : State} {m : MethodId} {args : Array Value} {below : List Frame} {meth : Method} {c : Code} {T : State} {locs : List Loc} {cells slots : Nat} (X : Stand p l e R s m args below meth c T locs cells slots) (hx : p.tables.exec = Jvm.exec) {pc : Nat} {Ls : Array Slot} {z : Int64} {rest : List Value} (hret : meth.sig.returnType = some .long) (hd : decode c.code pc = .ok (.lreturn, 1)) {fs : List Frame}
    (hl : ∀ (f : JFrame) (acts : List Action), f.method = m → f.locked = none → f.entered = [] → (doReturn e (T.setTop f) acts (some (.long z))).1 = T.setFrames fs) : Steps p.tables e below (T.setTop (mkF m pc Ls (.long z :: rest))) (T.setFrames fs) := by
  have hm' : T.vm.method? m = some meth := X.method'
  show Steps p.tables e below (T.setTop { method := m, pc := pc, locals := Ls, stack := _ :: rest, locked := none }) _
  jvm_step X.here [X.here.top, hx, hd, hm', hret, narrow]
  first | (intro acts; rw [hl _ acts rfl rfl rfl]) | rw [hl _ _ rfl rfl rfl]
  exact Steps.refl _
theorem own_cl {i : Nat} {j : Int32} (hj : j = Int32.ofNat i) (hi : i < 2147483648) : j.toInt = (i : Int) ∧ j.toNatClampNeg = i := by
  subst hj
  have e : (Int32.ofNat i).toInt = (i : Int) := Int32.toInt_ofNat_of_lt (by omega)
  refine ⟨e, ?_⟩
  show (Int32.ofNat i).toInt.toNat = i
  rw [e]
  omega
theorem own_inb {c : Cell} {n i : Nat} {j : Int32} (S : c.slots.size = n) (hj : j = Int32.ofNat i) (hi : i < n) (hn : n < 2147483648) : ¬ (j < 0 ∨ c.slots.size ≤ j.toNatClampNeg) := by
  obtain ⟨e1, e2⟩ := own_cl hj (by omega)
  rintro (q | q)
  · rw [Int32.lt_iff_toInt_lt, e1, show (0 : Int32).toInt = 0 by decide] at q
    omega
  · rw [S, e2] at q
    omega
theorem own_at {c : Cell} {n i : Nat} {j : Int32} {f : Nat → Value} {v : Value} (H : ∀ i, i < n → c.slots[i]? = some (f i)) (hj : j = Int32.ofNat i) (hi : i < n) (hn : n < 2147483648) (hv : f i = v) : c.slots[j.toNatClampNeg]? = some v := by
  rw [(own_cl hj (by omega)).2, ← hv]
  exact H i hi
/-! q692: what a Distribution is: its size and the first places of its three arrays -/
def own_Fp (Z : State) (h : Heap) (a : Addr) (ty : FieldType) (len n : Nat) (f : Nat → Value) : Prop := ∃ c : Cell, RoadKit.Arr Z h a c ty ∧ c.slots.size = len ∧ ∀ i, i < n → c.slots[i]? = some (f i)
theorem own_Fp.lt {Z : State} {h : Heap} {a : Addr} {ty : FieldType} {len n : Nat} {f : Nat → Value} (F : own_Fp Z h a ty len n f) : a < h.size := by obtain ⟨c, A, -⟩ := F; exact A.lt
theorem own_Fp.ext {Z : State} {h h' : Heap} {a : Addr} {ty : FieldType} {len n : Nat} {f : Nat → Value} (F : own_Fp Z h a ty len n f) (E : Ext h h') : own_Fp Z h' a ty len n f := by obtain ⟨c, A, r⟩ := F; exact ⟨c, A.ext E, r⟩
theorem own_Fp.other {Z : State} {h h' : Heap} {a b : Addr} {ty : FieldType} {len n sl : Nat} {f : Nat → Value} {v : Value} (F : own_Fp Z h b ty len n f) (W : Wr h h' a sl v) (q : b ≠ a) : own_Fp Z h' b ty len n f := by obtain ⟨c, A, r⟩ := F; exact ⟨c, A.other W q, r⟩
theorem own_Fp.keep {Z : State} {h h' : Heap} {a : Addr} {ty : FieldType} {len n : Nat} {f : Nat → Value} {ws : List Addr} (F : own_Fp Z h a ty len n f) (K : Keep h h' ws) (q : a ∉ ws) : own_Fp Z h' a ty len n f := by obtain ⟨c, A, r⟩ := F; exact ⟨c, ⟨K.2.1 a c A.1 q, A.2⟩, r⟩
theorem own_Fp.zero {Z : State} {h : Heap} {a : Addr} {k : ClassId} {ty : FieldType} {z : Int32} {vs : List Value} {d : Value} {len : Nat} (F : Arv Z h a k ty z vs d) (hn : z.toNatClampNeg = len) (f : Nat → Value) : own_Fp Z h a ty len 0 f := by
  obtain ⟨c, A, -, S, -⟩ := F
  exact ⟨c, A, S.trans hn, fun i hi => absurd hi (Nat.not_lt_zero i)⟩
/-- one place more -/
theorem own_snoc {Z : State} {h h' : Heap} {a : Addr} {ty : FieldType} {len n : Nat} {f : Nat → Value} {v : Value} {c : Cell} {j : Int32} (A : RoadKit.Arr Z h a c ty) (S : c.slots.size = len) (H : ∀ i, i < n → c.slots[i]? = some (f i)) (W : Wr h h' a j.toNatClampNeg v) (hj : j = Int32.ofNat n) (hi : n < len) (hn : len < 2147483648) (hv : f n = v) : own_Fp Z h' a ty len (n + 1) f := by
  refine ⟨_, A.same W, by rw [sz_set]; exact S, fun x hx => ?_⟩
  rw [(own_cl hj (by omega)).2]
  by_cases u : x = n
  · subst u
    rw [hv]
    simp [Cell.setSlot, S, hi]
  · have := H x (by omega)
    simp only [Cell.setSlot]
    rw [Array.getElem?_setIfInBounds_ne (fun q => u q.symm)]
    exact this
def own_D : String := "com/example/chance_checker/chancechecker/construction/Distribution"
def own_Di (Z : State) (h : Heap) (a t r p : Addr) (n : Nat) (ft fr : Nat → Int32) (fp : Nat → UInt64) : Prop :=
  Exa Z h a "com/example/chance_checker/chancechecker/construction/Distribution" ∧ Fld Z h a "com/example/chance_checker/chancechecker/construction/Distribution" "size" "I" (.int (Int32.ofNat n)) ∧ Fld Z h a "com/example/chance_checker/chancechecker/construction/Distribution" "targets" "[I" (.ref t) ∧ Fld Z h a "com/example/chance_checker/chancechecker/construction/Distribution" "resets" "[I" (.ref r) ∧ Fld Z h a "com/example/chance_checker/chancechecker/construction/Distribution" "probabilities" "[D" (.ref p) ∧
  own_Fp Z h t .int 8 n (fun i => .int (ft i)) ∧ own_Fp Z h r .int 8 n (fun i => .int (fr i)) ∧ own_Fp Z h p .double 8 n (fun i => .double (fp i)) ∧ a ≠ t ∧ a ≠ r ∧ a ≠ p ∧ t ≠ r ∧ t ≠ p ∧ r ≠ p
theorem own_Di.keep {Z : State} {h h' : Heap} {a t r p : Addr} {n : Nat} {ft fr : Nat → Int32} {fp : Nat → UInt64} {ws : List Addr} (D : own_Di Z h a t r p n ft fr fp) (K : Keep h h' ws) (qa : a ∉ ws) (qt : t ∉ ws) (qr : r ∉ ws) (qp : p ∉ ws) : own_Di Z h' a t r p n ft fr fp := by
  obtain ⟨E, S, T, R, P, FT, FR, FP', ne⟩ := D
  exact ⟨E.keep K, S.keep K qa, T.keep K qa, R.keep K qa, P.keep K qa, FT.keep K qt, FR.keep K qr, FP'.keep K qp, ne⟩
theorem own_Di.lt {Z : State} {h : Heap} {a t r p : Addr} {n : Nat} {ft fr : Nat → Int32} {fp : Nat → UInt64} (D : own_Di Z h a t r p n ft fr fp) : a < h.size ∧ t < h.size ∧ r < h.size ∧ p < h.size := by
  obtain ⟨E, S, T, R, P, FT, FR, FP', ne⟩ := D
  exact ⟨E.lt, FT.lt, FR.lt, FP'.lt⟩
/-- the two entries -/
def own_e {α : Type} (x y : α) (i : Nat) : α := if i = 0 then x else y
theorem own_e0 {α : Type} (x y : α) : own_e x y 0 = x := rfl
theorem own_e1 {α : Type} (x y : α) : own_e x y 1 = y := rfl
def own_t0 (t : Int32) : Int32 := (t &&& (1073741823 : Int32))
def own_t1 (t d : Int32) : Int32 := ((own_t0 t) + (d &&& (3 : Int32)))
def own_r1 (r d : Int32) : Int32 := if (d &&& (3 : Int32)) = (0 : Int32) then (r ^^^ (-1 : Int32)) else (r ^^^ ((d.toUInt32 >>> ((4 : Int32) &&& 31).toUInt32).toInt32))
def own_p0 (q : Int32) : UInt64 := (FP.ddiv (FP.i2d (q &&& (15 : Int32))) (4625196817309499392 : UInt64))
def own_p1 (q : Int32) : UInt64 := (FP.ddiv (FP.i2d (((q.toUInt32 >>> ((4 : Int32) &&& 31).toUInt32).toInt32) &&& (15 : Int32))) (4625196817309499392 : UInt64))
theorem own_nn (n : Int32) : Jvm.Free.Fl.NoNaN64 (FP.ddiv (FP.i2d n) (4625196817309499392 : UInt64)) := Jvm.Free.Fl.ddiv_out (Jvm.Free.Fl.i2d_fin n).noNaN (by unfold Jvm.Free.Fl.Fin64; decide) (by unfold Jvm.Free.Fl.Nz64; decide)
def own_bi (b : Bool) : Int32 := if b = true then 1 else 0
theorem own_bi_nz (b : Bool) : own_bi b = 0 ↔ b = false := by cases b <;> decide
/-- two entries agree -/
def own_eq4 (a b : Int32) (c : UInt64) (a' b' : Int32) (c' : UInt64) : Bool := decide (a = a') && (decide (b = b') && decide (cmpValue (FP.dcmp c c') .l = 0))
theorem own_cv (o : Option Ordering) : cmpValue o .l = 0 ↔ o = some .eq := by rcases o with _ | (_ | _ | _) <;> decide
theorem own_eq4_comm (a b : Int32) (c : UInt64) (a' b' : Int32) (c' : UInt64) : own_eq4 a b c a' b' c' = own_eq4 a' b' c' a b c := by
  have e : (cmpValue (FP.dcmp c c') .l = 0) ↔ (cmpValue (FP.dcmp c' c) .l = 0) := by
    rw [own_cv, own_cv, show FP.dcmp c' c = (FP.dcmp c c').map Ordering.swap from FP.Core.dcmp_swap c c']
    rcases FP.dcmp c c' with _ | (_ | _ | _) <;> decide
  unfold own_eq4
  rw [decide_eq_decide.mpr e, decide_eq_decide.mpr (eq_comm (a := a) (b := a')), decide_eq_decide.mpr (eq_comm (a := b) (b := b'))]
def own_all (E : Nat → Bool) : Nat → Nat → Bool
  | 0, _ => true
  | k + 1, i => E i && own_all E k (i + 1)
theorem own_all_s (E : Nat → Bool) (k i : Nat) : own_all E (k + 1) i = (E i && own_all E k (i + 1)) := rfl
def own_exp (na nb : Int32) (f g : Bool) : Bool := decide (na = nb) && ((decide (na < 1) || f) && (decide (na < 2) || g))
theorem own_small {k j : Nat} (hk : k < 3) (hj : j < 3) : (Int32.ofNat k = Int32.ofNat j) ↔ k = j := by
  have a : k = 0 ∨ k = 1 ∨ k = 2 := by omega
  have b : j = 0 ∨ j = 1 ∨ j = 2 := by omega
  rcases a with rfl | rfl | rfl <;> rcases b with rfl | rfl | rfl <;> decide
theorem own_law {k j : Nat} (hk : k < 3) (hj : j < 3) (E : Nat → Bool) : (decide (k = j) && own_all E k 0) = own_exp (Int32.ofNat k) (Int32.ofNat j) (E 0) (E 1) := by
  unfold own_exp
  have e : decide (Int32.ofNat k = Int32.ofNat j) = decide (k = j) := decide_eq_decide.mpr (own_small hk hj)
  rw [e]
  have a : k = 0 ∨ k = 1 ∨ k = 2 := by omega
  rcases a with rfl | rfl | rfl
  · rw [show decide (Int32.ofNat 0 < 1) = true by decide, show decide (Int32.ofNat 0 < 2) = true by decide]
    simp [own_all]
  · rw [show decide (Int32.ofNat 1 < 1) = false by decide, show decide (Int32.ofNat 1 < 2) = true by decide]
    simp [own_all]
  · rw [show decide (Int32.ofNat 2 < 1) = false by decide, show decide (Int32.ofNat 2 < 2) = false by decide]
    simp [own_all]
theorem own_law2 {k j : Nat} (hk : k < 3) (hj : j < 3) (E E' : Nat → Bool) (h : ∀ i, E' i = E i) : (decide (j = k) && own_all E' j 0) = own_exp (Int32.ofNat k) (Int32.ofNat j) (E 0) (E 1) := by
  rw [← own_law hk hj E]
  have e : E' = E := funext h
  subst e
  by_cases q : j = k
  · subst q
    rfl
  · rw [decide_eq_false q, decide_eq_false (fun z => q z.symm)]
    rfl
theorem own_mod3 (x : Int32) (h0 : 0 ≤ x.toInt) : ∃ k : Nat, k < 3 ∧ (x % (3 : Int32)) = Int32.ofNat k := by
  have g := (c_irem x (3 : Int32) 3 (by decide)).1 h0
  refine ⟨(x % (3 : Int32)).toInt.toNat, by omega, Int32.toInt_inj.mp ?_⟩
  rw [(own_cl (i := (x % (3 : Int32)).toInt.toNat) rfl (by omega)).1]
  omega
theorem d4_0 : decode method_4_code 0 = .ok (.iload_n 0, 1) := by decide +kernel
theorem d4_1 : decode method_4_code 1 = .ok (.ldc 42, 2) := by decide +kernel
theorem d4_3 : decode method_4_code 3 = .ok (.iand, 1) := by decide +kernel
theorem d4_4 : decode method_4_code 4 = .ok (.ireturn, 1) := by decide +kernel
theorem pn_4 : plainName "com/example/chance_checker/chancechecker/construction/DistributionSameAsPinLaw" = true := by first | (simp [plainName, overriddenIn]; done) | decide +kernel
theorem ef_4 (m : MethodId) (x0 : Int32) : entryFrame m #[(.int x0)] 1 = mkF m 0 #[.val (.int x0)] [] := by first | (simp [entryFrame, mkF, argsToLocals, Value.category]; done) | rfl
def Q4 (Z : State) (p1 : Int32) (h0 : Heap) (n0 : Nat) (v : Option Value) (h : Heap) (L : List Loc) : Prop := v = some (.int (p1 &&& (1073741823 : Int32))) ∧ L = [] ∧ h = h0
set_option maxRecDepth 65536 in
set_option maxHeartbeats 40000000 in
theorem rm4 (l : Launch) (Z : State) (a0 : Array Value) (hw : ∀ d ∈ tables_1, d.before a0 Z = true) (ws : List Jvm.Cond) (p1 : Int32) (h0 : Heap) (n0 : Nat) (Z0 : n0 ≤ h0.size) :
    MetFree l (⟨"com/example/chance_checker/chancechecker/construction/DistributionSameAsPinLaw", "target0", "(I)I"⟩ : MethodName) (head1 (Jvm.Cond.code (⟨"com/example/chance_checker/chancechecker/construction/DistributionSameAsPinLaw", "target0", "(I)I"⟩ : MethodName) method_4_code 1 (some .int) :: ws) ({ frames := 0, cells := 0, slots := 0, locals := 0 } : Room)) (fun a U => a = #[(.int p1)] ∧ Z.Warmed39 U.vm ∧ U.heap = h0) (fun _ _ _ _ _ => True) (fun _ U o U' => ∃ v L, o = .returned v ∧ Q4 Z p1 h0 n0 v U'.heap L ∧ FrameEnd U o U' L ({ frames := 0, cells := 0, slots := 0, locals := 0 } : Room).cells ({ frames := 0, cells := 0, slots := 0, locals := 0 } : Room).slots) := by
  refine MetFree.of_bodySF (plainFor_of_name pn_4) hisR ?_
  intro p e s m args below meth c s₁ Bd hml0 hP hK
  obtain ⟨rfl, hZ, hh⟩ := hP
  have hx := Bd.exec
  have hby := Bd.bytes
  have hml : c.maxLocals = 1 := hml0
  have hown : s.vm.findClass "com/example/chance_checker/chancechecker/construction/DistributionSameAsPinLaw" = some m.cls := findClass_of_methodNamed Bd.named
  have hnm := (name_of_methodNamed Bd.named Bd.method).1
  have X0 : Stand p l e ({ frames := 0, cells := 0, slots := 0, locals := 0 } : Room) s m #[(.int p1)] below meth c s₁ [] 0 0 := Stand.of_body Bd
  have e0 : s₁.heap = h0 := by rw [← hh, Bd.state]; rfl
  have N0 := Fr.nil n0
  have pre0 : ∀ t, Steps p.tables e below (s₁.setTop (mkF m 0 #[.val (.int p1)] [])) t → Steps p.tables e below (s₁.setTop (entryFrame m #[(.int p1)] 1)) t := fun t k => castTop (ef_4 m p1) k

  obtain ⟨fs, hr, hrun, hended, hW, hsame⟩ := X0.leave (v := some (.int (p1 &&& (1073741823 : Int32)))) (fun h => by rw [Bd.returns] at h; cases h)
  refine ⟨_, _, pre0 _ ?_, hrun, hended, _, _, rfl, ?_, ⟨_, rfl⟩, hW, hsame.mono (by decide) (by decide)⟩
  · show Steps p.tables e below (s₁.setTop (mkF m 0 #[.val (.int p1)] [])) _
    refine XS.iloadN X0.here hx rfl (hb hby d4_0) rfl ?_
    show Steps p.tables e below (s₁.setTop (mkF m 1 #[.val (.int p1)] [(.int p1)])) _
    refine X0.ldcInt hx hown (mvT hZ (hw _ (List.mem_of_getElem? (i := 33) rfl))) (g := (mkF m 1 #[.val (.int p1)] [(.int p1)])) rfl (hb hby d4_1) _ ?_
    show Steps p.tables e below (s₁.setTop (mkF m 3 #[.val (.int p1)] [(.int (1073741823 : Int32)), (.int p1)])) _
    refine XS.iand X0.here hx rfl (hb hby d4_3) rfl ?_
    show Steps p.tables e below (s₁.setTop (mkF m 4 #[.val (.int p1)] [(.int (p1 &&& (1073741823 : Int32)))])) _
    exact retI X0 hx Bd.returns (hb hby d4_4) hr
  · show Q4 Z p1 h0 n0 _ s₁.heap _
    rw [e0]
    exact ⟨rfl, rfl, rfl⟩
theorem d5_0 : decode method_5_code 0 = .ok (.iload_n 0, 1) := by decide +kernel
theorem d5_1 : decode method_5_code 1 = .ok (.invokestatic 13, 3) := by decide +kernel
theorem d5_4 : decode method_5_code 4 = .ok (.iload_n 1, 1) := by decide +kernel
theorem d5_5 : decode method_5_code 5 = .ok (.iconst 3, 1) := by decide +kernel
theorem d5_6 : decode method_5_code 6 = .ok (.iand, 1) := by decide +kernel
theorem d5_7 : decode method_5_code 7 = .ok (.iadd, 1) := by decide +kernel
theorem d5_8 : decode method_5_code 8 = .ok (.ireturn, 1) := by decide +kernel
theorem pn_5 : plainName "com/example/chance_checker/chancechecker/construction/DistributionSameAsPinLaw" = true := by first | (simp [plainName, overriddenIn]; done) | decide +kernel
theorem pd_5_2 : parseMethodDescriptor "(I)I" = some ⟨[.int], some .int⟩ := by decide +kernel
theorem ef_5 (m : MethodId) (x0 : Int32) (x1 : Int32) : entryFrame m #[(.int x0), (.int x1)] 2 = mkF m 0 #[.val (.int x0), .val (.int x1)] [] := by first | (simp [entryFrame, mkF, argsToLocals, Value.category]; done) | rfl
def Q5 (Z : State) (p1 : Int32) (p2 : Int32) (h0 : Heap) (n0 : Nat) (v : Option Value) (h : Heap) (L : List Loc) : Prop := v = some (.int ((own_t0 p1) + (p2 &&& (3 : Int32)))) ∧ L = [] ∧ h = h0
set_option maxRecDepth 65536 in
set_option maxHeartbeats 40000000 in
theorem rm5 (l : Launch) (Z : State) (a0 : Array Value) (hw : ∀ d ∈ tables_1, d.before a0 Z = true) (ws : List Jvm.Cond) (p1 : Int32) (p2 : Int32) (h0 : Heap) (n0 : Nat) (Z0 : n0 ≤ h0.size) :
    MetFree l (⟨"com/example/chance_checker/chancechecker/construction/DistributionSameAsPinLaw", "target1", "(II)I"⟩ : MethodName) (head1 (Jvm.Cond.code (⟨"com/example/chance_checker/chancechecker/construction/DistributionSameAsPinLaw", "target1", "(II)I"⟩ : MethodName) method_5_code 2 (some .int) :: ws) ({ frames := 1, cells := 0, slots := 0, locals := 12 } : Room)) (fun a U => a = #[(.int p1), (.int p2)] ∧ Z.Warmed39 U.vm ∧ U.heap = h0) (fun _ _ _ _ _ => True) (fun _ U o U' => ∃ v L, o = .returned v ∧ Q5 Z p1 p2 h0 n0 v U'.heap L ∧ FrameEnd U o U' L ({ frames := 1, cells := 0, slots := 0, locals := 12 } : Room).cells ({ frames := 1, cells := 0, slots := 0, locals := 12 } : Room).slots) := by
  refine MetFree.of_bodySF (plainFor_of_name pn_5) hisR ?_
  intro p e s m args below meth c s₁ Bd hml0 hP hK
  obtain ⟨rfl, hZ, hh⟩ := hP
  have hx := Bd.exec
  have hby := Bd.bytes
  have hml : c.maxLocals = 2 := hml0
  have hown : s.vm.findClass "com/example/chance_checker/chancechecker/construction/DistributionSameAsPinLaw" = some m.cls := findClass_of_methodNamed Bd.named
  have hnm := (name_of_methodNamed Bd.named Bd.method).1
  have X0 : Stand p l e ({ frames := 1, cells := 0, slots := 0, locals := 12 } : Room) s m #[(.int p1), (.int p2)] below meth c s₁ [] 0 0 := Stand.of_body Bd
  have e0 : s₁.heap = h0 := by rw [← hh, Bd.state]; rfl
  have N0 := Fr.nil n0
  have pre0 : ∀ t, Steps p.tables e below (s₁.setTop (mkF m 0 #[.val (.int p1), .val (.int p2)] [])) t → Steps p.tables e below (s₁.setTop (entryFrame m #[(.int p1), (.int p2)] 2)) t := fun t k => castTop (ef_5 m p1 p2) k
  obtain ⟨_, _, ⟨T3, L3, k3, n3⟩, -, X3, ⟨Lc3, hQ3, l3, y3, z3⟩, st3⟩ := Jvm.LawKit.callS X0 hx (y := (⟨"com/example/chance_checker/chancechecker/construction/DistributionSameAsPinLaw", "target0", "(I)I"⟩ : MethodName)) hown (mvT hZ (hw _ (List.mem_of_getElem? (i := 30) rfl))) (mvT hZ (hw _ (List.mem_of_getElem? (i := 31) rfl))) (mvT hZ (hw _ (List.mem_of_getElem? (i := 2) rfl))) (mvT hZ (hw _ (List.mem_of_getElem? (i := 32) rfl))) (by decide) (backOf (W := 0) (rm4 l Z a0 hw [] p1 h0 n0 Z0) hZ (hw _ (List.mem_of_getElem? (i := 32) rfl)) (hw _ (List.mem_of_getElem? (i := 2) rfl)) (by decide) (by decide)) (g := (mkF m 1 #[.val (.int p1), .val (.int p2)] [(.int p1)])) rfl (by rw [hml]; rfl) (argsL := [(.int p1)]) (rest := []) (lenOf pd_5_2 rfl) rfl (by show 2 * 0 + _ ≤ _; exact Nat.le_of_eq rfl) (hb hby d5_1) (fun _ _ => ⟨rfl, e0, (Nat.le_of_ble_eq_true rfl), (Nat.le_of_ble_eq_true rfl)⟩)
  dsimp only [Pt.U, Pt.locs, Pt.cells, Pt.slots] at X3 l3 y3 z3 st3 hQ3
  subst l3 y3 z3
  obtain ⟨rfl, rfl, e3⟩ := hQ3
  try rw [List.append_nil] at X3
  obtain ⟨fs, hr, hrun, hended, hW, hsame⟩ := X3.leave (v := some (.int ((own_t0 p1) + (p2 &&& (3 : Int32))))) (fun h => by rw [Bd.returns] at h; cases h)
  refine ⟨_, _, pre0 _ ?_, hrun, hended, _, _, rfl, ?_, ⟨_, rfl⟩, hW, hsame.mono (by decide) (by decide)⟩
  · show Steps p.tables e below (s₁.setTop (mkF m 0 #[.val (.int p1), .val (.int p2)] [])) _
    refine XS.iloadN X0.here hx rfl (hb hby d5_0) rfl ?_
    show Steps p.tables e below (s₁.setTop (mkF m 1 #[.val (.int p1), .val (.int p2)] [(.int p1)])) _
    refine st3 _ ?_
    show Steps p.tables e below (T3.setTop (mkF m 4 #[.val (.int p1), .val (.int p2)] [(.int (own_t0 p1))])) _
    refine XS.iloadN X3.here hx rfl (hb hby d5_4) rfl ?_
    show Steps p.tables e below (T3.setTop (mkF m 5 #[.val (.int p1), .val (.int p2)] [(.int p2), (.int (own_t0 p1))])) _
    refine XS.iconst X3.here hx rfl (hb hby d5_5) ?_
    show Steps p.tables e below (T3.setTop (mkF m 6 #[.val (.int p1), .val (.int p2)] [(.int (3 : Int32)), (.int p2), (.int (own_t0 p1))])) _
    refine XS.iand X3.here hx rfl (hb hby d5_6) rfl ?_
    show Steps p.tables e below (T3.setTop (mkF m 7 #[.val (.int p1), .val (.int p2)] [(.int (p2 &&& (3 : Int32))), (.int (own_t0 p1))])) _
    refine XS.iadd X3.here hx rfl (hb hby d5_7) rfl ?_
    show Steps p.tables e below (T3.setTop (mkF m 8 #[.val (.int p1), .val (.int p2)] [(.int ((own_t0 p1) + (p2 &&& (3 : Int32))))])) _
    exact retI X3 hx Bd.returns (hb hby d5_8) hr
  · show Q5 Z p1 p2 h0 n0 _ T3.heap _
    rw [e3]
    exact ⟨rfl, rfl, rfl⟩
theorem d7_0 : decode method_7_code 0 = .ok (.iload_n 0, 1) := by decide +kernel
theorem d7_1 : decode method_7_code 1 = .ok (.bipush 15, 2) := by decide +kernel
theorem d7_3 : decode method_7_code 3 = .ok (.iand, 1) := by decide +kernel
theorem d7_4 : decode method_7_code 4 = .ok (.i2d, 1) := by decide +kernel
theorem d7_5 : decode method_7_code 5 = .ok (.ldc2_w 43, 3) := by decide +kernel
theorem d7_8 : decode method_7_code 8 = .ok (.ddiv, 1) := by decide +kernel
theorem d7_9 : decode method_7_code 9 = .ok (.dreturn, 1) := by decide +kernel
theorem pn_7 : plainName "com/example/chance_checker/chancechecker/construction/DistributionSameAsPinLaw" = true := by first | (simp [plainName, overriddenIn]; done) | decide +kernel
theorem ef_7 (m : MethodId) (x0 : Int32) : entryFrame m #[(.int x0)] 1 = mkF m 0 #[.val (.int x0)] [] := by first | (simp [entryFrame, mkF, argsToLocals, Value.category]; done) | rfl
def Q7 (Z : State) (p1 : Int32) (h0 : Heap) (n0 : Nat) (v : Option Value) (h : Heap) (L : List Loc) : Prop := v = some (.double (FP.ddiv (FP.i2d (p1 &&& (15 : Int32))) (4625196817309499392 : UInt64))) ∧ L = [] ∧ h = h0
set_option maxRecDepth 65536 in
set_option maxHeartbeats 40000000 in
theorem rm7 (l : Launch) (Z : State) (a0 : Array Value) (hw : ∀ d ∈ tables_1, d.before a0 Z = true) (ws : List Jvm.Cond) (p1 : Int32) (h0 : Heap) (n0 : Nat) (Z0 : n0 ≤ h0.size) :
    MetFree l (⟨"com/example/chance_checker/chancechecker/construction/DistributionSameAsPinLaw", "prob0", "(I)D"⟩ : MethodName) (head1 (Jvm.Cond.code (⟨"com/example/chance_checker/chancechecker/construction/DistributionSameAsPinLaw", "prob0", "(I)D"⟩ : MethodName) method_7_code 1 (some .double) :: ws) ({ frames := 0, cells := 0, slots := 0, locals := 0 } : Room)) (fun a U => a = #[(.int p1)] ∧ Z.Warmed39 U.vm ∧ U.heap = h0) (fun _ _ _ _ _ => True) (fun _ U o U' => ∃ v L, o = .returned v ∧ Q7 Z p1 h0 n0 v U'.heap L ∧ FrameEnd U o U' L ({ frames := 0, cells := 0, slots := 0, locals := 0 } : Room).cells ({ frames := 0, cells := 0, slots := 0, locals := 0 } : Room).slots) := by
  refine MetFree.of_bodySF (plainFor_of_name pn_7) hisR ?_
  intro p e s m args below meth c s₁ Bd hml0 hP hK
  obtain ⟨rfl, hZ, hh⟩ := hP
  have hx := Bd.exec
  have hby := Bd.bytes
  have hml : c.maxLocals = 1 := hml0
  have hown : s.vm.findClass "com/example/chance_checker/chancechecker/construction/DistributionSameAsPinLaw" = some m.cls := findClass_of_methodNamed Bd.named
  have hnm := (name_of_methodNamed Bd.named Bd.method).1
  have X0 : Stand p l e ({ frames := 0, cells := 0, slots := 0, locals := 0 } : Room) s m #[(.int p1)] below meth c s₁ [] 0 0 := Stand.of_body Bd
  have e0 : s₁.heap = h0 := by rw [← hh, Bd.state]; rfl
  have N0 := Fr.nil n0
  have pre0 : ∀ t, Steps p.tables e below (s₁.setTop (mkF m 0 #[.val (.int p1)] [])) t → Steps p.tables e below (s₁.setTop (entryFrame m #[(.int p1)] 1)) t := fun t k => castTop (ef_7 m p1) k

  obtain ⟨fs, hr, hrun, hended, hW, hsame⟩ := X0.leave (v := some (.double (FP.ddiv (FP.i2d (p1 &&& (15 : Int32))) (4625196817309499392 : UInt64)))) (fun h => by rw [Bd.returns] at h; cases h)
  refine ⟨_, _, pre0 _ ?_, hrun, hended, _, _, rfl, ?_, ⟨_, rfl⟩, hW, hsame.mono (by decide) (by decide)⟩
  · show Steps p.tables e below (s₁.setTop (mkF m 0 #[.val (.int p1)] [])) _
    refine XS.iloadN X0.here hx rfl (hb hby d7_0) rfl ?_
    show Steps p.tables e below (s₁.setTop (mkF m 1 #[.val (.int p1)] [(.int p1)])) _
    refine XS.bipush X0.here hx rfl (hb hby d7_1) ?_
    show Steps p.tables e below (s₁.setTop (mkF m 3 #[.val (.int p1)] [(.int (15 : Int32)), (.int p1)])) _
    refine XS.iand X0.here hx rfl (hb hby d7_3) rfl ?_
    show Steps p.tables e below (s₁.setTop (mkF m 4 #[.val (.int p1)] [(.int (p1 &&& (15 : Int32)))])) _
    refine XS.i2dS X0.here hx rfl (hb hby d7_4) rfl rfl ?_
    show Steps p.tables e below (s₁.setTop (mkF m 5 #[.val (.int p1)] [(.double (FP.i2d (p1 &&& (15 : Int32))))])) _
    refine X0.ldc2DoubleC hx hown (mvT hZ (hw _ (List.mem_of_getElem? (i := 47) rfl))) (g := (mkF m 5 #[.val (.int p1)] [(.double (FP.i2d (p1 &&& (15 : Int32))))])) rfl (hb hby d7_5) _ ?_
    show Steps p.tables e below (s₁.setTop (mkF m 8 #[.val (.int p1)] [(.double (4625196817309499392 : UInt64)), (.double (FP.i2d (p1 &&& (15 : Int32))))])) _
    refine XS.ddivS X0.here hx rfl (hb hby d7_8) rfl (own_nn _) rfl ?_
    show Steps p.tables e below (s₁.setTop (mkF m 9 #[.val (.int p1)] [(.double (FP.ddiv (FP.i2d (p1 &&& (15 : Int32))) (4625196817309499392 : UInt64)))])) _
    exact own_retD X0 hx Bd.returns (hb hby d7_9) hr
  · show Q7 Z p1 h0 n0 _ s₁.heap _
    rw [e0]
    exact ⟨rfl, rfl, rfl⟩
theorem d10_0 : decode method_8_code 0 = .ok (.iload_n 0, 1) := by decide +kernel
theorem d10_1 : decode method_8_code 1 = .ok (.iconst 4, 1) := by decide +kernel
theorem d10_2 : decode method_8_code 2 = .ok (.iushr, 1) := by decide +kernel
theorem d10_3 : decode method_8_code 3 = .ok (.bipush 15, 2) := by decide +kernel
theorem d10_5 : decode method_8_code 5 = .ok (.iand, 1) := by decide +kernel
theorem d10_6 : decode method_8_code 6 = .ok (.i2d, 1) := by decide +kernel
theorem d10_7 : decode method_8_code 7 = .ok (.ldc2_w 43, 3) := by decide +kernel
theorem d10_10 : decode method_8_code 10 = .ok (.ddiv, 1) := by decide +kernel
theorem d10_11 : decode method_8_code 11 = .ok (.dreturn, 1) := by decide +kernel
theorem pn_10 : plainName "com/example/chance_checker/chancechecker/construction/DistributionSameAsPinLaw" = true := by first | (simp [plainName, overriddenIn]; done) | decide +kernel
theorem ef_10 (m : MethodId) (x0 : Int32) : entryFrame m #[(.int x0)] 1 = mkF m 0 #[.val (.int x0)] [] := by first | (simp [entryFrame, mkF, argsToLocals, Value.category]; done) | rfl
def Q10 (Z : State) (p1 : Int32) (h0 : Heap) (n0 : Nat) (v : Option Value) (h : Heap) (L : List Loc) : Prop := v = some (.double (FP.ddiv (FP.i2d (((p1.toUInt32 >>> ((4 : Int32) &&& 31).toUInt32).toInt32) &&& (15 : Int32))) (4625196817309499392 : UInt64))) ∧ L = [] ∧ h = h0
set_option maxRecDepth 65536 in
set_option maxHeartbeats 40000000 in
theorem rm10 (l : Launch) (Z : State) (a0 : Array Value) (hw : ∀ d ∈ tables_1, d.before a0 Z = true) (ws : List Jvm.Cond) (p1 : Int32) (h0 : Heap) (n0 : Nat) (Z0 : n0 ≤ h0.size) :
    MetFree l (⟨"com/example/chance_checker/chancechecker/construction/DistributionSameAsPinLaw", "prob1", "(I)D"⟩ : MethodName) (head1 (Jvm.Cond.code (⟨"com/example/chance_checker/chancechecker/construction/DistributionSameAsPinLaw", "prob1", "(I)D"⟩ : MethodName) method_8_code 1 (some .double) :: ws) ({ frames := 0, cells := 0, slots := 0, locals := 0 } : Room)) (fun a U => a = #[(.int p1)] ∧ Z.Warmed39 U.vm ∧ U.heap = h0) (fun _ _ _ _ _ => True) (fun _ U o U' => ∃ v L, o = .returned v ∧ Q10 Z p1 h0 n0 v U'.heap L ∧ FrameEnd U o U' L ({ frames := 0, cells := 0, slots := 0, locals := 0 } : Room).cells ({ frames := 0, cells := 0, slots := 0, locals := 0 } : Room).slots) := by
  refine MetFree.of_bodySF (plainFor_of_name pn_10) hisR ?_
  intro p e s m args below meth c s₁ Bd hml0 hP hK
  obtain ⟨rfl, hZ, hh⟩ := hP
  have hx := Bd.exec
  have hby := Bd.bytes
  have hml : c.maxLocals = 1 := hml0
  have hown : s.vm.findClass "com/example/chance_checker/chancechecker/construction/DistributionSameAsPinLaw" = some m.cls := findClass_of_methodNamed Bd.named
  have hnm := (name_of_methodNamed Bd.named Bd.method).1
  have X0 : Stand p l e ({ frames := 0, cells := 0, slots := 0, locals := 0 } : Room) s m #[(.int p1)] below meth c s₁ [] 0 0 := Stand.of_body Bd
  have e0 : s₁.heap = h0 := by rw [← hh, Bd.state]; rfl
  have N0 := Fr.nil n0
  have pre0 : ∀ t, Steps p.tables e below (s₁.setTop (mkF m 0 #[.val (.int p1)] [])) t → Steps p.tables e below (s₁.setTop (entryFrame m #[(.int p1)] 1)) t := fun t k => castTop (ef_10 m p1) k

  obtain ⟨fs, hr, hrun, hended, hW, hsame⟩ := X0.leave (v := some (.double (FP.ddiv (FP.i2d (((p1.toUInt32 >>> ((4 : Int32) &&& 31).toUInt32).toInt32) &&& (15 : Int32))) (4625196817309499392 : UInt64)))) (fun h => by rw [Bd.returns] at h; cases h)
  refine ⟨_, _, pre0 _ ?_, hrun, hended, _, _, rfl, ?_, ⟨_, rfl⟩, hW, hsame.mono (by decide) (by decide)⟩
  · show Steps p.tables e below (s₁.setTop (mkF m 0 #[.val (.int p1)] [])) _
    refine XS.iloadN X0.here hx rfl (hb hby d10_0) rfl ?_
    show Steps p.tables e below (s₁.setTop (mkF m 1 #[.val (.int p1)] [(.int p1)])) _
    refine XS.iconst X0.here hx rfl (hb hby d10_1) ?_
    show Steps p.tables e below (s₁.setTop (mkF m 2 #[.val (.int p1)] [(.int (4 : Int32)), (.int p1)])) _
    refine XS.iushr X0.here hx rfl (hb hby d10_2) rfl ?_
    show Steps p.tables e below (s₁.setTop (mkF m 3 #[.val (.int p1)] [(.int ((p1.toUInt32 >>> ((4 : Int32) &&& 31).toUInt32).toInt32))])) _
    refine XS.bipush X0.here hx rfl (hb hby d10_3) ?_
    show Steps p.tables e below (s₁.setTop (mkF m 5 #[.val (.int p1)] [(.int (15 : Int32)), (.int ((p1.toUInt32 >>> ((4 : Int32) &&& 31).toUInt32).toInt32))])) _
    refine XS.iand X0.here hx rfl (hb hby d10_5) rfl ?_
    show Steps p.tables e below (s₁.setTop (mkF m 6 #[.val (.int p1)] [(.int (((p1.toUInt32 >>> ((4 : Int32) &&& 31).toUInt32).toInt32) &&& (15 : Int32)))])) _
    refine XS.i2dS X0.here hx rfl (hb hby d10_6) rfl rfl ?_
    show Steps p.tables e below (s₁.setTop (mkF m 7 #[.val (.int p1)] [(.double (FP.i2d (((p1.toUInt32 >>> ((4 : Int32) &&& 31).toUInt32).toInt32) &&& (15 : Int32))))])) _
    refine X0.ldc2DoubleC hx hown (mvT hZ (hw _ (List.mem_of_getElem? (i := 47) rfl))) (g := (mkF m 7 #[.val (.int p1)] [(.double (FP.i2d (((p1.toUInt32 >>> ((4 : Int32) &&& 31).toUInt32).toInt32) &&& (15 : Int32))))])) rfl (hb hby d10_7) _ ?_
    show Steps p.tables e below (s₁.setTop (mkF m 10 #[.val (.int p1)] [(.double (4625196817309499392 : UInt64)), (.double (FP.i2d (((p1.toUInt32 >>> ((4 : Int32) &&& 31).toUInt32).toInt32) &&& (15 : Int32))))])) _
    refine XS.ddivS X0.here hx rfl (hb hby d10_10) rfl (own_nn _) rfl ?_
    show Steps p.tables e below (s₁.setTop (mkF m 11 #[.val (.int p1)] [(.double (FP.ddiv (FP.i2d (((p1.toUInt32 >>> ((4 : Int32) &&& 31).toUInt32).toInt32) &&& (15 : Int32))) (4625196817309499392 : UInt64)))])) _
    exact own_retD X0 hx Bd.returns (hb hby d10_11) hr
  · show Q10 Z p1 h0 n0 _ s₁.heap _
    rw [e0]
    exact ⟨rfl, rfl, rfl⟩
theorem d9_0 : decode method_6_code 0 = .ok (.iload_n 1, 1) := by decide +kernel
theorem d9_1 : decode method_6_code 1 = .ok (.iconst 3, 1) := by decide +kernel
theorem d9_2 : decode method_6_code 2 = .ok (.iand, 1) := by decide +kernel
theorem d9_3 : decode method_6_code 3 = .ok (.ifCond .ne 7, 3) := by decide +kernel
theorem d9_6 : decode method_6_code 6 = .ok (.iload_n 0, 1) := by decide +kernel
theorem d9_7 : decode method_6_code 7 = .ok (.iconst (-1), 1) := by decide +kernel
theorem d9_8 : decode method_6_code 8 = .ok (.ixor, 1) := by decide +kernel
theorem d9_9 : decode method_6_code 9 = .ok (.ireturn, 1) := by decide +kernel
theorem pn_9 : plainName "com/example/chance_checker/chancechecker/construction/DistributionSameAsPinLaw" = true := by first | (simp [plainName, overriddenIn]; done) | decide +kernel
theorem ef_9 (m : MethodId) (x0 : Int32) (x1 : Int32) : entryFrame m #[(.int x0), (.int x1)] 2 = mkF m 0 #[.val (.int x0), .val (.int x1)] [] := by first | (simp [entryFrame, mkF, argsToLocals, Value.category]; done) | rfl
def Q9 (Z : State) (p1 : Int32) (p2 : Int32) (h0 : Heap) (n0 : Nat) (v : Option Value) (h : Heap) (L : List Loc) : Prop := v = some (.int (own_r1 p1 p2)) ∧ L = [] ∧ h = h0
set_option maxRecDepth 65536 in
set_option maxHeartbeats 40000000 in
theorem rm9a (l : Launch) (Z : State) (a0 : Array Value) (hw : ∀ d ∈ tables_1, d.before a0 Z = true) (ws : List Jvm.Cond) (p1 : Int32) (p2 : Int32) (h0 : Heap) (n0 : Nat) (Z0 : n0 ≤ h0.size) (hc3 : (p2 &&& (3 : Int32)) = (0 : Int32)) :
    MetFree l (⟨"com/example/chance_checker/chancechecker/construction/DistributionSameAsPinLaw", "reset1", "(II)I"⟩ : MethodName) (head1 (Jvm.Cond.code (⟨"com/example/chance_checker/chancechecker/construction/DistributionSameAsPinLaw", "reset1", "(II)I"⟩ : MethodName) method_6_code 2 (some .int) :: ws) ({ frames := 0, cells := 0, slots := 0, locals := 0 } : Room)) (fun a U => a = #[(.int p1), (.int p2)] ∧ Z.Warmed39 U.vm ∧ U.heap = h0) (fun _ _ _ _ _ => True) (fun _ U o U' => ∃ v L, o = .returned v ∧ Q9 Z p1 p2 h0 n0 v U'.heap L ∧ FrameEnd U o U' L ({ frames := 0, cells := 0, slots := 0, locals := 0 } : Room).cells ({ frames := 0, cells := 0, slots := 0, locals := 0 } : Room).slots) := by
  refine MetFree.of_bodySF (plainFor_of_name pn_9) hisR ?_
  intro p e s m args below meth c s₁ Bd hml0 hP hK
  obtain ⟨rfl, hZ, hh⟩ := hP
  have hx := Bd.exec
  have hby := Bd.bytes
  have hml : c.maxLocals = 2 := hml0
  have hown : s.vm.findClass "com/example/chance_checker/chancechecker/construction/DistributionSameAsPinLaw" = some m.cls := findClass_of_methodNamed Bd.named
  have hnm := (name_of_methodNamed Bd.named Bd.method).1
  have X0 : Stand p l e ({ frames := 0, cells := 0, slots := 0, locals := 0 } : Room) s m #[(.int p1), (.int p2)] below meth c s₁ [] 0 0 := Stand.of_body Bd
  have e0 : s₁.heap = h0 := by rw [← hh, Bd.state]; rfl
  have N0 := Fr.nil n0
  have pre0 : ∀ t, Steps p.tables e below (s₁.setTop (mkF m 0 #[.val (.int p1), .val (.int p2)] [])) t → Steps p.tables e below (s₁.setTop (entryFrame m #[(.int p1), (.int p2)] 2)) t := fun t k => castTop (ef_9 m p1 p2) k

  obtain ⟨fs, hr, hrun, hended, hW, hsame⟩ := X0.leave (v := some (.int (p1 ^^^ (-1 : Int32)))) (fun h => by rw [Bd.returns] at h; cases h)
  refine ⟨_, _, pre0 _ ?_, hrun, hended, _, _, rfl, ?_, ⟨_, rfl⟩, hW, hsame.mono (by decide) (by decide)⟩
  · show Steps p.tables e below (s₁.setTop (mkF m 0 #[.val (.int p1), .val (.int p2)] [])) _
    refine XS.iloadN X0.here hx rfl (hb hby d9_0) rfl ?_
    show Steps p.tables e below (s₁.setTop (mkF m 1 #[.val (.int p1), .val (.int p2)] [(.int p2)])) _
    refine XS.iconst X0.here hx rfl (hb hby d9_1) ?_
    show Steps p.tables e below (s₁.setTop (mkF m 2 #[.val (.int p1), .val (.int p2)] [(.int (3 : Int32)), (.int p2)])) _
    refine XS.iand X0.here hx rfl (hb hby d9_2) rfl ?_
    show Steps p.tables e below (s₁.setTop (mkF m 3 #[.val (.int p1), .val (.int p2)] [(.int (p2 &&& (3 : Int32)))])) _
    refine XS.ifNo X0.here hx rfl (hb hby d9_3) rfl ((if0 _ _).trans (teq hc3).2) ?_
    show Steps p.tables e below (s₁.setTop (mkF m 6 #[.val (.int p1), .val (.int p2)] [])) _
    refine XS.iloadN X0.here hx rfl (hb hby d9_6) rfl ?_
    show Steps p.tables e below (s₁.setTop (mkF m 7 #[.val (.int p1), .val (.int p2)] [(.int p1)])) _
    refine XS.iconst X0.here hx rfl (hb hby d9_7) ?_
    show Steps p.tables e below (s₁.setTop (mkF m 8 #[.val (.int p1), .val (.int p2)] [(.int (-1 : Int32)), (.int p1)])) _
    refine XS.ixor X0.here hx rfl (hb hby d9_8) rfl ?_
    show Steps p.tables e below (s₁.setTop (mkF m 9 #[.val (.int p1), .val (.int p2)] [(.int (p1 ^^^ (-1 : Int32)))])) _
    exact retI X0 hx Bd.returns (hb hby d9_9) hr
  · show Q9 Z p1 p2 h0 n0 _ s₁.heap _
    rw [e0]
    exact ⟨congrArg (fun z => some (Value.int z)) (if_pos hc3).symm, rfl, rfl⟩
theorem d9_10 : decode method_6_code 10 = .ok (.iload_n 0, 1) := by decide +kernel
theorem d9_11 : decode method_6_code 11 = .ok (.iload_n 1, 1) := by decide +kernel
theorem d9_12 : decode method_6_code 12 = .ok (.iconst 4, 1) := by decide +kernel
theorem d9_13 : decode method_6_code 13 = .ok (.iushr, 1) := by decide +kernel
theorem d9_14 : decode method_6_code 14 = .ok (.ixor, 1) := by decide +kernel
theorem d9_15 : decode method_6_code 15 = .ok (.ireturn, 1) := by decide +kernel
set_option maxRecDepth 65536 in
set_option maxHeartbeats 40000000 in
theorem rm9b (l : Launch) (Z : State) (a0 : Array Value) (hw : ∀ d ∈ tables_1, d.before a0 Z = true) (ws : List Jvm.Cond) (p1 : Int32) (p2 : Int32) (h0 : Heap) (n0 : Nat) (Z0 : n0 ≤ h0.size) (hc3 : ¬ ((p2 &&& (3 : Int32)) = (0 : Int32))) :
    MetFree l (⟨"com/example/chance_checker/chancechecker/construction/DistributionSameAsPinLaw", "reset1", "(II)I"⟩ : MethodName) (head1 (Jvm.Cond.code (⟨"com/example/chance_checker/chancechecker/construction/DistributionSameAsPinLaw", "reset1", "(II)I"⟩ : MethodName) method_6_code 2 (some .int) :: ws) ({ frames := 0, cells := 0, slots := 0, locals := 0 } : Room)) (fun a U => a = #[(.int p1), (.int p2)] ∧ Z.Warmed39 U.vm ∧ U.heap = h0) (fun _ _ _ _ _ => True) (fun _ U o U' => ∃ v L, o = .returned v ∧ Q9 Z p1 p2 h0 n0 v U'.heap L ∧ FrameEnd U o U' L ({ frames := 0, cells := 0, slots := 0, locals := 0 } : Room).cells ({ frames := 0, cells := 0, slots := 0, locals := 0 } : Room).slots) := by
  refine MetFree.of_bodySF (plainFor_of_name pn_9) hisR ?_
  intro p e s m args below meth c s₁ Bd hml0 hP hK
  obtain ⟨rfl, hZ, hh⟩ := hP
  have hx := Bd.exec
  have hby := Bd.bytes
  have hml : c.maxLocals = 2 := hml0
  have hown : s.vm.findClass "com/example/chance_checker/chancechecker/construction/DistributionSameAsPinLaw" = some m.cls := findClass_of_methodNamed Bd.named
  have hnm := (name_of_methodNamed Bd.named Bd.method).1
  have X0 : Stand p l e ({ frames := 0, cells := 0, slots := 0, locals := 0 } : Room) s m #[(.int p1), (.int p2)] below meth c s₁ [] 0 0 := Stand.of_body Bd
  have e0 : s₁.heap = h0 := by rw [← hh, Bd.state]; rfl
  have N0 := Fr.nil n0
  have pre0 : ∀ t, Steps p.tables e below (s₁.setTop (mkF m 0 #[.val (.int p1), .val (.int p2)] [])) t → Steps p.tables e below (s₁.setTop (entryFrame m #[(.int p1), (.int p2)] 2)) t := fun t k => castTop (ef_9 m p1 p2) k

  obtain ⟨fs, hr, hrun, hended, hW, hsame⟩ := X0.leave (v := some (.int (p1 ^^^ ((p2.toUInt32 >>> ((4 : Int32) &&& 31).toUInt32).toInt32)))) (fun h => by rw [Bd.returns] at h; cases h)
  refine ⟨_, _, pre0 _ ?_, hrun, hended, _, _, rfl, ?_, ⟨_, rfl⟩, hW, hsame.mono (by decide) (by decide)⟩
  · show Steps p.tables e below (s₁.setTop (mkF m 0 #[.val (.int p1), .val (.int p2)] [])) _
    refine XS.iloadN X0.here hx rfl (hb hby d9_0) rfl ?_
    show Steps p.tables e below (s₁.setTop (mkF m 1 #[.val (.int p1), .val (.int p2)] [(.int p2)])) _
    refine XS.iconst X0.here hx rfl (hb hby d9_1) ?_
    show Steps p.tables e below (s₁.setTop (mkF m 2 #[.val (.int p1), .val (.int p2)] [(.int (3 : Int32)), (.int p2)])) _
    refine XS.iand X0.here hx rfl (hb hby d9_2) rfl ?_
    show Steps p.tables e below (s₁.setTop (mkF m 3 #[.val (.int p1), .val (.int p2)] [(.int (p2 &&& (3 : Int32)))])) _
    refine XS.ifYes X0.here hx rfl (pc0 := 3) (pc' := 10) rfl (hb hby d9_3) rfl ((if0 _ _).trans (feq hc3).2) (by decide) (by decide) ?_
    show Steps p.tables e below (s₁.setTop (mkF m 10 #[.val (.int p1), .val (.int p2)] [])) _
    refine XS.iloadN X0.here hx rfl (hb hby d9_10) rfl ?_
    show Steps p.tables e below (s₁.setTop (mkF m 11 #[.val (.int p1), .val (.int p2)] [(.int p1)])) _
    refine XS.iloadN X0.here hx rfl (hb hby d9_11) rfl ?_
    show Steps p.tables e below (s₁.setTop (mkF m 12 #[.val (.int p1), .val (.int p2)] [(.int p2), (.int p1)])) _
    refine XS.iconst X0.here hx rfl (hb hby d9_12) ?_
    show Steps p.tables e below (s₁.setTop (mkF m 13 #[.val (.int p1), .val (.int p2)] [(.int (4 : Int32)), (.int p2), (.int p1)])) _
    refine XS.iushr X0.here hx rfl (hb hby d9_13) rfl ?_
    show Steps p.tables e below (s₁.setTop (mkF m 14 #[.val (.int p1), .val (.int p2)] [(.int ((p2.toUInt32 >>> ((4 : Int32) &&& 31).toUInt32).toInt32)), (.int p1)])) _
    refine XS.ixor X0.here hx rfl (hb hby d9_14) rfl ?_
    show Steps p.tables e below (s₁.setTop (mkF m 15 #[.val (.int p1), .val (.int p2)] [(.int (p1 ^^^ ((p2.toUInt32 >>> ((4 : Int32) &&& 31).toUInt32).toInt32)))])) _
    exact retI X0 hx Bd.returns (hb hby d9_15) hr
  · show Q9 Z p1 p2 h0 n0 _ s₁.heap _
    rw [e0]
    exact ⟨congrArg (fun z => some (Value.int z)) (if_neg hc3).symm, rfl, rfl⟩
theorem rm9 (l : Launch) (Z : State) (a0 : Array Value) (hw : ∀ d ∈ tables_1, d.before a0 Z = true) (ws : List Jvm.Cond) (p1 : Int32) (p2 : Int32) (h0 : Heap) (n0 : Nat) (Z0 : n0 ≤ h0.size) :
    MetFree l (⟨"com/example/chance_checker/chancechecker/construction/DistributionSameAsPinLaw", "reset1", "(II)I"⟩ : MethodName) (head1 (Jvm.Cond.code (⟨"com/example/chance_checker/chancechecker/construction/DistributionSameAsPinLaw", "reset1", "(II)I"⟩ : MethodName) method_6_code 2 (some .int) :: ws) ({ frames := 0, cells := 0, slots := 0, locals := 0 } : Room)) (fun a U => a = #[(.int p1), (.int p2)] ∧ Z.Warmed39 U.vm ∧ U.heap = h0) (fun _ _ _ _ _ => True) (fun _ U o U' => ∃ v L, o = .returned v ∧ Q9 Z p1 p2 h0 n0 v U'.heap L ∧ FrameEnd U o U' L ({ frames := 0, cells := 0, slots := 0, locals := 0 } : Room).cells ({ frames := 0, cells := 0, slots := 0, locals := 0 } : Room).slots) := by
  by_cases hc3 : (p2 &&& (3 : Int32)) = (0 : Int32)
  · exact rm9a l Z a0 hw ws p1 p2 h0 n0 Z0 hc3
  · exact rm9b l Z a0 hw ws p1 p2 h0 n0 Z0 hc3
theorem d2_0 : decode prog_7_method_1_code 0 = .ok (.aload_n 0, 1) := by decide +kernel
theorem d2_1 : decode prog_7_method_1_code 1 = .ok (.invokespecial 1, 3) := by decide +kernel
theorem d2_4 : decode prog_7_method_1_code 4 = .ok (.aload_n 0, 1) := by decide +kernel
theorem d2_5 : decode prog_7_method_1_code 5 = .ok (.bipush 8, 2) := by decide +kernel
theorem d2_7 : decode prog_7_method_1_code 7 = .ok (.newarray .int, 2) := by decide +kernel
theorem d2_9 : decode prog_7_method_1_code 9 = .ok (.putfield 7, 3) := by decide +kernel
theorem d2_12 : decode prog_7_method_1_code 12 = .ok (.aload_n 0, 1) := by decide +kernel
theorem d2_13 : decode prog_7_method_1_code 13 = .ok (.bipush 8, 2) := by decide +kernel
theorem d2_15 : decode prog_7_method_1_code 15 = .ok (.newarray .int, 2) := by decide +kernel
theorem d2_17 : decode prog_7_method_1_code 17 = .ok (.putfield 13, 3) := by decide +kernel
theorem d2_20 : decode prog_7_method_1_code 20 = .ok (.aload_n 0, 1) := by decide +kernel
theorem d2_21 : decode prog_7_method_1_code 21 = .ok (.bipush 8, 2) := by decide +kernel
theorem d2_23 : decode prog_7_method_1_code 23 = .ok (.newarray .double, 2) := by decide +kernel
theorem d2_25 : decode prog_7_method_1_code 25 = .ok (.putfield 16, 3) := by decide +kernel
theorem d2_28 : decode prog_7_method_1_code 28 = .ok (.aload_n 0, 1) := by decide +kernel
theorem d2_29 : decode prog_7_method_1_code 29 = .ok (.iconst 0, 1) := by decide +kernel
theorem d2_30 : decode prog_7_method_1_code 30 = .ok (.newarray .long, 2) := by decide +kernel
theorem d2_32 : decode prog_7_method_1_code 32 = .ok (.putfield 20, 3) := by decide +kernel
theorem d2_35 : decode prog_7_method_1_code 35 = .ok (.aload_n 0, 1) := by decide +kernel
theorem d2_36 : decode prog_7_method_1_code 36 = .ok (.iconst 0, 1) := by decide +kernel
theorem d2_37 : decode prog_7_method_1_code 37 = .ok (.newarray .int, 2) := by decide +kernel
theorem d2_39 : decode prog_7_method_1_code 39 = .ok (.putfield 24, 3) := by decide +kernel
theorem d2_42 : decode prog_7_method_1_code 42 = .ok (.aload_n 0, 1) := by decide +kernel
theorem d2_43 : decode prog_7_method_1_code 43 = .ok (.iconst 0, 1) := by decide +kernel
theorem d2_44 : decode prog_7_method_1_code 44 = .ok (.newarray .int, 2) := by decide +kernel
theorem d2_46 : decode prog_7_method_1_code 46 = .ok (.putfield 27, 3) := by decide +kernel
theorem d2_49 : decode prog_7_method_1_code 49 = .ok (.aload_n 0, 1) := by decide +kernel
theorem d2_50 : decode prog_7_method_1_code 50 = .ok (.iconst 0, 1) := by decide +kernel
theorem d2_51 : decode prog_7_method_1_code 51 = .ok (.newarray .double, 2) := by decide +kernel
theorem d2_53 : decode prog_7_method_1_code 53 = .ok (.putfield 30, 3) := by decide +kernel
theorem d2_56 : decode prog_7_method_1_code 56 = .ok (.return_, 1) := by decide +kernel
theorem pn_2 : plainName "com/example/chance_checker/chancechecker/construction/Distribution" = true := by first | (simp [plainName, overriddenIn]; done) | decide +kernel
theorem ef_2 (m : MethodId) (x0 : Addr) : entryFrame m #[(.ref x0)] 1 = mkF m 0 #[.val (.ref x0)] [] := by first | (simp [entryFrame, mkF, argsToLocals, Value.category]; done) | rfl
def Q2 (Z : State) (a1 : Addr) (h0 : Heap) (n0 : Nat) (v : Option Value) (h : Heap) (L : List Loc) : Prop := v = none ∧ Fr n0 L ∧ Keep h0 h [a1] ∧ ∃ t r p : Addr, h0.size ≤ t ∧ h0.size ≤ r ∧ h0.size ≤ p ∧ ∀ (ft fr : Nat → Int32) (fp : Nat → UInt64), own_Di Z h a1 t r p 0 ft fr fp
set_option maxRecDepth 65536 in
set_option maxHeartbeats 40000000 in
theorem rm2 (l : Launch) (Z : State) (a0 : Array Value) (hw : ∀ d ∈ tables_1, d.before a0 Z = true) (ws : List Jvm.Cond) (a1 : Addr) (u_targets_a1 : Value) (u_resets_a1 : Value) (u_probabilities_a1 : Value) (u_keys_a1 : Value) (u_spareTargets_a1 : Value) (u_spareResets_a1 : Value) (u_spareProbabilities_a1 : Value) (h0 : Heap) (n0 : Nat) (Z0 : n0 ≤ h0.size) (F_size_a1 : Fld Z h0 a1 "com/example/chance_checker/chancechecker/construction/Distribution" "size" "I" (.int (0 : Int32))) (E_a1 : Exa Z h0 a1 "com/example/chance_checker/chancechecker/construction/Distribution") (F_targets_a1 : Fld Z h0 a1 "com/example/chance_checker/chancechecker/construction/Distribution" "targets" "[I" u_targets_a1) (g_a1 : n0 ≤ a1) (F_resets_a1 : Fld Z h0 a1 "com/example/chance_checker/chancechecker/construction/Distribution" "resets" "[I" u_resets_a1) (F_probabilities_a1 : Fld Z h0 a1 "com/example/chance_checker/chancechecker/construction/Distribution" "probabilities" "[D" u_probabilities_a1) (F_keys_a1 : Fld Z h0 a1 "com/example/chance_checker/chancechecker/construction/Distribution" "keys" "[J" u_keys_a1) (F_spareTargets_a1 : Fld Z h0 a1 "com/example/chance_checker/chancechecker/construction/Distribution" "spareTargets" "[I" u_spareTargets_a1) (F_spareResets_a1 : Fld Z h0 a1 "com/example/chance_checker/chancechecker/construction/Distribution" "spareResets" "[I" u_spareResets_a1) (F_spareProbabilities_a1 : Fld Z h0 a1 "com/example/chance_checker/chancechecker/construction/Distribution" "spareProbabilities" "[D" u_spareProbabilities_a1) :
    MetFree l (⟨"com/example/chance_checker/chancechecker/construction/Distribution", "<init>", "()V"⟩ : MethodName) (head1 (Jvm.Cond.code (⟨"com/example/chance_checker/chancechecker/construction/Distribution", "<init>", "()V"⟩ : MethodName) prog_7_method_1_code 1 none :: ws) ({ frames := 1, cells := 7, slots := 24, locals := 12 } : Room)) (fun a U => a = #[(.ref a1)] ∧ Z.Warmed39 U.vm ∧ U.heap = h0) (fun _ _ _ _ _ => True) (fun _ U o U' => ∃ v L, o = .returned v ∧ Q2 Z a1 h0 n0 v U'.heap L ∧ FrameEnd U o U' L ({ frames := 1, cells := 7, slots := 24, locals := 12 } : Room).cells ({ frames := 1, cells := 7, slots := 24, locals := 12 } : Room).slots) := by
  refine MetFree.of_bodySF (plainFor_of_name pn_2) hisR ?_
  intro p e s m args below meth c s₁ Bd hml0 hP hK
  obtain ⟨rfl, hZ, hh⟩ := hP
  have hx := Bd.exec
  have hby := Bd.bytes
  have hml : c.maxLocals = 1 := hml0
  have hown : s.vm.findClass "com/example/chance_checker/chancechecker/construction/Distribution" = some m.cls := findClass_of_methodNamed Bd.named
  have hnm := (name_of_methodNamed Bd.named Bd.method).1
  have X0 : Stand p l e ({ frames := 1, cells := 7, slots := 24, locals := 12 } : Room) s m #[(.ref a1)] below meth c s₁ [] 0 0 := Stand.of_body Bd
  have e0 : s₁.heap = h0 := by rw [← hh, Bd.state]; rfl
  have N0 := Fr.nil n0
  have pre0 : ∀ t, Steps p.tables e below (s₁.setTop (mkF m 0 #[.val (.ref a1)] [])) t → Steps p.tables e below (s₁.setTop (entryFrame m #[(.ref a1)] 1)) t := fun t k => castTop (ef_2 m a1) k
  obtain ⟨T2, X2, e2, st2⟩ := initO X0 hx hZ hown (hw _ (List.mem_of_getElem? (i := 10) rfl)) (hw _ (List.mem_of_getElem? (i := 11) rfl)) (hw _ (List.mem_of_getElem? (i := 12) rfl)) e0 (g := (mkF m 1 #[.val (.ref a1)] [(.ref a1)])) rfl (by rw [hml]; rfl) rfl (hb hby d2_1) (by decide) (W := 0) (by show 2 * 0 + _ ≤ _; exact Nat.le_of_eq rfl) (by decide)
  obtain ⟨T3, h3, k3, X3, e3, E3, A3, st3⟩ := newP X2 hx hZ (hw _ (List.mem_of_getElem? (i := 13) rfl)) e2 (g := (mkF m 7 #[.val (.ref a1)] [(.int (8 : Int32)), (.ref a1)])) rfl (hb hby d2_7) rfl (by decide) (cap := 8) (by decide) (by decide) (by decide) (by decide)
  obtain ⟨b3, g3⟩ : ∃ z, z = h0.size := ⟨_, rfl⟩
  rw [← g3] at A3 st3
  have V_b3 : Arv Z h3 b3 k3 .int (8 : Int32) [(.int (0 : Int32)), (.int (0 : Int32)), (.int (0 : Int32)), (.int (0 : Int32)), (.int (0 : Int32)), (.int (0 : Int32)), (.int (0 : Int32)), (.int (0 : Int32))] (.int (0 : Int32)) := (Arv.new A3 (by decide)).pad (pad_rep [] (.int (0 : Int32)) 8)
  have g_b3 : n0 ≤ b3 := Nat.le_trans Z0 (Nat.le_of_eq g3.symm)
  have sz_b3 : h0.size ≤ b3 := (Nat.le_trans (Keep.refl h0 [a1]).1 (Nat.le_of_eq g3.symm))
  have K3 : Keep h0 h3 [a1] := (Keep.refl h0 [a1]).ext E3
  obtain ⟨T4, h4, X4, e4, W4, st4⟩ := putF X3 hx hZ hown (host := "") (Or.inl (hw _ (List.mem_of_getElem? (i := 14) rfl))) Via.refl e3 (F_targets_a1.ext E3) (E_a1.ext E3) (Or.inl (hw _ (List.mem_of_getElem? (i := 15) rfl))) (hw _ (List.mem_of_getElem? (i := 5) rfl)) (ty := (.array .int)) (by decide) rfl rfl (g := (mkF m 9 #[.val (.ref a1)] [(.ref b3), (.ref a1)])) rfl rfl (hb hby d2_9)
  have Fw4 := (F_targets_a1.ext E3).same W4
  have K4 : Keep h0 h4 [a1] := K3.wr W4 (Or.inl (List.mem_of_getElem? (i := 0) rfl))
  have N4 := Fr.snoc X4 N0 g_a1
  obtain ⟨T5, h5, k5, X5, e5, E5, A5, st5⟩ := newP X4 hx hZ (hw _ (List.mem_of_getElem? (i := 13) rfl)) e4 (g := (mkF m 15 #[.val (.ref a1)] [(.int (8 : Int32)), (.ref a1)])) rfl (hb hby d2_15) rfl (by decide) (cap := 8) (by decide) (by decide) (by decide) (by decide)
  obtain ⟨b5, g5⟩ : ∃ z, z = h4.size := ⟨_, rfl⟩
  rw [← g5] at A5 st5
  have V_b5 : Arv Z h5 b5 k5 .int (8 : Int32) [(.int (0 : Int32)), (.int (0 : Int32)), (.int (0 : Int32)), (.int (0 : Int32)), (.int (0 : Int32)), (.int (0 : Int32)), (.int (0 : Int32)), (.int (0 : Int32))] (.int (0 : Int32)) := (Arv.new A5 (by decide)).pad (pad_rep [] (.int (0 : Int32)) 8)
  have g_b5 : n0 ≤ b5 := Nat.le_trans (Nat.le_trans (Nat.le_trans Z0 E3.1) (Keep.of_wr W4).1) (Nat.le_of_eq g5.symm)
  have sz_b5 : h0.size ≤ b5 := (Nat.le_trans K4.1 (Nat.le_of_eq g5.symm))
  have K5 : Keep h0 h5 [a1] := K4.ext E5
  obtain ⟨T6, h6, X6, e6, W6, st6⟩ := putF X5 hx hZ hown (host := "") (Or.inl (hw _ (List.mem_of_getElem? (i := 16) rfl))) Via.refl e5 (((F_resets_a1.ext E3).other W4 (Or.inr (slot_ne (Or.inl (hw _ (List.mem_of_getElem? (i := 17) rfl))) (Or.inl (hw _ (List.mem_of_getElem? (i := 15) rfl))) (by decide) (t := (.array .int)) (t' := (.array .int)) (by decide) (by decide)))).ext E5) (((E_a1.ext E3).wr W4).ext E5) (Or.inl (hw _ (List.mem_of_getElem? (i := 17) rfl))) (hw _ (List.mem_of_getElem? (i := 5) rfl)) (ty := (.array .int)) (by decide) rfl rfl (g := (mkF m 17 #[.val (.ref a1)] [(.ref b5), (.ref a1)])) rfl rfl (hb hby d2_17)
  have Fw6 := (((F_resets_a1.ext E3).other W4 (Or.inr (slot_ne (Or.inl (hw _ (List.mem_of_getElem? (i := 17) rfl))) (Or.inl (hw _ (List.mem_of_getElem? (i := 15) rfl))) (by decide) (t := (.array .int)) (t' := (.array .int)) (by decide) (by decide)))).ext E5).same W6
  have K6 : Keep h0 h6 [a1] := K5.wr W6 (Or.inl (List.mem_of_getElem? (i := 0) rfl))
  have N6 := Fr.snoc X6 N4 g_a1
  obtain ⟨T7, h7, k7, X7, e7, E7, A7, st7⟩ := newP X6 hx hZ (hw _ (List.mem_of_getElem? (i := 18) rfl)) e6 (g := (mkF m 23 #[.val (.ref a1)] [(.int (8 : Int32)), (.ref a1)])) rfl (hb hby d2_23) rfl (by decide) (cap := 8) (by decide) (by decide) (by decide) (by decide)
  obtain ⟨b7, g7⟩ : ∃ z, z = h6.size := ⟨_, rfl⟩
  rw [← g7] at A7 st7
  have V_b7 : Arv Z h7 b7 k7 .double (8 : Int32) [(.double (0 : UInt64)), (.double (0 : UInt64)), (.double (0 : UInt64)), (.double (0 : UInt64)), (.double (0 : UInt64)), (.double (0 : UInt64)), (.double (0 : UInt64)), (.double (0 : UInt64))] (.double (0 : UInt64)) := (Arv.new A7 (by decide)).pad (pad_rep [] (.double (0 : UInt64)) 8)
  have g_b7 : n0 ≤ b7 := Nat.le_trans (Nat.le_trans (Nat.le_trans (Nat.le_trans (Nat.le_trans Z0 E3.1) (Keep.of_wr W4).1) E5.1) (Keep.of_wr W6).1) (Nat.le_of_eq g7.symm)
  have sz_b7 : h0.size ≤ b7 := (Nat.le_trans K6.1 (Nat.le_of_eq g7.symm))
  have K7 : Keep h0 h7 [a1] := K6.ext E7
  obtain ⟨T8, h8, X8, e8, W8, st8⟩ := putF X7 hx hZ hown (host := "") (Or.inl (hw _ (List.mem_of_getElem? (i := 19) rfl))) Via.refl e7 (((((F_probabilities_a1.ext E3).other W4 (Or.inr (slot_ne (Or.inl (hw _ (List.mem_of_getElem? (i := 20) rfl))) (Or.inl (hw _ (List.mem_of_getElem? (i := 15) rfl))) (by decide) (t := (.array .double)) (t' := (.array .int)) (by decide) (by decide)))).ext E5).other W6 (Or.inr (slot_ne (Or.inl (hw _ (List.mem_of_getElem? (i := 20) rfl))) (Or.inl (hw _ (List.mem_of_getElem? (i := 17) rfl))) (by decide) (t := (.array .double)) (t' := (.array .int)) (by decide) (by decide)))).ext E7) (((((E_a1.ext E3).wr W4).ext E5).wr W6).ext E7) (Or.inl (hw _ (List.mem_of_getElem? (i := 20) rfl))) (hw _ (List.mem_of_getElem? (i := 5) rfl)) (ty := (.array .double)) (by decide) rfl rfl (g := (mkF m 25 #[.val (.ref a1)] [(.ref b7), (.ref a1)])) rfl rfl (hb hby d2_25)
  have Fw8 := (((((F_probabilities_a1.ext E3).other W4 (Or.inr (slot_ne (Or.inl (hw _ (List.mem_of_getElem? (i := 20) rfl))) (Or.inl (hw _ (List.mem_of_getElem? (i := 15) rfl))) (by decide) (t := (.array .double)) (t' := (.array .int)) (by decide) (by decide)))).ext E5).other W6 (Or.inr (slot_ne (Or.inl (hw _ (List.mem_of_getElem? (i := 20) rfl))) (Or.inl (hw _ (List.mem_of_getElem? (i := 17) rfl))) (by decide) (t := (.array .double)) (t' := (.array .int)) (by decide) (by decide)))).ext E7).same W8
  have K8 : Keep h0 h8 [a1] := K7.wr W8 (Or.inl (List.mem_of_getElem? (i := 0) rfl))
  have N8 := Fr.snoc X8 N6 g_a1
  obtain ⟨T9, h9, k9, X9, e9, E9, A9, st9⟩ := newP X8 hx hZ (hw _ (List.mem_of_getElem? (i := 21) rfl)) e8 (g := (mkF m 30 #[.val (.ref a1)] [(.int (0 : Int32)), (.ref a1)])) rfl (hb hby d2_30) rfl (by decide) (cap := 0) (by decide) (by decide) (by decide) (by decide)
  obtain ⟨b9, g9⟩ : ∃ z, z = h8.size := ⟨_, rfl⟩
  rw [← g9] at A9 st9
  have V_b9 := Arv.new A9 (by decide)
  have g_b9 : n0 ≤ b9 := Nat.le_trans (Nat.le_trans (Nat.le_trans (Nat.le_trans (Nat.le_trans (Nat.le_trans (Nat.le_trans Z0 E3.1) (Keep.of_wr W4).1) E5.1) (Keep.of_wr W6).1) E7.1) (Keep.of_wr W8).1) (Nat.le_of_eq g9.symm)
  have sz_b9 : h0.size ≤ b9 := (Nat.le_trans K8.1 (Nat.le_of_eq g9.symm))
  have K9 : Keep h0 h9 [a1] := K8.ext E9
  obtain ⟨T10, h10, X10, e10, W10, st10⟩ := putF X9 hx hZ hown (host := "") (Or.inl (hw _ (List.mem_of_getElem? (i := 22) rfl))) Via.refl e9 (((((((F_keys_a1.ext E3).other W4 (Or.inr (slot_ne (Or.inl (hw _ (List.mem_of_getElem? (i := 23) rfl))) (Or.inl (hw _ (List.mem_of_getElem? (i := 15) rfl))) (by decide) (t := (.array .long)) (t' := (.array .int)) (by decide) (by decide)))).ext E5).other W6 (Or.inr (slot_ne (Or.inl (hw _ (List.mem_of_getElem? (i := 23) rfl))) (Or.inl (hw _ (List.mem_of_getElem? (i := 17) rfl))) (by decide) (t := (.array .long)) (t' := (.array .int)) (by decide) (by decide)))).ext E7).other W8 (Or.inr (slot_ne (Or.inl (hw _ (List.mem_of_getElem? (i := 23) rfl))) (Or.inl (hw _ (List.mem_of_getElem? (i := 20) rfl))) (by decide) (t := (.array .long)) (t' := (.array .double)) (by decide) (by decide)))).ext E9) (((((((E_a1.ext E3).wr W4).ext E5).wr W6).ext E7).wr W8).ext E9) (Or.inl (hw _ (List.mem_of_getElem? (i := 23) rfl))) (hw _ (List.mem_of_getElem? (i := 5) rfl)) (ty := (.array .long)) (by decide) rfl rfl (g := (mkF m 32 #[.val (.ref a1)] [(.ref b9), (.ref a1)])) rfl rfl (hb hby d2_32)
  have Fw10 := (((((((F_keys_a1.ext E3).other W4 (Or.inr (slot_ne (Or.inl (hw _ (List.mem_of_getElem? (i := 23) rfl))) (Or.inl (hw _ (List.mem_of_getElem? (i := 15) rfl))) (by decide) (t := (.array .long)) (t' := (.array .int)) (by decide) (by decide)))).ext E5).other W6 (Or.inr (slot_ne (Or.inl (hw _ (List.mem_of_getElem? (i := 23) rfl))) (Or.inl (hw _ (List.mem_of_getElem? (i := 17) rfl))) (by decide) (t := (.array .long)) (t' := (.array .int)) (by decide) (by decide)))).ext E7).other W8 (Or.inr (slot_ne (Or.inl (hw _ (List.mem_of_getElem? (i := 23) rfl))) (Or.inl (hw _ (List.mem_of_getElem? (i := 20) rfl))) (by decide) (t := (.array .long)) (t' := (.array .double)) (by decide) (by decide)))).ext E9).same W10
  have K10 : Keep h0 h10 [a1] := K9.wr W10 (Or.inl (List.mem_of_getElem? (i := 0) rfl))
  have N10 := Fr.snoc X10 N8 g_a1
  obtain ⟨T11, h11, k11, X11, e11, E11, A11, st11⟩ := newP X10 hx hZ (hw _ (List.mem_of_getElem? (i := 13) rfl)) e10 (g := (mkF m 37 #[.val (.ref a1)] [(.int (0 : Int32)), (.ref a1)])) rfl (hb hby d2_37) rfl (by decide) (cap := 0) (by decide) (by decide) (by decide) (by decide)
  obtain ⟨b11, g11⟩ : ∃ z, z = h10.size := ⟨_, rfl⟩
  rw [← g11] at A11 st11
  have V_b11 := Arv.new A11 (by decide)
  have g_b11 : n0 ≤ b11 := Nat.le_trans (Nat.le_trans (Nat.le_trans (Nat.le_trans (Nat.le_trans (Nat.le_trans (Nat.le_trans (Nat.le_trans (Nat.le_trans Z0 E3.1) (Keep.of_wr W4).1) E5.1) (Keep.of_wr W6).1) E7.1) (Keep.of_wr W8).1) E9.1) (Keep.of_wr W10).1) (Nat.le_of_eq g11.symm)
  have sz_b11 : h0.size ≤ b11 := (Nat.le_trans K10.1 (Nat.le_of_eq g11.symm))
  have K11 : Keep h0 h11 [a1] := K10.ext E11
  obtain ⟨T12, h12, X12, e12, W12, st12⟩ := putF X11 hx hZ hown (host := "") (Or.inl (hw _ (List.mem_of_getElem? (i := 24) rfl))) Via.refl e11 (((((((((F_spareTargets_a1.ext E3).other W4 (Or.inr (slot_ne (Or.inl (hw _ (List.mem_of_getElem? (i := 25) rfl))) (Or.inl (hw _ (List.mem_of_getElem? (i := 15) rfl))) (by decide) (t := (.array .int)) (t' := (.array .int)) (by decide) (by decide)))).ext E5).other W6 (Or.inr (slot_ne (Or.inl (hw _ (List.mem_of_getElem? (i := 25) rfl))) (Or.inl (hw _ (List.mem_of_getElem? (i := 17) rfl))) (by decide) (t := (.array .int)) (t' := (.array .int)) (by decide) (by decide)))).ext E7).other W8 (Or.inr (slot_ne (Or.inl (hw _ (List.mem_of_getElem? (i := 25) rfl))) (Or.inl (hw _ (List.mem_of_getElem? (i := 20) rfl))) (by decide) (t := (.array .int)) (t' := (.array .double)) (by decide) (by decide)))).ext E9).other W10 (Or.inr (slot_ne (Or.inl (hw _ (List.mem_of_getElem? (i := 25) rfl))) (Or.inl (hw _ (List.mem_of_getElem? (i := 23) rfl))) (by decide) (t := (.array .int)) (t' := (.array .long)) (by decide) (by decide)))).ext E11) (((((((((E_a1.ext E3).wr W4).ext E5).wr W6).ext E7).wr W8).ext E9).wr W10).ext E11) (Or.inl (hw _ (List.mem_of_getElem? (i := 25) rfl))) (hw _ (List.mem_of_getElem? (i := 5) rfl)) (ty := (.array .int)) (by decide) rfl rfl (g := (mkF m 39 #[.val (.ref a1)] [(.ref b11), (.ref a1)])) rfl rfl (hb hby d2_39)
  have Fw12 := (((((((((F_spareTargets_a1.ext E3).other W4 (Or.inr (slot_ne (Or.inl (hw _ (List.mem_of_getElem? (i := 25) rfl))) (Or.inl (hw _ (List.mem_of_getElem? (i := 15) rfl))) (by decide) (t := (.array .int)) (t' := (.array .int)) (by decide) (by decide)))).ext E5).other W6 (Or.inr (slot_ne (Or.inl (hw _ (List.mem_of_getElem? (i := 25) rfl))) (Or.inl (hw _ (List.mem_of_getElem? (i := 17) rfl))) (by decide) (t := (.array .int)) (t' := (.array .int)) (by decide) (by decide)))).ext E7).other W8 (Or.inr (slot_ne (Or.inl (hw _ (List.mem_of_getElem? (i := 25) rfl))) (Or.inl (hw _ (List.mem_of_getElem? (i := 20) rfl))) (by decide) (t := (.array .int)) (t' := (.array .double)) (by decide) (by decide)))).ext E9).other W10 (Or.inr (slot_ne (Or.inl (hw _ (List.mem_of_getElem? (i := 25) rfl))) (Or.inl (hw _ (List.mem_of_getElem? (i := 23) rfl))) (by decide) (t := (.array .int)) (t' := (.array .long)) (by decide) (by decide)))).ext E11).same W12
  have K12 : Keep h0 h12 [a1] := K11.wr W12 (Or.inl (List.mem_of_getElem? (i := 0) rfl))
  have N12 := Fr.snoc X12 N10 g_a1
  obtain ⟨T13, h13, k13, X13, e13, E13, A13, st13⟩ := newP X12 hx hZ (hw _ (List.mem_of_getElem? (i := 13) rfl)) e12 (g := (mkF m 44 #[.val (.ref a1)] [(.int (0 : Int32)), (.ref a1)])) rfl (hb hby d2_44) rfl (by decide) (cap := 0) (by decide) (by decide) (by decide) (by decide)
  obtain ⟨b13, g13⟩ : ∃ z, z = h12.size := ⟨_, rfl⟩
  rw [← g13] at A13 st13
  have V_b13 := Arv.new A13 (by decide)
  have g_b13 : n0 ≤ b13 := Nat.le_trans (Nat.le_trans (Nat.le_trans (Nat.le_trans (Nat.le_trans (Nat.le_trans (Nat.le_trans (Nat.le_trans (Nat.le_trans (Nat.le_trans (Nat.le_trans Z0 E3.1) (Keep.of_wr W4).1) E5.1) (Keep.of_wr W6).1) E7.1) (Keep.of_wr W8).1) E9.1) (Keep.of_wr W10).1) E11.1) (Keep.of_wr W12).1) (Nat.le_of_eq g13.symm)
  have sz_b13 : h0.size ≤ b13 := (Nat.le_trans K12.1 (Nat.le_of_eq g13.symm))
  have K13 : Keep h0 h13 [a1] := K12.ext E13
  obtain ⟨T14, h14, X14, e14, W14, st14⟩ := putF X13 hx hZ hown (host := "") (Or.inl (hw _ (List.mem_of_getElem? (i := 26) rfl))) Via.refl e13 (((((((((((F_spareResets_a1.ext E3).other W4 (Or.inr (slot_ne (Or.inl (hw _ (List.mem_of_getElem? (i := 27) rfl))) (Or.inl (hw _ (List.mem_of_getElem? (i := 15) rfl))) (by decide) (t := (.array .int)) (t' := (.array .int)) (by decide) (by decide)))).ext E5).other W6 (Or.inr (slot_ne (Or.inl (hw _ (List.mem_of_getElem? (i := 27) rfl))) (Or.inl (hw _ (List.mem_of_getElem? (i := 17) rfl))) (by decide) (t := (.array .int)) (t' := (.array .int)) (by decide) (by decide)))).ext E7).other W8 (Or.inr (slot_ne (Or.inl (hw _ (List.mem_of_getElem? (i := 27) rfl))) (Or.inl (hw _ (List.mem_of_getElem? (i := 20) rfl))) (by decide) (t := (.array .int)) (t' := (.array .double)) (by decide) (by decide)))).ext E9).other W10 (Or.inr (slot_ne (Or.inl (hw _ (List.mem_of_getElem? (i := 27) rfl))) (Or.inl (hw _ (List.mem_of_getElem? (i := 23) rfl))) (by decide) (t := (.array .int)) (t' := (.array .long)) (by decide) (by decide)))).ext E11).other W12 (Or.inr (slot_ne (Or.inl (hw _ (List.mem_of_getElem? (i := 27) rfl))) (Or.inl (hw _ (List.mem_of_getElem? (i := 25) rfl))) (by decide) (t := (.array .int)) (t' := (.array .int)) (by decide) (by decide)))).ext E13) (((((((((((E_a1.ext E3).wr W4).ext E5).wr W6).ext E7).wr W8).ext E9).wr W10).ext E11).wr W12).ext E13) (Or.inl (hw _ (List.mem_of_getElem? (i := 27) rfl))) (hw _ (List.mem_of_getElem? (i := 5) rfl)) (ty := (.array .int)) (by decide) rfl rfl (g := (mkF m 46 #[.val (.ref a1)] [(.ref b13), (.ref a1)])) rfl rfl (hb hby d2_46)
  have Fw14 := (((((((((((F_spareResets_a1.ext E3).other W4 (Or.inr (slot_ne (Or.inl (hw _ (List.mem_of_getElem? (i := 27) rfl))) (Or.inl (hw _ (List.mem_of_getElem? (i := 15) rfl))) (by decide) (t := (.array .int)) (t' := (.array .int)) (by decide) (by decide)))).ext E5).other W6 (Or.inr (slot_ne (Or.inl (hw _ (List.mem_of_getElem? (i := 27) rfl))) (Or.inl (hw _ (List.mem_of_getElem? (i := 17) rfl))) (by decide) (t := (.array .int)) (t' := (.array .int)) (by decide) (by decide)))).ext E7).other W8 (Or.inr (slot_ne (Or.inl (hw _ (List.mem_of_getElem? (i := 27) rfl))) (Or.inl (hw _ (List.mem_of_getElem? (i := 20) rfl))) (by decide) (t := (.array .int)) (t' := (.array .double)) (by decide) (by decide)))).ext E9).other W10 (Or.inr (slot_ne (Or.inl (hw _ (List.mem_of_getElem? (i := 27) rfl))) (Or.inl (hw _ (List.mem_of_getElem? (i := 23) rfl))) (by decide) (t := (.array .int)) (t' := (.array .long)) (by decide) (by decide)))).ext E11).other W12 (Or.inr (slot_ne (Or.inl (hw _ (List.mem_of_getElem? (i := 27) rfl))) (Or.inl (hw _ (List.mem_of_getElem? (i := 25) rfl))) (by decide) (t := (.array .int)) (t' := (.array .int)) (by decide) (by decide)))).ext E13).same W14
  have K14 : Keep h0 h14 [a1] := K13.wr W14 (Or.inl (List.mem_of_getElem? (i := 0) rfl))
  have N14 := Fr.snoc X14 N12 g_a1
  obtain ⟨T15, h15, k15, X15, e15, E15, A15, st15⟩ := newP X14 hx hZ (hw _ (List.mem_of_getElem? (i := 18) rfl)) e14 (g := (mkF m 51 #[.val (.ref a1)] [(.int (0 : Int32)), (.ref a1)])) rfl (hb hby d2_51) rfl (by decide) (cap := 0) (by decide) (by decide) (by decide) (by decide)
  obtain ⟨b15, g15⟩ : ∃ z, z = h14.size := ⟨_, rfl⟩
  rw [← g15] at A15 st15
  have V_b15 := Arv.new A15 (by decide)
  have g_b15 : n0 ≤ b15 := Nat.le_trans (Nat.le_trans (Nat.le_trans (Nat.le_trans (Nat.le_trans (Nat.le_trans (Nat.le_trans (Nat.le_trans (Nat.le_trans (Nat.le_trans (Nat.le_trans (Nat.le_trans (Nat.le_trans Z0 E3.1) (Keep.of_wr W4).1) E5.1) (Keep.of_wr W6).1) E7.1) (Keep.of_wr W8).1) E9.1) (Keep.of_wr W10).1) E11.1) (Keep.of_wr W12).1) E13.1) (Keep.of_wr W14).1) (Nat.le_of_eq g15.symm)
  have sz_b15 : h0.size ≤ b15 := (Nat.le_trans K14.1 (Nat.le_of_eq g15.symm))
  have K15 : Keep h0 h15 [a1] := K14.ext E15
  obtain ⟨T16, h16, X16, e16, W16, st16⟩ := putF X15 hx hZ hown (host := "") (Or.inl (hw _ (List.mem_of_getElem? (i := 28) rfl))) Via.refl e15 (((((((((((((F_spareProbabilities_a1.ext E3).other W4 (Or.inr (slot_ne (Or.inl (hw _ (List.mem_of_getElem? (i := 29) rfl))) (Or.inl (hw _ (List.mem_of_getElem? (i := 15) rfl))) (by decide) (t := (.array .double)) (t' := (.array .int)) (by decide) (by decide)))).ext E5).other W6 (Or.inr (slot_ne (Or.inl (hw _ (List.mem_of_getElem? (i := 29) rfl))) (Or.inl (hw _ (List.mem_of_getElem? (i := 17) rfl))) (by decide) (t := (.array .double)) (t' := (.array .int)) (by decide) (by decide)))).ext E7).other W8 (Or.inr (slot_ne (Or.inl (hw _ (List.mem_of_getElem? (i := 29) rfl))) (Or.inl (hw _ (List.mem_of_getElem? (i := 20) rfl))) (by decide) (t := (.array .double)) (t' := (.array .double)) (by decide) (by decide)))).ext E9).other W10 (Or.inr (slot_ne (Or.inl (hw _ (List.mem_of_getElem? (i := 29) rfl))) (Or.inl (hw _ (List.mem_of_getElem? (i := 23) rfl))) (by decide) (t := (.array .double)) (t' := (.array .long)) (by decide) (by decide)))).ext E11).other W12 (Or.inr (slot_ne (Or.inl (hw _ (List.mem_of_getElem? (i := 29) rfl))) (Or.inl (hw _ (List.mem_of_getElem? (i := 25) rfl))) (by decide) (t := (.array .double)) (t' := (.array .int)) (by decide) (by decide)))).ext E13).other W14 (Or.inr (slot_ne (Or.inl (hw _ (List.mem_of_getElem? (i := 29) rfl))) (Or.inl (hw _ (List.mem_of_getElem? (i := 27) rfl))) (by decide) (t := (.array .double)) (t' := (.array .int)) (by decide) (by decide)))).ext E15) (((((((((((((E_a1.ext E3).wr W4).ext E5).wr W6).ext E7).wr W8).ext E9).wr W10).ext E11).wr W12).ext E13).wr W14).ext E15) (Or.inl (hw _ (List.mem_of_getElem? (i := 29) rfl))) (hw _ (List.mem_of_getElem? (i := 5) rfl)) (ty := (.array .double)) (by decide) rfl rfl (g := (mkF m 53 #[.val (.ref a1)] [(.ref b15), (.ref a1)])) rfl rfl (hb hby d2_53)
  have Fw16 := (((((((((((((F_spareProbabilities_a1.ext E3).other W4 (Or.inr (slot_ne (Or.inl (hw _ (List.mem_of_getElem? (i := 29) rfl))) (Or.inl (hw _ (List.mem_of_getElem? (i := 15) rfl))) (by decide) (t := (.array .double)) (t' := (.array .int)) (by decide) (by decide)))).ext E5).other W6 (Or.inr (slot_ne (Or.inl (hw _ (List.mem_of_getElem? (i := 29) rfl))) (Or.inl (hw _ (List.mem_of_getElem? (i := 17) rfl))) (by decide) (t := (.array .double)) (t' := (.array .int)) (by decide) (by decide)))).ext E7).other W8 (Or.inr (slot_ne (Or.inl (hw _ (List.mem_of_getElem? (i := 29) rfl))) (Or.inl (hw _ (List.mem_of_getElem? (i := 20) rfl))) (by decide) (t := (.array .double)) (t' := (.array .double)) (by decide) (by decide)))).ext E9).other W10 (Or.inr (slot_ne (Or.inl (hw _ (List.mem_of_getElem? (i := 29) rfl))) (Or.inl (hw _ (List.mem_of_getElem? (i := 23) rfl))) (by decide) (t := (.array .double)) (t' := (.array .long)) (by decide) (by decide)))).ext E11).other W12 (Or.inr (slot_ne (Or.inl (hw _ (List.mem_of_getElem? (i := 29) rfl))) (Or.inl (hw _ (List.mem_of_getElem? (i := 25) rfl))) (by decide) (t := (.array .double)) (t' := (.array .int)) (by decide) (by decide)))).ext E13).other W14 (Or.inr (slot_ne (Or.inl (hw _ (List.mem_of_getElem? (i := 29) rfl))) (Or.inl (hw _ (List.mem_of_getElem? (i := 27) rfl))) (by decide) (t := (.array .double)) (t' := (.array .int)) (by decide) (by decide)))).ext E15).same W16
  have K16 : Keep h0 h16 [a1] := K15.wr W16 (Or.inl (List.mem_of_getElem? (i := 0) rfl))
  have N16 := Fr.snoc X16 N14 g_a1
  obtain ⟨fs, hr, hrun, hended, hW, hsame⟩ := X16.leave (v := none) (fun _ => rfl)
  refine ⟨_, _, pre0 _ ?_, hrun, hended, _, _, rfl, ?_, ⟨_, rfl⟩, hW, hsame.mono (by decide) (by decide)⟩
  · show Steps p.tables e below (s₁.setTop (mkF m 0 #[.val (.ref a1)] [])) _
    refine XS.aloadN X0.here hx rfl (hb hby d2_0) rfl rfl ?_
    show Steps p.tables e below (s₁.setTop (mkF m 1 #[.val (.ref a1)] [(.ref a1)])) _
    refine st2 _ ?_
    show Steps p.tables e below (T2.setTop (mkF m 4 #[.val (.ref a1)] [])) _
    refine XS.aloadN X2.here hx rfl (hb hby d2_4) rfl rfl ?_
    show Steps p.tables e below (T2.setTop (mkF m 5 #[.val (.ref a1)] [(.ref a1)])) _
    refine XS.bipush X2.here hx rfl (hb hby d2_5) ?_
    show Steps p.tables e below (T2.setTop (mkF m 7 #[.val (.ref a1)] [(.int (8 : Int32)), (.ref a1)])) _
    refine st3 _ ?_
    show Steps p.tables e below (T3.setTop (mkF m 9 #[.val (.ref a1)] [(.ref b3), (.ref a1)])) _
    refine st4 _ ?_
    show Steps p.tables e below (T4.setTop (mkF m 12 #[.val (.ref a1)] [])) _
    refine XS.aloadN X4.here hx rfl (hb hby d2_12) rfl rfl ?_
    show Steps p.tables e below (T4.setTop (mkF m 13 #[.val (.ref a1)] [(.ref a1)])) _
    refine XS.bipush X4.here hx rfl (hb hby d2_13) ?_
    show Steps p.tables e below (T4.setTop (mkF m 15 #[.val (.ref a1)] [(.int (8 : Int32)), (.ref a1)])) _
    refine st5 _ ?_
    show Steps p.tables e below (T5.setTop (mkF m 17 #[.val (.ref a1)] [(.ref b5), (.ref a1)])) _
    refine st6 _ ?_
    show Steps p.tables e below (T6.setTop (mkF m 20 #[.val (.ref a1)] [])) _
    refine XS.aloadN X6.here hx rfl (hb hby d2_20) rfl rfl ?_
    show Steps p.tables e below (T6.setTop (mkF m 21 #[.val (.ref a1)] [(.ref a1)])) _
    refine XS.bipush X6.here hx rfl (hb hby d2_21) ?_
    show Steps p.tables e below (T6.setTop (mkF m 23 #[.val (.ref a1)] [(.int (8 : Int32)), (.ref a1)])) _
    refine st7 _ ?_
    show Steps p.tables e below (T7.setTop (mkF m 25 #[.val (.ref a1)] [(.ref b7), (.ref a1)])) _
    refine st8 _ ?_
    show Steps p.tables e below (T8.setTop (mkF m 28 #[.val (.ref a1)] [])) _
    refine XS.aloadN X8.here hx rfl (hb hby d2_28) rfl rfl ?_
    show Steps p.tables e below (T8.setTop (mkF m 29 #[.val (.ref a1)] [(.ref a1)])) _
    refine XS.iconst X8.here hx rfl (hb hby d2_29) ?_
    show Steps p.tables e below (T8.setTop (mkF m 30 #[.val (.ref a1)] [(.int (0 : Int32)), (.ref a1)])) _
    refine st9 _ ?_
    show Steps p.tables e below (T9.setTop (mkF m 32 #[.val (.ref a1)] [(.ref b9), (.ref a1)])) _
    refine st10 _ ?_
    show Steps p.tables e below (T10.setTop (mkF m 35 #[.val (.ref a1)] [])) _
    refine XS.aloadN X10.here hx rfl (hb hby d2_35) rfl rfl ?_
    show Steps p.tables e below (T10.setTop (mkF m 36 #[.val (.ref a1)] [(.ref a1)])) _
    refine XS.iconst X10.here hx rfl (hb hby d2_36) ?_
    show Steps p.tables e below (T10.setTop (mkF m 37 #[.val (.ref a1)] [(.int (0 : Int32)), (.ref a1)])) _
    refine st11 _ ?_
    show Steps p.tables e below (T11.setTop (mkF m 39 #[.val (.ref a1)] [(.ref b11), (.ref a1)])) _
    refine st12 _ ?_
    show Steps p.tables e below (T12.setTop (mkF m 42 #[.val (.ref a1)] [])) _
    refine XS.aloadN X12.here hx rfl (hb hby d2_42) rfl rfl ?_
    show Steps p.tables e below (T12.setTop (mkF m 43 #[.val (.ref a1)] [(.ref a1)])) _
    refine XS.iconst X12.here hx rfl (hb hby d2_43) ?_
    show Steps p.tables e below (T12.setTop (mkF m 44 #[.val (.ref a1)] [(.int (0 : Int32)), (.ref a1)])) _
    refine st13 _ ?_
    show Steps p.tables e below (T13.setTop (mkF m 46 #[.val (.ref a1)] [(.ref b13), (.ref a1)])) _
    refine st14 _ ?_
    show Steps p.tables e below (T14.setTop (mkF m 49 #[.val (.ref a1)] [])) _
    refine XS.aloadN X14.here hx rfl (hb hby d2_49) rfl rfl ?_
    show Steps p.tables e below (T14.setTop (mkF m 50 #[.val (.ref a1)] [(.ref a1)])) _
    refine XS.iconst X14.here hx rfl (hb hby d2_50) ?_
    show Steps p.tables e below (T14.setTop (mkF m 51 #[.val (.ref a1)] [(.int (0 : Int32)), (.ref a1)])) _
    refine st15 _ ?_
    show Steps p.tables e below (T15.setTop (mkF m 53 #[.val (.ref a1)] [(.ref b15), (.ref a1)])) _
    refine st16 _ ?_
    show Steps p.tables e below (T16.setTop (mkF m 56 #[.val (.ref a1)] [])) _
    exact X16.returnOut hx Bd.returns (hb hby d2_56) hr
  · show Q2 Z a1 h0 n0 _ T16.heap _
    rw [e16]
    have n3 : a1 ≠ b3 := Nat.ne_of_lt (Nat.lt_of_lt_of_le E_a1.lt sz_b3)
    have n5 : a1 ≠ b5 := Nat.ne_of_lt (Nat.lt_of_lt_of_le E_a1.lt sz_b5)
    have n7 : a1 ≠ b7 := Nat.ne_of_lt (Nat.lt_of_lt_of_le E_a1.lt sz_b7)
    have l35 : b3 < b5 := Nat.lt_of_lt_of_le V_b3.lt (Nat.le_trans (Keep.of_wr W4).1 (Nat.le_of_eq g5.symm))
    have l57 : b5 < b7 := Nat.lt_of_lt_of_le V_b5.lt (Nat.le_trans (Keep.of_wr W6).1 (Nat.le_of_eq g7.symm))
    refine ⟨rfl, N16, K16, b3, b5, b7, sz_b3, sz_b5, sz_b7, fun ft fr fp => ⟨((((((((((((((E_a1.ext E3).wr W4).ext E5).wr W6).ext E7).wr W8).ext E9).wr W10).ext E11).wr W12).ext E13).wr W14).ext E15).wr W16), ((((((((((((((F_size_a1.ext E3).other W4 (Or.inr (slot_ne (Or.inl (hw _ (List.mem_of_getElem? (i := 43) rfl))) (Or.inl (hw _ (List.mem_of_getElem? (i := 15) rfl))) (by decide) (t := .int) (t' := (.array .int)) (by decide) (by decide)))).ext E5).other W6 (Or.inr (slot_ne (Or.inl (hw _ (List.mem_of_getElem? (i := 43) rfl))) (Or.inl (hw _ (List.mem_of_getElem? (i := 17) rfl))) (by decide) (t := .int) (t' := (.array .int)) (by decide) (by decide)))).ext E7).other W8 (Or.inr (slot_ne (Or.inl (hw _ (List.mem_of_getElem? (i := 43) rfl))) (Or.inl (hw _ (List.mem_of_getElem? (i := 20) rfl))) (by decide) (t := .int) (t' := (.array .double)) (by decide) (by decide)))).ext E9).other W10 (Or.inr (slot_ne (Or.inl (hw _ (List.mem_of_getElem? (i := 43) rfl))) (Or.inl (hw _ (List.mem_of_getElem? (i := 23) rfl))) (by decide) (t := .int) (t' := (.array .long)) (by decide) (by decide)))).ext E11).other W12 (Or.inr (slot_ne (Or.inl (hw _ (List.mem_of_getElem? (i := 43) rfl))) (Or.inl (hw _ (List.mem_of_getElem? (i := 25) rfl))) (by decide) (t := .int) (t' := (.array .int)) (by decide) (by decide)))).ext E13).other W14 (Or.inr (slot_ne (Or.inl (hw _ (List.mem_of_getElem? (i := 43) rfl))) (Or.inl (hw _ (List.mem_of_getElem? (i := 27) rfl))) (by decide) (t := .int) (t' := (.array .int)) (by decide) (by decide)))).ext E15).other W16 (Or.inr (slot_ne (Or.inl (hw _ (List.mem_of_getElem? (i := 43) rfl))) (Or.inl (hw _ (List.mem_of_getElem? (i := 29) rfl))) (by decide) (t := .int) (t' := (.array .double)) (by decide) (by decide)))), ((((((((((((Fw4.ext E5).other W6 (Or.inr (slot_ne (Or.inl (hw _ (List.mem_of_getElem? (i := 15) rfl))) (Or.inl (hw _ (List.mem_of_getElem? (i := 17) rfl))) (by decide) (t := (.array .int)) (t' := (.array .int)) (by decide) (by decide)))).ext E7).other W8 (Or.inr (slot_ne (Or.inl (hw _ (List.mem_of_getElem? (i := 15) rfl))) (Or.inl (hw _ (List.mem_of_getElem? (i := 20) rfl))) (by decide) (t := (.array .int)) (t' := (.array .double)) (by decide) (by decide)))).ext E9).other W10 (Or.inr (slot_ne (Or.inl (hw _ (List.mem_of_getElem? (i := 15) rfl))) (Or.inl (hw _ (List.mem_of_getElem? (i := 23) rfl))) (by decide) (t := (.array .int)) (t' := (.array .long)) (by decide) (by decide)))).ext E11).other W12 (Or.inr (slot_ne (Or.inl (hw _ (List.mem_of_getElem? (i := 15) rfl))) (Or.inl (hw _ (List.mem_of_getElem? (i := 25) rfl))) (by decide) (t := (.array .int)) (t' := (.array .int)) (by decide) (by decide)))).ext E13).other W14 (Or.inr (slot_ne (Or.inl (hw _ (List.mem_of_getElem? (i := 15) rfl))) (Or.inl (hw _ (List.mem_of_getElem? (i := 27) rfl))) (by decide) (t := (.array .int)) (t' := (.array .int)) (by decide) (by decide)))).ext E15).other W16 (Or.inr (slot_ne (Or.inl (hw _ (List.mem_of_getElem? (i := 15) rfl))) (Or.inl (hw _ (List.mem_of_getElem? (i := 29) rfl))) (by decide) (t := (.array .int)) (t' := (.array .double)) (by decide) (by decide)))), ((((((((((Fw6.ext E7).other W8 (Or.inr (slot_ne (Or.inl (hw _ (List.mem_of_getElem? (i := 17) rfl))) (Or.inl (hw _ (List.mem_of_getElem? (i := 20) rfl))) (by decide) (t := (.array .int)) (t' := (.array .double)) (by decide) (by decide)))).ext E9).other W10 (Or.inr (slot_ne (Or.inl (hw _ (List.mem_of_getElem? (i := 17) rfl))) (Or.inl (hw _ (List.mem_of_getElem? (i := 23) rfl))) (by decide) (t := (.array .int)) (t' := (.array .long)) (by decide) (by decide)))).ext E11).other W12 (Or.inr (slot_ne (Or.inl (hw _ (List.mem_of_getElem? (i := 17) rfl))) (Or.inl (hw _ (List.mem_of_getElem? (i := 25) rfl))) (by decide) (t := (.array .int)) (t' := (.array .int)) (by decide) (by decide)))).ext E13).other W14 (Or.inr (slot_ne (Or.inl (hw _ (List.mem_of_getElem? (i := 17) rfl))) (Or.inl (hw _ (List.mem_of_getElem? (i := 27) rfl))) (by decide) (t := (.array .int)) (t' := (.array .int)) (by decide) (by decide)))).ext E15).other W16 (Or.inr (slot_ne (Or.inl (hw _ (List.mem_of_getElem? (i := 17) rfl))) (Or.inl (hw _ (List.mem_of_getElem? (i := 29) rfl))) (by decide) (t := (.array .int)) (t' := (.array .double)) (by decide) (by decide)))), ((((((((Fw8.ext E9).other W10 (Or.inr (slot_ne (Or.inl (hw _ (List.mem_of_getElem? (i := 20) rfl))) (Or.inl (hw _ (List.mem_of_getElem? (i := 23) rfl))) (by decide) (t := (.array .double)) (t' := (.array .long)) (by decide) (by decide)))).ext E11).other W12 (Or.inr (slot_ne (Or.inl (hw _ (List.mem_of_getElem? (i := 20) rfl))) (Or.inl (hw _ (List.mem_of_getElem? (i := 25) rfl))) (by decide) (t := (.array .double)) (t' := (.array .int)) (by decide) (by decide)))).ext E13).other W14 (Or.inr (slot_ne (Or.inl (hw _ (List.mem_of_getElem? (i := 20) rfl))) (Or.inl (hw _ (List.mem_of_getElem? (i := 27) rfl))) (by decide) (t := (.array .double)) (t' := (.array .int)) (by decide) (by decide)))).ext E15).other W16 (Or.inr (slot_ne (Or.inl (hw _ (List.mem_of_getElem? (i := 20) rfl))) (Or.inl (hw _ (List.mem_of_getElem? (i := 29) rfl))) (by decide) (t := (.array .double)) (t' := (.array .double)) (by decide) (by decide)))), ?_, ?_, ?_, n3, n5, n7, Nat.ne_of_lt l35, Nat.ne_of_lt (Nat.lt_trans l35 l57), Nat.ne_of_lt l57⟩⟩
    · exact ((((((((((((((own_Fp.zero (len := 8) V_b3 (by decide) _).other W4 n3.symm).ext E5).other W6 n3.symm).ext E7).other W8 n3.symm).ext E9).other W10 n3.symm).ext E11).other W12 n3.symm).ext E13).other W14 n3.symm).ext E15).other W16 n3.symm)
    · exact ((((((((((((own_Fp.zero (len := 8) V_b5 (by decide) _).other W6 n5.symm).ext E7).other W8 n5.symm).ext E9).other W10 n5.symm).ext E11).other W12 n5.symm).ext E13).other W14 n5.symm).ext E15).other W16 n5.symm)
    · exact ((((((((((own_Fp.zero (len := 8) V_b7 (by decide) _).other W8 n7.symm).ext E9).other W10 n7.symm).ext E11).other W12 n7.symm).ext E13).other W14 n7.symm).ext E15).other W16 n7.symm)
theorem d8_0 : decode prog_7_method_8_code 0 = .ok (.aload_n 0, 1) := by decide +kernel
theorem d8_1 : decode prog_7_method_8_code 1 = .ok (.getfield 33, 3) := by decide +kernel
theorem d8_4 : decode prog_7_method_8_code 4 = .ok (.aload_n 0, 1) := by decide +kernel
theorem d8_5 : decode prog_7_method_8_code 5 = .ok (.getfield 7, 3) := by decide +kernel
theorem d8_8 : decode prog_7_method_8_code 8 = .ok (.arraylength, 1) := by decide +kernel
theorem d8_9 : decode prog_7_method_8_code 9 = .ok (.if_icmp .ne 54, 3) := by decide +kernel
theorem d8_63 : decode prog_7_method_8_code 63 = .ok (.aload_n 0, 1) := by decide +kernel
theorem d8_64 : decode prog_7_method_8_code 64 = .ok (.getfield 7, 3) := by decide +kernel
theorem d8_67 : decode prog_7_method_8_code 67 = .ok (.aload_n 0, 1) := by decide +kernel
theorem d8_68 : decode prog_7_method_8_code 68 = .ok (.getfield 33, 3) := by decide +kernel
theorem d8_71 : decode prog_7_method_8_code 71 = .ok (.iload_n 1, 1) := by decide +kernel
theorem d8_72 : decode prog_7_method_8_code 72 = .ok (.iastore, 1) := by decide +kernel
theorem d8_73 : decode prog_7_method_8_code 73 = .ok (.aload_n 0, 1) := by decide +kernel
theorem d8_74 : decode prog_7_method_8_code 74 = .ok (.getfield 13, 3) := by decide +kernel
theorem d8_77 : decode prog_7_method_8_code 77 = .ok (.aload_n 0, 1) := by decide +kernel
theorem d8_78 : decode prog_7_method_8_code 78 = .ok (.getfield 33, 3) := by decide +kernel
theorem d8_81 : decode prog_7_method_8_code 81 = .ok (.iload_n 2, 1) := by decide +kernel
theorem d8_82 : decode prog_7_method_8_code 82 = .ok (.iastore, 1) := by decide +kernel
theorem d8_83 : decode prog_7_method_8_code 83 = .ok (.aload_n 0, 1) := by decide +kernel
theorem d8_84 : decode prog_7_method_8_code 84 = .ok (.getfield 16, 3) := by decide +kernel
theorem d8_87 : decode prog_7_method_8_code 87 = .ok (.aload_n 0, 1) := by decide +kernel
theorem d8_88 : decode prog_7_method_8_code 88 = .ok (.getfield 33, 3) := by decide +kernel
theorem d8_91 : decode prog_7_method_8_code 91 = .ok (.dload_n 3, 1) := by decide +kernel
theorem d8_92 : decode prog_7_method_8_code 92 = .ok (.dastore, 1) := by decide +kernel
theorem d8_93 : decode prog_7_method_8_code 93 = .ok (.aload_n 0, 1) := by decide +kernel
theorem d8_94 : decode prog_7_method_8_code 94 = .ok (.dup, 1) := by decide +kernel
theorem d8_95 : decode prog_7_method_8_code 95 = .ok (.getfield 33, 3) := by decide +kernel
theorem d8_98 : decode prog_7_method_8_code 98 = .ok (.iconst 1, 1) := by decide +kernel
theorem d8_99 : decode prog_7_method_8_code 99 = .ok (.iadd, 1) := by decide +kernel
theorem d8_100 : decode prog_7_method_8_code 100 = .ok (.putfield 33, 3) := by decide +kernel
theorem d8_103 : decode prog_7_method_8_code 103 = .ok (.return_, 1) := by decide +kernel
theorem pn_8 : plainName "com/example/chance_checker/chancechecker/construction/Distribution" = true := by first | (simp [plainName, overriddenIn]; done) | decide +kernel
theorem ef_8 (m : MethodId) (x0 : Addr) (x1 : Int32) (x2 : Int32) (x3 : UInt64) : entryFrame m #[(.ref x0), (.int x1), (.int x2), (.double x3)] 5 = mkF m 0 #[.val (.ref x0), .val (.int x1), .val (.int x2), .val (.double x3), .second] [] := by first | (simp [entryFrame, mkF, argsToLocals, Value.category]; done) | rfl
def Q8 (Z : State) (a1 t r pp : Addr) (n : Nat) (ft fr : Nat → Int32) (fp : Nat → UInt64) (h0 : Heap) (n0 : Nat) (v : Option Value) (h : Heap) (L : List Loc) : Prop := v = none ∧ Fr n0 L ∧ Keep h0 h [t, r, pp, a1] ∧ own_Di Z h a1 t r pp (n + 1) ft fr fp
set_option maxRecDepth 65536 in
set_option maxHeartbeats 40000000 in
theorem rm8 (l : Launch) (Z : State) (a0 : Array Value) (hw : ∀ d ∈ tables_1, d.before a0 Z = true) (ws : List Jvm.Cond) (a1 : Addr) (p2 : Int32) (p3 : Int32) (d4 : UInt64) (t r pp : Addr) (n : Nat) (ft fr : Nat → Int32) (fp : Nat → UInt64) (h0 : Heap) (n0 : Nat) (Z0 : n0 ≤ h0.size) (D0 : own_Di Z h0 a1 t r pp n ft fr fp) (hn : n < 2) (et : ft n = p2) (er : fr n = p3) (ep : fp n = d4) (g_a1 : n0 ≤ a1) (g_t : n0 ≤ t) (g_r : n0 ≤ r) (g_p : n0 ≤ pp) :
    MetFree l (⟨"com/example/chance_checker/chancechecker/construction/Distribution", "add", "(IID)V"⟩ : MethodName) (head1 (Jvm.Cond.code (⟨"com/example/chance_checker/chancechecker/construction/Distribution", "add", "(IID)V"⟩ : MethodName) prog_7_method_8_code 5 none :: ws) ({ frames := 0, cells := 0, slots := 0, locals := 0 } : Room)) (fun a U => a = #[(.ref a1), (.int p2), (.int p3), (.double d4)] ∧ Z.Warmed39 U.vm ∧ U.heap = h0) (fun _ _ _ _ _ => True) (fun _ U o U' => ∃ v L, o = .returned v ∧ Q8 Z a1 t r pp n ft fr fp h0 n0 v U'.heap L ∧ FrameEnd U o U' L ({ frames := 0, cells := 0, slots := 0, locals := 0 } : Room).cells ({ frames := 0, cells := 0, slots := 0, locals := 0 } : Room).slots) := by
  refine MetFree.of_bodySF (plainFor_of_name pn_8) hisR ?_
  intro p e s m args below meth c s₁ Bd hml0 hP hK
  obtain ⟨rfl, hZ, hh⟩ := hP
  have hx := Bd.exec
  have hby := Bd.bytes
  have hml : c.maxLocals = 5 := hml0
  have hown : s.vm.findClass "com/example/chance_checker/chancechecker/construction/Distribution" = some m.cls := findClass_of_methodNamed Bd.named
  have hnm := (name_of_methodNamed Bd.named Bd.method).1
  have X0 : Stand p l e ({ frames := 0, cells := 0, slots := 0, locals := 0 } : Room) s m #[(.ref a1), (.int p2), (.int p3), (.double d4)] below meth c s₁ [] 0 0 := Stand.of_body Bd
  have e0 : s₁.heap = h0 := by rw [← hh, Bd.state]; rfl
  have N0 := Fr.nil n0
  have pre0 : ∀ t, Steps p.tables e below (s₁.setTop (mkF m 0 #[.val (.ref a1), .val (.int p2), .val (.int p3), .val (.double d4), .second] [])) t → Steps p.tables e below (s₁.setTop (entryFrame m #[(.ref a1), (.int p2), (.int p3), (.double d4)] 5)) t := fun t k => castTop (ef_8 m a1 p2 p3 d4) k
  obtain ⟨E_a1, F_size_a1, F_targets_a1, F_resets_a1, F_probabilities_a1, ⟨ct, At, St, Ht⟩, ⟨cr, Ar, Sr, Hr⟩, ⟨cp, Ap, Sp, Hp⟩, nt, nr, np, tr, tp, rp⟩ := D0
  have St8 : ct.slots.size = (8 : Int32).toNatClampNeg := St
  have Nt8 : ¬ (8 : Int32) < 0 := by decide
  have h98 : ¬ (Int32.ofNat n = (8 : Int32)) := by
    have a : n = 0 ∨ n = 1 := by omega
    rcases a with rfl | rfl <;> decide
  have hin72 := own_inb St (i := n) (j := Int32.ofNat n) rfl (by omega) (by decide)
  have hin82 := own_inb Sr (i := n) (j := Int32.ofNat n) rfl (by omega) (by decide)
  have hin92 := own_inb Sp (i := n) (j := Int32.ofNat n) rfl (by omega) (by decide)
  obtain ⟨T6, X6, e6, st6⟩ := getF X0 hx hZ hown (host := "") (Or.inl (hw _ (List.mem_of_getElem? (i := 42) rfl))) Via.refl e0 F_size_a1 (g := (mkF m 1 #[.val (.ref a1), .val (.int p2), .val (.int p3), .val (.double d4), .second] [(.ref a1)])) rfl rfl (hb hby d8_1)
  obtain ⟨T8, X8, e8, st8⟩ := getF X6 hx hZ hown (host := "") (Or.inl (hw _ (List.mem_of_getElem? (i := 14) rfl))) Via.refl e6 F_targets_a1 (g := (mkF m 5 #[.val (.ref a1), .val (.int p2), .val (.int p3), .val (.double d4), .second] [(.ref a1), (.int (Int32.ofNat n))])) rfl rfl (hb hby d8_5)
  obtain ⟨T9, X9, e9, st9⟩ := getF X8 hx hZ hown (host := "") (Or.inl (hw _ (List.mem_of_getElem? (i := 14) rfl))) Via.refl e8 F_targets_a1 (g := (mkF m 64 #[.val (.ref a1), .val (.int p2), .val (.int p3), .val (.double d4), .second] [(.ref a1)])) rfl rfl (hb hby d8_64)
  obtain ⟨T10, X10, e10, st10⟩ := getF X9 hx hZ hown (host := "") (Or.inl (hw _ (List.mem_of_getElem? (i := 42) rfl))) Via.refl e9 F_size_a1 (g := (mkF m 68 #[.val (.ref a1), .val (.int p2), .val (.int p3), .val (.double d4), .second] [(.ref a1), (.ref t)])) rfl rfl (hb hby d8_68)
  obtain ⟨T11, h11, X11, e11, W11, st11⟩ := stI X10 hx hZ e10 At (j := (Int32.ofNat n)) hin72 (g := (mkF m 72 #[.val (.ref a1), .val (.int p2), .val (.int p3), .val (.double d4), .second] [(.int p2), (.int (Int32.ofNat n)), (.ref t)])) rfl rfl (hb hby d8_72)
  have N11 := Fr.snoc X11 N0 g_t
  have K11 : Keep h0 h11 [t, r, pp, a1] := (Keep.refl h0 [t, r, pp, a1]).wr W11 (Or.inl (List.mem_of_getElem? (i := 0) rfl))
  obtain ⟨T13, X13, e13, st13⟩ := getF X11 hx hZ hown (host := "") (Or.inl (hw _ (List.mem_of_getElem? (i := 16) rfl))) Via.refl e11 (F_resets_a1.other W11 (Or.inl nt)) (g := (mkF m 74 #[.val (.ref a1), .val (.int p2), .val (.int p3), .val (.double d4), .second] [(.ref a1)])) rfl rfl (hb hby d8_74)
  obtain ⟨T14, X14, e14, st14⟩ := getF X13 hx hZ hown (host := "") (Or.inl (hw _ (List.mem_of_getElem? (i := 42) rfl))) Via.refl e13 (F_size_a1.other W11 (Or.inl nt)) (g := (mkF m 78 #[.val (.ref a1), .val (.int p2), .val (.int p3), .val (.double d4), .second] [(.ref a1), (.ref r)])) rfl rfl (hb hby d8_78)
  have Ar11 := Ar.other W11 tr.symm
  obtain ⟨T15, h15, X15, e15, W15, st15⟩ := stI X14 hx hZ e14 Ar11 (j := (Int32.ofNat n)) hin82 (g := (mkF m 82 #[.val (.ref a1), .val (.int p2), .val (.int p3), .val (.double d4), .second] [(.int p3), (.int (Int32.ofNat n)), (.ref r)])) rfl rfl (hb hby d8_82)
  have N15 := Fr.snoc X15 N11 g_r
  have K15 : Keep h0 h15 [t, r, pp, a1] := K11.wr W15 (Or.inl (List.mem_of_getElem? (i := 1) rfl))
  obtain ⟨T17, X17, e17, st17⟩ := getF X15 hx hZ hown (host := "") (Or.inl (hw _ (List.mem_of_getElem? (i := 19) rfl))) Via.refl e15 ((F_probabilities_a1.other W11 (Or.inl nt)).other W15 (Or.inl nr)) (g := (mkF m 84 #[.val (.ref a1), .val (.int p2), .val (.int p3), .val (.double d4), .second] [(.ref a1)])) rfl rfl (hb hby d8_84)
  obtain ⟨T18, X18, e18, st18⟩ := getF X17 hx hZ hown (host := "") (Or.inl (hw _ (List.mem_of_getElem? (i := 42) rfl))) Via.refl e17 ((F_size_a1.other W11 (Or.inl nt)).other W15 (Or.inl nr)) (g := (mkF m 88 #[.val (.ref a1), .val (.int p2), .val (.int p3), .val (.double d4), .second] [(.ref a1), (.ref pp)])) rfl rfl (hb hby d8_88)
  have Ap15 := (Ap.other W11 tp.symm).other W15 rp.symm
  obtain ⟨T19, h19, X19, e19, W19, st19⟩ := stD X18 hx hZ e18 Ap15 (j := (Int32.ofNat n)) hin92 (g := (mkF m 92 #[.val (.ref a1), .val (.int p2), .val (.int p3), .val (.double d4), .second] [(.double d4), (.int (Int32.ofNat n)), (.ref pp)])) rfl rfl (hb hby d8_92)
  have N19 := Fr.snoc X19 N15 g_p
  have K19 : Keep h0 h19 [t, r, pp, a1] := K15.wr W19 (Or.inl (List.mem_of_getElem? (i := 2) rfl))
  obtain ⟨T20, X20, e20, st20⟩ := getF X19 hx hZ hown (host := "") (Or.inl (hw _ (List.mem_of_getElem? (i := 42) rfl))) Via.refl e19 (((F_size_a1.other W11 (Or.inl nt)).other W15 (Or.inl nr)).other W19 (Or.inl np)) (g := (mkF m 95 #[.val (.ref a1), .val (.int p2), .val (.int p3), .val (.double d4), .second] [(.ref a1), (.ref a1)])) rfl rfl (hb hby d8_95)
  obtain ⟨T21, h21, X21, e21, W21, st21⟩ := putF X20 hx hZ hown (host := "") (Or.inl (hw _ (List.mem_of_getElem? (i := 42) rfl))) Via.refl e20 (((F_size_a1.other W11 (Or.inl nt)).other W15 (Or.inl nr)).other W19 (Or.inl np)) (((E_a1.wr W11).wr W15).wr W19) (Or.inl (hw _ (List.mem_of_getElem? (i := 43) rfl))) (hw _ (List.mem_of_getElem? (i := 5) rfl)) (ty := .int) (by decide) rfl rfl (g := (mkF m 100 #[.val (.ref a1), .val (.int p2), .val (.int p3), .val (.double d4), .second] [(.int ((Int32.ofNat n) + (1 : Int32))), (.ref a1)])) rfl rfl (hb hby d8_100)
  have Fw21 := (((F_size_a1.other W11 (Or.inl nt)).other W15 (Or.inl nr)).other W19 (Or.inl np)).same W21
  have K21 : Keep h0 h21 [t, r, pp, a1] := K19.wr W21 (Or.inl (List.mem_of_getElem? (i := 3) rfl))
  have N21 := Fr.snoc X21 N19 g_a1
  obtain ⟨fs, hr, hrun, hended, hW, hsame⟩ := X21.leave (v := none) (fun _ => rfl)
  refine ⟨_, _, pre0 _ ?_, hrun, hended, _, _, rfl, ?_, ⟨_, rfl⟩, hW, hsame.mono (by decide) (by decide)⟩
  · show Steps p.tables e below (s₁.setTop (mkF m 0 #[.val (.ref a1), .val (.int p2), .val (.int p3), .val (.double d4), .second] [])) _
    refine XS.aloadN X0.here hx rfl (hb hby d8_0) rfl rfl ?_
    show Steps p.tables e below (s₁.setTop (mkF m 1 #[.val (.ref a1), .val (.int p2), .val (.int p3), .val (.double d4), .second] [(.ref a1)])) _
    refine st6 _ ?_
    show Steps p.tables e below (T6.setTop (mkF m 4 #[.val (.ref a1), .val (.int p2), .val (.int p3), .val (.double d4), .second] [(.int (Int32.ofNat n))])) _
    refine XS.aloadN X6.here hx rfl (hb hby d8_4) rfl rfl ?_
    show Steps p.tables e below (T6.setTop (mkF m 5 #[.val (.ref a1), .val (.int p2), .val (.int p3), .val (.double d4), .second] [(.ref a1), (.int (Int32.ofNat n))])) _
    refine st8 _ ?_
    show Steps p.tables e below (T8.setTop (mkF m 8 #[.val (.ref a1), .val (.int p2), .val (.int p3), .val (.double d4), .second] [(.ref t), (.int (Int32.ofNat n))])) _
    refine X8.arraylength hx (by rw [e8]; exact At.1) (State.isArrayOf_alike hZ.alike At.2.1) (g := (mkF m 8 #[.val (.ref a1), .val (.int p2), .val (.int p3), .val (.double d4), .second] [(.ref t), (.int (Int32.ofNat n))])) rfl rfl (hb hby d8_8) _ ?_
    rw [len_of St8 Nt8]
    show Steps p.tables e below (T8.setTop (mkF m 9 #[.val (.ref a1), .val (.int p2), .val (.int p3), .val (.double d4), .second] [(.int (8 : Int32)), (.int (Int32.ofNat n))])) _
    refine XS.icmpYes X8.here hx rfl (pc0 := 9) (pc' := 63) rfl (hb hby d8_9) rfl (feq h98).2 (by decide) (by decide) ?_
    show Steps p.tables e below (T8.setTop (mkF m 63 #[.val (.ref a1), .val (.int p2), .val (.int p3), .val (.double d4), .second] [])) _
    refine XS.aloadN X8.here hx rfl (hb hby d8_63) rfl rfl ?_
    show Steps p.tables e below (T8.setTop (mkF m 64 #[.val (.ref a1), .val (.int p2), .val (.int p3), .val (.double d4), .second] [(.ref a1)])) _
    refine st9 _ ?_
    show Steps p.tables e below (T9.setTop (mkF m 67 #[.val (.ref a1), .val (.int p2), .val (.int p3), .val (.double d4), .second] [(.ref t)])) _
    refine XS.aloadN X9.here hx rfl (hb hby d8_67) rfl rfl ?_
    show Steps p.tables e below (T9.setTop (mkF m 68 #[.val (.ref a1), .val (.int p2), .val (.int p3), .val (.double d4), .second] [(.ref a1), (.ref t)])) _
    refine st10 _ ?_
    show Steps p.tables e below (T10.setTop (mkF m 71 #[.val (.ref a1), .val (.int p2), .val (.int p3), .val (.double d4), .second] [(.int (Int32.ofNat n)), (.ref t)])) _
    refine XS.iloadN X10.here hx rfl (hb hby d8_71) rfl ?_
    show Steps p.tables e below (T10.setTop (mkF m 72 #[.val (.ref a1), .val (.int p2), .val (.int p3), .val (.double d4), .second] [(.int p2), (.int (Int32.ofNat n)), (.ref t)])) _
    refine st11 _ ?_
    show Steps p.tables e below (T11.setTop (mkF m 73 #[.val (.ref a1), .val (.int p2), .val (.int p3), .val (.double d4), .second] [])) _
    refine XS.aloadN X11.here hx rfl (hb hby d8_73) rfl rfl ?_
    show Steps p.tables e below (T11.setTop (mkF m 74 #[.val (.ref a1), .val (.int p2), .val (.int p3), .val (.double d4), .second] [(.ref a1)])) _
    refine st13 _ ?_
    show Steps p.tables e below (T13.setTop (mkF m 77 #[.val (.ref a1), .val (.int p2), .val (.int p3), .val (.double d4), .second] [(.ref r)])) _
    refine XS.aloadN X13.here hx rfl (hb hby d8_77) rfl rfl ?_
    show Steps p.tables e below (T13.setTop (mkF m 78 #[.val (.ref a1), .val (.int p2), .val (.int p3), .val (.double d4), .second] [(.ref a1), (.ref r)])) _
    refine st14 _ ?_
    show Steps p.tables e below (T14.setTop (mkF m 81 #[.val (.ref a1), .val (.int p2), .val (.int p3), .val (.double d4), .second] [(.int (Int32.ofNat n)), (.ref r)])) _
    refine XS.iloadN X14.here hx rfl (hb hby d8_81) rfl ?_
    show Steps p.tables e below (T14.setTop (mkF m 82 #[.val (.ref a1), .val (.int p2), .val (.int p3), .val (.double d4), .second] [(.int p3), (.int (Int32.ofNat n)), (.ref r)])) _
    refine st15 _ ?_
    show Steps p.tables e below (T15.setTop (mkF m 83 #[.val (.ref a1), .val (.int p2), .val (.int p3), .val (.double d4), .second] [])) _
    refine XS.aloadN X15.here hx rfl (hb hby d8_83) rfl rfl ?_
    show Steps p.tables e below (T15.setTop (mkF m 84 #[.val (.ref a1), .val (.int p2), .val (.int p3), .val (.double d4), .second] [(.ref a1)])) _
    refine st17 _ ?_
    show Steps p.tables e below (T17.setTop (mkF m 87 #[.val (.ref a1), .val (.int p2), .val (.int p3), .val (.double d4), .second] [(.ref pp)])) _
    refine XS.aloadN X17.here hx rfl (hb hby d8_87) rfl rfl ?_
    show Steps p.tables e below (T17.setTop (mkF m 88 #[.val (.ref a1), .val (.int p2), .val (.int p3), .val (.double d4), .second] [(.ref a1), (.ref pp)])) _
    refine st18 _ ?_
    show Steps p.tables e below (T18.setTop (mkF m 91 #[.val (.ref a1), .val (.int p2), .val (.int p3), .val (.double d4), .second] [(.int (Int32.ofNat n)), (.ref pp)])) _
    refine XS.dloadN X18.here hx rfl (hb hby d8_91) rfl ?_
    show Steps p.tables e below (T18.setTop (mkF m 92 #[.val (.ref a1), .val (.int p2), .val (.int p3), .val (.double d4), .second] [(.double d4), (.int (Int32.ofNat n)), (.ref pp)])) _
    refine st19 _ ?_
    show Steps p.tables e below (T19.setTop (mkF m 93 #[.val (.ref a1), .val (.int p2), .val (.int p3), .val (.double d4), .second] [])) _
    refine XS.aloadN X19.here hx rfl (hb hby d8_93) rfl rfl ?_
    show Steps p.tables e below (T19.setTop (mkF m 94 #[.val (.ref a1), .val (.int p2), .val (.int p3), .val (.double d4), .second] [(.ref a1)])) _
    refine XS.dup X19.here hx rfl (hb hby d8_94) rfl rfl ?_
    show Steps p.tables e below (T19.setTop (mkF m 95 #[.val (.ref a1), .val (.int p2), .val (.int p3), .val (.double d4), .second] [(.ref a1), (.ref a1)])) _
    refine st20 _ ?_
    show Steps p.tables e below (T20.setTop (mkF m 98 #[.val (.ref a1), .val (.int p2), .val (.int p3), .val (.double d4), .second] [(.int (Int32.ofNat n)), (.ref a1)])) _
    refine XS.iconst X20.here hx rfl (hb hby d8_98) ?_
    show Steps p.tables e below (T20.setTop (mkF m 99 #[.val (.ref a1), .val (.int p2), .val (.int p3), .val (.double d4), .second] [(.int (1 : Int32)), (.int (Int32.ofNat n)), (.ref a1)])) _
    refine XS.iadd X20.here hx rfl (hb hby d8_99) rfl ?_
    show Steps p.tables e below (T20.setTop (mkF m 100 #[.val (.ref a1), .val (.int p2), .val (.int p3), .val (.double d4), .second] [(.int ((Int32.ofNat n) + (1 : Int32))), (.ref a1)])) _
    refine st21 _ ?_
    show Steps p.tables e below (T21.setTop (mkF m 103 #[.val (.ref a1), .val (.int p2), .val (.int p3), .val (.double d4), .second] [])) _
    exact X21.returnOut hx Bd.returns (hb hby d8_103) hr
  · show Q8 Z a1 t r pp n ft fr fp h0 n0 _ T21.heap _
    rw [e21]
    have e1 : Int32.ofNat n + (1 : Int32) = Int32.ofNat (n + 1) := (Int32.ofNat_add n 1).symm
    refine ⟨rfl, N21, K21, (((E_a1.wr W11).wr W15).wr W19).wr W21, e1 ▸ Fw21, ((((F_targets_a1.other W11 (Or.inl nt)).other W15 (Or.inl nr)).other W19 (Or.inl np)).other W21 (Or.inr (slot_ne (Or.inl (hw _ (List.mem_of_getElem? (i := 15) rfl))) (Or.inl (hw _ (List.mem_of_getElem? (i := 43) rfl))) (by decide) (t := (.array .int)) (t' := .int) (by decide) (by decide)))), ((((F_resets_a1.other W11 (Or.inl nt)).other W15 (Or.inl nr)).other W19 (Or.inl np)).other W21 (Or.inr (slot_ne (Or.inl (hw _ (List.mem_of_getElem? (i := 17) rfl))) (Or.inl (hw _ (List.mem_of_getElem? (i := 43) rfl))) (by decide) (t := (.array .int)) (t' := .int) (by decide) (by decide)))), ((((F_probabilities_a1.other W11 (Or.inl nt)).other W15 (Or.inl nr)).other W19 (Or.inl np)).other W21 (Or.inr (slot_ne (Or.inl (hw _ (List.mem_of_getElem? (i := 20) rfl))) (Or.inl (hw _ (List.mem_of_getElem? (i := 43) rfl))) (by decide) (t := (.array .double)) (t' := .int) (by decide) (by decide)))), ?_, ?_, ?_, nt, nr, np, tr, tp, rp⟩
    · exact (((own_snoc At St Ht W11 rfl (by omega) (by decide) (congrArg Value.int et)).other W15 tr).other W19 tp).other W21 nt.symm
    · exact ((own_snoc Ar11 Sr Hr W15 rfl (by omega) (by decide) (congrArg Value.int er)).other W19 rp).other W21 nr.symm
    · exact (own_snoc Ap15 Sp Hp W19 rfl (by omega) (by decide) (congrArg Value.double ep)).other W21 np.symm
theorem d6_0 : decode prog_7_method_11_code 0 = .ok (.aload_n 0, 1) := by decide +kernel
theorem d6_1 : decode prog_7_method_11_code 1 = .ok (.getfield 33, 3) := by decide +kernel
theorem d6_4 : decode prog_7_method_11_code 4 = .ok (.aload_n 1, 1) := by decide +kernel
theorem d6_5 : decode prog_7_method_11_code 5 = .ok (.getfield 33, 3) := by decide +kernel
theorem d6_8 : decode prog_7_method_11_code 8 = .ok (.if_icmp .ne 7, 3) := by decide +kernel
theorem d6_11 : decode prog_7_method_11_code 11 = .ok (.iconst 1, 1) := by decide +kernel
theorem d6_12 : decode prog_7_method_11_code 12 = .ok (.goto 4, 3) := by decide +kernel
theorem d6_16 : decode prog_7_method_11_code 16 = .ok (.istore_n 2, 1) := by decide +kernel
theorem d6_17 : decode prog_7_method_11_code 17 = .ok (.iconst 0, 1) := by decide +kernel
theorem d6_18 : decode prog_7_method_11_code 18 = .ok (.istore_n 3, 1) := by decide +kernel
set_option maxRecDepth 65536 in
set_option maxHeartbeats 40000000 in
theorem own_cA {p : Program} {l : Launch} {e : Env} {R : Room} {s : State} {m : MethodId} {args : Array Value} {below : List Frame} {meth : Method} {c : Code} {T0 : State} {locs : List Loc} {cells slots : Nat} {Z : State} {a0 : Array Value} {h0 : Heap} (o0 : Addr) (o1 : Addr) (w3 : Int32) (w5 : Int32)
    (X0 : Stand p l e R s m args below meth c T0 locs cells slots) (hx : p.tables.exec = Jvm.exec) (hZ : Z.Warmed39 s.vm) (hw : ∀ d ∈ tables_1, d.before a0 Z = true) (hby : c.code = prog_7_method_11_code) (hml : c.maxLocals = 4) (hown : s.vm.findClass "com/example/chance_checker/chancechecker/construction/Distribution" = some m.cls) (e0 : T0.heap = h0) (F_size_o0 : Fld Z h0 o0 "com/example/chance_checker/chancechecker/construction/Distribution" "size" "I" (.int w3)) (F_size_o1 : Fld Z h0 o1 "com/example/chance_checker/chancechecker/construction/Distribution" "size" "I" (.int w5)) (hc8 : w3 = w5) :
    ∃ (T' : State), Stand p l e R s m args below meth c T' locs cells slots ∧ T'.heap = h0 ∧
      ∀ target, Steps p.tables e below (T'.setTop (mkF m 19 #[.val (.ref o0), .val (.ref o1), .val (.int (1 : Int32)), .val (.int (0 : Int32))] [])) target → Steps p.tables e below (T0.setTop (mkF m 0 #[.val (.ref o0), .val (.ref o1), .unset, .unset] [])) target := by
  obtain ⟨T4, X4, e4, st4⟩ := getF X0 hx hZ hown (host := "") (Or.inl (hw _ (List.mem_of_getElem? (i := 42) rfl))) Via.refl e0 F_size_o0 (g := (mkF m 1 #[.val (.ref o0), .val (.ref o1), .unset, .unset] [(.ref o0)])) rfl rfl (hb hby d6_1)
  obtain ⟨T6, X6, e6, st6⟩ := getF X4 hx hZ hown (host := "") (Or.inl (hw _ (List.mem_of_getElem? (i := 42) rfl))) Via.refl e4 F_size_o1 (g := (mkF m 5 #[.val (.ref o0), .val (.ref o1), .unset, .unset] [(.ref o1), (.int w3)])) rfl rfl (hb hby d6_5)
  refine ⟨T6, X6, e6, fun target kt => ?_⟩
  show Steps p.tables e below (T0.setTop (mkF m 0 #[.val (.ref o0), .val (.ref o1), .unset, .unset] [])) _
  refine XS.aloadN X0.here hx rfl (hb hby d6_0) rfl rfl ?_
  show Steps p.tables e below (T0.setTop (mkF m 1 #[.val (.ref o0), .val (.ref o1), .unset, .unset] [(.ref o0)])) _
  refine st4 _ ?_
  show Steps p.tables e below (T4.setTop (mkF m 4 #[.val (.ref o0), .val (.ref o1), .unset, .unset] [(.int w3)])) _
  refine XS.aloadN X4.here hx rfl (hb hby d6_4) rfl rfl ?_
  show Steps p.tables e below (T4.setTop (mkF m 5 #[.val (.ref o0), .val (.ref o1), .unset, .unset] [(.ref o1), (.int w3)])) _
  refine st6 _ ?_
  show Steps p.tables e below (T6.setTop (mkF m 8 #[.val (.ref o0), .val (.ref o1), .unset, .unset] [(.int w5), (.int w3)])) _
  refine XS.icmpNo X6.here hx rfl (hb hby d6_8) rfl (teq hc8).2 ?_
  show Steps p.tables e below (T6.setTop (mkF m 11 #[.val (.ref o0), .val (.ref o1), .unset, .unset] [])) _
  refine XS.iconst X6.here hx rfl (hb hby d6_11) ?_
  show Steps p.tables e below (T6.setTop (mkF m 12 #[.val (.ref o0), .val (.ref o1), .unset, .unset] [(.int (1 : Int32))])) _
  refine XS.goto X6.here hx rfl (pc0 := 12) (pc' := 16) rfl (hb hby d6_12) (by decide) (by decide) ?_
  show Steps p.tables e below (T6.setTop (mkF m 16 #[.val (.ref o0), .val (.ref o1), .unset, .unset] [(.int (1 : Int32))])) _
  refine XS.istoreN X6.here hx rfl (hb hby d6_16) rfl (l' := #[.val (.ref o0), .val (.ref o1), .val (.int (1 : Int32)), .unset]) rfl ?_
  show Steps p.tables e below (T6.setTop (mkF m 17 #[.val (.ref o0), .val (.ref o1), .val (.int (1 : Int32)), .unset] [])) _
  refine XS.iconst X6.here hx rfl (hb hby d6_17) ?_
  show Steps p.tables e below (T6.setTop (mkF m 18 #[.val (.ref o0), .val (.ref o1), .val (.int (1 : Int32)), .unset] [(.int (0 : Int32))])) _
  refine XS.istoreN X6.here hx rfl (hb hby d6_18) rfl (l' := #[.val (.ref o0), .val (.ref o1), .val (.int (1 : Int32)), .val (.int (0 : Int32))]) rfl ?_
  exact kt
theorem d6_15 : decode prog_7_method_11_code 15 = .ok (.iconst 0, 1) := by decide +kernel
set_option maxRecDepth 65536 in
set_option maxHeartbeats 40000000 in
theorem own_cB {p : Program} {l : Launch} {e : Env} {R : Room} {s : State} {m : MethodId} {args : Array Value} {below : List Frame} {meth : Method} {c : Code} {T0 : State} {locs : List Loc} {cells slots : Nat} {Z : State} {a0 : Array Value} {h0 : Heap} (o0 : Addr) (o1 : Addr) (w3 : Int32) (w5 : Int32)
    (X0 : Stand p l e R s m args below meth c T0 locs cells slots) (hx : p.tables.exec = Jvm.exec) (hZ : Z.Warmed39 s.vm) (hw : ∀ d ∈ tables_1, d.before a0 Z = true) (hby : c.code = prog_7_method_11_code) (hml : c.maxLocals = 4) (hown : s.vm.findClass "com/example/chance_checker/chancechecker/construction/Distribution" = some m.cls) (e0 : T0.heap = h0) (F_size_o0 : Fld Z h0 o0 "com/example/chance_checker/chancechecker/construction/Distribution" "size" "I" (.int w3)) (F_size_o1 : Fld Z h0 o1 "com/example/chance_checker/chancechecker/construction/Distribution" "size" "I" (.int w5)) (hc8 : ¬ (w3 = w5)) :
    ∃ (T' : State), Stand p l e R s m args below meth c T' locs cells slots ∧ T'.heap = h0 ∧
      ∀ target, Steps p.tables e below (T'.setTop (mkF m 19 #[.val (.ref o0), .val (.ref o1), .val (.int (0 : Int32)), .val (.int (0 : Int32))] [])) target → Steps p.tables e below (T0.setTop (mkF m 0 #[.val (.ref o0), .val (.ref o1), .unset, .unset] [])) target := by
  obtain ⟨T4, X4, e4, st4⟩ := getF X0 hx hZ hown (host := "") (Or.inl (hw _ (List.mem_of_getElem? (i := 42) rfl))) Via.refl e0 F_size_o0 (g := (mkF m 1 #[.val (.ref o0), .val (.ref o1), .unset, .unset] [(.ref o0)])) rfl rfl (hb hby d6_1)
  obtain ⟨T6, X6, e6, st6⟩ := getF X4 hx hZ hown (host := "") (Or.inl (hw _ (List.mem_of_getElem? (i := 42) rfl))) Via.refl e4 F_size_o1 (g := (mkF m 5 #[.val (.ref o0), .val (.ref o1), .unset, .unset] [(.ref o1), (.int w3)])) rfl rfl (hb hby d6_5)
  refine ⟨T6, X6, e6, fun target kt => ?_⟩
  show Steps p.tables e below (T0.setTop (mkF m 0 #[.val (.ref o0), .val (.ref o1), .unset, .unset] [])) _
  refine XS.aloadN X0.here hx rfl (hb hby d6_0) rfl rfl ?_
  show Steps p.tables e below (T0.setTop (mkF m 1 #[.val (.ref o0), .val (.ref o1), .unset, .unset] [(.ref o0)])) _
  refine st4 _ ?_
  show Steps p.tables e below (T4.setTop (mkF m 4 #[.val (.ref o0), .val (.ref o1), .unset, .unset] [(.int w3)])) _
  refine XS.aloadN X4.here hx rfl (hb hby d6_4) rfl rfl ?_
  show Steps p.tables e below (T4.setTop (mkF m 5 #[.val (.ref o0), .val (.ref o1), .unset, .unset] [(.ref o1), (.int w3)])) _
  refine st6 _ ?_
  show Steps p.tables e below (T6.setTop (mkF m 8 #[.val (.ref o0), .val (.ref o1), .unset, .unset] [(.int w5), (.int w3)])) _
  refine XS.icmpYes X6.here hx rfl (pc0 := 8) (pc' := 15) rfl (hb hby d6_8) rfl (feq hc8).2 (by decide) (by decide) ?_
  show Steps p.tables e below (T6.setTop (mkF m 15 #[.val (.ref o0), .val (.ref o1), .unset, .unset] [])) _
  refine XS.iconst X6.here hx rfl (hb hby d6_15) ?_
  show Steps p.tables e below (T6.setTop (mkF m 16 #[.val (.ref o0), .val (.ref o1), .unset, .unset] [(.int (0 : Int32))])) _
  refine XS.istoreN X6.here hx rfl (hb hby d6_16) rfl (l' := #[.val (.ref o0), .val (.ref o1), .val (.int (0 : Int32)), .unset]) rfl ?_
  show Steps p.tables e below (T6.setTop (mkF m 17 #[.val (.ref o0), .val (.ref o1), .val (.int (0 : Int32)), .unset] [])) _
  refine XS.iconst X6.here hx rfl (hb hby d6_17) ?_
  show Steps p.tables e below (T6.setTop (mkF m 18 #[.val (.ref o0), .val (.ref o1), .val (.int (0 : Int32)), .unset] [(.int (0 : Int32))])) _
  refine XS.istoreN X6.here hx rfl (hb hby d6_18) rfl (l' := #[.val (.ref o0), .val (.ref o1), .val (.int (0 : Int32)), .val (.int (0 : Int32))]) rfl ?_
  exact kt
theorem d6_19 : decode prog_7_method_11_code 19 = .ok (.iload_n 3, 1) := by decide +kernel
theorem d6_20 : decode prog_7_method_11_code 20 = .ok (.aload_n 0, 1) := by decide +kernel
theorem d6_21 : decode prog_7_method_11_code 21 = .ok (.getfield 33, 3) := by decide +kernel
theorem d6_24 : decode prog_7_method_11_code 24 = .ok (.if_icmp .ge 65, 3) := by decide +kernel
theorem d6_27 : decode prog_7_method_11_code 27 = .ok (.iload_n 2, 1) := by decide +kernel
theorem d6_28 : decode prog_7_method_11_code 28 = .ok (.ifCond .eq 61, 3) := by decide +kernel
theorem d6_31 : decode prog_7_method_11_code 31 = .ok (.aload_n 0, 1) := by decide +kernel
theorem d6_32 : decode prog_7_method_11_code 32 = .ok (.getfield 7, 3) := by decide +kernel
theorem d6_35 : decode prog_7_method_11_code 35 = .ok (.iload_n 3, 1) := by decide +kernel
theorem d6_36 : decode prog_7_method_11_code 36 = .ok (.iaload, 1) := by decide +kernel
theorem d6_37 : decode prog_7_method_11_code 37 = .ok (.aload_n 1, 1) := by decide +kernel
theorem d6_38 : decode prog_7_method_11_code 38 = .ok (.getfield 7, 3) := by decide +kernel
theorem d6_41 : decode prog_7_method_11_code 41 = .ok (.iload_n 3, 1) := by decide +kernel
theorem d6_42 : decode prog_7_method_11_code 42 = .ok (.iaload, 1) := by decide +kernel
theorem d6_43 : decode prog_7_method_11_code 43 = .ok (.if_icmp .ne 38, 3) := by decide +kernel
theorem d6_81 : decode prog_7_method_11_code 81 = .ok (.iconst 0, 1) := by decide +kernel
theorem d6_82 : decode prog_7_method_11_code 82 = .ok (.istore_n 2, 1) := by decide +kernel
theorem d6_83 : decode prog_7_method_11_code 83 = .ok (.iinc 3 1, 3) := by decide +kernel
theorem d6_86 : decode prog_7_method_11_code 86 = .ok (.goto (-67), 3) := by decide +kernel
set_option maxRecDepth 65536 in
set_option maxHeartbeats 40000000 in
theorem own_w1 {p : Program} {l : Launch} {e : Env} {R : Room} {s : State} {m : MethodId} {args : Array Value} {below : List Frame} {meth : Method} {c : Code} {T0 : State} {locs : List Loc} {cells slots : Nat} {Z : State} {a0 : Array Value} {h0 : Heap} (o0 : Addr) (o1 : Addr) (i2 : Int32) (i3 : Int32) (w3 : Int32) (w5 : Addr) (w7 : Int32) (cl_w5 : Cell) (w8 : Addr) (w10 : Int32) (cl_w8 : Cell)
    (X0 : Stand p l e R s m args below meth c T0 locs cells slots) (hx : p.tables.exec = Jvm.exec) (hZ : Z.Warmed39 s.vm) (hw : ∀ d ∈ tables_1, d.before a0 Z = true) (hby : c.code = prog_7_method_11_code) (hml : c.maxLocals = 4) (hown : s.vm.findClass "com/example/chance_checker/chancechecker/construction/Distribution" = some m.cls) (e0 : T0.heap = h0) (F_size_o0 : Fld Z h0 o0 "com/example/chance_checker/chancechecker/construction/Distribution" "size" "I" (.int w3)) (F_targets_o0 : Fld Z h0 o0 "com/example/chance_checker/chancechecker/construction/Distribution" "targets" "[I" (.ref w5)) (Ar_w5 : Arr Z h0 w5 cl_w5 .int) (hin36 : ¬ (i3 < 0 ∨ cl_w5.slots.size ≤ (i3).toNatClampNeg)) (hat36 : cl_w5.slots[(i3).toNatClampNeg]? = some (.int w7)) (F_targets_o1 : Fld Z h0 o1 "com/example/chance_checker/chancechecker/construction/Distribution" "targets" "[I" (.ref w8)) (Ar_w8 : Arr Z h0 w8 cl_w8 .int) (hin42 : ¬ (i3 < 0 ∨ cl_w8.slots.size ≤ (i3).toNatClampNeg)) (hat42 : cl_w8.slots[(i3).toNatClampNeg]? = some (.int w10)) (hc24 : i3 < w3) (hc28 : ¬ (i2 = (0 : Int32))) (hc43 : ¬ (w7 = w10)) :
    ∃ (T' : State), Stand p l e R s m args below meth c T' locs cells slots ∧ T'.heap = h0 ∧
      ∀ target, Steps p.tables e below (T'.setTop (mkF m 19 #[.val (.ref o0), .val (.ref o1), .val (.int (0 : Int32)), .val (.int (i3 + (1 : Int32)))] [])) target → Steps p.tables e below (T0.setTop (mkF m 19 #[.val (.ref o0), .val (.ref o1), .val (.int i2), .val (.int i3)] [])) target := by
  obtain ⟨T4, X4, e4, st4⟩ := getF X0 hx hZ hown (host := "") (Or.inl (hw _ (List.mem_of_getElem? (i := 42) rfl))) Via.refl e0 F_size_o0 (g := (mkF m 21 #[.val (.ref o0), .val (.ref o1), .val (.int i2), .val (.int i3)] [(.ref o0), (.int i3)])) rfl rfl (hb hby d6_21)
  obtain ⟨T6, X6, e6, st6⟩ := getF X4 hx hZ hown (host := "") (Or.inl (hw _ (List.mem_of_getElem? (i := 14) rfl))) Via.refl e4 F_targets_o0 (g := (mkF m 32 #[.val (.ref o0), .val (.ref o1), .val (.int i2), .val (.int i3)] [(.ref o0)])) rfl rfl (hb hby d6_32)
  obtain ⟨T9, X9, e9, st9⟩ := getF X6 hx hZ hown (host := "") (Or.inl (hw _ (List.mem_of_getElem? (i := 14) rfl))) Via.refl e6 F_targets_o1 (g := (mkF m 38 #[.val (.ref o0), .val (.ref o1), .val (.int i2), .val (.int i3)] [(.ref o1), (.int w7)])) rfl rfl (hb hby d6_38)
  refine ⟨T9, X9, e9, fun target kt => ?_⟩
  show Steps p.tables e below (T0.setTop (mkF m 19 #[.val (.ref o0), .val (.ref o1), .val (.int i2), .val (.int i3)] [])) _
  refine XS.iloadN X0.here hx rfl (hb hby d6_19) rfl ?_
  show Steps p.tables e below (T0.setTop (mkF m 20 #[.val (.ref o0), .val (.ref o1), .val (.int i2), .val (.int i3)] [(.int i3)])) _
  refine XS.aloadN X0.here hx rfl (hb hby d6_20) rfl rfl ?_
  show Steps p.tables e below (T0.setTop (mkF m 21 #[.val (.ref o0), .val (.ref o1), .val (.int i2), .val (.int i3)] [(.ref o0), (.int i3)])) _
  refine st4 _ ?_
  show Steps p.tables e below (T4.setTop (mkF m 24 #[.val (.ref o0), .val (.ref o1), .val (.int i2), .val (.int i3)] [(.int w3), (.int i3)])) _
  refine XS.icmpNo X4.here hx rfl (hb hby d6_24) rfl (tlt hc24).2.1 ?_
  show Steps p.tables e below (T4.setTop (mkF m 27 #[.val (.ref o0), .val (.ref o1), .val (.int i2), .val (.int i3)] [])) _
  refine XS.iloadN X4.here hx rfl (hb hby d6_27) rfl ?_
  show Steps p.tables e below (T4.setTop (mkF m 28 #[.val (.ref o0), .val (.ref o1), .val (.int i2), .val (.int i3)] [(.int i2)])) _
  refine XS.ifNo X4.here hx rfl (hb hby d6_28) rfl ((if0 _ _).trans (feq hc28).1) ?_
  show Steps p.tables e below (T4.setTop (mkF m 31 #[.val (.ref o0), .val (.ref o1), .val (.int i2), .val (.int i3)] [])) _
  refine XS.aloadN X4.here hx rfl (hb hby d6_31) rfl rfl ?_
  show Steps p.tables e below (T4.setTop (mkF m 32 #[.val (.ref o0), .val (.ref o1), .val (.int i2), .val (.int i3)] [(.ref o0)])) _
  refine st6 _ ?_
  show Steps p.tables e below (T6.setTop (mkF m 35 #[.val (.ref o0), .val (.ref o1), .val (.int i2), .val (.int i3)] [(.ref w5)])) _
  refine XS.iloadN X6.here hx rfl (hb hby d6_35) rfl ?_
  show Steps p.tables e below (T6.setTop (mkF m 36 #[.val (.ref o0), .val (.ref o1), .val (.int i2), .val (.int i3)] [(.int i3), (.ref w5)])) _
  refine X6.iaload hx (j := i3) (v := (.int w7)) (by rw [e6]; exact Ar_w5.1) (State.isArrayOf_alike hZ.alike Ar_w5.2.1) Ar_w5.2.2 hin36 hat36 (g := (mkF m 36 #[.val (.ref o0), .val (.ref o1), .val (.int i2), .val (.int i3)] [(.int i3), (.ref w5)])) rfl rfl (hb hby d6_36) _ ?_
  show Steps p.tables e below (T6.setTop (mkF m 37 #[.val (.ref o0), .val (.ref o1), .val (.int i2), .val (.int i3)] [(.int w7)])) _
  refine XS.aloadN X6.here hx rfl (hb hby d6_37) rfl rfl ?_
  show Steps p.tables e below (T6.setTop (mkF m 38 #[.val (.ref o0), .val (.ref o1), .val (.int i2), .val (.int i3)] [(.ref o1), (.int w7)])) _
  refine st9 _ ?_
  show Steps p.tables e below (T9.setTop (mkF m 41 #[.val (.ref o0), .val (.ref o1), .val (.int i2), .val (.int i3)] [(.ref w8), (.int w7)])) _
  refine XS.iloadN X9.here hx rfl (hb hby d6_41) rfl ?_
  show Steps p.tables e below (T9.setTop (mkF m 42 #[.val (.ref o0), .val (.ref o1), .val (.int i2), .val (.int i3)] [(.int i3), (.ref w8), (.int w7)])) _
  refine X9.iaload hx (j := i3) (v := (.int w10)) (by rw [e9]; exact Ar_w8.1) (State.isArrayOf_alike hZ.alike Ar_w8.2.1) Ar_w8.2.2 hin42 hat42 (g := (mkF m 42 #[.val (.ref o0), .val (.ref o1), .val (.int i2), .val (.int i3)] [(.int i3), (.ref w8), (.int w7)])) rfl rfl (hb hby d6_42) _ ?_
  show Steps p.tables e below (T9.setTop (mkF m 43 #[.val (.ref o0), .val (.ref o1), .val (.int i2), .val (.int i3)] [(.int w10), (.int w7)])) _
  refine XS.icmpYes X9.here hx rfl (pc0 := 43) (pc' := 81) rfl (hb hby d6_43) rfl (feq hc43).2 (by decide) (by decide) ?_
  show Steps p.tables e below (T9.setTop (mkF m 81 #[.val (.ref o0), .val (.ref o1), .val (.int i2), .val (.int i3)] [])) _
  refine XS.iconst X9.here hx rfl (hb hby d6_81) ?_
  show Steps p.tables e below (T9.setTop (mkF m 82 #[.val (.ref o0), .val (.ref o1), .val (.int i2), .val (.int i3)] [(.int (0 : Int32))])) _
  refine XS.istoreN X9.here hx rfl (hb hby d6_82) rfl (l' := #[.val (.ref o0), .val (.ref o1), .val (.int (0 : Int32)), .val (.int i3)]) rfl ?_
  show Steps p.tables e below (T9.setTop (mkF m 83 #[.val (.ref o0), .val (.ref o1), .val (.int (0 : Int32)), .val (.int i3)] [])) _
  refine XS.iinc X9.here hx rfl (hb hby d6_83) rfl (l' := #[.val (.ref o0), .val (.ref o1), .val (.int (0 : Int32)), .val (.int (i3 + (1 : Int32)))]) rfl ?_
  show Steps p.tables e below (T9.setTop (mkF m 86 #[.val (.ref o0), .val (.ref o1), .val (.int (0 : Int32)), .val (.int (i3 + (1 : Int32)))] [])) _
  refine XS.goto X9.here hx rfl (pc0 := 86) (pc' := 19) rfl (hb hby d6_86) (by decide) (by decide) ?_
  exact kt
theorem d6_46 : decode prog_7_method_11_code 46 = .ok (.aload_n 0, 1) := by decide +kernel
theorem d6_47 : decode prog_7_method_11_code 47 = .ok (.getfield 13, 3) := by decide +kernel
theorem d6_50 : decode prog_7_method_11_code 50 = .ok (.iload_n 3, 1) := by decide +kernel
theorem d6_51 : decode prog_7_method_11_code 51 = .ok (.iaload, 1) := by decide +kernel
theorem d6_52 : decode prog_7_method_11_code 52 = .ok (.aload_n 1, 1) := by decide +kernel
theorem d6_53 : decode prog_7_method_11_code 53 = .ok (.getfield 13, 3) := by decide +kernel
theorem d6_56 : decode prog_7_method_11_code 56 = .ok (.iload_n 3, 1) := by decide +kernel
theorem d6_57 : decode prog_7_method_11_code 57 = .ok (.iaload, 1) := by decide +kernel
theorem d6_58 : decode prog_7_method_11_code 58 = .ok (.if_icmp .ne 23, 3) := by decide +kernel
set_option maxRecDepth 65536 in
set_option maxHeartbeats 40000000 in
theorem own_w2 {p : Program} {l : Launch} {e : Env} {R : Room} {s : State} {m : MethodId} {args : Array Value} {below : List Frame} {meth : Method} {c : Code} {T0 : State} {locs : List Loc} {cells slots : Nat} {Z : State} {a0 : Array Value} {h0 : Heap} (o0 : Addr) (o1 : Addr) (i2 : Int32) (i3 : Int32) (w3 : Int32) (w5 : Addr) (w7 : Int32) (cl_w5 : Cell) (w8 : Addr) (w10 : Int32) (cl_w8 : Cell) (w11 : Addr) (w13 : Int32) (cl_w11 : Cell) (w14 : Addr) (w16 : Int32) (cl_w14 : Cell)
    (X0 : Stand p l e R s m args below meth c T0 locs cells slots) (hx : p.tables.exec = Jvm.exec) (hZ : Z.Warmed39 s.vm) (hw : ∀ d ∈ tables_1, d.before a0 Z = true) (hby : c.code = prog_7_method_11_code) (hml : c.maxLocals = 4) (hown : s.vm.findClass "com/example/chance_checker/chancechecker/construction/Distribution" = some m.cls) (e0 : T0.heap = h0) (F_size_o0 : Fld Z h0 o0 "com/example/chance_checker/chancechecker/construction/Distribution" "size" "I" (.int w3)) (F_targets_o0 : Fld Z h0 o0 "com/example/chance_checker/chancechecker/construction/Distribution" "targets" "[I" (.ref w5)) (Ar_w5 : Arr Z h0 w5 cl_w5 .int) (hin36 : ¬ (i3 < 0 ∨ cl_w5.slots.size ≤ (i3).toNatClampNeg)) (hat36 : cl_w5.slots[(i3).toNatClampNeg]? = some (.int w7)) (F_targets_o1 : Fld Z h0 o1 "com/example/chance_checker/chancechecker/construction/Distribution" "targets" "[I" (.ref w8)) (Ar_w8 : Arr Z h0 w8 cl_w8 .int) (hin42 : ¬ (i3 < 0 ∨ cl_w8.slots.size ≤ (i3).toNatClampNeg)) (hat42 : cl_w8.slots[(i3).toNatClampNeg]? = some (.int w10)) (F_resets_o0 : Fld Z h0 o0 "com/example/chance_checker/chancechecker/construction/Distribution" "resets" "[I" (.ref w11)) (Ar_w11 : Arr Z h0 w11 cl_w11 .int) (hin51 : ¬ (i3 < 0 ∨ cl_w11.slots.size ≤ (i3).toNatClampNeg)) (hat51 : cl_w11.slots[(i3).toNatClampNeg]? = some (.int w13)) (F_resets_o1 : Fld Z h0 o1 "com/example/chance_checker/chancechecker/construction/Distribution" "resets" "[I" (.ref w14)) (Ar_w14 : Arr Z h0 w14 cl_w14 .int) (hin57 : ¬ (i3 < 0 ∨ cl_w14.slots.size ≤ (i3).toNatClampNeg)) (hat57 : cl_w14.slots[(i3).toNatClampNeg]? = some (.int w16)) (hc24 : i3 < w3) (hc28 : ¬ (i2 = (0 : Int32))) (hc43 : w7 = w10) (hc58 : ¬ (w13 = w16)) :
    ∃ (T' : State), Stand p l e R s m args below meth c T' locs cells slots ∧ T'.heap = h0 ∧
      ∀ target, Steps p.tables e below (T'.setTop (mkF m 19 #[.val (.ref o0), .val (.ref o1), .val (.int (0 : Int32)), .val (.int (i3 + (1 : Int32)))] [])) target → Steps p.tables e below (T0.setTop (mkF m 19 #[.val (.ref o0), .val (.ref o1), .val (.int i2), .val (.int i3)] [])) target := by
  obtain ⟨T4, X4, e4, st4⟩ := getF X0 hx hZ hown (host := "") (Or.inl (hw _ (List.mem_of_getElem? (i := 42) rfl))) Via.refl e0 F_size_o0 (g := (mkF m 21 #[.val (.ref o0), .val (.ref o1), .val (.int i2), .val (.int i3)] [(.ref o0), (.int i3)])) rfl rfl (hb hby d6_21)
  obtain ⟨T6, X6, e6, st6⟩ := getF X4 hx hZ hown (host := "") (Or.inl (hw _ (List.mem_of_getElem? (i := 14) rfl))) Via.refl e4 F_targets_o0 (g := (mkF m 32 #[.val (.ref o0), .val (.ref o1), .val (.int i2), .val (.int i3)] [(.ref o0)])) rfl rfl (hb hby d6_32)
  obtain ⟨T9, X9, e9, st9⟩ := getF X6 hx hZ hown (host := "") (Or.inl (hw _ (List.mem_of_getElem? (i := 14) rfl))) Via.refl e6 F_targets_o1 (g := (mkF m 38 #[.val (.ref o0), .val (.ref o1), .val (.int i2), .val (.int i3)] [(.ref o1), (.int w7)])) rfl rfl (hb hby d6_38)
  obtain ⟨T12, X12, e12, st12⟩ := getF X9 hx hZ hown (host := "") (Or.inl (hw _ (List.mem_of_getElem? (i := 16) rfl))) Via.refl e9 F_resets_o0 (g := (mkF m 47 #[.val (.ref o0), .val (.ref o1), .val (.int i2), .val (.int i3)] [(.ref o0)])) rfl rfl (hb hby d6_47)
  obtain ⟨T15, X15, e15, st15⟩ := getF X12 hx hZ hown (host := "") (Or.inl (hw _ (List.mem_of_getElem? (i := 16) rfl))) Via.refl e12 F_resets_o1 (g := (mkF m 53 #[.val (.ref o0), .val (.ref o1), .val (.int i2), .val (.int i3)] [(.ref o1), (.int w13)])) rfl rfl (hb hby d6_53)
  refine ⟨T15, X15, e15, fun target kt => ?_⟩
  show Steps p.tables e below (T0.setTop (mkF m 19 #[.val (.ref o0), .val (.ref o1), .val (.int i2), .val (.int i3)] [])) _
  refine XS.iloadN X0.here hx rfl (hb hby d6_19) rfl ?_
  show Steps p.tables e below (T0.setTop (mkF m 20 #[.val (.ref o0), .val (.ref o1), .val (.int i2), .val (.int i3)] [(.int i3)])) _
  refine XS.aloadN X0.here hx rfl (hb hby d6_20) rfl rfl ?_
  show Steps p.tables e below (T0.setTop (mkF m 21 #[.val (.ref o0), .val (.ref o1), .val (.int i2), .val (.int i3)] [(.ref o0), (.int i3)])) _
  refine st4 _ ?_
  show Steps p.tables e below (T4.setTop (mkF m 24 #[.val (.ref o0), .val (.ref o1), .val (.int i2), .val (.int i3)] [(.int w3), (.int i3)])) _
  refine XS.icmpNo X4.here hx rfl (hb hby d6_24) rfl (tlt hc24).2.1 ?_
  show Steps p.tables e below (T4.setTop (mkF m 27 #[.val (.ref o0), .val (.ref o1), .val (.int i2), .val (.int i3)] [])) _
  refine XS.iloadN X4.here hx rfl (hb hby d6_27) rfl ?_
  show Steps p.tables e below (T4.setTop (mkF m 28 #[.val (.ref o0), .val (.ref o1), .val (.int i2), .val (.int i3)] [(.int i2)])) _
  refine XS.ifNo X4.here hx rfl (hb hby d6_28) rfl ((if0 _ _).trans (feq hc28).1) ?_
  show Steps p.tables e below (T4.setTop (mkF m 31 #[.val (.ref o0), .val (.ref o1), .val (.int i2), .val (.int i3)] [])) _
  refine XS.aloadN X4.here hx rfl (hb hby d6_31) rfl rfl ?_
  show Steps p.tables e below (T4.setTop (mkF m 32 #[.val (.ref o0), .val (.ref o1), .val (.int i2), .val (.int i3)] [(.ref o0)])) _
  refine st6 _ ?_
  show Steps p.tables e below (T6.setTop (mkF m 35 #[.val (.ref o0), .val (.ref o1), .val (.int i2), .val (.int i3)] [(.ref w5)])) _
  refine XS.iloadN X6.here hx rfl (hb hby d6_35) rfl ?_
  show Steps p.tables e below (T6.setTop (mkF m 36 #[.val (.ref o0), .val (.ref o1), .val (.int i2), .val (.int i3)] [(.int i3), (.ref w5)])) _
  refine X6.iaload hx (j := i3) (v := (.int w7)) (by rw [e6]; exact Ar_w5.1) (State.isArrayOf_alike hZ.alike Ar_w5.2.1) Ar_w5.2.2 hin36 hat36 (g := (mkF m 36 #[.val (.ref o0), .val (.ref o1), .val (.int i2), .val (.int i3)] [(.int i3), (.ref w5)])) rfl rfl (hb hby d6_36) _ ?_
  show Steps p.tables e below (T6.setTop (mkF m 37 #[.val (.ref o0), .val (.ref o1), .val (.int i2), .val (.int i3)] [(.int w7)])) _
  refine XS.aloadN X6.here hx rfl (hb hby d6_37) rfl rfl ?_
  show Steps p.tables e below (T6.setTop (mkF m 38 #[.val (.ref o0), .val (.ref o1), .val (.int i2), .val (.int i3)] [(.ref o1), (.int w7)])) _
  refine st9 _ ?_
  show Steps p.tables e below (T9.setTop (mkF m 41 #[.val (.ref o0), .val (.ref o1), .val (.int i2), .val (.int i3)] [(.ref w8), (.int w7)])) _
  refine XS.iloadN X9.here hx rfl (hb hby d6_41) rfl ?_
  show Steps p.tables e below (T9.setTop (mkF m 42 #[.val (.ref o0), .val (.ref o1), .val (.int i2), .val (.int i3)] [(.int i3), (.ref w8), (.int w7)])) _
  refine X9.iaload hx (j := i3) (v := (.int w10)) (by rw [e9]; exact Ar_w8.1) (State.isArrayOf_alike hZ.alike Ar_w8.2.1) Ar_w8.2.2 hin42 hat42 (g := (mkF m 42 #[.val (.ref o0), .val (.ref o1), .val (.int i2), .val (.int i3)] [(.int i3), (.ref w8), (.int w7)])) rfl rfl (hb hby d6_42) _ ?_
  show Steps p.tables e below (T9.setTop (mkF m 43 #[.val (.ref o0), .val (.ref o1), .val (.int i2), .val (.int i3)] [(.int w10), (.int w7)])) _
  refine XS.icmpNo X9.here hx rfl (hb hby d6_43) rfl (teq hc43).2 ?_
  show Steps p.tables e below (T9.setTop (mkF m 46 #[.val (.ref o0), .val (.ref o1), .val (.int i2), .val (.int i3)] [])) _
  refine XS.aloadN X9.here hx rfl (hb hby d6_46) rfl rfl ?_
  show Steps p.tables e below (T9.setTop (mkF m 47 #[.val (.ref o0), .val (.ref o1), .val (.int i2), .val (.int i3)] [(.ref o0)])) _
  refine st12 _ ?_
  show Steps p.tables e below (T12.setTop (mkF m 50 #[.val (.ref o0), .val (.ref o1), .val (.int i2), .val (.int i3)] [(.ref w11)])) _
  refine XS.iloadN X12.here hx rfl (hb hby d6_50) rfl ?_
  show Steps p.tables e below (T12.setTop (mkF m 51 #[.val (.ref o0), .val (.ref o1), .val (.int i2), .val (.int i3)] [(.int i3), (.ref w11)])) _
  refine X12.iaload hx (j := i3) (v := (.int w13)) (by rw [e12]; exact Ar_w11.1) (State.isArrayOf_alike hZ.alike Ar_w11.2.1) Ar_w11.2.2 hin51 hat51 (g := (mkF m 51 #[.val (.ref o0), .val (.ref o1), .val (.int i2), .val (.int i3)] [(.int i3), (.ref w11)])) rfl rfl (hb hby d6_51) _ ?_
  show Steps p.tables e below (T12.setTop (mkF m 52 #[.val (.ref o0), .val (.ref o1), .val (.int i2), .val (.int i3)] [(.int w13)])) _
  refine XS.aloadN X12.here hx rfl (hb hby d6_52) rfl rfl ?_
  show Steps p.tables e below (T12.setTop (mkF m 53 #[.val (.ref o0), .val (.ref o1), .val (.int i2), .val (.int i3)] [(.ref o1), (.int w13)])) _
  refine st15 _ ?_
  show Steps p.tables e below (T15.setTop (mkF m 56 #[.val (.ref o0), .val (.ref o1), .val (.int i2), .val (.int i3)] [(.ref w14), (.int w13)])) _
  refine XS.iloadN X15.here hx rfl (hb hby d6_56) rfl ?_
  show Steps p.tables e below (T15.setTop (mkF m 57 #[.val (.ref o0), .val (.ref o1), .val (.int i2), .val (.int i3)] [(.int i3), (.ref w14), (.int w13)])) _
  refine X15.iaload hx (j := i3) (v := (.int w16)) (by rw [e15]; exact Ar_w14.1) (State.isArrayOf_alike hZ.alike Ar_w14.2.1) Ar_w14.2.2 hin57 hat57 (g := (mkF m 57 #[.val (.ref o0), .val (.ref o1), .val (.int i2), .val (.int i3)] [(.int i3), (.ref w14), (.int w13)])) rfl rfl (hb hby d6_57) _ ?_
  show Steps p.tables e below (T15.setTop (mkF m 58 #[.val (.ref o0), .val (.ref o1), .val (.int i2), .val (.int i3)] [(.int w16), (.int w13)])) _
  refine XS.icmpYes X15.here hx rfl (pc0 := 58) (pc' := 81) rfl (hb hby d6_58) rfl (feq hc58).2 (by decide) (by decide) ?_
  show Steps p.tables e below (T15.setTop (mkF m 81 #[.val (.ref o0), .val (.ref o1), .val (.int i2), .val (.int i3)] [])) _
  refine XS.iconst X15.here hx rfl (hb hby d6_81) ?_
  show Steps p.tables e below (T15.setTop (mkF m 82 #[.val (.ref o0), .val (.ref o1), .val (.int i2), .val (.int i3)] [(.int (0 : Int32))])) _
  refine XS.istoreN X15.here hx rfl (hb hby d6_82) rfl (l' := #[.val (.ref o0), .val (.ref o1), .val (.int (0 : Int32)), .val (.int i3)]) rfl ?_
  show Steps p.tables e below (T15.setTop (mkF m 83 #[.val (.ref o0), .val (.ref o1), .val (.int (0 : Int32)), .val (.int i3)] [])) _
  refine XS.iinc X15.here hx rfl (hb hby d6_83) rfl (l' := #[.val (.ref o0), .val (.ref o1), .val (.int (0 : Int32)), .val (.int (i3 + (1 : Int32)))]) rfl ?_
  show Steps p.tables e below (T15.setTop (mkF m 86 #[.val (.ref o0), .val (.ref o1), .val (.int (0 : Int32)), .val (.int (i3 + (1 : Int32)))] [])) _
  refine XS.goto X15.here hx rfl (pc0 := 86) (pc' := 19) rfl (hb hby d6_86) (by decide) (by decide) ?_
  exact kt
theorem d6_61 : decode prog_7_method_11_code 61 = .ok (.aload_n 0, 1) := by decide +kernel
theorem d6_62 : decode prog_7_method_11_code 62 = .ok (.getfield 16, 3) := by decide +kernel
theorem d6_65 : decode prog_7_method_11_code 65 = .ok (.iload_n 3, 1) := by decide +kernel
theorem d6_66 : decode prog_7_method_11_code 66 = .ok (.daload, 1) := by decide +kernel
theorem d6_67 : decode prog_7_method_11_code 67 = .ok (.aload_n 1, 1) := by decide +kernel
theorem d6_68 : decode prog_7_method_11_code 68 = .ok (.getfield 16, 3) := by decide +kernel
theorem d6_71 : decode prog_7_method_11_code 71 = .ok (.iload_n 3, 1) := by decide +kernel
theorem d6_72 : decode prog_7_method_11_code 72 = .ok (.daload, 1) := by decide +kernel
theorem d6_73 : decode prog_7_method_11_code 73 = .ok (.dcmp .l, 1) := by decide +kernel
theorem d6_74 : decode prog_7_method_11_code 74 = .ok (.ifCond .ne 7, 3) := by decide +kernel
set_option maxRecDepth 65536 in
set_option maxHeartbeats 40000000 in
theorem own_w3 {p : Program} {l : Launch} {e : Env} {R : Room} {s : State} {m : MethodId} {args : Array Value} {below : List Frame} {meth : Method} {c : Code} {T0 : State} {locs : List Loc} {cells slots : Nat} {Z : State} {a0 : Array Value} {h0 : Heap} (o0 : Addr) (o1 : Addr) (i2 : Int32) (i3 : Int32) (w3 : Int32) (w5 : Addr) (w7 : Int32) (cl_w5 : Cell) (w8 : Addr) (w10 : Int32) (cl_w8 : Cell) (w11 : Addr) (w13 : Int32) (cl_w11 : Cell) (w14 : Addr) (w16 : Int32) (cl_w14 : Cell) (w17 : Addr) (w19 : UInt64) (cl_w17 : Cell) (w20 : Addr) (w22 : UInt64) (cl_w20 : Cell)
    (X0 : Stand p l e R s m args below meth c T0 locs cells slots) (hx : p.tables.exec = Jvm.exec) (hZ : Z.Warmed39 s.vm) (hw : ∀ d ∈ tables_1, d.before a0 Z = true) (hby : c.code = prog_7_method_11_code) (hml : c.maxLocals = 4) (hown : s.vm.findClass "com/example/chance_checker/chancechecker/construction/Distribution" = some m.cls) (e0 : T0.heap = h0) (F_size_o0 : Fld Z h0 o0 "com/example/chance_checker/chancechecker/construction/Distribution" "size" "I" (.int w3)) (F_targets_o0 : Fld Z h0 o0 "com/example/chance_checker/chancechecker/construction/Distribution" "targets" "[I" (.ref w5)) (Ar_w5 : Arr Z h0 w5 cl_w5 .int) (hin36 : ¬ (i3 < 0 ∨ cl_w5.slots.size ≤ (i3).toNatClampNeg)) (hat36 : cl_w5.slots[(i3).toNatClampNeg]? = some (.int w7)) (F_targets_o1 : Fld Z h0 o1 "com/example/chance_checker/chancechecker/construction/Distribution" "targets" "[I" (.ref w8)) (Ar_w8 : Arr Z h0 w8 cl_w8 .int) (hin42 : ¬ (i3 < 0 ∨ cl_w8.slots.size ≤ (i3).toNatClampNeg)) (hat42 : cl_w8.slots[(i3).toNatClampNeg]? = some (.int w10)) (F_resets_o0 : Fld Z h0 o0 "com/example/chance_checker/chancechecker/construction/Distribution" "resets" "[I" (.ref w11)) (Ar_w11 : Arr Z h0 w11 cl_w11 .int) (hin51 : ¬ (i3 < 0 ∨ cl_w11.slots.size ≤ (i3).toNatClampNeg)) (hat51 : cl_w11.slots[(i3).toNatClampNeg]? = some (.int w13)) (F_resets_o1 : Fld Z h0 o1 "com/example/chance_checker/chancechecker/construction/Distribution" "resets" "[I" (.ref w14)) (Ar_w14 : Arr Z h0 w14 cl_w14 .int) (hin57 : ¬ (i3 < 0 ∨ cl_w14.slots.size ≤ (i3).toNatClampNeg)) (hat57 : cl_w14.slots[(i3).toNatClampNeg]? = some (.int w16)) (F_probabilities_o0 : Fld Z h0 o0 "com/example/chance_checker/chancechecker/construction/Distribution" "probabilities" "[D" (.ref w17)) (Ar_w17 : Arr Z h0 w17 cl_w17 .double) (hin66 : ¬ (i3 < 0 ∨ cl_w17.slots.size ≤ (i3).toNatClampNeg)) (hat66 : cl_w17.slots[(i3).toNatClampNeg]? = some (.double w19)) (F_probabilities_o1 : Fld Z h0 o1 "com/example/chance_checker/chancechecker/construction/Distribution" "probabilities" "[D" (.ref w20)) (Ar_w20 : Arr Z h0 w20 cl_w20 .double) (hin72 : ¬ (i3 < 0 ∨ cl_w20.slots.size ≤ (i3).toNatClampNeg)) (hat72 : cl_w20.slots[(i3).toNatClampNeg]? = some (.double w22)) (hc24 : i3 < w3) (hc28 : ¬ (i2 = (0 : Int32))) (hc43 : w7 = w10) (hc58 : w13 = w16) (hc74 : ¬ ((cmpValue (FP.dcmp w19 w22) .l) = (0 : Int32))) :
    ∃ (T' : State), Stand p l e R s m args below meth c T' locs cells slots ∧ T'.heap = h0 ∧
      ∀ target, Steps p.tables e below (T'.setTop (mkF m 19 #[.val (.ref o0), .val (.ref o1), .val (.int (0 : Int32)), .val (.int (i3 + (1 : Int32)))] [])) target → Steps p.tables e below (T0.setTop (mkF m 19 #[.val (.ref o0), .val (.ref o1), .val (.int i2), .val (.int i3)] [])) target := by
  obtain ⟨T4, X4, e4, st4⟩ := getF X0 hx hZ hown (host := "") (Or.inl (hw _ (List.mem_of_getElem? (i := 42) rfl))) Via.refl e0 F_size_o0 (g := (mkF m 21 #[.val (.ref o0), .val (.ref o1), .val (.int i2), .val (.int i3)] [(.ref o0), (.int i3)])) rfl rfl (hb hby d6_21)
  obtain ⟨T6, X6, e6, st6⟩ := getF X4 hx hZ hown (host := "") (Or.inl (hw _ (List.mem_of_getElem? (i := 14) rfl))) Via.refl e4 F_targets_o0 (g := (mkF m 32 #[.val (.ref o0), .val (.ref o1), .val (.int i2), .val (.int i3)] [(.ref o0)])) rfl rfl (hb hby d6_32)
  obtain ⟨T9, X9, e9, st9⟩ := getF X6 hx hZ hown (host := "") (Or.inl (hw _ (List.mem_of_getElem? (i := 14) rfl))) Via.refl e6 F_targets_o1 (g := (mkF m 38 #[.val (.ref o0), .val (.ref o1), .val (.int i2), .val (.int i3)] [(.ref o1), (.int w7)])) rfl rfl (hb hby d6_38)
  obtain ⟨T12, X12, e12, st12⟩ := getF X9 hx hZ hown (host := "") (Or.inl (hw _ (List.mem_of_getElem? (i := 16) rfl))) Via.refl e9 F_resets_o0 (g := (mkF m 47 #[.val (.ref o0), .val (.ref o1), .val (.int i2), .val (.int i3)] [(.ref o0)])) rfl rfl (hb hby d6_47)
  obtain ⟨T15, X15, e15, st15⟩ := getF X12 hx hZ hown (host := "") (Or.inl (hw _ (List.mem_of_getElem? (i := 16) rfl))) Via.refl e12 F_resets_o1 (g := (mkF m 53 #[.val (.ref o0), .val (.ref o1), .val (.int i2), .val (.int i3)] [(.ref o1), (.int w13)])) rfl rfl (hb hby d6_53)
  obtain ⟨T18, X18, e18, st18⟩ := getF X15 hx hZ hown (host := "") (Or.inl (hw _ (List.mem_of_getElem? (i := 19) rfl))) Via.refl e15 F_probabilities_o0 (g := (mkF m 62 #[.val (.ref o0), .val (.ref o1), .val (.int i2), .val (.int i3)] [(.ref o0)])) rfl rfl (hb hby d6_62)
  obtain ⟨T21, X21, e21, st21⟩ := getF X18 hx hZ hown (host := "") (Or.inl (hw _ (List.mem_of_getElem? (i := 19) rfl))) Via.refl e18 F_probabilities_o1 (g := (mkF m 68 #[.val (.ref o0), .val (.ref o1), .val (.int i2), .val (.int i3)] [(.ref o1), (.double w19)])) rfl rfl (hb hby d6_68)
  refine ⟨T21, X21, e21, fun target kt => ?_⟩
  show Steps p.tables e below (T0.setTop (mkF m 19 #[.val (.ref o0), .val (.ref o1), .val (.int i2), .val (.int i3)] [])) _
  refine XS.iloadN X0.here hx rfl (hb hby d6_19) rfl ?_
  show Steps p.tables e below (T0.setTop (mkF m 20 #[.val (.ref o0), .val (.ref o1), .val (.int i2), .val (.int i3)] [(.int i3)])) _
  refine XS.aloadN X0.here hx rfl (hb hby d6_20) rfl rfl ?_
  show Steps p.tables e below (T0.setTop (mkF m 21 #[.val (.ref o0), .val (.ref o1), .val (.int i2), .val (.int i3)] [(.ref o0), (.int i3)])) _
  refine st4 _ ?_
  show Steps p.tables e below (T4.setTop (mkF m 24 #[.val (.ref o0), .val (.ref o1), .val (.int i2), .val (.int i3)] [(.int w3), (.int i3)])) _
  refine XS.icmpNo X4.here hx rfl (hb hby d6_24) rfl (tlt hc24).2.1 ?_
  show Steps p.tables e below (T4.setTop (mkF m 27 #[.val (.ref o0), .val (.ref o1), .val (.int i2), .val (.int i3)] [])) _
  refine XS.iloadN X4.here hx rfl (hb hby d6_27) rfl ?_
  show Steps p.tables e below (T4.setTop (mkF m 28 #[.val (.ref o0), .val (.ref o1), .val (.int i2), .val (.int i3)] [(.int i2)])) _
  refine XS.ifNo X4.here hx rfl (hb hby d6_28) rfl ((if0 _ _).trans (feq hc28).1) ?_
  show Steps p.tables e below (T4.setTop (mkF m 31 #[.val (.ref o0), .val (.ref o1), .val (.int i2), .val (.int i3)] [])) _
  refine XS.aloadN X4.here hx rfl (hb hby d6_31) rfl rfl ?_
  show Steps p.tables e below (T4.setTop (mkF m 32 #[.val (.ref o0), .val (.ref o1), .val (.int i2), .val (.int i3)] [(.ref o0)])) _
  refine st6 _ ?_
  show Steps p.tables e below (T6.setTop (mkF m 35 #[.val (.ref o0), .val (.ref o1), .val (.int i2), .val (.int i3)] [(.ref w5)])) _
  refine XS.iloadN X6.here hx rfl (hb hby d6_35) rfl ?_
  show Steps p.tables e below (T6.setTop (mkF m 36 #[.val (.ref o0), .val (.ref o1), .val (.int i2), .val (.int i3)] [(.int i3), (.ref w5)])) _
  refine X6.iaload hx (j := i3) (v := (.int w7)) (by rw [e6]; exact Ar_w5.1) (State.isArrayOf_alike hZ.alike Ar_w5.2.1) Ar_w5.2.2 hin36 hat36 (g := (mkF m 36 #[.val (.ref o0), .val (.ref o1), .val (.int i2), .val (.int i3)] [(.int i3), (.ref w5)])) rfl rfl (hb hby d6_36) _ ?_
  show Steps p.tables e below (T6.setTop (mkF m 37 #[.val (.ref o0), .val (.ref o1), .val (.int i2), .val (.int i3)] [(.int w7)])) _
  refine XS.aloadN X6.here hx rfl (hb hby d6_37) rfl rfl ?_
  show Steps p.tables e below (T6.setTop (mkF m 38 #[.val (.ref o0), .val (.ref o1), .val (.int i2), .val (.int i3)] [(.ref o1), (.int w7)])) _
  refine st9 _ ?_
  show Steps p.tables e below (T9.setTop (mkF m 41 #[.val (.ref o0), .val (.ref o1), .val (.int i2), .val (.int i3)] [(.ref w8), (.int w7)])) _
  refine XS.iloadN X9.here hx rfl (hb hby d6_41) rfl ?_
  show Steps p.tables e below (T9.setTop (mkF m 42 #[.val (.ref o0), .val (.ref o1), .val (.int i2), .val (.int i3)] [(.int i3), (.ref w8), (.int w7)])) _
  refine X9.iaload hx (j := i3) (v := (.int w10)) (by rw [e9]; exact Ar_w8.1) (State.isArrayOf_alike hZ.alike Ar_w8.2.1) Ar_w8.2.2 hin42 hat42 (g := (mkF m 42 #[.val (.ref o0), .val (.ref o1), .val (.int i2), .val (.int i3)] [(.int i3), (.ref w8), (.int w7)])) rfl rfl (hb hby d6_42) _ ?_
  show Steps p.tables e below (T9.setTop (mkF m 43 #[.val (.ref o0), .val (.ref o1), .val (.int i2), .val (.int i3)] [(.int w10), (.int w7)])) _
  refine XS.icmpNo X9.here hx rfl (hb hby d6_43) rfl (teq hc43).2 ?_
  show Steps p.tables e below (T9.setTop (mkF m 46 #[.val (.ref o0), .val (.ref o1), .val (.int i2), .val (.int i3)] [])) _
  refine XS.aloadN X9.here hx rfl (hb hby d6_46) rfl rfl ?_
  show Steps p.tables e below (T9.setTop (mkF m 47 #[.val (.ref o0), .val (.ref o1), .val (.int i2), .val (.int i3)] [(.ref o0)])) _
  refine st12 _ ?_
  show Steps p.tables e below (T12.setTop (mkF m 50 #[.val (.ref o0), .val (.ref o1), .val (.int i2), .val (.int i3)] [(.ref w11)])) _
  refine XS.iloadN X12.here hx rfl (hb hby d6_50) rfl ?_
  show Steps p.tables e below (T12.setTop (mkF m 51 #[.val (.ref o0), .val (.ref o1), .val (.int i2), .val (.int i3)] [(.int i3), (.ref w11)])) _
  refine X12.iaload hx (j := i3) (v := (.int w13)) (by rw [e12]; exact Ar_w11.1) (State.isArrayOf_alike hZ.alike Ar_w11.2.1) Ar_w11.2.2 hin51 hat51 (g := (mkF m 51 #[.val (.ref o0), .val (.ref o1), .val (.int i2), .val (.int i3)] [(.int i3), (.ref w11)])) rfl rfl (hb hby d6_51) _ ?_
  show Steps p.tables e below (T12.setTop (mkF m 52 #[.val (.ref o0), .val (.ref o1), .val (.int i2), .val (.int i3)] [(.int w13)])) _
  refine XS.aloadN X12.here hx rfl (hb hby d6_52) rfl rfl ?_
  show Steps p.tables e below (T12.setTop (mkF m 53 #[.val (.ref o0), .val (.ref o1), .val (.int i2), .val (.int i3)] [(.ref o1), (.int w13)])) _
  refine st15 _ ?_
  show Steps p.tables e below (T15.setTop (mkF m 56 #[.val (.ref o0), .val (.ref o1), .val (.int i2), .val (.int i3)] [(.ref w14), (.int w13)])) _
  refine XS.iloadN X15.here hx rfl (hb hby d6_56) rfl ?_
  show Steps p.tables e below (T15.setTop (mkF m 57 #[.val (.ref o0), .val (.ref o1), .val (.int i2), .val (.int i3)] [(.int i3), (.ref w14), (.int w13)])) _
  refine X15.iaload hx (j := i3) (v := (.int w16)) (by rw [e15]; exact Ar_w14.1) (State.isArrayOf_alike hZ.alike Ar_w14.2.1) Ar_w14.2.2 hin57 hat57 (g := (mkF m 57 #[.val (.ref o0), .val (.ref o1), .val (.int i2), .val (.int i3)] [(.int i3), (.ref w14), (.int w13)])) rfl rfl (hb hby d6_57) _ ?_
  show Steps p.tables e below (T15.setTop (mkF m 58 #[.val (.ref o0), .val (.ref o1), .val (.int i2), .val (.int i3)] [(.int w16), (.int w13)])) _
  refine XS.icmpNo X15.here hx rfl (hb hby d6_58) rfl (teq hc58).2 ?_
  show Steps p.tables e below (T15.setTop (mkF m 61 #[.val (.ref o0), .val (.ref o1), .val (.int i2), .val (.int i3)] [])) _
  refine XS.aloadN X15.here hx rfl (hb hby d6_61) rfl rfl ?_
  show Steps p.tables e below (T15.setTop (mkF m 62 #[.val (.ref o0), .val (.ref o1), .val (.int i2), .val (.int i3)] [(.ref o0)])) _
  refine st18 _ ?_
  show Steps p.tables e below (T18.setTop (mkF m 65 #[.val (.ref o0), .val (.ref o1), .val (.int i2), .val (.int i3)] [(.ref w17)])) _
  refine XS.iloadN X18.here hx rfl (hb hby d6_65) rfl ?_
  show Steps p.tables e below (T18.setTop (mkF m 66 #[.val (.ref o0), .val (.ref o1), .val (.int i2), .val (.int i3)] [(.int i3), (.ref w17)])) _
  refine X18.daload hx (j := i3) (v := (.double w19)) (by rw [e18]; exact Ar_w17.1) (State.isArrayOf_alike hZ.alike Ar_w17.2.1) Ar_w17.2.2 hin66 hat66 (g := (mkF m 66 #[.val (.ref o0), .val (.ref o1), .val (.int i2), .val (.int i3)] [(.int i3), (.ref w17)])) rfl rfl (hb hby d6_66) _ ?_
  show Steps p.tables e below (T18.setTop (mkF m 67 #[.val (.ref o0), .val (.ref o1), .val (.int i2), .val (.int i3)] [(.double w19)])) _
  refine XS.aloadN X18.here hx rfl (hb hby d6_67) rfl rfl ?_
  show Steps p.tables e below (T18.setTop (mkF m 68 #[.val (.ref o0), .val (.ref o1), .val (.int i2), .val (.int i3)] [(.ref o1), (.double w19)])) _
  refine st21 _ ?_
  show Steps p.tables e below (T21.setTop (mkF m 71 #[.val (.ref o0), .val (.ref o1), .val (.int i2), .val (.int i3)] [(.ref w20), (.double w19)])) _
  refine XS.iloadN X21.here hx rfl (hb hby d6_71) rfl ?_
  show Steps p.tables e below (T21.setTop (mkF m 72 #[.val (.ref o0), .val (.ref o1), .val (.int i2), .val (.int i3)] [(.int i3), (.ref w20), (.double w19)])) _
  refine X21.daload hx (j := i3) (v := (.double w22)) (by rw [e21]; exact Ar_w20.1) (State.isArrayOf_alike hZ.alike Ar_w20.2.1) Ar_w20.2.2 hin72 hat72 (g := (mkF m 72 #[.val (.ref o0), .val (.ref o1), .val (.int i2), .val (.int i3)] [(.int i3), (.ref w20), (.double w19)])) rfl rfl (hb hby d6_72) _ ?_
  show Steps p.tables e below (T21.setTop (mkF m 73 #[.val (.ref o0), .val (.ref o1), .val (.int i2), .val (.int i3)] [(.double w22), (.double w19)])) _
  refine XS.dcmpS X21.here hx rfl (hb hby d6_73) rfl rfl ?_
  show Steps p.tables e below (T21.setTop (mkF m 74 #[.val (.ref o0), .val (.ref o1), .val (.int i2), .val (.int i3)] [(.int (cmpValue (FP.dcmp w19 w22) .l))])) _
  refine XS.ifYes X21.here hx rfl (pc0 := 74) (pc' := 81) rfl (hb hby d6_74) rfl ((if0 _ _).trans (feq hc74).2) (by decide) (by decide) ?_
  show Steps p.tables e below (T21.setTop (mkF m 81 #[.val (.ref o0), .val (.ref o1), .val (.int i2), .val (.int i3)] [])) _
  refine XS.iconst X21.here hx rfl (hb hby d6_81) ?_
  show Steps p.tables e below (T21.setTop (mkF m 82 #[.val (.ref o0), .val (.ref o1), .val (.int i2), .val (.int i3)] [(.int (0 : Int32))])) _
  refine XS.istoreN X21.here hx rfl (hb hby d6_82) rfl (l' := #[.val (.ref o0), .val (.ref o1), .val (.int (0 : Int32)), .val (.int i3)]) rfl ?_
  show Steps p.tables e below (T21.setTop (mkF m 83 #[.val (.ref o0), .val (.ref o1), .val (.int (0 : Int32)), .val (.int i3)] [])) _
  refine XS.iinc X21.here hx rfl (hb hby d6_83) rfl (l' := #[.val (.ref o0), .val (.ref o1), .val (.int (0 : Int32)), .val (.int (i3 + (1 : Int32)))]) rfl ?_
  show Steps p.tables e below (T21.setTop (mkF m 86 #[.val (.ref o0), .val (.ref o1), .val (.int (0 : Int32)), .val (.int (i3 + (1 : Int32)))] [])) _
  refine XS.goto X21.here hx rfl (pc0 := 86) (pc' := 19) rfl (hb hby d6_86) (by decide) (by decide) ?_
  exact kt
theorem d6_77 : decode prog_7_method_11_code 77 = .ok (.iconst 1, 1) := by decide +kernel
theorem d6_78 : decode prog_7_method_11_code 78 = .ok (.goto 4, 3) := by decide +kernel
set_option maxRecDepth 65536 in
set_option maxHeartbeats 40000000 in
theorem own_w4 {p : Program} {l : Launch} {e : Env} {R : Room} {s : State} {m : MethodId} {args : Array Value} {below : List Frame} {meth : Method} {c : Code} {T0 : State} {locs : List Loc} {cells slots : Nat} {Z : State} {a0 : Array Value} {h0 : Heap} (o0 : Addr) (o1 : Addr) (i2 : Int32) (i3 : Int32) (w3 : Int32) (w5 : Addr) (w7 : Int32) (cl_w5 : Cell) (w8 : Addr) (w10 : Int32) (cl_w8 : Cell) (w11 : Addr) (w13 : Int32) (cl_w11 : Cell) (w14 : Addr) (w16 : Int32) (cl_w14 : Cell) (w17 : Addr) (w19 : UInt64) (cl_w17 : Cell) (w20 : Addr) (w22 : UInt64) (cl_w20 : Cell)
    (X0 : Stand p l e R s m args below meth c T0 locs cells slots) (hx : p.tables.exec = Jvm.exec) (hZ : Z.Warmed39 s.vm) (hw : ∀ d ∈ tables_1, d.before a0 Z = true) (hby : c.code = prog_7_method_11_code) (hml : c.maxLocals = 4) (hown : s.vm.findClass "com/example/chance_checker/chancechecker/construction/Distribution" = some m.cls) (e0 : T0.heap = h0) (F_size_o0 : Fld Z h0 o0 "com/example/chance_checker/chancechecker/construction/Distribution" "size" "I" (.int w3)) (F_targets_o0 : Fld Z h0 o0 "com/example/chance_checker/chancechecker/construction/Distribution" "targets" "[I" (.ref w5)) (Ar_w5 : Arr Z h0 w5 cl_w5 .int) (hin36 : ¬ (i3 < 0 ∨ cl_w5.slots.size ≤ (i3).toNatClampNeg)) (hat36 : cl_w5.slots[(i3).toNatClampNeg]? = some (.int w7)) (F_targets_o1 : Fld Z h0 o1 "com/example/chance_checker/chancechecker/construction/Distribution" "targets" "[I" (.ref w8)) (Ar_w8 : Arr Z h0 w8 cl_w8 .int) (hin42 : ¬ (i3 < 0 ∨ cl_w8.slots.size ≤ (i3).toNatClampNeg)) (hat42 : cl_w8.slots[(i3).toNatClampNeg]? = some (.int w10)) (F_resets_o0 : Fld Z h0 o0 "com/example/chance_checker/chancechecker/construction/Distribution" "resets" "[I" (.ref w11)) (Ar_w11 : Arr Z h0 w11 cl_w11 .int) (hin51 : ¬ (i3 < 0 ∨ cl_w11.slots.size ≤ (i3).toNatClampNeg)) (hat51 : cl_w11.slots[(i3).toNatClampNeg]? = some (.int w13)) (F_resets_o1 : Fld Z h0 o1 "com/example/chance_checker/chancechecker/construction/Distribution" "resets" "[I" (.ref w14)) (Ar_w14 : Arr Z h0 w14 cl_w14 .int) (hin57 : ¬ (i3 < 0 ∨ cl_w14.slots.size ≤ (i3).toNatClampNeg)) (hat57 : cl_w14.slots[(i3).toNatClampNeg]? = some (.int w16)) (F_probabilities_o0 : Fld Z h0 o0 "com/example/chance_checker/chancechecker/construction/Distribution" "probabilities" "[D" (.ref w17)) (Ar_w17 : Arr Z h0 w17 cl_w17 .double) (hin66 : ¬ (i3 < 0 ∨ cl_w17.slots.size ≤ (i3).toNatClampNeg)) (hat66 : cl_w17.slots[(i3).toNatClampNeg]? = some (.double w19)) (F_probabilities_o1 : Fld Z h0 o1 "com/example/chance_checker/chancechecker/construction/Distribution" "probabilities" "[D" (.ref w20)) (Ar_w20 : Arr Z h0 w20 cl_w20 .double) (hin72 : ¬ (i3 < 0 ∨ cl_w20.slots.size ≤ (i3).toNatClampNeg)) (hat72 : cl_w20.slots[(i3).toNatClampNeg]? = some (.double w22)) (hc24 : i3 < w3) (hc28 : ¬ (i2 = (0 : Int32))) (hc43 : w7 = w10) (hc58 : w13 = w16) (hc74 : (cmpValue (FP.dcmp w19 w22) .l) = (0 : Int32)) :
    ∃ (T' : State), Stand p l e R s m args below meth c T' locs cells slots ∧ T'.heap = h0 ∧
      ∀ target, Steps p.tables e below (T'.setTop (mkF m 19 #[.val (.ref o0), .val (.ref o1), .val (.int (1 : Int32)), .val (.int (i3 + (1 : Int32)))] [])) target → Steps p.tables e below (T0.setTop (mkF m 19 #[.val (.ref o0), .val (.ref o1), .val (.int i2), .val (.int i3)] [])) target := by
  obtain ⟨T4, X4, e4, st4⟩ := getF X0 hx hZ hown (host := "") (Or.inl (hw _ (List.mem_of_getElem? (i := 42) rfl))) Via.refl e0 F_size_o0 (g := (mkF m 21 #[.val (.ref o0), .val (.ref o1), .val (.int i2), .val (.int i3)] [(.ref o0), (.int i3)])) rfl rfl (hb hby d6_21)
  obtain ⟨T6, X6, e6, st6⟩ := getF X4 hx hZ hown (host := "") (Or.inl (hw _ (List.mem_of_getElem? (i := 14) rfl))) Via.refl e4 F_targets_o0 (g := (mkF m 32 #[.val (.ref o0), .val (.ref o1), .val (.int i2), .val (.int i3)] [(.ref o0)])) rfl rfl (hb hby d6_32)
  obtain ⟨T9, X9, e9, st9⟩ := getF X6 hx hZ hown (host := "") (Or.inl (hw _ (List.mem_of_getElem? (i := 14) rfl))) Via.refl e6 F_targets_o1 (g := (mkF m 38 #[.val (.ref o0), .val (.ref o1), .val (.int i2), .val (.int i3)] [(.ref o1), (.int w7)])) rfl rfl (hb hby d6_38)
  obtain ⟨T12, X12, e12, st12⟩ := getF X9 hx hZ hown (host := "") (Or.inl (hw _ (List.mem_of_getElem? (i := 16) rfl))) Via.refl e9 F_resets_o0 (g := (mkF m 47 #[.val (.ref o0), .val (.ref o1), .val (.int i2), .val (.int i3)] [(.ref o0)])) rfl rfl (hb hby d6_47)
  obtain ⟨T15, X15, e15, st15⟩ := getF X12 hx hZ hown (host := "") (Or.inl (hw _ (List.mem_of_getElem? (i := 16) rfl))) Via.refl e12 F_resets_o1 (g := (mkF m 53 #[.val (.ref o0), .val (.ref o1), .val (.int i2), .val (.int i3)] [(.ref o1), (.int w13)])) rfl rfl (hb hby d6_53)
  obtain ⟨T18, X18, e18, st18⟩ := getF X15 hx hZ hown (host := "") (Or.inl (hw _ (List.mem_of_getElem? (i := 19) rfl))) Via.refl e15 F_probabilities_o0 (g := (mkF m 62 #[.val (.ref o0), .val (.ref o1), .val (.int i2), .val (.int i3)] [(.ref o0)])) rfl rfl (hb hby d6_62)
  obtain ⟨T21, X21, e21, st21⟩ := getF X18 hx hZ hown (host := "") (Or.inl (hw _ (List.mem_of_getElem? (i := 19) rfl))) Via.refl e18 F_probabilities_o1 (g := (mkF m 68 #[.val (.ref o0), .val (.ref o1), .val (.int i2), .val (.int i3)] [(.ref o1), (.double w19)])) rfl rfl (hb hby d6_68)
  refine ⟨T21, X21, e21, fun target kt => ?_⟩
  show Steps p.tables e below (T0.setTop (mkF m 19 #[.val (.ref o0), .val (.ref o1), .val (.int i2), .val (.int i3)] [])) _
  refine XS.iloadN X0.here hx rfl (hb hby d6_19) rfl ?_
  show Steps p.tables e below (T0.setTop (mkF m 20 #[.val (.ref o0), .val (.ref o1), .val (.int i2), .val (.int i3)] [(.int i3)])) _
  refine XS.aloadN X0.here hx rfl (hb hby d6_20) rfl rfl ?_
  show Steps p.tables e below (T0.setTop (mkF m 21 #[.val (.ref o0), .val (.ref o1), .val (.int i2), .val (.int i3)] [(.ref o0), (.int i3)])) _
  refine st4 _ ?_
  show Steps p.tables e below (T4.setTop (mkF m 24 #[.val (.ref o0), .val (.ref o1), .val (.int i2), .val (.int i3)] [(.int w3), (.int i3)])) _
  refine XS.icmpNo X4.here hx rfl (hb hby d6_24) rfl (tlt hc24).2.1 ?_
  show Steps p.tables e below (T4.setTop (mkF m 27 #[.val (.ref o0), .val (.ref o1), .val (.int i2), .val (.int i3)] [])) _
  refine XS.iloadN X4.here hx rfl (hb hby d6_27) rfl ?_
  show Steps p.tables e below (T4.setTop (mkF m 28 #[.val (.ref o0), .val (.ref o1), .val (.int i2), .val (.int i3)] [(.int i2)])) _
  refine XS.ifNo X4.here hx rfl (hb hby d6_28) rfl ((if0 _ _).trans (feq hc28).1) ?_
  show Steps p.tables e below (T4.setTop (mkF m 31 #[.val (.ref o0), .val (.ref o1), .val (.int i2), .val (.int i3)] [])) _
  refine XS.aloadN X4.here hx rfl (hb hby d6_31) rfl rfl ?_
  show Steps p.tables e below (T4.setTop (mkF m 32 #[.val (.ref o0), .val (.ref o1), .val (.int i2), .val (.int i3)] [(.ref o0)])) _
  refine st6 _ ?_
  show Steps p.tables e below (T6.setTop (mkF m 35 #[.val (.ref o0), .val (.ref o1), .val (.int i2), .val (.int i3)] [(.ref w5)])) _
  refine XS.iloadN X6.here hx rfl (hb hby d6_35) rfl ?_
  show Steps p.tables e below (T6.setTop (mkF m 36 #[.val (.ref o0), .val (.ref o1), .val (.int i2), .val (.int i3)] [(.int i3), (.ref w5)])) _
  refine X6.iaload hx (j := i3) (v := (.int w7)) (by rw [e6]; exact Ar_w5.1) (State.isArrayOf_alike hZ.alike Ar_w5.2.1) Ar_w5.2.2 hin36 hat36 (g := (mkF m 36 #[.val (.ref o0), .val (.ref o1), .val (.int i2), .val (.int i3)] [(.int i3), (.ref w5)])) rfl rfl (hb hby d6_36) _ ?_
  show Steps p.tables e below (T6.setTop (mkF m 37 #[.val (.ref o0), .val (.ref o1), .val (.int i2), .val (.int i3)] [(.int w7)])) _
  refine XS.aloadN X6.here hx rfl (hb hby d6_37) rfl rfl ?_
  show Steps p.tables e below (T6.setTop (mkF m 38 #[.val (.ref o0), .val (.ref o1), .val (.int i2), .val (.int i3)] [(.ref o1), (.int w7)])) _
  refine st9 _ ?_
  show Steps p.tables e below (T9.setTop (mkF m 41 #[.val (.ref o0), .val (.ref o1), .val (.int i2), .val (.int i3)] [(.ref w8), (.int w7)])) _
  refine XS.iloadN X9.here hx rfl (hb hby d6_41) rfl ?_
  show Steps p.tables e below (T9.setTop (mkF m 42 #[.val (.ref o0), .val (.ref o1), .val (.int i2), .val (.int i3)] [(.int i3), (.ref w8), (.int w7)])) _
  refine X9.iaload hx (j := i3) (v := (.int w10)) (by rw [e9]; exact Ar_w8.1) (State.isArrayOf_alike hZ.alike Ar_w8.2.1) Ar_w8.2.2 hin42 hat42 (g := (mkF m 42 #[.val (.ref o0), .val (.ref o1), .val (.int i2), .val (.int i3)] [(.int i3), (.ref w8), (.int w7)])) rfl rfl (hb hby d6_42) _ ?_
  show Steps p.tables e below (T9.setTop (mkF m 43 #[.val (.ref o0), .val (.ref o1), .val (.int i2), .val (.int i3)] [(.int w10), (.int w7)])) _
  refine XS.icmpNo X9.here hx rfl (hb hby d6_43) rfl (teq hc43).2 ?_
  show Steps p.tables e below (T9.setTop (mkF m 46 #[.val (.ref o0), .val (.ref o1), .val (.int i2), .val (.int i3)] [])) _
  refine XS.aloadN X9.here hx rfl (hb hby d6_46) rfl rfl ?_
  show Steps p.tables e below (T9.setTop (mkF m 47 #[.val (.ref o0), .val (.ref o1), .val (.int i2), .val (.int i3)] [(.ref o0)])) _
  refine st12 _ ?_
  show Steps p.tables e below (T12.setTop (mkF m 50 #[.val (.ref o0), .val (.ref o1), .val (.int i2), .val (.int i3)] [(.ref w11)])) _
  refine XS.iloadN X12.here hx rfl (hb hby d6_50) rfl ?_
  show Steps p.tables e below (T12.setTop (mkF m 51 #[.val (.ref o0), .val (.ref o1), .val (.int i2), .val (.int i3)] [(.int i3), (.ref w11)])) _
  refine X12.iaload hx (j := i3) (v := (.int w13)) (by rw [e12]; exact Ar_w11.1) (State.isArrayOf_alike hZ.alike Ar_w11.2.1) Ar_w11.2.2 hin51 hat51 (g := (mkF m 51 #[.val (.ref o0), .val (.ref o1), .val (.int i2), .val (.int i3)] [(.int i3), (.ref w11)])) rfl rfl (hb hby d6_51) _ ?_
  show Steps p.tables e below (T12.setTop (mkF m 52 #[.val (.ref o0), .val (.ref o1), .val (.int i2), .val (.int i3)] [(.int w13)])) _
  refine XS.aloadN X12.here hx rfl (hb hby d6_52) rfl rfl ?_
  show Steps p.tables e below (T12.setTop (mkF m 53 #[.val (.ref o0), .val (.ref o1), .val (.int i2), .val (.int i3)] [(.ref o1), (.int w13)])) _
  refine st15 _ ?_
  show Steps p.tables e below (T15.setTop (mkF m 56 #[.val (.ref o0), .val (.ref o1), .val (.int i2), .val (.int i3)] [(.ref w14), (.int w13)])) _
  refine XS.iloadN X15.here hx rfl (hb hby d6_56) rfl ?_
  show Steps p.tables e below (T15.setTop (mkF m 57 #[.val (.ref o0), .val (.ref o1), .val (.int i2), .val (.int i3)] [(.int i3), (.ref w14), (.int w13)])) _
  refine X15.iaload hx (j := i3) (v := (.int w16)) (by rw [e15]; exact Ar_w14.1) (State.isArrayOf_alike hZ.alike Ar_w14.2.1) Ar_w14.2.2 hin57 hat57 (g := (mkF m 57 #[.val (.ref o0), .val (.ref o1), .val (.int i2), .val (.int i3)] [(.int i3), (.ref w14), (.int w13)])) rfl rfl (hb hby d6_57) _ ?_
  show Steps p.tables e below (T15.setTop (mkF m 58 #[.val (.ref o0), .val (.ref o1), .val (.int i2), .val (.int i3)] [(.int w16), (.int w13)])) _
  refine XS.icmpNo X15.here hx rfl (hb hby d6_58) rfl (teq hc58).2 ?_
  show Steps p.tables e below (T15.setTop (mkF m 61 #[.val (.ref o0), .val (.ref o1), .val (.int i2), .val (.int i3)] [])) _
  refine XS.aloadN X15.here hx rfl (hb hby d6_61) rfl rfl ?_
  show Steps p.tables e below (T15.setTop (mkF m 62 #[.val (.ref o0), .val (.ref o1), .val (.int i2), .val (.int i3)] [(.ref o0)])) _
  refine st18 _ ?_
  show Steps p.tables e below (T18.setTop (mkF m 65 #[.val (.ref o0), .val (.ref o1), .val (.int i2), .val (.int i3)] [(.ref w17)])) _
  refine XS.iloadN X18.here hx rfl (hb hby d6_65) rfl ?_
  show Steps p.tables e below (T18.setTop (mkF m 66 #[.val (.ref o0), .val (.ref o1), .val (.int i2), .val (.int i3)] [(.int i3), (.ref w17)])) _
  refine X18.daload hx (j := i3) (v := (.double w19)) (by rw [e18]; exact Ar_w17.1) (State.isArrayOf_alike hZ.alike Ar_w17.2.1) Ar_w17.2.2 hin66 hat66 (g := (mkF m 66 #[.val (.ref o0), .val (.ref o1), .val (.int i2), .val (.int i3)] [(.int i3), (.ref w17)])) rfl rfl (hb hby d6_66) _ ?_
  show Steps p.tables e below (T18.setTop (mkF m 67 #[.val (.ref o0), .val (.ref o1), .val (.int i2), .val (.int i3)] [(.double w19)])) _
  refine XS.aloadN X18.here hx rfl (hb hby d6_67) rfl rfl ?_
  show Steps p.tables e below (T18.setTop (mkF m 68 #[.val (.ref o0), .val (.ref o1), .val (.int i2), .val (.int i3)] [(.ref o1), (.double w19)])) _
  refine st21 _ ?_
  show Steps p.tables e below (T21.setTop (mkF m 71 #[.val (.ref o0), .val (.ref o1), .val (.int i2), .val (.int i3)] [(.ref w20), (.double w19)])) _
  refine XS.iloadN X21.here hx rfl (hb hby d6_71) rfl ?_
  show Steps p.tables e below (T21.setTop (mkF m 72 #[.val (.ref o0), .val (.ref o1), .val (.int i2), .val (.int i3)] [(.int i3), (.ref w20), (.double w19)])) _
  refine X21.daload hx (j := i3) (v := (.double w22)) (by rw [e21]; exact Ar_w20.1) (State.isArrayOf_alike hZ.alike Ar_w20.2.1) Ar_w20.2.2 hin72 hat72 (g := (mkF m 72 #[.val (.ref o0), .val (.ref o1), .val (.int i2), .val (.int i3)] [(.int i3), (.ref w20), (.double w19)])) rfl rfl (hb hby d6_72) _ ?_
  show Steps p.tables e below (T21.setTop (mkF m 73 #[.val (.ref o0), .val (.ref o1), .val (.int i2), .val (.int i3)] [(.double w22), (.double w19)])) _
  refine XS.dcmpS X21.here hx rfl (hb hby d6_73) rfl rfl ?_
  show Steps p.tables e below (T21.setTop (mkF m 74 #[.val (.ref o0), .val (.ref o1), .val (.int i2), .val (.int i3)] [(.int (cmpValue (FP.dcmp w19 w22) .l))])) _
  refine XS.ifNo X21.here hx rfl (hb hby d6_74) rfl ((if0 _ _).trans (teq hc74).2) ?_
  show Steps p.tables e below (T21.setTop (mkF m 77 #[.val (.ref o0), .val (.ref o1), .val (.int i2), .val (.int i3)] [])) _
  refine XS.iconst X21.here hx rfl (hb hby d6_77) ?_
  show Steps p.tables e below (T21.setTop (mkF m 78 #[.val (.ref o0), .val (.ref o1), .val (.int i2), .val (.int i3)] [(.int (1 : Int32))])) _
  refine XS.goto X21.here hx rfl (pc0 := 78) (pc' := 82) rfl (hb hby d6_78) (by decide) (by decide) ?_
  show Steps p.tables e below (T21.setTop (mkF m 82 #[.val (.ref o0), .val (.ref o1), .val (.int i2), .val (.int i3)] [(.int (1 : Int32))])) _
  refine XS.istoreN X21.here hx rfl (hb hby d6_82) rfl (l' := #[.val (.ref o0), .val (.ref o1), .val (.int (1 : Int32)), .val (.int i3)]) rfl ?_
  show Steps p.tables e below (T21.setTop (mkF m 83 #[.val (.ref o0), .val (.ref o1), .val (.int (1 : Int32)), .val (.int i3)] [])) _
  refine XS.iinc X21.here hx rfl (hb hby d6_83) rfl (l' := #[.val (.ref o0), .val (.ref o1), .val (.int (1 : Int32)), .val (.int (i3 + (1 : Int32)))]) rfl ?_
  show Steps p.tables e below (T21.setTop (mkF m 86 #[.val (.ref o0), .val (.ref o1), .val (.int (1 : Int32)), .val (.int (i3 + (1 : Int32)))] [])) _
  refine XS.goto X21.here hx rfl (pc0 := 86) (pc' := 19) rfl (hb hby d6_86) (by decide) (by decide) ?_
  exact kt
set_option maxRecDepth 65536 in
set_option maxHeartbeats 40000000 in
theorem own_x1 {p : Program} {l : Launch} {e : Env} {R : Room} {s : State} {m : MethodId} {args : Array Value} {below : List Frame} {meth : Method} {c : Code} {T0 : State} {locs : List Loc} {cells slots : Nat} {Z : State} {a0 : Array Value} {h0 : Heap} (o0 : Addr) (o1 : Addr) (i2 : Int32) (i3 : Int32) (w3 : Int32)
    (X0 : Stand p l e R s m args below meth c T0 locs cells slots) (hx : p.tables.exec = Jvm.exec) (hZ : Z.Warmed39 s.vm) (hw : ∀ d ∈ tables_1, d.before a0 Z = true) (hby : c.code = prog_7_method_11_code) (hml : c.maxLocals = 4) (hown : s.vm.findClass "com/example/chance_checker/chancechecker/construction/Distribution" = some m.cls) (e0 : T0.heap = h0) (F_size_o0 : Fld Z h0 o0 "com/example/chance_checker/chancechecker/construction/Distribution" "size" "I" (.int w3)) (hc24 : ¬ (i3 < w3)) :
    ∃ (T' : State), Stand p l e R s m args below meth c T' locs cells slots ∧ T'.heap = h0 ∧
      ∀ target, Steps p.tables e below (T'.setTop (mkF m 89 #[.val (.ref o0), .val (.ref o1), .val (.int i2), .val (.int i3)] [])) target → Steps p.tables e below (T0.setTop (mkF m 19 #[.val (.ref o0), .val (.ref o1), .val (.int i2), .val (.int i3)] [])) target := by
  obtain ⟨T4, X4, e4, st4⟩ := getF X0 hx hZ hown (host := "") (Or.inl (hw _ (List.mem_of_getElem? (i := 42) rfl))) Via.refl e0 F_size_o0 (g := (mkF m 21 #[.val (.ref o0), .val (.ref o1), .val (.int i2), .val (.int i3)] [(.ref o0), (.int i3)])) rfl rfl (hb hby d6_21)
  refine ⟨T4, X4, e4, fun target kt => ?_⟩
  show Steps p.tables e below (T0.setTop (mkF m 19 #[.val (.ref o0), .val (.ref o1), .val (.int i2), .val (.int i3)] [])) _
  refine XS.iloadN X0.here hx rfl (hb hby d6_19) rfl ?_
  show Steps p.tables e below (T0.setTop (mkF m 20 #[.val (.ref o0), .val (.ref o1), .val (.int i2), .val (.int i3)] [(.int i3)])) _
  refine XS.aloadN X0.here hx rfl (hb hby d6_20) rfl rfl ?_
  show Steps p.tables e below (T0.setTop (mkF m 21 #[.val (.ref o0), .val (.ref o1), .val (.int i2), .val (.int i3)] [(.ref o0), (.int i3)])) _
  refine st4 _ ?_
  show Steps p.tables e below (T4.setTop (mkF m 24 #[.val (.ref o0), .val (.ref o1), .val (.int i2), .val (.int i3)] [(.int w3), (.int i3)])) _
  refine XS.icmpYes X4.here hx rfl (pc0 := 24) (pc' := 89) rfl (hb hby d6_24) rfl (flt hc24).2.1 (by decide) (by decide) ?_
  exact kt
set_option maxRecDepth 65536 in
set_option maxHeartbeats 40000000 in
theorem own_x2 {p : Program} {l : Launch} {e : Env} {R : Room} {s : State} {m : MethodId} {args : Array Value} {below : List Frame} {meth : Method} {c : Code} {T0 : State} {locs : List Loc} {cells slots : Nat} {Z : State} {a0 : Array Value} {h0 : Heap} (o0 : Addr) (o1 : Addr) (i2 : Int32) (i3 : Int32) (w3 : Int32)
    (X0 : Stand p l e R s m args below meth c T0 locs cells slots) (hx : p.tables.exec = Jvm.exec) (hZ : Z.Warmed39 s.vm) (hw : ∀ d ∈ tables_1, d.before a0 Z = true) (hby : c.code = prog_7_method_11_code) (hml : c.maxLocals = 4) (hown : s.vm.findClass "com/example/chance_checker/chancechecker/construction/Distribution" = some m.cls) (e0 : T0.heap = h0) (F_size_o0 : Fld Z h0 o0 "com/example/chance_checker/chancechecker/construction/Distribution" "size" "I" (.int w3)) (hc24 : i3 < w3) (hc28 : i2 = (0 : Int32)) :
    ∃ (T' : State), Stand p l e R s m args below meth c T' locs cells slots ∧ T'.heap = h0 ∧
      ∀ target, Steps p.tables e below (T'.setTop (mkF m 89 #[.val (.ref o0), .val (.ref o1), .val (.int i2), .val (.int i3)] [])) target → Steps p.tables e below (T0.setTop (mkF m 19 #[.val (.ref o0), .val (.ref o1), .val (.int i2), .val (.int i3)] [])) target := by
  obtain ⟨T4, X4, e4, st4⟩ := getF X0 hx hZ hown (host := "") (Or.inl (hw _ (List.mem_of_getElem? (i := 42) rfl))) Via.refl e0 F_size_o0 (g := (mkF m 21 #[.val (.ref o0), .val (.ref o1), .val (.int i2), .val (.int i3)] [(.ref o0), (.int i3)])) rfl rfl (hb hby d6_21)
  refine ⟨T4, X4, e4, fun target kt => ?_⟩
  show Steps p.tables e below (T0.setTop (mkF m 19 #[.val (.ref o0), .val (.ref o1), .val (.int i2), .val (.int i3)] [])) _
  refine XS.iloadN X0.here hx rfl (hb hby d6_19) rfl ?_
  show Steps p.tables e below (T0.setTop (mkF m 20 #[.val (.ref o0), .val (.ref o1), .val (.int i2), .val (.int i3)] [(.int i3)])) _
  refine XS.aloadN X0.here hx rfl (hb hby d6_20) rfl rfl ?_
  show Steps p.tables e below (T0.setTop (mkF m 21 #[.val (.ref o0), .val (.ref o1), .val (.int i2), .val (.int i3)] [(.ref o0), (.int i3)])) _
  refine st4 _ ?_
  show Steps p.tables e below (T4.setTop (mkF m 24 #[.val (.ref o0), .val (.ref o1), .val (.int i2), .val (.int i3)] [(.int w3), (.int i3)])) _
  refine XS.icmpNo X4.here hx rfl (hb hby d6_24) rfl (tlt hc24).2.1 ?_
  show Steps p.tables e below (T4.setTop (mkF m 27 #[.val (.ref o0), .val (.ref o1), .val (.int i2), .val (.int i3)] [])) _
  refine XS.iloadN X4.here hx rfl (hb hby d6_27) rfl ?_
  show Steps p.tables e below (T4.setTop (mkF m 28 #[.val (.ref o0), .val (.ref o1), .val (.int i2), .val (.int i3)] [(.int i2)])) _
  refine XS.ifYes X4.here hx rfl (pc0 := 28) (pc' := 89) rfl (hb hby d6_28) rfl ((if0 _ _).trans (teq hc28).1) (by decide) (by decide) ?_
  exact kt
theorem own_ltn {i n : Nat} (h : i < n) (hn : n < 8) : Int32.ofNat i < Int32.ofNat n := by
  rw [Int32.lt_iff_toInt_lt, (own_cl (i := i) rfl (by omega)).1, (own_cl (i := n) rfl (by omega)).1]
  omega
theorem own_turn {p : Program} {l : Launch} {e : Env} {R : Room} {s : State} {m : MethodId} {args : Array Value} {below : List Frame} {meth : Method} {c : Code} {locs : List Loc} {cells slots : Nat} {Z : State} {a0 : Array Value} {h0 : Heap} {T0 : State} (a1 a2 t1 r1 p1 t2 r2 p2 : Addr) (n1 n2 i : Nat) (ft fr gt gr : Nat → Int32) (fp gp : Nat → UInt64) (hx : p.tables.exec = Jvm.exec) (hZ : Z.Warmed39 s.vm) (hw : ∀ d ∈ tables_1, d.before a0 Z = true) (hby : c.code = prog_7_method_11_code) (hml : c.maxLocals = 4) (hown : s.vm.findClass "com/example/chance_checker/chancechecker/construction/Distribution" = some m.cls) (D1 : own_Di Z h0 a1 t1 r1 p1 n1 ft fr fp) (D2 : own_Di Z h0 a2 t2 r2 p2 n2 gt gr gp) (X0 : Stand p l e R s m args below meth c T0 locs cells slots) (e0 : T0.heap = h0) (hi1 : i < n1) (hi2 : i < n2) (h1 : n1 < 3) (h2 : n2 < 3) :
    ∃ (T' : State), Stand p l e R s m args below meth c T' locs cells slots ∧ T'.heap = h0 ∧
      ∀ target, Steps p.tables e below (T'.setTop (mkF m 19 #[.val (.ref a1), .val (.ref a2), .val (.int (own_bi (own_eq4 (ft i) (fr i) (fp i) (gt i) (gr i) (gp i)))), .val (.int (Int32.ofNat i + (1 : Int32)))] [])) target → Steps p.tables e below (T0.setTop (mkF m 19 #[.val (.ref a1), .val (.ref a2), .val (.int (1 : Int32)), .val (.int (Int32.ofNat i))] [])) target := by
  obtain ⟨E1, S1, T1, R1, P1, ⟨ct1, At1, St1, Ht1⟩, ⟨cr1, Ar1, Sr1, Hr1⟩, ⟨cp1, Ap1, Sp1, Hp1⟩, -⟩ := D1
  obtain ⟨E2, S2, T2, R2, P2, ⟨ct2, At2, St2, Ht2⟩, ⟨cr2, Ar2, Sr2, Hr2⟩, ⟨cp2, Ap2, Sp2, Hp2⟩, -⟩ := D2
  have hlt : Int32.ofNat i < Int32.ofNat n1 := own_ltn hi1 (by omega)
  have hnz : ¬ ((1 : Int32) = (0 : Int32)) := by decide
  unfold own_eq4 own_bi
  by_cases qt : ft i = gt i
  · by_cases qr : fr i = gr i
    · by_cases qp : cmpValue (FP.dcmp (fp i) (gp i)) .l = 0
      · rw [decide_eq_true qt, decide_eq_true qr, decide_eq_true qp]
        exact own_w4 a1 a2 (1 : Int32) (Int32.ofNat i) (Int32.ofNat n1) t1 (ft i) ct1 t2 (gt i) ct2 r1 (fr i) cr1 r2 (gr i) cr2 p1 (fp i) cp1 p2 (gp i) cp2 X0 hx hZ hw hby hml hown e0 S1 T1 At1 (own_inb St1 rfl (by omega) (by decide)) (own_at Ht1 rfl (by omega) (by omega) rfl) T2 At2 (own_inb St2 rfl (by omega) (by decide)) (own_at Ht2 rfl (by omega) (by omega) rfl) R1 Ar1 (own_inb Sr1 rfl (by omega) (by decide)) (own_at Hr1 rfl (by omega) (by omega) rfl) R2 Ar2 (own_inb Sr2 rfl (by omega) (by decide)) (own_at Hr2 rfl (by omega) (by omega) rfl) P1 Ap1 (own_inb Sp1 rfl (by omega) (by decide)) (own_at Hp1 rfl (by omega) (by omega) rfl) P2 Ap2 (own_inb Sp2 rfl (by omega) (by decide)) (own_at Hp2 rfl (by omega) (by omega) rfl) hlt hnz qt qr qp
      · rw [decide_eq_true qt, decide_eq_true qr, decide_eq_false qp]
        exact own_w3 a1 a2 (1 : Int32) (Int32.ofNat i) (Int32.ofNat n1) t1 (ft i) ct1 t2 (gt i) ct2 r1 (fr i) cr1 r2 (gr i) cr2 p1 (fp i) cp1 p2 (gp i) cp2 X0 hx hZ hw hby hml hown e0 S1 T1 At1 (own_inb St1 rfl (by omega) (by decide)) (own_at Ht1 rfl (by omega) (by omega) rfl) T2 At2 (own_inb St2 rfl (by omega) (by decide)) (own_at Ht2 rfl (by omega) (by omega) rfl) R1 Ar1 (own_inb Sr1 rfl (by omega) (by decide)) (own_at Hr1 rfl (by omega) (by omega) rfl) R2 Ar2 (own_inb Sr2 rfl (by omega) (by decide)) (own_at Hr2 rfl (by omega) (by omega) rfl) P1 Ap1 (own_inb Sp1 rfl (by omega) (by decide)) (own_at Hp1 rfl (by omega) (by omega) rfl) P2 Ap2 (own_inb Sp2 rfl (by omega) (by decide)) (own_at Hp2 rfl (by omega) (by omega) rfl) hlt hnz qt qr qp
    · rw [decide_eq_true qt, decide_eq_false qr]
      exact own_w2 a1 a2 (1 : Int32) (Int32.ofNat i) (Int32.ofNat n1) t1 (ft i) ct1 t2 (gt i) ct2 r1 (fr i) cr1 r2 (gr i) cr2 X0 hx hZ hw hby hml hown e0 S1 T1 At1 (own_inb St1 rfl (by omega) (by decide)) (own_at Ht1 rfl (by omega) (by omega) rfl) T2 At2 (own_inb St2 rfl (by omega) (by decide)) (own_at Ht2 rfl (by omega) (by omega) rfl) R1 Ar1 (own_inb Sr1 rfl (by omega) (by decide)) (own_at Hr1 rfl (by omega) (by omega) rfl) R2 Ar2 (own_inb Sr2 rfl (by omega) (by decide)) (own_at Hr2 rfl (by omega) (by omega) rfl) hlt hnz qt qr
  · rw [decide_eq_false qt]
    exact own_w1 a1 a2 (1 : Int32) (Int32.ofNat i) (Int32.ofNat n1) t1 (ft i) ct1 t2 (gt i) ct2 X0 hx hZ hw hby hml hown e0 S1 T1 At1 (own_inb St1 rfl (by omega) (by decide)) (own_at Ht1 rfl (by omega) (by omega) rfl) T2 At2 (own_inb St2 rfl (by omega) (by decide)) (own_at Ht2 rfl (by omega) (by omega) rfl) hlt hnz qt
theorem own_loop {p : Program} {l : Launch} {e : Env} {R : Room} {s : State} {m : MethodId} {args : Array Value} {below : List Frame} {meth : Method} {c : Code} {locs : List Loc} {cells slots : Nat} {Z : State} {a0 : Array Value} {h0 : Heap} (a1 a2 t1 r1 p1 t2 r2 p2 : Addr) (n1 n2 : Nat) (ft fr gt gr : Nat → Int32) (fp gp : Nat → UInt64) (hx : p.tables.exec = Jvm.exec) (hZ : Z.Warmed39 s.vm) (hw : ∀ d ∈ tables_1, d.before a0 Z = true) (hby : c.code = prog_7_method_11_code) (hml : c.maxLocals = 4) (hown : s.vm.findClass "com/example/chance_checker/chancechecker/construction/Distribution" = some m.cls) (D1 : own_Di Z h0 a1 t1 r1 p1 n1 ft fr fp) (D2 : own_Di Z h0 a2 t2 r2 p2 n2 gt gr gp) (h1 : n1 < 3) :
    ∀ (k i : Nat) (b : Bool) (T0 : State), i + k = n1 → (b = true → n1 = n2) → Stand p l e R s m args below meth c T0 locs cells slots → T0.heap = h0 →
    ∃ (T' : State) (j : Int32), Stand p l e R s m args below meth c T' locs cells slots ∧ T'.heap = h0 ∧
      ∀ target, Steps p.tables e below (T'.setTop (mkF m 89 #[.val (.ref a1), .val (.ref a2), .val (.int (own_bi (b && own_all (fun i => (own_eq4 (ft i) (fr i) (fp i) (gt i) (gr i) (gp i))) k i))), .val (.int j)] [])) target → Steps p.tables e below (T0.setTop (mkF m 19 #[.val (.ref a1), .val (.ref a2), .val (.int (own_bi b)), .val (.int (Int32.ofNat i))] [])) target := by
  intro k
  induction k with
  | zero =>
    intro i b T0 hi hb X0 e0
    have nlt : ¬ (Int32.ofNat i < Int32.ofNat n1) := by rw [show i = n1 by omega]; exact Int32.lt_irrefl
    obtain ⟨T', X', e', st⟩ := own_x1 a1 a2 (own_bi b) (Int32.ofNat i) (Int32.ofNat n1) X0 hx hZ hw hby hml hown e0 D1.2.1 nlt
    refine ⟨T', Int32.ofNat i, X', e', ?_⟩
    rw [show (b && own_all (fun i => own_eq4 (ft i) (fr i) (fp i) (gt i) (gr i) (gp i)) 0 i) = b by cases b <;> rfl]
    exact st
  | succ k ih =>
    intro i b T0 hi hb X0 e0
    cases b with
    | false =>
      have hlt : Int32.ofNat i < Int32.ofNat n1 := own_ltn (by omega) (by omega)
      obtain ⟨T', X', e', st⟩ := own_x2 a1 a2 (0 : Int32) (Int32.ofNat i) (Int32.ofNat n1) X0 hx hZ hw hby hml hown e0 D1.2.1 hlt rfl
      exact ⟨T', Int32.ofNat i, X', e', st⟩
    | true =>
      have hn := hb rfl
      obtain ⟨T1, X1, e1, st1⟩ := own_turn a1 a2 t1 r1 p1 t2 r2 p2 n1 n2 i ft fr gt gr fp gp hx hZ hw hby hml hown D1 D2 X0 e0 (by omega) (by omega) h1 (by omega)
      obtain ⟨T2, j, X2, e2, st2⟩ := ih (i + 1) _ T1 (by omega) (fun _ => hn) X1 e1
      refine ⟨T2, j, X2, e2, fun target kt => st1 target ?_⟩
      rw [show Int32.ofNat i + (1 : Int32) = Int32.ofNat (i + 1) from (Int32.ofNat_add i 1).symm]
      exact st2 target kt
theorem own_start {p : Program} {l : Launch} {e : Env} {R : Room} {s : State} {m : MethodId} {args : Array Value} {below : List Frame} {meth : Method} {c : Code} {locs : List Loc} {cells slots : Nat} {Z : State} {a0 : Array Value} {h0 : Heap} {T0 : State} (a1 a2 t1 r1 p1 t2 r2 p2 : Addr) (n1 n2 : Nat) (ft fr gt gr : Nat → Int32) (fp gp : Nat → UInt64) (hx : p.tables.exec = Jvm.exec) (hZ : Z.Warmed39 s.vm) (hw : ∀ d ∈ tables_1, d.before a0 Z = true) (hby : c.code = prog_7_method_11_code) (hml : c.maxLocals = 4) (hown : s.vm.findClass "com/example/chance_checker/chancechecker/construction/Distribution" = some m.cls) (D1 : own_Di Z h0 a1 t1 r1 p1 n1 ft fr fp) (D2 : own_Di Z h0 a2 t2 r2 p2 n2 gt gr gp) (h1 : n1 < 3) (h2 : n2 < 3) (X0 : Stand p l e R s m args below meth c T0 locs cells slots) (e0 : T0.heap = h0) :
    ∃ (T' : State) (j : Int32), Stand p l e R s m args below meth c T' locs cells slots ∧ T'.heap = h0 ∧
      ∀ target, Steps p.tables e below (T'.setTop (mkF m 89 #[.val (.ref a1), .val (.ref a2), .val (.int (own_bi (decide (n1 = n2) && own_all (fun i => (own_eq4 (ft i) (fr i) (fp i) (gt i) (gr i) (gp i))) n1 0))), .val (.int j)] [])) target → Steps p.tables e below (T0.setTop (mkF m 0 #[.val (.ref a1), .val (.ref a2), .unset, .unset] [])) target := by
  have hs : ∃ (T' : State), Stand p l e R s m args below meth c T' locs cells slots ∧ T'.heap = h0 ∧
      ∀ target, Steps p.tables e below (T'.setTop (mkF m 19 #[.val (.ref a1), .val (.ref a2), .val (.int (own_bi (decide (n1 = n2)))), .val (.int (0 : Int32))] [])) target → Steps p.tables e below (T0.setTop (mkF m 0 #[.val (.ref a1), .val (.ref a2), .unset, .unset] [])) target := by
    obtain ⟨E1, S1, T1, R1, P1, ⟨ct1, At1, St1, Ht1⟩, ⟨cr1, Ar1, Sr1, Hr1⟩, ⟨cp1, Ap1, Sp1, Hp1⟩, -⟩ := D1
    obtain ⟨E2, S2, T2, R2, P2, ⟨ct2, At2, St2, Ht2⟩, ⟨cr2, Ar2, Sr2, Hr2⟩, ⟨cp2, Ap2, Sp2, Hp2⟩, -⟩ := D2
    by_cases q : n1 = n2
    · rw [decide_eq_true q]
      exact own_cA a1 a2 (Int32.ofNat n1) (Int32.ofNat n2) X0 hx hZ hw hby hml hown e0 S1 S2 (by rw [q])
    · rw [decide_eq_false q]
      exact own_cB a1 a2 (Int32.ofNat n1) (Int32.ofNat n2) X0 hx hZ hw hby hml hown e0 S1 S2 (fun z => q ((own_small h1 h2).mp z))
  obtain ⟨T1, X1, e1, st1⟩ := hs
  obtain ⟨T2, j, X2, e2, st2⟩ := own_loop a1 a2 t1 r1 p1 t2 r2 p2 n1 n2 ft fr gt gr fp gp hx hZ hw hby hml hown D1 D2 h1 n1 0 (decide (n1 = n2)) T1 (by omega) (fun z => of_decide_eq_true z) X1 e1
  exact ⟨T2, j, X2, e2, fun target kt => st1 target (st2 target kt)⟩
theorem own_nar (b : Bool) : nar .boolean (own_bi b) = own_bi b := by cases b <;> decide
theorem d6_89 : decode prog_7_method_11_code 89 = .ok (.iload_n 2, 1) := by decide +kernel
theorem d6_90 : decode prog_7_method_11_code 90 = .ok (.ireturn, 1) := by decide +kernel
theorem pn_6 : plainName "com/example/chance_checker/chancechecker/construction/Distribution" = true := by first | (simp [plainName, overriddenIn]; done) | decide +kernel
theorem ef_6 (m : MethodId) (x0 : Addr) (x1 : Addr) : entryFrame m #[(.ref x0), (.ref x1)] 4 = mkF m 0 #[.val (.ref x0), .val (.ref x1), .unset, .unset] [] := by first | (simp [entryFrame, mkF, argsToLocals, Value.category]; done) | rfl
def Q6 (Z : State) (a1 a2 : Addr) (n1 n2 : Nat) (ft fr gt gr : Nat → Int32) (fp gp : Nat → UInt64) (h0 : Heap) (n0 : Nat) (v : Option Value) (h : Heap) (L : List Loc) : Prop := v = some (.int (own_bi (decide (n1 = n2) && own_all (fun i => (own_eq4 (ft i) (fr i) (fp i) (gt i) (gr i) (gp i))) n1 0))) ∧ L = [] ∧ h = h0
set_option maxRecDepth 65536 in
set_option maxHeartbeats 40000000 in
theorem rm6 (l : Launch) (Z : State) (a0 : Array Value) (hw : ∀ d ∈ tables_1, d.before a0 Z = true) (ws : List Jvm.Cond) (a1 a2 t1 r1 p1 t2 r2 p2 : Addr) (n1 n2 : Nat) (ft fr gt gr : Nat → Int32) (fp gp : Nat → UInt64) (h0 : Heap) (n0 : Nat) (Z0 : n0 ≤ h0.size) (D1 : own_Di Z h0 a1 t1 r1 p1 n1 ft fr fp) (D2 : own_Di Z h0 a2 t2 r2 p2 n2 gt gr gp) (h1 : n1 < 3) (h2 : n2 < 3) :
    MetFree l (⟨"com/example/chance_checker/chancechecker/construction/Distribution", "sameAs", "(Lcom/example/chance_checker/chancechecker/construction/Distribution;)Z"⟩ : MethodName) (head1 (Jvm.Cond.code (⟨"com/example/chance_checker/chancechecker/construction/Distribution", "sameAs", "(Lcom/example/chance_checker/chancechecker/construction/Distribution;)Z"⟩ : MethodName) prog_7_method_11_code 4 (some .boolean) :: ws) ({ frames := 0, cells := 0, slots := 0, locals := 0 } : Room)) (fun a U => a = #[(.ref a1), (.ref a2)] ∧ Z.Warmed39 U.vm ∧ U.heap = h0) (fun _ _ _ _ _ => True) (fun _ U o U' => ∃ v L, o = .returned v ∧ Q6 Z a1 a2 n1 n2 ft fr gt gr fp gp h0 n0 v U'.heap L ∧ FrameEnd U o U' L ({ frames := 0, cells := 0, slots := 0, locals := 0 } : Room).cells ({ frames := 0, cells := 0, slots := 0, locals := 0 } : Room).slots) := by
  refine MetFree.of_bodySF (plainFor_of_name pn_6) hisR ?_
  intro p e s m args below meth c s₁ Bd hml0 hP hK
  obtain ⟨rfl, hZ, hh⟩ := hP
  have hx := Bd.exec
  have hby := Bd.bytes
  have hml : c.maxLocals = 4 := hml0
  have hown : s.vm.findClass "com/example/chance_checker/chancechecker/construction/Distribution" = some m.cls := findClass_of_methodNamed Bd.named
  have hnm := (name_of_methodNamed Bd.named Bd.method).1
  have X0 : Stand p l e ({ frames := 0, cells := 0, slots := 0, locals := 0 } : Room) s m #[(.ref a1), (.ref a2)] below meth c s₁ [] 0 0 := Stand.of_body Bd
  have e0 : s₁.heap = h0 := by rw [← hh, Bd.state]; rfl
  have N0 := Fr.nil n0
  have pre0 : ∀ t, Steps p.tables e below (s₁.setTop (mkF m 0 #[.val (.ref a1), .val (.ref a2), .unset, .unset] [])) t → Steps p.tables e below (s₁.setTop (entryFrame m #[(.ref a1), (.ref a2)] 4)) t := fun t k => castTop (ef_6 m a1 a2) k
  obtain ⟨TG, jG, XG, eG, stG⟩ := own_start a1 a2 t1 r1 p1 t2 r2 p2 n1 n2 ft fr gt gr fp gp hx hZ hw hby hml hown D1 D2 h1 h2 X0 e0
  obtain ⟨fs, hr, hrun, hended, hW, hsame⟩ := XG.leave (v := some (.int (own_bi (decide (n1 = n2) && own_all (fun i => (own_eq4 (ft i) (fr i) (fp i) (gt i) (gr i) (gp i))) n1 0)))) (fun h => by rw [Bd.returns] at h; cases h)
  refine ⟨_, _, pre0 _ ?_, hrun, hended, _, _, rfl, ?_, ⟨_, rfl⟩, hW, hsame.mono (by decide) (by decide)⟩
  · refine stG _ ?_
    show Steps p.tables e below (TG.setTop (mkF m 89 #[.val (.ref a1), .val (.ref a2), .val (.int (own_bi (decide (n1 = n2) && own_all (fun i => (own_eq4 (ft i) (fr i) (fp i) (gt i) (gr i) (gp i))) n1 0))), .val (.int jG)] [])) _
    refine XS.iloadN XG.here hx rfl (hb hby d6_89) rfl ?_
    show Steps p.tables e below (TG.setTop (mkF m 90 #[.val (.ref a1), .val (.ref a2), .val (.int (own_bi (decide (n1 = n2) && own_all (fun i => (own_eq4 (ft i) (fr i) (fp i) (gt i) (gr i) (gp i))) n1 0))), .val (.int jG)] [(.int (own_bi (decide (n1 = n2) && own_all (fun i => (own_eq4 (ft i) (fr i) (fp i) (gt i) (gr i) (gp i))) n1 0)))])) _
    exact retN XG hx (t := .boolean) Bd.returns (by simp) (hb hby d6_90) (fun f acts q1 q2 q3 => by rw [own_nar]; exact hr f acts q1 q2 q3)
  · show Q6 Z a1 a2 n1 n2 ft fr gt gr fp gp h0 n0 _ TG.heap _
    rw [eG]
    exact ⟨rfl, rfl, rfl⟩
def Q1 (Z : State) (p2 : Int32) (p3 : Int32) (p4 : Int32) (p5 : Int32) (n : Nat) (h0 : Heap) (n0 : Nat) (v : Option Value) (h : Heap) (L : List Loc) : Prop := ∃ a t r pp : Addr, v = some (.ref a) ∧ Fr n0 L ∧ Keep h0 h [] ∧ h0.size ≤ a ∧ h0.size ≤ t ∧ h0.size ≤ r ∧ h0.size ≤ pp ∧ own_Di Z h a t r pp n (own_e (own_t0 p2) (own_t1 p2 p4)) (own_e p3 (own_r1 p3 p4)) (own_e (own_p0 p5) (own_p1 p5))
theorem d1_0 : decode method_3_code 0 = .ok (.new 32, 3) := by decide +kernel
theorem d1_3 : decode method_3_code 3 = .ok (.dup, 1) := by decide +kernel
theorem d1_4 : decode method_3_code 4 = .ok (.invokespecial 37, 3) := by decide +kernel
theorem d1_7 : decode method_3_code 7 = .ok (.astore 5, 2) := by decide +kernel
theorem d1_9 : decode method_3_code 9 = .ok (.iload_n 0, 1) := by decide +kernel
theorem d1_10 : decode method_3_code 10 = .ok (.iconst 1, 1) := by decide +kernel
theorem d1_11 : decode method_3_code 11 = .ok (.if_icmp .lt 18, 3) := by decide +kernel
theorem d1_29 : decode method_3_code 29 = .ok (.iload_n 0, 1) := by decide +kernel
theorem d1_30 : decode method_3_code 30 = .ok (.iconst 2, 1) := by decide +kernel
theorem d1_31 : decode method_3_code 31 = .ok (.if_icmp .lt 23, 3) := by decide +kernel
theorem d1_54 : decode method_3_code 54 = .ok (.aload 5, 2) := by decide +kernel
theorem d1_56 : decode method_3_code 56 = .ok (.areturn, 1) := by decide +kernel
theorem pn_1 : plainName "com/example/chance_checker/chancechecker/construction/DistributionSameAsPinLaw" = true := by first | (simp [plainName, overriddenIn]; done) | decide +kernel
theorem pd_1_1 : parseMethodDescriptor "()V" = some ⟨[], none⟩ := by decide +kernel
theorem ef_1 (m : MethodId) (x0 : Int32) (x1 : Int32) (x2 : Int32) (x3 : Int32) (x4 : Int32) : entryFrame m #[(.int x0), (.int x1), (.int x2), (.int x3), (.int x4)] 6 = mkF m 0 #[.val (.int x0), .val (.int x1), .val (.int x2), .val (.int x3), .val (.int x4), .unset] [] := by first | (simp [entryFrame, mkF, argsToLocals, Value.category]; done) | rfl
set_option maxRecDepth 65536 in
set_option maxHeartbeats 40000000 in
theorem rm1_0 (l : Launch) (Z : State) (a0 : Array Value) (hw : ∀ d ∈ tables_1, d.before a0 Z = true) (ws : List Jvm.Cond) (p1 : Int32) (p2 : Int32) (p3 : Int32) (p4 : Int32) (p5 : Int32) (h0 : Heap) (n0 : Nat) (Z0 : n0 ≤ h0.size) (hc11 : p1 < (1 : Int32)) (hc31 : p1 < (2 : Int32)) :
    MetFree l (⟨"com/example/chance_checker/chancechecker/construction/DistributionSameAsPinLaw", "make", "(IIIII)Lcom/example/chance_checker/chancechecker/construction/Distribution;"⟩ : MethodName) (head1 (Jvm.Cond.code (⟨"com/example/chance_checker/chancechecker/construction/DistributionSameAsPinLaw", "make", "(IIIII)Lcom/example/chance_checker/chancechecker/construction/Distribution;"⟩ : MethodName) method_3_code 6 (some (.object "com/example/chance_checker/chancechecker/construction/Distribution")) :: ws) ({ frames := 2, cells := 8, slots := 32, locals := 26 } : Room)) (fun a U => a = #[(.int p1), (.int p2), (.int p3), (.int p4), (.int p5)] ∧ Z.Warmed39 U.vm ∧ U.heap = h0) (fun _ _ _ _ _ => True) (fun _ U o U' => ∃ v L, o = .returned v ∧ Q1 Z p2 p3 p4 p5 0 h0 n0 v U'.heap L ∧ FrameEnd U o U' L ({ frames := 2, cells := 8, slots := 32, locals := 26 } : Room).cells ({ frames := 2, cells := 8, slots := 32, locals := 26 } : Room).slots) := by
  refine MetFree.of_bodySF (plainFor_of_name pn_1) hisR ?_
  intro p e s m args below meth c s₁ Bd hml0 hP hK
  obtain ⟨rfl, hZ, hh⟩ := hP
  have hx := Bd.exec
  have hby := Bd.bytes
  have hml : c.maxLocals = 6 := hml0
  have hown : s.vm.findClass "com/example/chance_checker/chancechecker/construction/DistributionSameAsPinLaw" = some m.cls := findClass_of_methodNamed Bd.named
  have hnm := (name_of_methodNamed Bd.named Bd.method).1
  have X0 : Stand p l e ({ frames := 2, cells := 8, slots := 32, locals := 26 } : Room) s m #[(.int p1), (.int p2), (.int p3), (.int p4), (.int p5)] below meth c s₁ [] 0 0 := Stand.of_body Bd
  have e0 : s₁.heap = h0 := by rw [← hh, Bd.state]; rfl
  have N0 := Fr.nil n0
  have pre0 : ∀ t, Steps p.tables e below (s₁.setTop (mkF m 0 #[.val (.int p1), .val (.int p2), .val (.int p3), .val (.int p4), .val (.int p5), .unset] [])) t → Steps p.tables e below (s₁.setTop (entryFrame m #[(.int p1), (.int p2), (.int p3), (.int p4), (.int p5)] 6)) t := fun t k => castTop (ef_1 m p1 p2 p3 p4 p5) k
  obtain ⟨T6, h6, X6, e6, E6, A6, D6, -, st6⟩ := newO X0 hx hZ hown (hw _ (List.mem_of_getElem? (i := 4) rfl)) (hw _ (List.mem_of_getElem? (i := 5) rfl)) (hw _ (List.mem_of_getElem? (i := 6) rfl)) e0 (g := (mkF m 0 #[.val (.int p1), .val (.int p2), .val (.int p3), .val (.int p4), .val (.int p5), .unset] [])) rfl (hb hby d1_0) (by decide) (by decide)
  obtain ⟨b6, g6⟩ : ∃ z, z = h0.size := ⟨_, rfl⟩
  rw [← g6] at A6 D6 st6
  have F_targets_b6 : Fld Z h6 b6 "com/example/chance_checker/chancechecker/construction/Distribution" "targets" "[I" .null := D6 (Or.inl (hw _ (List.mem_of_getElem? (i := 15) rfl))) (ty := (.array .int)) (by decide)
  have F_resets_b6 : Fld Z h6 b6 "com/example/chance_checker/chancechecker/construction/Distribution" "resets" "[I" .null := D6 (Or.inl (hw _ (List.mem_of_getElem? (i := 17) rfl))) (ty := (.array .int)) (by decide)
  have F_probabilities_b6 : Fld Z h6 b6 "com/example/chance_checker/chancechecker/construction/Distribution" "probabilities" "[D" .null := D6 (Or.inl (hw _ (List.mem_of_getElem? (i := 20) rfl))) (ty := (.array .double)) (by decide)
  have F_keys_b6 : Fld Z h6 b6 "com/example/chance_checker/chancechecker/construction/Distribution" "keys" "[J" .null := D6 (Or.inl (hw _ (List.mem_of_getElem? (i := 23) rfl))) (ty := (.array .long)) (by decide)
  have F_spareTargets_b6 : Fld Z h6 b6 "com/example/chance_checker/chancechecker/construction/Distribution" "spareTargets" "[I" .null := D6 (Or.inl (hw _ (List.mem_of_getElem? (i := 25) rfl))) (ty := (.array .int)) (by decide)
  have F_spareResets_b6 : Fld Z h6 b6 "com/example/chance_checker/chancechecker/construction/Distribution" "spareResets" "[I" .null := D6 (Or.inl (hw _ (List.mem_of_getElem? (i := 27) rfl))) (ty := (.array .int)) (by decide)
  have F_spareProbabilities_b6 : Fld Z h6 b6 "com/example/chance_checker/chancechecker/construction/Distribution" "spareProbabilities" "[D" .null := D6 (Or.inl (hw _ (List.mem_of_getElem? (i := 29) rfl))) (ty := (.array .double)) (by decide)
  have F_size_b6 : Fld Z h6 b6 "com/example/chance_checker/chancechecker/construction/Distribution" "size" "I" (.int (0 : Int32)) := D6 (Or.inl (hw _ (List.mem_of_getElem? (i := 43) rfl))) (ty := .int) (by decide)
  have E_b6 := A6
  have g_b6 : n0 ≤ b6 := Nat.le_trans Z0 (Nat.le_of_eq g6.symm)
  have sz_b6 : h0.size ≤ b6 := (Nat.le_trans (Keep.refl h0 []).1 (Nat.le_of_eq g6.symm))
  have K6 : Keep h0 h6 [] := (Keep.refl h0 []).ext E6
  obtain ⟨_, _, ⟨T7, L7, k7, n7⟩, -, X7, ⟨Lc7, hQ7, l7, y7, z7⟩, st7⟩ := X6.specialBack hx (y := (⟨"com/example/chance_checker/chancechecker/construction/Distribution", "<init>", "()V"⟩ : MethodName)) rfl hown (mvT hZ (hw _ (List.mem_of_getElem? (i := 7) rfl))) (mvT hZ (hw _ (List.mem_of_getElem? (i := 8) rfl))) (mvT hZ (hw _ (List.mem_of_getElem? (i := 9) rfl))) (by decide) (backOf (W := 1) (rm2 l Z a0 hw [] b6 .null .null .null .null .null .null .null h6 n0 (Nat.le_trans Z0 E6.1) F_size_b6 E_b6 F_targets_b6 g_b6 F_resets_b6 F_probabilities_b6 F_keys_b6 F_spareTargets_b6 F_spareResets_b6 F_spareProbabilities_b6) hZ (hw _ (List.mem_of_getElem? (i := 9) rfl)) (hw _ (List.mem_of_getElem? (i := 6) rfl)) (by decide) (by decide)) (g := (mkF m 4 #[.val (.int p1), .val (.int p2), .val (.int p3), .val (.int p4), .val (.int p5), .unset] [(.ref b6), (.ref b6)])) rfl (by rw [hml]; rfl) (Steps.refl _) (a := b6) (argsL := []) (rest := [(.ref b6)]) (lenOf pd_1_1 rfl) rfl (by show 2 * 0 + _ ≤ _; exact Nat.le_of_eq rfl) (hb hby d1_4) (fun _ _ => ⟨rfl, e6, (Nat.le_of_ble_eq_true rfl), (Nat.le_of_ble_eq_true rfl)⟩)
  dsimp only [Pt.U, Pt.locs, Pt.cells, Pt.slots] at X7 l7 y7 z7 st7 hQ7
  subst l7 y7 z7
  obtain ⟨rfl, N7q, K7q, t, r, pp, lt', lr', lp', D7'⟩ := hQ7
  have lt : h0.size ≤ t := Nat.le_trans E6.1 lt'
  have lr : h0.size ≤ r := Nat.le_trans E6.1 lr'
  have lp : h0.size ≤ pp := Nat.le_trans E6.1 lp'
  have Kh7 : Keep h0 T7.heap [] := K6.trans K7q fun x hx => by cases List.mem_singleton.mp hx; exact Or.inr sz_b6
  have D7x : own_Di Z T7.heap b6 t r pp 0 (own_e (own_t0 p2) (own_t1 p2 p4)) (own_e p3 (own_r1 p3 p4)) (own_e (own_p0 p5) (own_p1 p5)) := D7' _ _ _
  have N7 := Fr.app N0 N7q
  obtain ⟨fs, hr, hrun, hended, hW, hsame⟩ := X7.leave (v := some (.ref b6)) (fun h => by rw [Bd.returns] at h; cases h)
  refine ⟨_, _, pre0 _ ?_, hrun, hended, _, _, rfl, ?_, ⟨_, rfl⟩, hW, hsame.mono (by decide) (by decide)⟩
  · show Steps p.tables e below (s₁.setTop (mkF m 0 #[.val (.int p1), .val (.int p2), .val (.int p3), .val (.int p4), .val (.int p5), .unset] [])) _
    refine st6 _ ?_
    show Steps p.tables e below (T6.setTop (mkF m 3 #[.val (.int p1), .val (.int p2), .val (.int p3), .val (.int p4), .val (.int p5), .unset] [(.ref b6)])) _
    refine XS.dup X6.here hx rfl (hb hby d1_3) rfl rfl ?_
    show Steps p.tables e below (T6.setTop (mkF m 4 #[.val (.int p1), .val (.int p2), .val (.int p3), .val (.int p4), .val (.int p5), .unset] [(.ref b6), (.ref b6)])) _
    refine st7.trans ?_
    show Steps p.tables e below (T7.setTop (mkF m 7 #[.val (.int p1), .val (.int p2), .val (.int p3), .val (.int p4), .val (.int p5), .unset] [(.ref b6)])) _
    refine XS.astore X7.here hx rfl (hb hby d1_7) rfl rfl (l' := #[.val (.int p1), .val (.int p2), .val (.int p3), .val (.int p4), .val (.int p5), .val (.ref b6)]) rfl ?_
    show Steps p.tables e below (T7.setTop (mkF m 9 #[.val (.int p1), .val (.int p2), .val (.int p3), .val (.int p4), .val (.int p5), .val (.ref b6)] [])) _
    refine XS.iloadN X7.here hx rfl (hb hby d1_9) rfl ?_
    show Steps p.tables e below (T7.setTop (mkF m 10 #[.val (.int p1), .val (.int p2), .val (.int p3), .val (.int p4), .val (.int p5), .val (.ref b6)] [(.int p1)])) _
    refine XS.iconst X7.here hx rfl (hb hby d1_10) ?_
    show Steps p.tables e below (T7.setTop (mkF m 11 #[.val (.int p1), .val (.int p2), .val (.int p3), .val (.int p4), .val (.int p5), .val (.ref b6)] [(.int (1 : Int32)), (.int p1)])) _
    refine XS.icmpYes X7.here hx rfl (pc0 := 11) (pc' := 29) rfl (hb hby d1_11) rfl (tlt hc11).1 (by decide) (by decide) ?_
    show Steps p.tables e below (T7.setTop (mkF m 29 #[.val (.int p1), .val (.int p2), .val (.int p3), .val (.int p4), .val (.int p5), .val (.ref b6)] [])) _
    refine XS.iloadN X7.here hx rfl (hb hby d1_29) rfl ?_
    show Steps p.tables e below (T7.setTop (mkF m 30 #[.val (.int p1), .val (.int p2), .val (.int p3), .val (.int p4), .val (.int p5), .val (.ref b6)] [(.int p1)])) _
    refine XS.iconst X7.here hx rfl (hb hby d1_30) ?_
    show Steps p.tables e below (T7.setTop (mkF m 31 #[.val (.int p1), .val (.int p2), .val (.int p3), .val (.int p4), .val (.int p5), .val (.ref b6)] [(.int (2 : Int32)), (.int p1)])) _
    refine XS.icmpYes X7.here hx rfl (pc0 := 31) (pc' := 54) rfl (hb hby d1_31) rfl (tlt hc31).1 (by decide) (by decide) ?_
    show Steps p.tables e below (T7.setTop (mkF m 54 #[.val (.int p1), .val (.int p2), .val (.int p3), .val (.int p4), .val (.int p5), .val (.ref b6)] [])) _
    refine XS.aload X7.here hx rfl (hb hby d1_54) rfl rfl ?_
    show Steps p.tables e below (T7.setTop (mkF m 56 #[.val (.int p1), .val (.int p2), .val (.int p3), .val (.int p4), .val (.int p5), .val (.ref b6)] [(.ref b6)])) _
    jvm_step X7.here [X7.here.top, hx, (hb hby d1_56), X7.method', Bd.returns, Value.isRef, FieldType.isReference]
    first | (intro acts; rw [hr _ acts rfl rfl rfl]) | rw [hr _ _ rfl rfl rfl]
    exact Steps.refl _
  · show Q1 Z p2 p3 p4 p5 0 h0 n0 _ T7.heap _
    exact ⟨b6, t, r, pp, rfl, N7, Kh7, sz_b6, lt, lr, lp, D7x⟩
theorem d1_14 : decode method_3_code 14 = .ok (.aload 5, 2) := by decide +kernel
theorem d1_16 : decode method_3_code 16 = .ok (.iload_n 1, 1) := by decide +kernel
theorem d1_17 : decode method_3_code 17 = .ok (.invokestatic 13, 3) := by decide +kernel
theorem d1_20 : decode method_3_code 20 = .ok (.iload_n 2, 1) := by decide +kernel
theorem d1_21 : decode method_3_code 21 = .ok (.iload 4, 2) := by decide +kernel
theorem d1_23 : decode method_3_code 23 = .ok (.invokestatic 17, 3) := by decide +kernel
theorem d1_26 : decode method_3_code 26 = .ok (.invokevirtual 38, 3) := by decide +kernel
theorem pd_1_2 : parseMethodDescriptor "(I)I" = some ⟨[.int], some .int⟩ := by decide +kernel
theorem pd_1_5 : parseMethodDescriptor "(I)D" = some ⟨[.int], some .double⟩ := by decide +kernel
theorem pd_1_6 : parseMethodDescriptor "(IID)V" = some ⟨[.int, .int, .double], none⟩ := by decide +kernel
set_option maxRecDepth 65536 in
set_option maxHeartbeats 40000000 in
theorem rm1_1 (l : Launch) (Z : State) (a0 : Array Value) (hw : ∀ d ∈ tables_1, d.before a0 Z = true) (ws : List Jvm.Cond) (p1 : Int32) (p2 : Int32) (p3 : Int32) (p4 : Int32) (p5 : Int32) (h0 : Heap) (n0 : Nat) (Z0 : n0 ≤ h0.size) (hc11 : ¬ (p1 < (1 : Int32))) (hc31 : p1 < (2 : Int32)) :
    MetFree l (⟨"com/example/chance_checker/chancechecker/construction/DistributionSameAsPinLaw", "make", "(IIIII)Lcom/example/chance_checker/chancechecker/construction/Distribution;"⟩ : MethodName) (head1 (Jvm.Cond.code (⟨"com/example/chance_checker/chancechecker/construction/DistributionSameAsPinLaw", "make", "(IIIII)Lcom/example/chance_checker/chancechecker/construction/Distribution;"⟩ : MethodName) method_3_code 6 (some (.object "com/example/chance_checker/chancechecker/construction/Distribution")) :: ws) ({ frames := 2, cells := 8, slots := 32, locals := 26 } : Room)) (fun a U => a = #[(.int p1), (.int p2), (.int p3), (.int p4), (.int p5)] ∧ Z.Warmed39 U.vm ∧ U.heap = h0) (fun _ _ _ _ _ => True) (fun _ U o U' => ∃ v L, o = .returned v ∧ Q1 Z p2 p3 p4 p5 1 h0 n0 v U'.heap L ∧ FrameEnd U o U' L ({ frames := 2, cells := 8, slots := 32, locals := 26 } : Room).cells ({ frames := 2, cells := 8, slots := 32, locals := 26 } : Room).slots) := by
  refine MetFree.of_bodySF (plainFor_of_name pn_1) hisR ?_
  intro p e s m args below meth c s₁ Bd hml0 hP hK
  obtain ⟨rfl, hZ, hh⟩ := hP
  have hx := Bd.exec
  have hby := Bd.bytes
  have hml : c.maxLocals = 6 := hml0
  have hown : s.vm.findClass "com/example/chance_checker/chancechecker/construction/DistributionSameAsPinLaw" = some m.cls := findClass_of_methodNamed Bd.named
  have hnm := (name_of_methodNamed Bd.named Bd.method).1
  have X0 : Stand p l e ({ frames := 2, cells := 8, slots := 32, locals := 26 } : Room) s m #[(.int p1), (.int p2), (.int p3), (.int p4), (.int p5)] below meth c s₁ [] 0 0 := Stand.of_body Bd
  have e0 : s₁.heap = h0 := by rw [← hh, Bd.state]; rfl
  have N0 := Fr.nil n0
  have pre0 : ∀ t, Steps p.tables e below (s₁.setTop (mkF m 0 #[.val (.int p1), .val (.int p2), .val (.int p3), .val (.int p4), .val (.int p5), .unset] [])) t → Steps p.tables e below (s₁.setTop (entryFrame m #[(.int p1), (.int p2), (.int p3), (.int p4), (.int p5)] 6)) t := fun t k => castTop (ef_1 m p1 p2 p3 p4 p5) k
  obtain ⟨T6, h6, X6, e6, E6, A6, D6, -, st6⟩ := newO X0 hx hZ hown (hw _ (List.mem_of_getElem? (i := 4) rfl)) (hw _ (List.mem_of_getElem? (i := 5) rfl)) (hw _ (List.mem_of_getElem? (i := 6) rfl)) e0 (g := (mkF m 0 #[.val (.int p1), .val (.int p2), .val (.int p3), .val (.int p4), .val (.int p5), .unset] [])) rfl (hb hby d1_0) (by decide) (by decide)
  obtain ⟨b6, g6⟩ : ∃ z, z = h0.size := ⟨_, rfl⟩
  rw [← g6] at A6 D6 st6
  have F_targets_b6 : Fld Z h6 b6 "com/example/chance_checker/chancechecker/construction/Distribution" "targets" "[I" .null := D6 (Or.inl (hw _ (List.mem_of_getElem? (i := 15) rfl))) (ty := (.array .int)) (by decide)
  have F_resets_b6 : Fld Z h6 b6 "com/example/chance_checker/chancechecker/construction/Distribution" "resets" "[I" .null := D6 (Or.inl (hw _ (List.mem_of_getElem? (i := 17) rfl))) (ty := (.array .int)) (by decide)
  have F_probabilities_b6 : Fld Z h6 b6 "com/example/chance_checker/chancechecker/construction/Distribution" "probabilities" "[D" .null := D6 (Or.inl (hw _ (List.mem_of_getElem? (i := 20) rfl))) (ty := (.array .double)) (by decide)
  have F_keys_b6 : Fld Z h6 b6 "com/example/chance_checker/chancechecker/construction/Distribution" "keys" "[J" .null := D6 (Or.inl (hw _ (List.mem_of_getElem? (i := 23) rfl))) (ty := (.array .long)) (by decide)
  have F_spareTargets_b6 : Fld Z h6 b6 "com/example/chance_checker/chancechecker/construction/Distribution" "spareTargets" "[I" .null := D6 (Or.inl (hw _ (List.mem_of_getElem? (i := 25) rfl))) (ty := (.array .int)) (by decide)
  have F_spareResets_b6 : Fld Z h6 b6 "com/example/chance_checker/chancechecker/construction/Distribution" "spareResets" "[I" .null := D6 (Or.inl (hw _ (List.mem_of_getElem? (i := 27) rfl))) (ty := (.array .int)) (by decide)
  have F_spareProbabilities_b6 : Fld Z h6 b6 "com/example/chance_checker/chancechecker/construction/Distribution" "spareProbabilities" "[D" .null := D6 (Or.inl (hw _ (List.mem_of_getElem? (i := 29) rfl))) (ty := (.array .double)) (by decide)
  have F_size_b6 : Fld Z h6 b6 "com/example/chance_checker/chancechecker/construction/Distribution" "size" "I" (.int (0 : Int32)) := D6 (Or.inl (hw _ (List.mem_of_getElem? (i := 43) rfl))) (ty := .int) (by decide)
  have E_b6 := A6
  have g_b6 : n0 ≤ b6 := Nat.le_trans Z0 (Nat.le_of_eq g6.symm)
  have sz_b6 : h0.size ≤ b6 := (Nat.le_trans (Keep.refl h0 []).1 (Nat.le_of_eq g6.symm))
  have K6 : Keep h0 h6 [] := (Keep.refl h0 []).ext E6
  obtain ⟨_, _, ⟨T7, L7, k7, n7⟩, -, X7, ⟨Lc7, hQ7, l7, y7, z7⟩, st7⟩ := X6.specialBack hx (y := (⟨"com/example/chance_checker/chancechecker/construction/Distribution", "<init>", "()V"⟩ : MethodName)) rfl hown (mvT hZ (hw _ (List.mem_of_getElem? (i := 7) rfl))) (mvT hZ (hw _ (List.mem_of_getElem? (i := 8) rfl))) (mvT hZ (hw _ (List.mem_of_getElem? (i := 9) rfl))) (by decide) (backOf (W := 1) (rm2 l Z a0 hw [] b6 .null .null .null .null .null .null .null h6 n0 (Nat.le_trans Z0 E6.1) F_size_b6 E_b6 F_targets_b6 g_b6 F_resets_b6 F_probabilities_b6 F_keys_b6 F_spareTargets_b6 F_spareResets_b6 F_spareProbabilities_b6) hZ (hw _ (List.mem_of_getElem? (i := 9) rfl)) (hw _ (List.mem_of_getElem? (i := 6) rfl)) (by decide) (by decide)) (g := (mkF m 4 #[.val (.int p1), .val (.int p2), .val (.int p3), .val (.int p4), .val (.int p5), .unset] [(.ref b6), (.ref b6)])) rfl (by rw [hml]; rfl) (Steps.refl _) (a := b6) (argsL := []) (rest := [(.ref b6)]) (lenOf pd_1_1 rfl) rfl (by show 2 * 0 + _ ≤ _; exact Nat.le_of_eq rfl) (hb hby d1_4) (fun _ _ => ⟨rfl, e6, (Nat.le_of_ble_eq_true rfl), (Nat.le_of_ble_eq_true rfl)⟩)
  dsimp only [Pt.U, Pt.locs, Pt.cells, Pt.slots] at X7 l7 y7 z7 st7 hQ7
  subst l7 y7 z7
  obtain ⟨rfl, N7q, K7q, t, r, pp, lt', lr', lp', D7'⟩ := hQ7
  have lt : h0.size ≤ t := Nat.le_trans E6.1 lt'
  have lr : h0.size ≤ r := Nat.le_trans E6.1 lr'
  have lp : h0.size ≤ pp := Nat.le_trans E6.1 lp'
  have Kh7 : Keep h0 T7.heap [] := K6.trans K7q fun x hx => by cases List.mem_singleton.mp hx; exact Or.inr sz_b6
  have D7x : own_Di Z T7.heap b6 t r pp 0 (own_e (own_t0 p2) (own_t1 p2 p4)) (own_e p3 (own_r1 p3 p4)) (own_e (own_p0 p5) (own_p1 p5)) := D7' _ _ _
  have N7 := Fr.app N0 N7q
  obtain ⟨_, _, ⟨T8, L8, k8, n8⟩, -, X8, ⟨Lc8, hQ8, l8, y8, z8⟩, st8⟩ := Jvm.LawKit.callS X7 hx (y := (⟨"com/example/chance_checker/chancechecker/construction/DistributionSameAsPinLaw", "target0", "(I)I"⟩ : MethodName)) hown (mvT hZ (hw _ (List.mem_of_getElem? (i := 30) rfl))) (mvT hZ (hw _ (List.mem_of_getElem? (i := 31) rfl))) (mvT hZ (hw _ (List.mem_of_getElem? (i := 2) rfl))) (mvT hZ (hw _ (List.mem_of_getElem? (i := 32) rfl))) (by decide) (backOf (W := 1) (rm4 l Z a0 hw [] p2 T7.heap n0 (Nat.le_trans Z0 Kh7.1)) hZ (hw _ (List.mem_of_getElem? (i := 32) rfl)) (hw _ (List.mem_of_getElem? (i := 2) rfl)) (by decide) (by decide)) (g := (mkF m 17 #[.val (.int p1), .val (.int p2), .val (.int p3), .val (.int p4), .val (.int p5), .val (.ref b6)] [(.int p2), (.ref b6)])) rfl (by rw [hml]; rfl) (argsL := [(.int p2)]) (rest := [(.ref b6)]) (lenOf pd_1_2 rfl) rfl (by show 2 * 0 + _ ≤ _; exact Nat.le_of_eq rfl) (hb hby d1_17) (fun _ _ => ⟨rfl, rfl, (Nat.le_of_ble_eq_true rfl), (Nat.le_of_ble_eq_true rfl)⟩)
  dsimp only [Pt.U, Pt.locs, Pt.cells, Pt.slots] at X8 l8 y8 z8 st8 hQ8
  subst l8 y8 z8
  obtain ⟨rfl, rfl, e8⟩ := hQ8
  try rw [List.append_nil] at X8
  obtain ⟨_, _, ⟨T9, L9, k9, n9⟩, -, X9, ⟨Lc9, hQ9, l9, y9, z9⟩, st9⟩ := Jvm.LawKit.callS X8 hx (y := (⟨"com/example/chance_checker/chancechecker/construction/DistributionSameAsPinLaw", "prob0", "(I)D"⟩ : MethodName)) hown (mvT hZ (hw _ (List.mem_of_getElem? (i := 44) rfl))) (mvT hZ (hw _ (List.mem_of_getElem? (i := 45) rfl))) (mvT hZ (hw _ (List.mem_of_getElem? (i := 2) rfl))) (mvT hZ (hw _ (List.mem_of_getElem? (i := 46) rfl))) (by decide) (backOf (W := 3) (rm7 l Z a0 hw [] p5 T7.heap n0 (Nat.le_trans Z0 Kh7.1)) hZ (hw _ (List.mem_of_getElem? (i := 46) rfl)) (hw _ (List.mem_of_getElem? (i := 2) rfl)) (by decide) (by decide)) (g := (mkF m 23 #[.val (.int p1), .val (.int p2), .val (.int p3), .val (.int p4), .val (.int p5), .val (.ref b6)] [(.int p5), (.int p3), (.int (own_t0 p2)), (.ref b6)])) rfl (by rw [hml]; rfl) (argsL := [(.int p5)]) (rest := [(.int p3), (.int (own_t0 p2)), (.ref b6)]) (lenOf pd_1_5 rfl) rfl (by show 2 * 0 + _ ≤ _; exact Nat.le_of_eq rfl) (hb hby d1_23) (fun _ _ => ⟨rfl, e8, (Nat.le_of_ble_eq_true rfl), (Nat.le_of_ble_eq_true rfl)⟩)
  dsimp only [Pt.U, Pt.locs, Pt.cells, Pt.slots] at X9 l9 y9 z9 st9 hQ9
  subst l9 y9 z9
  obtain ⟨rfl, rfl, e9⟩ := hQ9
  try rw [List.append_nil] at X9
  obtain ⟨cq10, kq10, q10a, q10b, q10c⟩ := isOf hZ e9 D7x.1
  obtain ⟨_, _, ⟨T10, L10, k10, n10⟩, -, X10, ⟨Lc10, hQ10, l10, y10, z10⟩, st10⟩ := X9.virtualBack hx (y := (⟨"com/example/chance_checker/chancechecker/construction/Distribution", "add", "(IID)V"⟩ : MethodName)) (z := (⟨"com/example/chance_checker/chancechecker/construction/Distribution", "add", "(IID)V"⟩ : MethodName)) hown (mvT hZ (hw _ (List.mem_of_getElem? (i := 48) rfl))) (mvT hZ (hw _ (List.mem_of_getElem? (i := 49) rfl))) (notFace_of_selects (args := #[]) (mvT hZ (hw _ (List.mem_of_getElem? (i := 51) rfl)))) (mvT hZ (hw _ (List.mem_of_getElem? (i := 51) rfl))) (mvT hZ (hw _ (List.mem_of_getElem? (i := 50) rfl))) (by decide) (backOf (W := 0) (rm8 l Z a0 hw [] b6 (own_t0 p2) p3 (own_p0 p5) t r pp 0 (own_e (own_t0 p2) (own_t1 p2 p4)) (own_e p3 (own_r1 p3 p4)) (own_e (own_p0 p5) (own_p1 p5)) T7.heap n0 (Nat.le_trans Z0 Kh7.1) D7x (by decide) rfl rfl rfl g_b6 (Nat.le_trans Z0 lt) (Nat.le_trans Z0 lr) (Nat.le_trans Z0 lp)) hZ (hw _ (List.mem_of_getElem? (i := 52) rfl)) (hw _ (List.mem_of_getElem? (i := 6) rfl)) (by decide) (by decide)) q10a q10c (g := (mkF m 26 #[.val (.int p1), .val (.int p2), .val (.int p3), .val (.int p4), .val (.int p5), .val (.ref b6)] [(.double (own_p0 p5)), (.int p3), (.int (own_t0 p2)), (.ref b6)])) rfl (by rw [hml]; rfl) (Steps.refl _) (argsL := [(.int (own_t0 p2)), (.int p3), (.double (own_p0 p5))]) (rest := []) (lenOf pd_1_6 rfl) rfl (by show 2 * 0 + _ ≤ _; exact Nat.le_of_eq rfl) (hb hby d1_26) (fun _ _ => ⟨rfl, e9, (Nat.le_of_ble_eq_true rfl), (Nat.le_of_ble_eq_true rfl)⟩)
  dsimp only [Pt.U, Pt.locs, Pt.cells, Pt.slots] at X10 l10 y10 z10 st10 hQ10
  subst l10 y10 z10
  obtain ⟨rfl, N10q, K10q, D10x⟩ := hQ10
  have Kh10 : Keep h0 T10.heap [] := Kh7.trans K10q (allS (Or.inr lt) (allS (Or.inr lr) (allS (Or.inr lp) (allS (Or.inr sz_b6) all0))))
  have N10 := Fr.app N7 N10q
  obtain ⟨fs, hr, hrun, hended, hW, hsame⟩ := X10.leave (v := some (.ref b6)) (fun h => by rw [Bd.returns] at h; cases h)
  refine ⟨_, _, pre0 _ ?_, hrun, hended, _, _, rfl, ?_, ⟨_, rfl⟩, hW, hsame.mono (by decide) (by decide)⟩
  · show Steps p.tables e below (s₁.setTop (mkF m 0 #[.val (.int p1), .val (.int p2), .val (.int p3), .val (.int p4), .val (.int p5), .unset] [])) _
    refine st6 _ ?_
    show Steps p.tables e below (T6.setTop (mkF m 3 #[.val (.int p1), .val (.int p2), .val (.int p3), .val (.int p4), .val (.int p5), .unset] [(.ref b6)])) _
    refine XS.dup X6.here hx rfl (hb hby d1_3) rfl rfl ?_
    show Steps p.tables e below (T6.setTop (mkF m 4 #[.val (.int p1), .val (.int p2), .val (.int p3), .val (.int p4), .val (.int p5), .unset] [(.ref b6), (.ref b6)])) _
    refine st7.trans ?_
    show Steps p.tables e below (T7.setTop (mkF m 7 #[.val (.int p1), .val (.int p2), .val (.int p3), .val (.int p4), .val (.int p5), .unset] [(.ref b6)])) _
    refine XS.astore X7.here hx rfl (hb hby d1_7) rfl rfl (l' := #[.val (.int p1), .val (.int p2), .val (.int p3), .val (.int p4), .val (.int p5), .val (.ref b6)]) rfl ?_
    show Steps p.tables e below (T7.setTop (mkF m 9 #[.val (.int p1), .val (.int p2), .val (.int p3), .val (.int p4), .val (.int p5), .val (.ref b6)] [])) _
    refine XS.iloadN X7.here hx rfl (hb hby d1_9) rfl ?_
    show Steps p.tables e below (T7.setTop (mkF m 10 #[.val (.int p1), .val (.int p2), .val (.int p3), .val (.int p4), .val (.int p5), .val (.ref b6)] [(.int p1)])) _
    refine XS.iconst X7.here hx rfl (hb hby d1_10) ?_
    show Steps p.tables e below (T7.setTop (mkF m 11 #[.val (.int p1), .val (.int p2), .val (.int p3), .val (.int p4), .val (.int p5), .val (.ref b6)] [(.int (1 : Int32)), (.int p1)])) _
    refine XS.icmpNo X7.here hx rfl (hb hby d1_11) rfl (flt hc11).1 ?_
    show Steps p.tables e below (T7.setTop (mkF m 14 #[.val (.int p1), .val (.int p2), .val (.int p3), .val (.int p4), .val (.int p5), .val (.ref b6)] [])) _
    refine XS.aload X7.here hx rfl (hb hby d1_14) rfl rfl ?_
    show Steps p.tables e below (T7.setTop (mkF m 16 #[.val (.int p1), .val (.int p2), .val (.int p3), .val (.int p4), .val (.int p5), .val (.ref b6)] [(.ref b6)])) _
    refine XS.iloadN X7.here hx rfl (hb hby d1_16) rfl ?_
    show Steps p.tables e below (T7.setTop (mkF m 17 #[.val (.int p1), .val (.int p2), .val (.int p3), .val (.int p4), .val (.int p5), .val (.ref b6)] [(.int p2), (.ref b6)])) _
    refine st8 _ ?_
    show Steps p.tables e below (T8.setTop (mkF m 20 #[.val (.int p1), .val (.int p2), .val (.int p3), .val (.int p4), .val (.int p5), .val (.ref b6)] [(.int (own_t0 p2)), (.ref b6)])) _
    refine XS.iloadN X8.here hx rfl (hb hby d1_20) rfl ?_
    show Steps p.tables e below (T8.setTop (mkF m 21 #[.val (.int p1), .val (.int p2), .val (.int p3), .val (.int p4), .val (.int p5), .val (.ref b6)] [(.int p3), (.int (own_t0 p2)), (.ref b6)])) _
    refine XS.iload X8.here hx rfl (hb hby d1_21) rfl ?_
    show Steps p.tables e below (T8.setTop (mkF m 23 #[.val (.int p1), .val (.int p2), .val (.int p3), .val (.int p4), .val (.int p5), .val (.ref b6)] [(.int p5), (.int p3), (.int (own_t0 p2)), (.ref b6)])) _
    refine st9 _ ?_
    show Steps p.tables e below (T9.setTop (mkF m 26 #[.val (.int p1), .val (.int p2), .val (.int p3), .val (.int p4), .val (.int p5), .val (.ref b6)] [(.double (own_p0 p5)), (.int p3), (.int (own_t0 p2)), (.ref b6)])) _
    refine st10.trans ?_
    show Steps p.tables e below (T10.setTop (mkF m 29 #[.val (.int p1), .val (.int p2), .val (.int p3), .val (.int p4), .val (.int p5), .val (.ref b6)] [])) _
    refine XS.iloadN X10.here hx rfl (hb hby d1_29) rfl ?_
    show Steps p.tables e below (T10.setTop (mkF m 30 #[.val (.int p1), .val (.int p2), .val (.int p3), .val (.int p4), .val (.int p5), .val (.ref b6)] [(.int p1)])) _
    refine XS.iconst X10.here hx rfl (hb hby d1_30) ?_
    show Steps p.tables e below (T10.setTop (mkF m 31 #[.val (.int p1), .val (.int p2), .val (.int p3), .val (.int p4), .val (.int p5), .val (.ref b6)] [(.int (2 : Int32)), (.int p1)])) _
    refine XS.icmpYes X10.here hx rfl (pc0 := 31) (pc' := 54) rfl (hb hby d1_31) rfl (tlt hc31).1 (by decide) (by decide) ?_
    show Steps p.tables e below (T10.setTop (mkF m 54 #[.val (.int p1), .val (.int p2), .val (.int p3), .val (.int p4), .val (.int p5), .val (.ref b6)] [])) _
    refine XS.aload X10.here hx rfl (hb hby d1_54) rfl rfl ?_
    show Steps p.tables e below (T10.setTop (mkF m 56 #[.val (.int p1), .val (.int p2), .val (.int p3), .val (.int p4), .val (.int p5), .val (.ref b6)] [(.ref b6)])) _
    jvm_step X10.here [X10.here.top, hx, (hb hby d1_56), X10.method', Bd.returns, Value.isRef, FieldType.isReference]
    first | (intro acts; rw [hr _ acts rfl rfl rfl]) | rw [hr _ _ rfl rfl rfl]
    exact Steps.refl _
  · show Q1 Z p2 p3 p4 p5 1 h0 n0 _ T10.heap _
    exact ⟨b6, t, r, pp, rfl, N10, Kh10, sz_b6, lt, lr, lp, D10x⟩
theorem d1_34 : decode method_3_code 34 = .ok (.aload 5, 2) := by decide +kernel
theorem d1_36 : decode method_3_code 36 = .ok (.iload_n 1, 1) := by decide +kernel
theorem d1_37 : decode method_3_code 37 = .ok (.iload_n 3, 1) := by decide +kernel
theorem d1_38 : decode method_3_code 38 = .ok (.invokestatic 21, 3) := by decide +kernel
theorem d1_41 : decode method_3_code 41 = .ok (.iload_n 2, 1) := by decide +kernel
theorem d1_42 : decode method_3_code 42 = .ok (.iload_n 3, 1) := by decide +kernel
theorem d1_43 : decode method_3_code 43 = .ok (.invokestatic 25, 3) := by decide +kernel
theorem d1_46 : decode method_3_code 46 = .ok (.iload 4, 2) := by decide +kernel
theorem d1_48 : decode method_3_code 48 = .ok (.invokestatic 28, 3) := by decide +kernel
theorem d1_51 : decode method_3_code 51 = .ok (.invokevirtual 38, 3) := by decide +kernel
theorem pd_1_3 : parseMethodDescriptor "(II)I" = some ⟨[.int, .int], some .int⟩ := by decide +kernel
set_option maxRecDepth 65536 in
set_option maxHeartbeats 40000000 in
theorem rm1_2 (l : Launch) (Z : State) (a0 : Array Value) (hw : ∀ d ∈ tables_1, d.before a0 Z = true) (ws : List Jvm.Cond) (p1 : Int32) (p2 : Int32) (p3 : Int32) (p4 : Int32) (p5 : Int32) (h0 : Heap) (n0 : Nat) (Z0 : n0 ≤ h0.size) (hc11 : ¬ (p1 < (1 : Int32))) (hc31 : ¬ (p1 < (2 : Int32))) :
    MetFree l (⟨"com/example/chance_checker/chancechecker/construction/DistributionSameAsPinLaw", "make", "(IIIII)Lcom/example/chance_checker/chancechecker/construction/Distribution;"⟩ : MethodName) (head1 (Jvm.Cond.code (⟨"com/example/chance_checker/chancechecker/construction/DistributionSameAsPinLaw", "make", "(IIIII)Lcom/example/chance_checker/chancechecker/construction/Distribution;"⟩ : MethodName) method_3_code 6 (some (.object "com/example/chance_checker/chancechecker/construction/Distribution")) :: ws) ({ frames := 2, cells := 8, slots := 32, locals := 26 } : Room)) (fun a U => a = #[(.int p1), (.int p2), (.int p3), (.int p4), (.int p5)] ∧ Z.Warmed39 U.vm ∧ U.heap = h0) (fun _ _ _ _ _ => True) (fun _ U o U' => ∃ v L, o = .returned v ∧ Q1 Z p2 p3 p4 p5 2 h0 n0 v U'.heap L ∧ FrameEnd U o U' L ({ frames := 2, cells := 8, slots := 32, locals := 26 } : Room).cells ({ frames := 2, cells := 8, slots := 32, locals := 26 } : Room).slots) := by
  refine MetFree.of_bodySF (plainFor_of_name pn_1) hisR ?_
  intro p e s m args below meth c s₁ Bd hml0 hP hK
  obtain ⟨rfl, hZ, hh⟩ := hP
  have hx := Bd.exec
  have hby := Bd.bytes
  have hml : c.maxLocals = 6 := hml0
  have hown : s.vm.findClass "com/example/chance_checker/chancechecker/construction/DistributionSameAsPinLaw" = some m.cls := findClass_of_methodNamed Bd.named
  have hnm := (name_of_methodNamed Bd.named Bd.method).1
  have X0 : Stand p l e ({ frames := 2, cells := 8, slots := 32, locals := 26 } : Room) s m #[(.int p1), (.int p2), (.int p3), (.int p4), (.int p5)] below meth c s₁ [] 0 0 := Stand.of_body Bd
  have e0 : s₁.heap = h0 := by rw [← hh, Bd.state]; rfl
  have N0 := Fr.nil n0
  have pre0 : ∀ t, Steps p.tables e below (s₁.setTop (mkF m 0 #[.val (.int p1), .val (.int p2), .val (.int p3), .val (.int p4), .val (.int p5), .unset] [])) t → Steps p.tables e below (s₁.setTop (entryFrame m #[(.int p1), (.int p2), (.int p3), (.int p4), (.int p5)] 6)) t := fun t k => castTop (ef_1 m p1 p2 p3 p4 p5) k
  obtain ⟨T6, h6, X6, e6, E6, A6, D6, -, st6⟩ := newO X0 hx hZ hown (hw _ (List.mem_of_getElem? (i := 4) rfl)) (hw _ (List.mem_of_getElem? (i := 5) rfl)) (hw _ (List.mem_of_getElem? (i := 6) rfl)) e0 (g := (mkF m 0 #[.val (.int p1), .val (.int p2), .val (.int p3), .val (.int p4), .val (.int p5), .unset] [])) rfl (hb hby d1_0) (by decide) (by decide)
  obtain ⟨b6, g6⟩ : ∃ z, z = h0.size := ⟨_, rfl⟩
  rw [← g6] at A6 D6 st6
  have F_targets_b6 : Fld Z h6 b6 "com/example/chance_checker/chancechecker/construction/Distribution" "targets" "[I" .null := D6 (Or.inl (hw _ (List.mem_of_getElem? (i := 15) rfl))) (ty := (.array .int)) (by decide)
  have F_resets_b6 : Fld Z h6 b6 "com/example/chance_checker/chancechecker/construction/Distribution" "resets" "[I" .null := D6 (Or.inl (hw _ (List.mem_of_getElem? (i := 17) rfl))) (ty := (.array .int)) (by decide)
  have F_probabilities_b6 : Fld Z h6 b6 "com/example/chance_checker/chancechecker/construction/Distribution" "probabilities" "[D" .null := D6 (Or.inl (hw _ (List.mem_of_getElem? (i := 20) rfl))) (ty := (.array .double)) (by decide)
  have F_keys_b6 : Fld Z h6 b6 "com/example/chance_checker/chancechecker/construction/Distribution" "keys" "[J" .null := D6 (Or.inl (hw _ (List.mem_of_getElem? (i := 23) rfl))) (ty := (.array .long)) (by decide)
  have F_spareTargets_b6 : Fld Z h6 b6 "com/example/chance_checker/chancechecker/construction/Distribution" "spareTargets" "[I" .null := D6 (Or.inl (hw _ (List.mem_of_getElem? (i := 25) rfl))) (ty := (.array .int)) (by decide)
  have F_spareResets_b6 : Fld Z h6 b6 "com/example/chance_checker/chancechecker/construction/Distribution" "spareResets" "[I" .null := D6 (Or.inl (hw _ (List.mem_of_getElem? (i := 27) rfl))) (ty := (.array .int)) (by decide)
  have F_spareProbabilities_b6 : Fld Z h6 b6 "com/example/chance_checker/chancechecker/construction/Distribution" "spareProbabilities" "[D" .null := D6 (Or.inl (hw _ (List.mem_of_getElem? (i := 29) rfl))) (ty := (.array .double)) (by decide)
  have F_size_b6 : Fld Z h6 b6 "com/example/chance_checker/chancechecker/construction/Distribution" "size" "I" (.int (0 : Int32)) := D6 (Or.inl (hw _ (List.mem_of_getElem? (i := 43) rfl))) (ty := .int) (by decide)
  have E_b6 := A6
  have g_b6 : n0 ≤ b6 := Nat.le_trans Z0 (Nat.le_of_eq g6.symm)
  have sz_b6 : h0.size ≤ b6 := (Nat.le_trans (Keep.refl h0 []).1 (Nat.le_of_eq g6.symm))
  have K6 : Keep h0 h6 [] := (Keep.refl h0 []).ext E6
  obtain ⟨_, _, ⟨T7, L7, k7, n7⟩, -, X7, ⟨Lc7, hQ7, l7, y7, z7⟩, st7⟩ := X6.specialBack hx (y := (⟨"com/example/chance_checker/chancechecker/construction/Distribution", "<init>", "()V"⟩ : MethodName)) rfl hown (mvT hZ (hw _ (List.mem_of_getElem? (i := 7) rfl))) (mvT hZ (hw _ (List.mem_of_getElem? (i := 8) rfl))) (mvT hZ (hw _ (List.mem_of_getElem? (i := 9) rfl))) (by decide) (backOf (W := 1) (rm2 l Z a0 hw [] b6 .null .null .null .null .null .null .null h6 n0 (Nat.le_trans Z0 E6.1) F_size_b6 E_b6 F_targets_b6 g_b6 F_resets_b6 F_probabilities_b6 F_keys_b6 F_spareTargets_b6 F_spareResets_b6 F_spareProbabilities_b6) hZ (hw _ (List.mem_of_getElem? (i := 9) rfl)) (hw _ (List.mem_of_getElem? (i := 6) rfl)) (by decide) (by decide)) (g := (mkF m 4 #[.val (.int p1), .val (.int p2), .val (.int p3), .val (.int p4), .val (.int p5), .unset] [(.ref b6), (.ref b6)])) rfl (by rw [hml]; rfl) (Steps.refl _) (a := b6) (argsL := []) (rest := [(.ref b6)]) (lenOf pd_1_1 rfl) rfl (by show 2 * 0 + _ ≤ _; exact Nat.le_of_eq rfl) (hb hby d1_4) (fun _ _ => ⟨rfl, e6, (Nat.le_of_ble_eq_true rfl), (Nat.le_of_ble_eq_true rfl)⟩)
  dsimp only [Pt.U, Pt.locs, Pt.cells, Pt.slots] at X7 l7 y7 z7 st7 hQ7
  subst l7 y7 z7
  obtain ⟨rfl, N7q, K7q, t, r, pp, lt', lr', lp', D7'⟩ := hQ7
  have lt : h0.size ≤ t := Nat.le_trans E6.1 lt'
  have lr : h0.size ≤ r := Nat.le_trans E6.1 lr'
  have lp : h0.size ≤ pp := Nat.le_trans E6.1 lp'
  have Kh7 : Keep h0 T7.heap [] := K6.trans K7q fun x hx => by cases List.mem_singleton.mp hx; exact Or.inr sz_b6
  have D7x : own_Di Z T7.heap b6 t r pp 0 (own_e (own_t0 p2) (own_t1 p2 p4)) (own_e p3 (own_r1 p3 p4)) (own_e (own_p0 p5) (own_p1 p5)) := D7' _ _ _
  have N7 := Fr.app N0 N7q
  obtain ⟨_, _, ⟨T8, L8, k8, n8⟩, -, X8, ⟨Lc8, hQ8, l8, y8, z8⟩, st8⟩ := Jvm.LawKit.callS X7 hx (y := (⟨"com/example/chance_checker/chancechecker/construction/DistributionSameAsPinLaw", "target0", "(I)I"⟩ : MethodName)) hown (mvT hZ (hw _ (List.mem_of_getElem? (i := 30) rfl))) (mvT hZ (hw _ (List.mem_of_getElem? (i := 31) rfl))) (mvT hZ (hw _ (List.mem_of_getElem? (i := 2) rfl))) (mvT hZ (hw _ (List.mem_of_getElem? (i := 32) rfl))) (by decide) (backOf (W := 1) (rm4 l Z a0 hw [] p2 T7.heap n0 (Nat.le_trans Z0 Kh7.1)) hZ (hw _ (List.mem_of_getElem? (i := 32) rfl)) (hw _ (List.mem_of_getElem? (i := 2) rfl)) (by decide) (by decide)) (g := (mkF m 17 #[.val (.int p1), .val (.int p2), .val (.int p3), .val (.int p4), .val (.int p5), .val (.ref b6)] [(.int p2), (.ref b6)])) rfl (by rw [hml]; rfl) (argsL := [(.int p2)]) (rest := [(.ref b6)]) (lenOf pd_1_2 rfl) rfl (by show 2 * 0 + _ ≤ _; exact Nat.le_of_eq rfl) (hb hby d1_17) (fun _ _ => ⟨rfl, rfl, (Nat.le_of_ble_eq_true rfl), (Nat.le_of_ble_eq_true rfl)⟩)
  dsimp only [Pt.U, Pt.locs, Pt.cells, Pt.slots] at X8 l8 y8 z8 st8 hQ8
  subst l8 y8 z8
  obtain ⟨rfl, rfl, e8⟩ := hQ8
  try rw [List.append_nil] at X8
  obtain ⟨_, _, ⟨T9, L9, k9, n9⟩, -, X9, ⟨Lc9, hQ9, l9, y9, z9⟩, st9⟩ := Jvm.LawKit.callS X8 hx (y := (⟨"com/example/chance_checker/chancechecker/construction/DistributionSameAsPinLaw", "prob0", "(I)D"⟩ : MethodName)) hown (mvT hZ (hw _ (List.mem_of_getElem? (i := 44) rfl))) (mvT hZ (hw _ (List.mem_of_getElem? (i := 45) rfl))) (mvT hZ (hw _ (List.mem_of_getElem? (i := 2) rfl))) (mvT hZ (hw _ (List.mem_of_getElem? (i := 46) rfl))) (by decide) (backOf (W := 3) (rm7 l Z a0 hw [] p5 T7.heap n0 (Nat.le_trans Z0 Kh7.1)) hZ (hw _ (List.mem_of_getElem? (i := 46) rfl)) (hw _ (List.mem_of_getElem? (i := 2) rfl)) (by decide) (by decide)) (g := (mkF m 23 #[.val (.int p1), .val (.int p2), .val (.int p3), .val (.int p4), .val (.int p5), .val (.ref b6)] [(.int p5), (.int p3), (.int (own_t0 p2)), (.ref b6)])) rfl (by rw [hml]; rfl) (argsL := [(.int p5)]) (rest := [(.int p3), (.int (own_t0 p2)), (.ref b6)]) (lenOf pd_1_5 rfl) rfl (by show 2 * 0 + _ ≤ _; exact Nat.le_of_eq rfl) (hb hby d1_23) (fun _ _ => ⟨rfl, e8, (Nat.le_of_ble_eq_true rfl), (Nat.le_of_ble_eq_true rfl)⟩)
  dsimp only [Pt.U, Pt.locs, Pt.cells, Pt.slots] at X9 l9 y9 z9 st9 hQ9
  subst l9 y9 z9
  obtain ⟨rfl, rfl, e9⟩ := hQ9
  try rw [List.append_nil] at X9
  obtain ⟨cq10, kq10, q10a, q10b, q10c⟩ := isOf hZ e9 D7x.1
  obtain ⟨_, _, ⟨T10, L10, k10, n10⟩, -, X10, ⟨Lc10, hQ10, l10, y10, z10⟩, st10⟩ := X9.virtualBack hx (y := (⟨"com/example/chance_checker/chancechecker/construction/Distribution", "add", "(IID)V"⟩ : MethodName)) (z := (⟨"com/example/chance_checker/chancechecker/construction/Distribution", "add", "(IID)V"⟩ : MethodName)) hown (mvT hZ (hw _ (List.mem_of_getElem? (i := 48) rfl))) (mvT hZ (hw _ (List.mem_of_getElem? (i := 49) rfl))) (notFace_of_selects (args := #[]) (mvT hZ (hw _ (List.mem_of_getElem? (i := 51) rfl)))) (mvT hZ (hw _ (List.mem_of_getElem? (i := 51) rfl))) (mvT hZ (hw _ (List.mem_of_getElem? (i := 50) rfl))) (by decide) (backOf (W := 0) (rm8 l Z a0 hw [] b6 (own_t0 p2) p3 (own_p0 p5) t r pp 0 (own_e (own_t0 p2) (own_t1 p2 p4)) (own_e p3 (own_r1 p3 p4)) (own_e (own_p0 p5) (own_p1 p5)) T7.heap n0 (Nat.le_trans Z0 Kh7.1) D7x (by decide) rfl rfl rfl g_b6 (Nat.le_trans Z0 lt) (Nat.le_trans Z0 lr) (Nat.le_trans Z0 lp)) hZ (hw _ (List.mem_of_getElem? (i := 52) rfl)) (hw _ (List.mem_of_getElem? (i := 6) rfl)) (by decide) (by decide)) q10a q10c (g := (mkF m 26 #[.val (.int p1), .val (.int p2), .val (.int p3), .val (.int p4), .val (.int p5), .val (.ref b6)] [(.double (own_p0 p5)), (.int p3), (.int (own_t0 p2)), (.ref b6)])) rfl (by rw [hml]; rfl) (Steps.refl _) (argsL := [(.int (own_t0 p2)), (.int p3), (.double (own_p0 p5))]) (rest := []) (lenOf pd_1_6 rfl) rfl (by show 2 * 0 + _ ≤ _; exact Nat.le_of_eq rfl) (hb hby d1_26) (fun _ _ => ⟨rfl, e9, (Nat.le_of_ble_eq_true rfl), (Nat.le_of_ble_eq_true rfl)⟩)
  dsimp only [Pt.U, Pt.locs, Pt.cells, Pt.slots] at X10 l10 y10 z10 st10 hQ10
  subst l10 y10 z10
  obtain ⟨rfl, N10q, K10q, D10x⟩ := hQ10
  have Kh10 : Keep h0 T10.heap [] := Kh7.trans K10q (allS (Or.inr lt) (allS (Or.inr lr) (allS (Or.inr lp) (allS (Or.inr sz_b6) all0))))
  have N10 := Fr.app N7 N10q
  obtain ⟨_, _, ⟨T11, L11, k11, n11⟩, -, X11, ⟨Lc11, hQ11, l11, y11, z11⟩, st11⟩ := Jvm.LawKit.callS X10 hx (y := (⟨"com/example/chance_checker/chancechecker/construction/DistributionSameAsPinLaw", "target1", "(II)I"⟩ : MethodName)) hown (mvT hZ (hw _ (List.mem_of_getElem? (i := 34) rfl))) (mvT hZ (hw _ (List.mem_of_getElem? (i := 35) rfl))) (mvT hZ (hw _ (List.mem_of_getElem? (i := 2) rfl))) (mvT hZ (hw _ (List.mem_of_getElem? (i := 36) rfl))) (by decide) (backOf (W := 1) (rm5 l Z a0 hw [] p2 p4 T10.heap n0 (Nat.le_trans Z0 Kh10.1)) hZ (hw _ (List.mem_of_getElem? (i := 36) rfl)) (hw _ (List.mem_of_getElem? (i := 2) rfl)) (by decide) (by decide)) (g := (mkF m 38 #[.val (.int p1), .val (.int p2), .val (.int p3), .val (.int p4), .val (.int p5), .val (.ref b6)] [(.int p4), (.int p2), (.ref b6)])) rfl (by rw [hml]; rfl) (argsL := [(.int p2), (.int p4)]) (rest := [(.ref b6)]) (lenOf pd_1_3 rfl) rfl (by show 2 * 0 + _ ≤ _; exact Nat.le_of_eq rfl) (hb hby d1_38) (fun _ _ => ⟨rfl, rfl, (Nat.le_of_ble_eq_true rfl), (Nat.le_of_ble_eq_true rfl)⟩)
  dsimp only [Pt.U, Pt.locs, Pt.cells, Pt.slots] at X11 l11 y11 z11 st11 hQ11
  subst l11 y11 z11
  obtain ⟨rfl, rfl, e11⟩ := hQ11
  try rw [List.append_nil] at X11
  obtain ⟨_, _, ⟨T12, L12, k12, n12⟩, -, X12, ⟨Lc12, hQ12, l12, y12, z12⟩, st12⟩ := Jvm.LawKit.callS X11 hx (y := (⟨"com/example/chance_checker/chancechecker/construction/DistributionSameAsPinLaw", "reset1", "(II)I"⟩ : MethodName)) hown (mvT hZ (hw _ (List.mem_of_getElem? (i := 53) rfl))) (mvT hZ (hw _ (List.mem_of_getElem? (i := 54) rfl))) (mvT hZ (hw _ (List.mem_of_getElem? (i := 2) rfl))) (mvT hZ (hw _ (List.mem_of_getElem? (i := 55) rfl))) (by decide) (backOf (W := 2) (rm9 l Z a0 hw [] p3 p4 T10.heap n0 (Nat.le_trans Z0 Kh10.1)) hZ (hw _ (List.mem_of_getElem? (i := 55) rfl)) (hw _ (List.mem_of_getElem? (i := 2) rfl)) (by decide) (by decide)) (g := (mkF m 43 #[.val (.int p1), .val (.int p2), .val (.int p3), .val (.int p4), .val (.int p5), .val (.ref b6)] [(.int p4), (.int p3), (.int (own_t1 p2 p4)), (.ref b6)])) rfl (by rw [hml]; rfl) (argsL := [(.int p3), (.int p4)]) (rest := [(.int (own_t1 p2 p4)), (.ref b6)]) (lenOf pd_1_3 rfl) rfl (by show 2 * 0 + _ ≤ _; exact Nat.le_of_eq rfl) (hb hby d1_43) (fun _ _ => ⟨rfl, e11, (Nat.le_of_ble_eq_true rfl), (Nat.le_of_ble_eq_true rfl)⟩)
  dsimp only [Pt.U, Pt.locs, Pt.cells, Pt.slots] at X12 l12 y12 z12 st12 hQ12
  subst l12 y12 z12
  obtain ⟨rfl, rfl, e12⟩ := hQ12
  try rw [List.append_nil] at X12
  obtain ⟨_, _, ⟨T13, L13, k13, n13⟩, -, X13, ⟨Lc13, hQ13, l13, y13, z13⟩, st13⟩ := Jvm.LawKit.callS X12 hx (y := (⟨"com/example/chance_checker/chancechecker/construction/DistributionSameAsPinLaw", "prob1", "(I)D"⟩ : MethodName)) hown (mvT hZ (hw _ (List.mem_of_getElem? (i := 56) rfl))) (mvT hZ (hw _ (List.mem_of_getElem? (i := 57) rfl))) (mvT hZ (hw _ (List.mem_of_getElem? (i := 2) rfl))) (mvT hZ (hw _ (List.mem_of_getElem? (i := 58) rfl))) (by decide) (backOf (W := 3) (rm10 l Z a0 hw [] p5 T10.heap n0 (Nat.le_trans Z0 Kh10.1)) hZ (hw _ (List.mem_of_getElem? (i := 58) rfl)) (hw _ (List.mem_of_getElem? (i := 2) rfl)) (by decide) (by decide)) (g := (mkF m 48 #[.val (.int p1), .val (.int p2), .val (.int p3), .val (.int p4), .val (.int p5), .val (.ref b6)] [(.int p5), (.int (own_r1 p3 p4)), (.int (own_t1 p2 p4)), (.ref b6)])) rfl (by rw [hml]; rfl) (argsL := [(.int p5)]) (rest := [(.int (own_r1 p3 p4)), (.int (own_t1 p2 p4)), (.ref b6)]) (lenOf pd_1_5 rfl) rfl (by show 2 * 0 + _ ≤ _; exact Nat.le_of_eq rfl) (hb hby d1_48) (fun _ _ => ⟨rfl, e12, (Nat.le_of_ble_eq_true rfl), (Nat.le_of_ble_eq_true rfl)⟩)
  dsimp only [Pt.U, Pt.locs, Pt.cells, Pt.slots] at X13 l13 y13 z13 st13 hQ13
  subst l13 y13 z13
  obtain ⟨rfl, rfl, e13⟩ := hQ13
  try rw [List.append_nil] at X13
  obtain ⟨cq14, kq14, q14a, q14b, q14c⟩ := isOf hZ e13 D10x.1
  obtain ⟨_, _, ⟨T14, L14, k14, n14⟩, -, X14, ⟨Lc14, hQ14, l14, y14, z14⟩, st14⟩ := X13.virtualBack hx (y := (⟨"com/example/chance_checker/chancechecker/construction/Distribution", "add", "(IID)V"⟩ : MethodName)) (z := (⟨"com/example/chance_checker/chancechecker/construction/Distribution", "add", "(IID)V"⟩ : MethodName)) hown (mvT hZ (hw _ (List.mem_of_getElem? (i := 48) rfl))) (mvT hZ (hw _ (List.mem_of_getElem? (i := 49) rfl))) (notFace_of_selects (args := #[]) (mvT hZ (hw _ (List.mem_of_getElem? (i := 51) rfl)))) (mvT hZ (hw _ (List.mem_of_getElem? (i := 51) rfl))) (mvT hZ (hw _ (List.mem_of_getElem? (i := 50) rfl))) (by decide) (backOf (W := 0) (rm8 l Z a0 hw [] b6 (own_t1 p2 p4) (own_r1 p3 p4) (own_p1 p5) t r pp 1 (own_e (own_t0 p2) (own_t1 p2 p4)) (own_e p3 (own_r1 p3 p4)) (own_e (own_p0 p5) (own_p1 p5)) T10.heap n0 (Nat.le_trans Z0 Kh10.1) D10x (by decide) rfl rfl rfl g_b6 (Nat.le_trans Z0 lt) (Nat.le_trans Z0 lr) (Nat.le_trans Z0 lp)) hZ (hw _ (List.mem_of_getElem? (i := 52) rfl)) (hw _ (List.mem_of_getElem? (i := 6) rfl)) (by decide) (by decide)) q14a q14c (g := (mkF m 51 #[.val (.int p1), .val (.int p2), .val (.int p3), .val (.int p4), .val (.int p5), .val (.ref b6)] [(.double (own_p1 p5)), (.int (own_r1 p3 p4)), (.int (own_t1 p2 p4)), (.ref b6)])) rfl (by rw [hml]; rfl) (Steps.refl _) (argsL := [(.int (own_t1 p2 p4)), (.int (own_r1 p3 p4)), (.double (own_p1 p5))]) (rest := []) (lenOf pd_1_6 rfl) rfl (by show 2 * 0 + _ ≤ _; exact Nat.le_of_eq rfl) (hb hby d1_51) (fun _ _ => ⟨rfl, e13, (Nat.le_of_ble_eq_true rfl), (Nat.le_of_ble_eq_true rfl)⟩)
  dsimp only [Pt.U, Pt.locs, Pt.cells, Pt.slots] at X14 l14 y14 z14 st14 hQ14
  subst l14 y14 z14
  obtain ⟨rfl, N14q, K14q, D14x⟩ := hQ14
  have Kh14 : Keep h0 T14.heap [] := Kh10.trans K14q (allS (Or.inr lt) (allS (Or.inr lr) (allS (Or.inr lp) (allS (Or.inr sz_b6) all0))))
  have N14 := Fr.app N10 N14q
  obtain ⟨fs, hr, hrun, hended, hW, hsame⟩ := X14.leave (v := some (.ref b6)) (fun h => by rw [Bd.returns] at h; cases h)
  refine ⟨_, _, pre0 _ ?_, hrun, hended, _, _, rfl, ?_, ⟨_, rfl⟩, hW, hsame.mono (by decide) (by decide)⟩
  · show Steps p.tables e below (s₁.setTop (mkF m 0 #[.val (.int p1), .val (.int p2), .val (.int p3), .val (.int p4), .val (.int p5), .unset] [])) _
    refine st6 _ ?_
    show Steps p.tables e below (T6.setTop (mkF m 3 #[.val (.int p1), .val (.int p2), .val (.int p3), .val (.int p4), .val (.int p5), .unset] [(.ref b6)])) _
    refine XS.dup X6.here hx rfl (hb hby d1_3) rfl rfl ?_
    show Steps p.tables e below (T6.setTop (mkF m 4 #[.val (.int p1), .val (.int p2), .val (.int p3), .val (.int p4), .val (.int p5), .unset] [(.ref b6), (.ref b6)])) _
    refine st7.trans ?_
    show Steps p.tables e below (T7.setTop (mkF m 7 #[.val (.int p1), .val (.int p2), .val (.int p3), .val (.int p4), .val (.int p5), .unset] [(.ref b6)])) _
    refine XS.astore X7.here hx rfl (hb hby d1_7) rfl rfl (l' := #[.val (.int p1), .val (.int p2), .val (.int p3), .val (.int p4), .val (.int p5), .val (.ref b6)]) rfl ?_
    show Steps p.tables e below (T7.setTop (mkF m 9 #[.val (.int p1), .val (.int p2), .val (.int p3), .val (.int p4), .val (.int p5), .val (.ref b6)] [])) _
    refine XS.iloadN X7.here hx rfl (hb hby d1_9) rfl ?_
    show Steps p.tables e below (T7.setTop (mkF m 10 #[.val (.int p1), .val (.int p2), .val (.int p3), .val (.int p4), .val (.int p5), .val (.ref b6)] [(.int p1)])) _
    refine XS.iconst X7.here hx rfl (hb hby d1_10) ?_
    show Steps p.tables e below (T7.setTop (mkF m 11 #[.val (.int p1), .val (.int p2), .val (.int p3), .val (.int p4), .val (.int p5), .val (.ref b6)] [(.int (1 : Int32)), (.int p1)])) _
    refine XS.icmpNo X7.here hx rfl (hb hby d1_11) rfl (flt hc11).1 ?_
    show Steps p.tables e below (T7.setTop (mkF m 14 #[.val (.int p1), .val (.int p2), .val (.int p3), .val (.int p4), .val (.int p5), .val (.ref b6)] [])) _
    refine XS.aload X7.here hx rfl (hb hby d1_14) rfl rfl ?_
    show Steps p.tables e below (T7.setTop (mkF m 16 #[.val (.int p1), .val (.int p2), .val (.int p3), .val (.int p4), .val (.int p5), .val (.ref b6)] [(.ref b6)])) _
    refine XS.iloadN X7.here hx rfl (hb hby d1_16) rfl ?_
    show Steps p.tables e below (T7.setTop (mkF m 17 #[.val (.int p1), .val (.int p2), .val (.int p3), .val (.int p4), .val (.int p5), .val (.ref b6)] [(.int p2), (.ref b6)])) _
    refine st8 _ ?_
    show Steps p.tables e below (T8.setTop (mkF m 20 #[.val (.int p1), .val (.int p2), .val (.int p3), .val (.int p4), .val (.int p5), .val (.ref b6)] [(.int (own_t0 p2)), (.ref b6)])) _
    refine XS.iloadN X8.here hx rfl (hb hby d1_20) rfl ?_
    show Steps p.tables e below (T8.setTop (mkF m 21 #[.val (.int p1), .val (.int p2), .val (.int p3), .val (.int p4), .val (.int p5), .val (.ref b6)] [(.int p3), (.int (own_t0 p2)), (.ref b6)])) _
    refine XS.iload X8.here hx rfl (hb hby d1_21) rfl ?_
    show Steps p.tables e below (T8.setTop (mkF m 23 #[.val (.int p1), .val (.int p2), .val (.int p3), .val (.int p4), .val (.int p5), .val (.ref b6)] [(.int p5), (.int p3), (.int (own_t0 p2)), (.ref b6)])) _
    refine st9 _ ?_
    show Steps p.tables e below (T9.setTop (mkF m 26 #[.val (.int p1), .val (.int p2), .val (.int p3), .val (.int p4), .val (.int p5), .val (.ref b6)] [(.double (own_p0 p5)), (.int p3), (.int (own_t0 p2)), (.ref b6)])) _
    refine st10.trans ?_
    show Steps p.tables e below (T10.setTop (mkF m 29 #[.val (.int p1), .val (.int p2), .val (.int p3), .val (.int p4), .val (.int p5), .val (.ref b6)] [])) _
    refine XS.iloadN X10.here hx rfl (hb hby d1_29) rfl ?_
    show Steps p.tables e below (T10.setTop (mkF m 30 #[.val (.int p1), .val (.int p2), .val (.int p3), .val (.int p4), .val (.int p5), .val (.ref b6)] [(.int p1)])) _
    refine XS.iconst X10.here hx rfl (hb hby d1_30) ?_
    show Steps p.tables e below (T10.setTop (mkF m 31 #[.val (.int p1), .val (.int p2), .val (.int p3), .val (.int p4), .val (.int p5), .val (.ref b6)] [(.int (2 : Int32)), (.int p1)])) _
    refine XS.icmpNo X10.here hx rfl (hb hby d1_31) rfl (flt hc31).1 ?_
    show Steps p.tables e below (T10.setTop (mkF m 34 #[.val (.int p1), .val (.int p2), .val (.int p3), .val (.int p4), .val (.int p5), .val (.ref b6)] [])) _
    refine XS.aload X10.here hx rfl (hb hby d1_34) rfl rfl ?_
    show Steps p.tables e below (T10.setTop (mkF m 36 #[.val (.int p1), .val (.int p2), .val (.int p3), .val (.int p4), .val (.int p5), .val (.ref b6)] [(.ref b6)])) _
    refine XS.iloadN X10.here hx rfl (hb hby d1_36) rfl ?_
    show Steps p.tables e below (T10.setTop (mkF m 37 #[.val (.int p1), .val (.int p2), .val (.int p3), .val (.int p4), .val (.int p5), .val (.ref b6)] [(.int p2), (.ref b6)])) _
    refine XS.iloadN X10.here hx rfl (hb hby d1_37) rfl ?_
    show Steps p.tables e below (T10.setTop (mkF m 38 #[.val (.int p1), .val (.int p2), .val (.int p3), .val (.int p4), .val (.int p5), .val (.ref b6)] [(.int p4), (.int p2), (.ref b6)])) _
    refine st11 _ ?_
    show Steps p.tables e below (T11.setTop (mkF m 41 #[.val (.int p1), .val (.int p2), .val (.int p3), .val (.int p4), .val (.int p5), .val (.ref b6)] [(.int (own_t1 p2 p4)), (.ref b6)])) _
    refine XS.iloadN X11.here hx rfl (hb hby d1_41) rfl ?_
    show Steps p.tables e below (T11.setTop (mkF m 42 #[.val (.int p1), .val (.int p2), .val (.int p3), .val (.int p4), .val (.int p5), .val (.ref b6)] [(.int p3), (.int (own_t1 p2 p4)), (.ref b6)])) _
    refine XS.iloadN X11.here hx rfl (hb hby d1_42) rfl ?_
    show Steps p.tables e below (T11.setTop (mkF m 43 #[.val (.int p1), .val (.int p2), .val (.int p3), .val (.int p4), .val (.int p5), .val (.ref b6)] [(.int p4), (.int p3), (.int (own_t1 p2 p4)), (.ref b6)])) _
    refine st12 _ ?_
    show Steps p.tables e below (T12.setTop (mkF m 46 #[.val (.int p1), .val (.int p2), .val (.int p3), .val (.int p4), .val (.int p5), .val (.ref b6)] [(.int (own_r1 p3 p4)), (.int (own_t1 p2 p4)), (.ref b6)])) _
    refine XS.iload X12.here hx rfl (hb hby d1_46) rfl ?_
    show Steps p.tables e below (T12.setTop (mkF m 48 #[.val (.int p1), .val (.int p2), .val (.int p3), .val (.int p4), .val (.int p5), .val (.ref b6)] [(.int p5), (.int (own_r1 p3 p4)), (.int (own_t1 p2 p4)), (.ref b6)])) _
    refine st13 _ ?_
    show Steps p.tables e below (T13.setTop (mkF m 51 #[.val (.int p1), .val (.int p2), .val (.int p3), .val (.int p4), .val (.int p5), .val (.ref b6)] [(.double (own_p1 p5)), (.int (own_r1 p3 p4)), (.int (own_t1 p2 p4)), (.ref b6)])) _
    refine st14.trans ?_
    show Steps p.tables e below (T14.setTop (mkF m 54 #[.val (.int p1), .val (.int p2), .val (.int p3), .val (.int p4), .val (.int p5), .val (.ref b6)] [])) _
    refine XS.aload X14.here hx rfl (hb hby d1_54) rfl rfl ?_
    show Steps p.tables e below (T14.setTop (mkF m 56 #[.val (.int p1), .val (.int p2), .val (.int p3), .val (.int p4), .val (.int p5), .val (.ref b6)] [(.ref b6)])) _
    jvm_step X14.here [X14.here.top, hx, (hb hby d1_56), X14.method', Bd.returns, Value.isRef, FieldType.isReference]
    first | (intro acts; rw [hr _ acts rfl rfl rfl]) | rw [hr _ _ rfl rfl rfl]
    exact Steps.refl _
  · show Q1 Z p2 p3 p4 p5 2 h0 n0 _ T14.heap _
    exact ⟨b6, t, r, pp, rfl, N14, Kh14, sz_b6, lt, lr, lp, D14x⟩
theorem rm1 (l : Launch) (Z : State) (a0 : Array Value) (hw : ∀ d ∈ tables_1, d.before a0 Z = true) (ws : List Jvm.Cond) (p1 : Int32) (p2 : Int32) (p3 : Int32) (p4 : Int32) (p5 : Int32) (h0 : Heap) (n0 : Nat) (Z0 : n0 ≤ h0.size) (n : Nat) (hn : n < 3) (hp : p1 = Int32.ofNat n) :
    MetFree l (⟨"com/example/chance_checker/chancechecker/construction/DistributionSameAsPinLaw", "make", "(IIIII)Lcom/example/chance_checker/chancechecker/construction/Distribution;"⟩ : MethodName) (head1 (Jvm.Cond.code (⟨"com/example/chance_checker/chancechecker/construction/DistributionSameAsPinLaw", "make", "(IIIII)Lcom/example/chance_checker/chancechecker/construction/Distribution;"⟩ : MethodName) method_3_code 6 (some (.object "com/example/chance_checker/chancechecker/construction/Distribution")) :: ws) ({ frames := 2, cells := 8, slots := 32, locals := 26 } : Room)) (fun a U => a = #[(.int p1), (.int p2), (.int p3), (.int p4), (.int p5)] ∧ Z.Warmed39 U.vm ∧ U.heap = h0) (fun _ _ _ _ _ => True) (fun _ U o U' => ∃ v L, o = .returned v ∧ Q1 Z p2 p3 p4 p5 n h0 n0 v U'.heap L ∧ FrameEnd U o U' L ({ frames := 2, cells := 8, slots := 32, locals := 26 } : Room).cells ({ frames := 2, cells := 8, slots := 32, locals := 26 } : Room).slots) := by
  have a : n = 0 ∨ n = 1 ∨ n = 2 := by omega
  subst hp
  rcases a with rfl | rfl | rfl
  · exact rm1_0 l Z a0 hw ws _ p2 p3 p4 p5 h0 n0 Z0 (by decide) (by decide)
  · exact rm1_1 l Z a0 hw ws _ p2 p3 p4 p5 h0 n0 Z0 (by decide) (by decide)
  · exact rm1_2 l Z a0 hw ws _ p2 p3 p4 p5 h0 n0 Z0 (by decide) (by decide)
theorem pd_0_2 : parseMethodDescriptor "(I)I" = some ⟨[.int], some .int⟩ := by decide +kernel
set_option maxRecDepth 65536 in
set_option maxHeartbeats 40000000 in
theorem own_B_t {p : Program} {l : Launch} {e : Env} {s : State} {m : MethodId} {args : Array Value} {below : List Frame} {meth : Method} {c : Code} {T0 : State} {locs : List Loc} {cells slots : Nat} {Z : State} {a0 : Array Value} {h0 : Heap} (i0 : Int32) (i1 : Int32) (i2 : Int32) (i3 : Int32) (i4 : Int32) (i5 : Int32) (i6 : Int32) (i7 : Int32) (i8 : Int32) (i9 : Int32) (i10 : Int32) (i11 : Int32) (o12 : Addr) (o13 : Addr)
    (X0 : Stand p l e room_1 s m args below meth c T0 locs cells slots) (hx : p.tables.exec = Jvm.exec) (hZ : Z.Warmed39 s.vm) (hw : ∀ d ∈ tables_1, d.before a0 Z = true) (hby : c.code = code) (hml : c.maxLocals = 19) (hown : s.vm.findClass "com/example/chance_checker/chancechecker/construction/DistributionSameAsPinLaw" = some m.cls) (e0 : T0.heap = h0) (n0 : Nat) (Z0 : n0 ≤ h0.size) (hcl : cells ≤ room_1.cells) (hsl : slots ≤ room_1.slots) (hc103 : ¬ ((own_t0 i1) = (own_t0 i8))) :
    ∃ (T' : State), Stand p l e room_1 s m args below meth c T' locs cells slots ∧ T'.heap = h0 ∧
      ∀ target, Steps p.tables e below (T'.setTop (mkF m 133 #[.val (.int i0), .val (.int i1), .val (.int i2), .val (.int i3), .val (.int i4), .val (.int i5), .val (.int i6), .val (.int i7), .val (.int i8), .val (.int i9), .val (.int i10), .val (.int i11), .val (.ref o12), .val (.ref o13), .val (.int (0 : Int32)), .unset, .unset, .unset, .unset] [])) target → Steps p.tables e below (T0.setTop (mkF m 94 #[.val (.int i0), .val (.int i1), .val (.int i2), .val (.int i3), .val (.int i4), .val (.int i5), .val (.int i6), .val (.int i7), .val (.int i8), .val (.int i9), .val (.int i10), .val (.int i11), .val (.ref o12), .val (.ref o13), .unset, .unset, .unset, .unset, .unset] [])) target := by
  obtain ⟨_, _, ⟨T7, L7, k7, n7⟩, -, X7, ⟨Lc7, hQ7, l7, y7, z7⟩, st7⟩ := Jvm.LawKit.callS X0 hx (y := (⟨"com/example/chance_checker/chancechecker/construction/DistributionSameAsPinLaw", "target0", "(I)I"⟩ : MethodName)) hown (mvT hZ (hw _ (List.mem_of_getElem? (i := 30) rfl))) (mvT hZ (hw _ (List.mem_of_getElem? (i := 31) rfl))) (mvT hZ (hw _ (List.mem_of_getElem? (i := 2) rfl))) (mvT hZ (hw _ (List.mem_of_getElem? (i := 32) rfl))) (by decide) (backOf (W := 0) (rm4 l Z a0 hw [] i1 h0 n0 Z0) hZ (hw _ (List.mem_of_getElem? (i := 32) rfl)) (hw _ (List.mem_of_getElem? (i := 2) rfl)) (by decide) (by decide)) (g := (mkF m 95 #[.val (.int i0), .val (.int i1), .val (.int i2), .val (.int i3), .val (.int i4), .val (.int i5), .val (.int i6), .val (.int i7), .val (.int i8), .val (.int i9), .val (.int i10), .val (.int i11), .val (.ref o12), .val (.ref o13), .unset, .unset, .unset, .unset, .unset] [(.int i1)])) rfl (by rw [hml]; rfl) (argsL := [(.int i1)]) (rest := []) (lenOf pd_0_2 rfl) rfl (by show 2 * 0 + _ ≤ _; exact Nat.le_of_eq rfl) (hb hby at_95) (fun _ _ => ⟨rfl, e0, hcl, hsl⟩)
  dsimp only [Pt.U, Pt.locs, Pt.cells, Pt.slots] at X7 l7 y7 z7 st7 hQ7
  subst l7 y7 z7
  obtain ⟨rfl, rfl, e7⟩ := hQ7
  try rw [List.append_nil] at X7
  obtain ⟨_, _, ⟨T8, L8, k8, n8⟩, -, X8, ⟨Lc8, hQ8, l8, y8, z8⟩, st8⟩ := Jvm.LawKit.callS X7 hx (y := (⟨"com/example/chance_checker/chancechecker/construction/DistributionSameAsPinLaw", "target0", "(I)I"⟩ : MethodName)) hown (mvT hZ (hw _ (List.mem_of_getElem? (i := 30) rfl))) (mvT hZ (hw _ (List.mem_of_getElem? (i := 31) rfl))) (mvT hZ (hw _ (List.mem_of_getElem? (i := 2) rfl))) (mvT hZ (hw _ (List.mem_of_getElem? (i := 32) rfl))) (by decide) (backOf (W := 1) (rm4 l Z a0 hw [] i8 h0 n0 Z0) hZ (hw _ (List.mem_of_getElem? (i := 32) rfl)) (hw _ (List.mem_of_getElem? (i := 2) rfl)) (by decide) (by decide)) (g := (mkF m 100 #[.val (.int i0), .val (.int i1), .val (.int i2), .val (.int i3), .val (.int i4), .val (.int i5), .val (.int i6), .val (.int i7), .val (.int i8), .val (.int i9), .val (.int i10), .val (.int i11), .val (.ref o12), .val (.ref o13), .unset, .unset, .unset, .unset, .unset] [(.int i8), (.int (own_t0 i1))])) rfl (by rw [hml]; rfl) (argsL := [(.int i8)]) (rest := [(.int (own_t0 i1))]) (lenOf pd_0_2 rfl) rfl (by show 2 * 0 + _ ≤ _; exact Nat.le_of_eq rfl) (hb hby at_100) (fun _ _ => ⟨rfl, e7, hcl, hsl⟩)
  dsimp only [Pt.U, Pt.locs, Pt.cells, Pt.slots] at X8 l8 y8 z8 st8 hQ8
  subst l8 y8 z8
  obtain ⟨rfl, rfl, e8⟩ := hQ8
  try rw [List.append_nil] at X8
  refine ⟨T8, X8, e8, fun target kt => ?_⟩
  show Steps p.tables e below (T0.setTop (mkF m 94 #[.val (.int i0), .val (.int i1), .val (.int i2), .val (.int i3), .val (.int i4), .val (.int i5), .val (.int i6), .val (.int i7), .val (.int i8), .val (.int i9), .val (.int i10), .val (.int i11), .val (.ref o12), .val (.ref o13), .unset, .unset, .unset, .unset, .unset] [])) _
  refine XS.iloadN X0.here hx rfl (hb hby at_94) rfl ?_
  show Steps p.tables e below (T0.setTop (mkF m 95 #[.val (.int i0), .val (.int i1), .val (.int i2), .val (.int i3), .val (.int i4), .val (.int i5), .val (.int i6), .val (.int i7), .val (.int i8), .val (.int i9), .val (.int i10), .val (.int i11), .val (.ref o12), .val (.ref o13), .unset, .unset, .unset, .unset, .unset] [(.int i1)])) _
  refine st7 _ ?_
  show Steps p.tables e below (T7.setTop (mkF m 98 #[.val (.int i0), .val (.int i1), .val (.int i2), .val (.int i3), .val (.int i4), .val (.int i5), .val (.int i6), .val (.int i7), .val (.int i8), .val (.int i9), .val (.int i10), .val (.int i11), .val (.ref o12), .val (.ref o13), .unset, .unset, .unset, .unset, .unset] [(.int (own_t0 i1))])) _
  refine XS.iload X7.here hx rfl (hb hby at_98) rfl ?_
  show Steps p.tables e below (T7.setTop (mkF m 100 #[.val (.int i0), .val (.int i1), .val (.int i2), .val (.int i3), .val (.int i4), .val (.int i5), .val (.int i6), .val (.int i7), .val (.int i8), .val (.int i9), .val (.int i10), .val (.int i11), .val (.ref o12), .val (.ref o13), .unset, .unset, .unset, .unset, .unset] [(.int i8), (.int (own_t0 i1))])) _
  refine st8 _ ?_
  show Steps p.tables e below (T8.setTop (mkF m 103 #[.val (.int i0), .val (.int i1), .val (.int i2), .val (.int i3), .val (.int i4), .val (.int i5), .val (.int i6), .val (.int i7), .val (.int i8), .val (.int i9), .val (.int i10), .val (.int i11), .val (.ref o12), .val (.ref o13), .unset, .unset, .unset, .unset, .unset] [(.int (own_t0 i8)), (.int (own_t0 i1))])) _
  refine XS.icmpYes X8.here hx rfl (pc0 := 103) (pc' := 130) rfl (hb hby at_103) rfl (feq hc103).2 (by decide) (by decide) ?_
  show Steps p.tables e below (T8.setTop (mkF m 130 #[.val (.int i0), .val (.int i1), .val (.int i2), .val (.int i3), .val (.int i4), .val (.int i5), .val (.int i6), .val (.int i7), .val (.int i8), .val (.int i9), .val (.int i10), .val (.int i11), .val (.ref o12), .val (.ref o13), .unset, .unset, .unset, .unset, .unset] [])) _
  refine XS.iconst X8.here hx rfl (hb hby at_130) ?_
  show Steps p.tables e below (T8.setTop (mkF m 131 #[.val (.int i0), .val (.int i1), .val (.int i2), .val (.int i3), .val (.int i4), .val (.int i5), .val (.int i6), .val (.int i7), .val (.int i8), .val (.int i9), .val (.int i10), .val (.int i11), .val (.ref o12), .val (.ref o13), .unset, .unset, .unset, .unset, .unset] [(.int (0 : Int32))])) _
  refine XS.istore X8.here hx rfl (hb hby at_131) rfl (l' := #[.val (.int i0), .val (.int i1), .val (.int i2), .val (.int i3), .val (.int i4), .val (.int i5), .val (.int i6), .val (.int i7), .val (.int i8), .val (.int i9), .val (.int i10), .val (.int i11), .val (.ref o12), .val (.ref o13), .val (.int (0 : Int32)), .unset, .unset, .unset, .unset]) rfl ?_
  exact kt
set_option maxRecDepth 65536 in
set_option maxHeartbeats 40000000 in
theorem own_B_ft {p : Program} {l : Launch} {e : Env} {s : State} {m : MethodId} {args : Array Value} {below : List Frame} {meth : Method} {c : Code} {T0 : State} {locs : List Loc} {cells slots : Nat} {Z : State} {a0 : Array Value} {h0 : Heap} (i0 : Int32) (i1 : Int32) (i2 : Int32) (i3 : Int32) (i4 : Int32) (i5 : Int32) (i6 : Int32) (i7 : Int32) (i8 : Int32) (i9 : Int32) (i10 : Int32) (i11 : Int32) (o12 : Addr) (o13 : Addr)
    (X0 : Stand p l e room_1 s m args below meth c T0 locs cells slots) (hx : p.tables.exec = Jvm.exec) (hZ : Z.Warmed39 s.vm) (hw : ∀ d ∈ tables_1, d.before a0 Z = true) (hby : c.code = code) (hml : c.maxLocals = 19) (hown : s.vm.findClass "com/example/chance_checker/chancechecker/construction/DistributionSameAsPinLaw" = some m.cls) (e0 : T0.heap = h0) (n0 : Nat) (Z0 : n0 ≤ h0.size) (hcl : cells ≤ room_1.cells) (hsl : slots ≤ room_1.slots) (hc103 : (own_t0 i1) = (own_t0 i8)) (hc109 : ¬ (i2 = i9)) :
    ∃ (T' : State), Stand p l e room_1 s m args below meth c T' locs cells slots ∧ T'.heap = h0 ∧
      ∀ target, Steps p.tables e below (T'.setTop (mkF m 133 #[.val (.int i0), .val (.int i1), .val (.int i2), .val (.int i3), .val (.int i4), .val (.int i5), .val (.int i6), .val (.int i7), .val (.int i8), .val (.int i9), .val (.int i10), .val (.int i11), .val (.ref o12), .val (.ref o13), .val (.int (0 : Int32)), .unset, .unset, .unset, .unset] [])) target → Steps p.tables e below (T0.setTop (mkF m 94 #[.val (.int i0), .val (.int i1), .val (.int i2), .val (.int i3), .val (.int i4), .val (.int i5), .val (.int i6), .val (.int i7), .val (.int i8), .val (.int i9), .val (.int i10), .val (.int i11), .val (.ref o12), .val (.ref o13), .unset, .unset, .unset, .unset, .unset] [])) target := by
  obtain ⟨_, _, ⟨T7, L7, k7, n7⟩, -, X7, ⟨Lc7, hQ7, l7, y7, z7⟩, st7⟩ := Jvm.LawKit.callS X0 hx (y := (⟨"com/example/chance_checker/chancechecker/construction/DistributionSameAsPinLaw", "target0", "(I)I"⟩ : MethodName)) hown (mvT hZ (hw _ (List.mem_of_getElem? (i := 30) rfl))) (mvT hZ (hw _ (List.mem_of_getElem? (i := 31) rfl))) (mvT hZ (hw _ (List.mem_of_getElem? (i := 2) rfl))) (mvT hZ (hw _ (List.mem_of_getElem? (i := 32) rfl))) (by decide) (backOf (W := 0) (rm4 l Z a0 hw [] i1 h0 n0 Z0) hZ (hw _ (List.mem_of_getElem? (i := 32) rfl)) (hw _ (List.mem_of_getElem? (i := 2) rfl)) (by decide) (by decide)) (g := (mkF m 95 #[.val (.int i0), .val (.int i1), .val (.int i2), .val (.int i3), .val (.int i4), .val (.int i5), .val (.int i6), .val (.int i7), .val (.int i8), .val (.int i9), .val (.int i10), .val (.int i11), .val (.ref o12), .val (.ref o13), .unset, .unset, .unset, .unset, .unset] [(.int i1)])) rfl (by rw [hml]; rfl) (argsL := [(.int i1)]) (rest := []) (lenOf pd_0_2 rfl) rfl (by show 2 * 0 + _ ≤ _; exact Nat.le_of_eq rfl) (hb hby at_95) (fun _ _ => ⟨rfl, e0, hcl, hsl⟩)
  dsimp only [Pt.U, Pt.locs, Pt.cells, Pt.slots] at X7 l7 y7 z7 st7 hQ7
  subst l7 y7 z7
  obtain ⟨rfl, rfl, e7⟩ := hQ7
  try rw [List.append_nil] at X7
  obtain ⟨_, _, ⟨T8, L8, k8, n8⟩, -, X8, ⟨Lc8, hQ8, l8, y8, z8⟩, st8⟩ := Jvm.LawKit.callS X7 hx (y := (⟨"com/example/chance_checker/chancechecker/construction/DistributionSameAsPinLaw", "target0", "(I)I"⟩ : MethodName)) hown (mvT hZ (hw _ (List.mem_of_getElem? (i := 30) rfl))) (mvT hZ (hw _ (List.mem_of_getElem? (i := 31) rfl))) (mvT hZ (hw _ (List.mem_of_getElem? (i := 2) rfl))) (mvT hZ (hw _ (List.mem_of_getElem? (i := 32) rfl))) (by decide) (backOf (W := 1) (rm4 l Z a0 hw [] i8 h0 n0 Z0) hZ (hw _ (List.mem_of_getElem? (i := 32) rfl)) (hw _ (List.mem_of_getElem? (i := 2) rfl)) (by decide) (by decide)) (g := (mkF m 100 #[.val (.int i0), .val (.int i1), .val (.int i2), .val (.int i3), .val (.int i4), .val (.int i5), .val (.int i6), .val (.int i7), .val (.int i8), .val (.int i9), .val (.int i10), .val (.int i11), .val (.ref o12), .val (.ref o13), .unset, .unset, .unset, .unset, .unset] [(.int i8), (.int (own_t0 i1))])) rfl (by rw [hml]; rfl) (argsL := [(.int i8)]) (rest := [(.int (own_t0 i1))]) (lenOf pd_0_2 rfl) rfl (by show 2 * 0 + _ ≤ _; exact Nat.le_of_eq rfl) (hb hby at_100) (fun _ _ => ⟨rfl, e7, hcl, hsl⟩)
  dsimp only [Pt.U, Pt.locs, Pt.cells, Pt.slots] at X8 l8 y8 z8 st8 hQ8
  subst l8 y8 z8
  obtain ⟨rfl, rfl, e8⟩ := hQ8
  try rw [List.append_nil] at X8
  refine ⟨T8, X8, e8, fun target kt => ?_⟩
  show Steps p.tables e below (T0.setTop (mkF m 94 #[.val (.int i0), .val (.int i1), .val (.int i2), .val (.int i3), .val (.int i4), .val (.int i5), .val (.int i6), .val (.int i7), .val (.int i8), .val (.int i9), .val (.int i10), .val (.int i11), .val (.ref o12), .val (.ref o13), .unset, .unset, .unset, .unset, .unset] [])) _
  refine XS.iloadN X0.here hx rfl (hb hby at_94) rfl ?_
  show Steps p.tables e below (T0.setTop (mkF m 95 #[.val (.int i0), .val (.int i1), .val (.int i2), .val (.int i3), .val (.int i4), .val (.int i5), .val (.int i6), .val (.int i7), .val (.int i8), .val (.int i9), .val (.int i10), .val (.int i11), .val (.ref o12), .val (.ref o13), .unset, .unset, .unset, .unset, .unset] [(.int i1)])) _
  refine st7 _ ?_
  show Steps p.tables e below (T7.setTop (mkF m 98 #[.val (.int i0), .val (.int i1), .val (.int i2), .val (.int i3), .val (.int i4), .val (.int i5), .val (.int i6), .val (.int i7), .val (.int i8), .val (.int i9), .val (.int i10), .val (.int i11), .val (.ref o12), .val (.ref o13), .unset, .unset, .unset, .unset, .unset] [(.int (own_t0 i1))])) _
  refine XS.iload X7.here hx rfl (hb hby at_98) rfl ?_
  show Steps p.tables e below (T7.setTop (mkF m 100 #[.val (.int i0), .val (.int i1), .val (.int i2), .val (.int i3), .val (.int i4), .val (.int i5), .val (.int i6), .val (.int i7), .val (.int i8), .val (.int i9), .val (.int i10), .val (.int i11), .val (.ref o12), .val (.ref o13), .unset, .unset, .unset, .unset, .unset] [(.int i8), (.int (own_t0 i1))])) _
  refine st8 _ ?_
  show Steps p.tables e below (T8.setTop (mkF m 103 #[.val (.int i0), .val (.int i1), .val (.int i2), .val (.int i3), .val (.int i4), .val (.int i5), .val (.int i6), .val (.int i7), .val (.int i8), .val (.int i9), .val (.int i10), .val (.int i11), .val (.ref o12), .val (.ref o13), .unset, .unset, .unset, .unset, .unset] [(.int (own_t0 i8)), (.int (own_t0 i1))])) _
  refine XS.icmpNo X8.here hx rfl (hb hby at_103) rfl (teq hc103).2 ?_
  show Steps p.tables e below (T8.setTop (mkF m 106 #[.val (.int i0), .val (.int i1), .val (.int i2), .val (.int i3), .val (.int i4), .val (.int i5), .val (.int i6), .val (.int i7), .val (.int i8), .val (.int i9), .val (.int i10), .val (.int i11), .val (.ref o12), .val (.ref o13), .unset, .unset, .unset, .unset, .unset] [])) _
  refine XS.iloadN X8.here hx rfl (hb hby at_106) rfl ?_
  show Steps p.tables e below (T8.setTop (mkF m 107 #[.val (.int i0), .val (.int i1), .val (.int i2), .val (.int i3), .val (.int i4), .val (.int i5), .val (.int i6), .val (.int i7), .val (.int i8), .val (.int i9), .val (.int i10), .val (.int i11), .val (.ref o12), .val (.ref o13), .unset, .unset, .unset, .unset, .unset] [(.int i2)])) _
  refine XS.iload X8.here hx rfl (hb hby at_107) rfl ?_
  show Steps p.tables e below (T8.setTop (mkF m 109 #[.val (.int i0), .val (.int i1), .val (.int i2), .val (.int i3), .val (.int i4), .val (.int i5), .val (.int i6), .val (.int i7), .val (.int i8), .val (.int i9), .val (.int i10), .val (.int i11), .val (.ref o12), .val (.ref o13), .unset, .unset, .unset, .unset, .unset] [(.int i9), (.int i2)])) _
  refine XS.icmpYes X8.here hx rfl (pc0 := 109) (pc' := 130) rfl (hb hby at_109) rfl (feq hc109).2 (by decide) (by decide) ?_
  show Steps p.tables e below (T8.setTop (mkF m 130 #[.val (.int i0), .val (.int i1), .val (.int i2), .val (.int i3), .val (.int i4), .val (.int i5), .val (.int i6), .val (.int i7), .val (.int i8), .val (.int i9), .val (.int i10), .val (.int i11), .val (.ref o12), .val (.ref o13), .unset, .unset, .unset, .unset, .unset] [])) _
  refine XS.iconst X8.here hx rfl (hb hby at_130) ?_
  show Steps p.tables e below (T8.setTop (mkF m 131 #[.val (.int i0), .val (.int i1), .val (.int i2), .val (.int i3), .val (.int i4), .val (.int i5), .val (.int i6), .val (.int i7), .val (.int i8), .val (.int i9), .val (.int i10), .val (.int i11), .val (.ref o12), .val (.ref o13), .unset, .unset, .unset, .unset, .unset] [(.int (0 : Int32))])) _
  refine XS.istore X8.here hx rfl (hb hby at_131) rfl (l' := #[.val (.int i0), .val (.int i1), .val (.int i2), .val (.int i3), .val (.int i4), .val (.int i5), .val (.int i6), .val (.int i7), .val (.int i8), .val (.int i9), .val (.int i10), .val (.int i11), .val (.ref o12), .val (.ref o13), .val (.int (0 : Int32)), .unset, .unset, .unset, .unset]) rfl ?_
  exact kt
theorem pd_0_5 : parseMethodDescriptor "(I)D" = some ⟨[.int], some .double⟩ := by decide +kernel
set_option maxRecDepth 65536 in
set_option maxHeartbeats 40000000 in
theorem own_B_fft {p : Program} {l : Launch} {e : Env} {s : State} {m : MethodId} {args : Array Value} {below : List Frame} {meth : Method} {c : Code} {T0 : State} {locs : List Loc} {cells slots : Nat} {Z : State} {a0 : Array Value} {h0 : Heap} (i0 : Int32) (i1 : Int32) (i2 : Int32) (i3 : Int32) (i4 : Int32) (i5 : Int32) (i6 : Int32) (i7 : Int32) (i8 : Int32) (i9 : Int32) (i10 : Int32) (i11 : Int32) (o12 : Addr) (o13 : Addr)
    (X0 : Stand p l e room_1 s m args below meth c T0 locs cells slots) (hx : p.tables.exec = Jvm.exec) (hZ : Z.Warmed39 s.vm) (hw : ∀ d ∈ tables_1, d.before a0 Z = true) (hby : c.code = code) (hml : c.maxLocals = 19) (hown : s.vm.findClass "com/example/chance_checker/chancechecker/construction/DistributionSameAsPinLaw" = some m.cls) (e0 : T0.heap = h0) (n0 : Nat) (Z0 : n0 ≤ h0.size) (hcl : cells ≤ room_1.cells) (hsl : slots ≤ room_1.slots) (hc103 : (own_t0 i1) = (own_t0 i8)) (hc109 : i2 = i9) (hc123 : ¬ ((cmpValue (FP.dcmp (own_p0 i4) (own_p0 i11)) .l) = (0 : Int32))) :
    ∃ (T' : State), Stand p l e room_1 s m args below meth c T' locs cells slots ∧ T'.heap = h0 ∧
      ∀ target, Steps p.tables e below (T'.setTop (mkF m 133 #[.val (.int i0), .val (.int i1), .val (.int i2), .val (.int i3), .val (.int i4), .val (.int i5), .val (.int i6), .val (.int i7), .val (.int i8), .val (.int i9), .val (.int i10), .val (.int i11), .val (.ref o12), .val (.ref o13), .val (.int (0 : Int32)), .unset, .unset, .unset, .unset] [])) target → Steps p.tables e below (T0.setTop (mkF m 94 #[.val (.int i0), .val (.int i1), .val (.int i2), .val (.int i3), .val (.int i4), .val (.int i5), .val (.int i6), .val (.int i7), .val (.int i8), .val (.int i9), .val (.int i10), .val (.int i11), .val (.ref o12), .val (.ref o13), .unset, .unset, .unset, .unset, .unset] [])) target := by
  obtain ⟨_, _, ⟨T7, L7, k7, n7⟩, -, X7, ⟨Lc7, hQ7, l7, y7, z7⟩, st7⟩ := Jvm.LawKit.callS X0 hx (y := (⟨"com/example/chance_checker/chancechecker/construction/DistributionSameAsPinLaw", "target0", "(I)I"⟩ : MethodName)) hown (mvT hZ (hw _ (List.mem_of_getElem? (i := 30) rfl))) (mvT hZ (hw _ (List.mem_of_getElem? (i := 31) rfl))) (mvT hZ (hw _ (List.mem_of_getElem? (i := 2) rfl))) (mvT hZ (hw _ (List.mem_of_getElem? (i := 32) rfl))) (by decide) (backOf (W := 0) (rm4 l Z a0 hw [] i1 h0 n0 Z0) hZ (hw _ (List.mem_of_getElem? (i := 32) rfl)) (hw _ (List.mem_of_getElem? (i := 2) rfl)) (by decide) (by decide)) (g := (mkF m 95 #[.val (.int i0), .val (.int i1), .val (.int i2), .val (.int i3), .val (.int i4), .val (.int i5), .val (.int i6), .val (.int i7), .val (.int i8), .val (.int i9), .val (.int i10), .val (.int i11), .val (.ref o12), .val (.ref o13), .unset, .unset, .unset, .unset, .unset] [(.int i1)])) rfl (by rw [hml]; rfl) (argsL := [(.int i1)]) (rest := []) (lenOf pd_0_2 rfl) rfl (by show 2 * 0 + _ ≤ _; exact Nat.le_of_eq rfl) (hb hby at_95) (fun _ _ => ⟨rfl, e0, hcl, hsl⟩)
  dsimp only [Pt.U, Pt.locs, Pt.cells, Pt.slots] at X7 l7 y7 z7 st7 hQ7
  subst l7 y7 z7
  obtain ⟨rfl, rfl, e7⟩ := hQ7
  try rw [List.append_nil] at X7
  obtain ⟨_, _, ⟨T8, L8, k8, n8⟩, -, X8, ⟨Lc8, hQ8, l8, y8, z8⟩, st8⟩ := Jvm.LawKit.callS X7 hx (y := (⟨"com/example/chance_checker/chancechecker/construction/DistributionSameAsPinLaw", "target0", "(I)I"⟩ : MethodName)) hown (mvT hZ (hw _ (List.mem_of_getElem? (i := 30) rfl))) (mvT hZ (hw _ (List.mem_of_getElem? (i := 31) rfl))) (mvT hZ (hw _ (List.mem_of_getElem? (i := 2) rfl))) (mvT hZ (hw _ (List.mem_of_getElem? (i := 32) rfl))) (by decide) (backOf (W := 1) (rm4 l Z a0 hw [] i8 h0 n0 Z0) hZ (hw _ (List.mem_of_getElem? (i := 32) rfl)) (hw _ (List.mem_of_getElem? (i := 2) rfl)) (by decide) (by decide)) (g := (mkF m 100 #[.val (.int i0), .val (.int i1), .val (.int i2), .val (.int i3), .val (.int i4), .val (.int i5), .val (.int i6), .val (.int i7), .val (.int i8), .val (.int i9), .val (.int i10), .val (.int i11), .val (.ref o12), .val (.ref o13), .unset, .unset, .unset, .unset, .unset] [(.int i8), (.int (own_t0 i1))])) rfl (by rw [hml]; rfl) (argsL := [(.int i8)]) (rest := [(.int (own_t0 i1))]) (lenOf pd_0_2 rfl) rfl (by show 2 * 0 + _ ≤ _; exact Nat.le_of_eq rfl) (hb hby at_100) (fun _ _ => ⟨rfl, e7, hcl, hsl⟩)
  dsimp only [Pt.U, Pt.locs, Pt.cells, Pt.slots] at X8 l8 y8 z8 st8 hQ8
  subst l8 y8 z8
  obtain ⟨rfl, rfl, e8⟩ := hQ8
  try rw [List.append_nil] at X8
  obtain ⟨_, _, ⟨T9, L9, k9, n9⟩, -, X9, ⟨Lc9, hQ9, l9, y9, z9⟩, st9⟩ := Jvm.LawKit.callS X8 hx (y := (⟨"com/example/chance_checker/chancechecker/construction/DistributionSameAsPinLaw", "prob0", "(I)D"⟩ : MethodName)) hown (mvT hZ (hw _ (List.mem_of_getElem? (i := 44) rfl))) (mvT hZ (hw _ (List.mem_of_getElem? (i := 45) rfl))) (mvT hZ (hw _ (List.mem_of_getElem? (i := 2) rfl))) (mvT hZ (hw _ (List.mem_of_getElem? (i := 46) rfl))) (by decide) (backOf (W := 0) (rm7 l Z a0 hw [] i4 h0 n0 Z0) hZ (hw _ (List.mem_of_getElem? (i := 46) rfl)) (hw _ (List.mem_of_getElem? (i := 2) rfl)) (by decide) (by decide)) (g := (mkF m 114 #[.val (.int i0), .val (.int i1), .val (.int i2), .val (.int i3), .val (.int i4), .val (.int i5), .val (.int i6), .val (.int i7), .val (.int i8), .val (.int i9), .val (.int i10), .val (.int i11), .val (.ref o12), .val (.ref o13), .unset, .unset, .unset, .unset, .unset] [(.int i4)])) rfl (by rw [hml]; rfl) (argsL := [(.int i4)]) (rest := []) (lenOf pd_0_5 rfl) rfl (by show 2 * 0 + _ ≤ _; exact Nat.le_of_eq rfl) (hb hby at_114) (fun _ _ => ⟨rfl, e8, hcl, hsl⟩)
  dsimp only [Pt.U, Pt.locs, Pt.cells, Pt.slots] at X9 l9 y9 z9 st9 hQ9
  subst l9 y9 z9
  obtain ⟨rfl, rfl, e9⟩ := hQ9
  try rw [List.append_nil] at X9
  obtain ⟨_, _, ⟨T10, L10, k10, n10⟩, -, X10, ⟨Lc10, hQ10, l10, y10, z10⟩, st10⟩ := Jvm.LawKit.callS X9 hx (y := (⟨"com/example/chance_checker/chancechecker/construction/DistributionSameAsPinLaw", "prob0", "(I)D"⟩ : MethodName)) hown (mvT hZ (hw _ (List.mem_of_getElem? (i := 44) rfl))) (mvT hZ (hw _ (List.mem_of_getElem? (i := 45) rfl))) (mvT hZ (hw _ (List.mem_of_getElem? (i := 2) rfl))) (mvT hZ (hw _ (List.mem_of_getElem? (i := 46) rfl))) (by decide) (backOf (W := 2) (rm7 l Z a0 hw [] i11 h0 n0 Z0) hZ (hw _ (List.mem_of_getElem? (i := 46) rfl)) (hw _ (List.mem_of_getElem? (i := 2) rfl)) (by decide) (by decide)) (g := (mkF m 119 #[.val (.int i0), .val (.int i1), .val (.int i2), .val (.int i3), .val (.int i4), .val (.int i5), .val (.int i6), .val (.int i7), .val (.int i8), .val (.int i9), .val (.int i10), .val (.int i11), .val (.ref o12), .val (.ref o13), .unset, .unset, .unset, .unset, .unset] [(.int i11), (.double (own_p0 i4))])) rfl (by rw [hml]; rfl) (argsL := [(.int i11)]) (rest := [(.double (own_p0 i4))]) (lenOf pd_0_5 rfl) rfl (by show 2 * 0 + _ ≤ _; exact Nat.le_of_eq rfl) (hb hby at_119) (fun _ _ => ⟨rfl, e9, hcl, hsl⟩)
  dsimp only [Pt.U, Pt.locs, Pt.cells, Pt.slots] at X10 l10 y10 z10 st10 hQ10
  subst l10 y10 z10
  obtain ⟨rfl, rfl, e10⟩ := hQ10
  try rw [List.append_nil] at X10
  refine ⟨T10, X10, e10, fun target kt => ?_⟩
  show Steps p.tables e below (T0.setTop (mkF m 94 #[.val (.int i0), .val (.int i1), .val (.int i2), .val (.int i3), .val (.int i4), .val (.int i5), .val (.int i6), .val (.int i7), .val (.int i8), .val (.int i9), .val (.int i10), .val (.int i11), .val (.ref o12), .val (.ref o13), .unset, .unset, .unset, .unset, .unset] [])) _
  refine XS.iloadN X0.here hx rfl (hb hby at_94) rfl ?_
  show Steps p.tables e below (T0.setTop (mkF m 95 #[.val (.int i0), .val (.int i1), .val (.int i2), .val (.int i3), .val (.int i4), .val (.int i5), .val (.int i6), .val (.int i7), .val (.int i8), .val (.int i9), .val (.int i10), .val (.int i11), .val (.ref o12), .val (.ref o13), .unset, .unset, .unset, .unset, .unset] [(.int i1)])) _
  refine st7 _ ?_
  show Steps p.tables e below (T7.setTop (mkF m 98 #[.val (.int i0), .val (.int i1), .val (.int i2), .val (.int i3), .val (.int i4), .val (.int i5), .val (.int i6), .val (.int i7), .val (.int i8), .val (.int i9), .val (.int i10), .val (.int i11), .val (.ref o12), .val (.ref o13), .unset, .unset, .unset, .unset, .unset] [(.int (own_t0 i1))])) _
  refine XS.iload X7.here hx rfl (hb hby at_98) rfl ?_
  show Steps p.tables e below (T7.setTop (mkF m 100 #[.val (.int i0), .val (.int i1), .val (.int i2), .val (.int i3), .val (.int i4), .val (.int i5), .val (.int i6), .val (.int i7), .val (.int i8), .val (.int i9), .val (.int i10), .val (.int i11), .val (.ref o12), .val (.ref o13), .unset, .unset, .unset, .unset, .unset] [(.int i8), (.int (own_t0 i1))])) _
  refine st8 _ ?_
  show Steps p.tables e below (T8.setTop (mkF m 103 #[.val (.int i0), .val (.int i1), .val (.int i2), .val (.int i3), .val (.int i4), .val (.int i5), .val (.int i6), .val (.int i7), .val (.int i8), .val (.int i9), .val (.int i10), .val (.int i11), .val (.ref o12), .val (.ref o13), .unset, .unset, .unset, .unset, .unset] [(.int (own_t0 i8)), (.int (own_t0 i1))])) _
  refine XS.icmpNo X8.here hx rfl (hb hby at_103) rfl (teq hc103).2 ?_
  show Steps p.tables e below (T8.setTop (mkF m 106 #[.val (.int i0), .val (.int i1), .val (.int i2), .val (.int i3), .val (.int i4), .val (.int i5), .val (.int i6), .val (.int i7), .val (.int i8), .val (.int i9), .val (.int i10), .val (.int i11), .val (.ref o12), .val (.ref o13), .unset, .unset, .unset, .unset, .unset] [])) _
  refine XS.iloadN X8.here hx rfl (hb hby at_106) rfl ?_
  show Steps p.tables e below (T8.setTop (mkF m 107 #[.val (.int i0), .val (.int i1), .val (.int i2), .val (.int i3), .val (.int i4), .val (.int i5), .val (.int i6), .val (.int i7), .val (.int i8), .val (.int i9), .val (.int i10), .val (.int i11), .val (.ref o12), .val (.ref o13), .unset, .unset, .unset, .unset, .unset] [(.int i2)])) _
  refine XS.iload X8.here hx rfl (hb hby at_107) rfl ?_
  show Steps p.tables e below (T8.setTop (mkF m 109 #[.val (.int i0), .val (.int i1), .val (.int i2), .val (.int i3), .val (.int i4), .val (.int i5), .val (.int i6), .val (.int i7), .val (.int i8), .val (.int i9), .val (.int i10), .val (.int i11), .val (.ref o12), .val (.ref o13), .unset, .unset, .unset, .unset, .unset] [(.int i9), (.int i2)])) _
  refine XS.icmpNo X8.here hx rfl (hb hby at_109) rfl (teq hc109).2 ?_
  show Steps p.tables e below (T8.setTop (mkF m 112 #[.val (.int i0), .val (.int i1), .val (.int i2), .val (.int i3), .val (.int i4), .val (.int i5), .val (.int i6), .val (.int i7), .val (.int i8), .val (.int i9), .val (.int i10), .val (.int i11), .val (.ref o12), .val (.ref o13), .unset, .unset, .unset, .unset, .unset] [])) _
  refine XS.iload X8.here hx rfl (hb hby at_112) rfl ?_
  show Steps p.tables e below (T8.setTop (mkF m 114 #[.val (.int i0), .val (.int i1), .val (.int i2), .val (.int i3), .val (.int i4), .val (.int i5), .val (.int i6), .val (.int i7), .val (.int i8), .val (.int i9), .val (.int i10), .val (.int i11), .val (.ref o12), .val (.ref o13), .unset, .unset, .unset, .unset, .unset] [(.int i4)])) _
  refine st9 _ ?_
  show Steps p.tables e below (T9.setTop (mkF m 117 #[.val (.int i0), .val (.int i1), .val (.int i2), .val (.int i3), .val (.int i4), .val (.int i5), .val (.int i6), .val (.int i7), .val (.int i8), .val (.int i9), .val (.int i10), .val (.int i11), .val (.ref o12), .val (.ref o13), .unset, .unset, .unset, .unset, .unset] [(.double (own_p0 i4))])) _
  refine XS.iload X9.here hx rfl (hb hby at_117) rfl ?_
  show Steps p.tables e below (T9.setTop (mkF m 119 #[.val (.int i0), .val (.int i1), .val (.int i2), .val (.int i3), .val (.int i4), .val (.int i5), .val (.int i6), .val (.int i7), .val (.int i8), .val (.int i9), .val (.int i10), .val (.int i11), .val (.ref o12), .val (.ref o13), .unset, .unset, .unset, .unset, .unset] [(.int i11), (.double (own_p0 i4))])) _
  refine st10 _ ?_
  show Steps p.tables e below (T10.setTop (mkF m 122 #[.val (.int i0), .val (.int i1), .val (.int i2), .val (.int i3), .val (.int i4), .val (.int i5), .val (.int i6), .val (.int i7), .val (.int i8), .val (.int i9), .val (.int i10), .val (.int i11), .val (.ref o12), .val (.ref o13), .unset, .unset, .unset, .unset, .unset] [(.double (own_p0 i11)), (.double (own_p0 i4))])) _
  refine XS.dcmpS X10.here hx rfl (hb hby at_122) rfl rfl ?_
  show Steps p.tables e below (T10.setTop (mkF m 123 #[.val (.int i0), .val (.int i1), .val (.int i2), .val (.int i3), .val (.int i4), .val (.int i5), .val (.int i6), .val (.int i7), .val (.int i8), .val (.int i9), .val (.int i10), .val (.int i11), .val (.ref o12), .val (.ref o13), .unset, .unset, .unset, .unset, .unset] [(.int (cmpValue (FP.dcmp (own_p0 i4) (own_p0 i11)) .l))])) _
  refine XS.ifYes X10.here hx rfl (pc0 := 123) (pc' := 130) rfl (hb hby at_123) rfl ((if0 _ _).trans (feq hc123).2) (by decide) (by decide) ?_
  show Steps p.tables e below (T10.setTop (mkF m 130 #[.val (.int i0), .val (.int i1), .val (.int i2), .val (.int i3), .val (.int i4), .val (.int i5), .val (.int i6), .val (.int i7), .val (.int i8), .val (.int i9), .val (.int i10), .val (.int i11), .val (.ref o12), .val (.ref o13), .unset, .unset, .unset, .unset, .unset] [])) _
  refine XS.iconst X10.here hx rfl (hb hby at_130) ?_
  show Steps p.tables e below (T10.setTop (mkF m 131 #[.val (.int i0), .val (.int i1), .val (.int i2), .val (.int i3), .val (.int i4), .val (.int i5), .val (.int i6), .val (.int i7), .val (.int i8), .val (.int i9), .val (.int i10), .val (.int i11), .val (.ref o12), .val (.ref o13), .unset, .unset, .unset, .unset, .unset] [(.int (0 : Int32))])) _
  refine XS.istore X10.here hx rfl (hb hby at_131) rfl (l' := #[.val (.int i0), .val (.int i1), .val (.int i2), .val (.int i3), .val (.int i4), .val (.int i5), .val (.int i6), .val (.int i7), .val (.int i8), .val (.int i9), .val (.int i10), .val (.int i11), .val (.ref o12), .val (.ref o13), .val (.int (0 : Int32)), .unset, .unset, .unset, .unset]) rfl ?_
  exact kt
set_option maxRecDepth 65536 in
set_option maxHeartbeats 40000000 in
theorem own_B_fff {p : Program} {l : Launch} {e : Env} {s : State} {m : MethodId} {args : Array Value} {below : List Frame} {meth : Method} {c : Code} {T0 : State} {locs : List Loc} {cells slots : Nat} {Z : State} {a0 : Array Value} {h0 : Heap} (i0 : Int32) (i1 : Int32) (i2 : Int32) (i3 : Int32) (i4 : Int32) (i5 : Int32) (i6 : Int32) (i7 : Int32) (i8 : Int32) (i9 : Int32) (i10 : Int32) (i11 : Int32) (o12 : Addr) (o13 : Addr)
    (X0 : Stand p l e room_1 s m args below meth c T0 locs cells slots) (hx : p.tables.exec = Jvm.exec) (hZ : Z.Warmed39 s.vm) (hw : ∀ d ∈ tables_1, d.before a0 Z = true) (hby : c.code = code) (hml : c.maxLocals = 19) (hown : s.vm.findClass "com/example/chance_checker/chancechecker/construction/DistributionSameAsPinLaw" = some m.cls) (e0 : T0.heap = h0) (n0 : Nat) (Z0 : n0 ≤ h0.size) (hcl : cells ≤ room_1.cells) (hsl : slots ≤ room_1.slots) (hc103 : (own_t0 i1) = (own_t0 i8)) (hc109 : i2 = i9) (hc123 : (cmpValue (FP.dcmp (own_p0 i4) (own_p0 i11)) .l) = (0 : Int32)) :
    ∃ (T' : State), Stand p l e room_1 s m args below meth c T' locs cells slots ∧ T'.heap = h0 ∧
      ∀ target, Steps p.tables e below (T'.setTop (mkF m 133 #[.val (.int i0), .val (.int i1), .val (.int i2), .val (.int i3), .val (.int i4), .val (.int i5), .val (.int i6), .val (.int i7), .val (.int i8), .val (.int i9), .val (.int i10), .val (.int i11), .val (.ref o12), .val (.ref o13), .val (.int (1 : Int32)), .unset, .unset, .unset, .unset] [])) target → Steps p.tables e below (T0.setTop (mkF m 94 #[.val (.int i0), .val (.int i1), .val (.int i2), .val (.int i3), .val (.int i4), .val (.int i5), .val (.int i6), .val (.int i7), .val (.int i8), .val (.int i9), .val (.int i10), .val (.int i11), .val (.ref o12), .val (.ref o13), .unset, .unset, .unset, .unset, .unset] [])) target := by
  obtain ⟨_, _, ⟨T7, L7, k7, n7⟩, -, X7, ⟨Lc7, hQ7, l7, y7, z7⟩, st7⟩ := Jvm.LawKit.callS X0 hx (y := (⟨"com/example/chance_checker/chancechecker/construction/DistributionSameAsPinLaw", "target0", "(I)I"⟩ : MethodName)) hown (mvT hZ (hw _ (List.mem_of_getElem? (i := 30) rfl))) (mvT hZ (hw _ (List.mem_of_getElem? (i := 31) rfl))) (mvT hZ (hw _ (List.mem_of_getElem? (i := 2) rfl))) (mvT hZ (hw _ (List.mem_of_getElem? (i := 32) rfl))) (by decide) (backOf (W := 0) (rm4 l Z a0 hw [] i1 h0 n0 Z0) hZ (hw _ (List.mem_of_getElem? (i := 32) rfl)) (hw _ (List.mem_of_getElem? (i := 2) rfl)) (by decide) (by decide)) (g := (mkF m 95 #[.val (.int i0), .val (.int i1), .val (.int i2), .val (.int i3), .val (.int i4), .val (.int i5), .val (.int i6), .val (.int i7), .val (.int i8), .val (.int i9), .val (.int i10), .val (.int i11), .val (.ref o12), .val (.ref o13), .unset, .unset, .unset, .unset, .unset] [(.int i1)])) rfl (by rw [hml]; rfl) (argsL := [(.int i1)]) (rest := []) (lenOf pd_0_2 rfl) rfl (by show 2 * 0 + _ ≤ _; exact Nat.le_of_eq rfl) (hb hby at_95) (fun _ _ => ⟨rfl, e0, hcl, hsl⟩)
  dsimp only [Pt.U, Pt.locs, Pt.cells, Pt.slots] at X7 l7 y7 z7 st7 hQ7
  subst l7 y7 z7
  obtain ⟨rfl, rfl, e7⟩ := hQ7
  try rw [List.append_nil] at X7
  obtain ⟨_, _, ⟨T8, L8, k8, n8⟩, -, X8, ⟨Lc8, hQ8, l8, y8, z8⟩, st8⟩ := Jvm.LawKit.callS X7 hx (y := (⟨"com/example/chance_checker/chancechecker/construction/DistributionSameAsPinLaw", "target0", "(I)I"⟩ : MethodName)) hown (mvT hZ (hw _ (List.mem_of_getElem? (i := 30) rfl))) (mvT hZ (hw _ (List.mem_of_getElem? (i := 31) rfl))) (mvT hZ (hw _ (List.mem_of_getElem? (i := 2) rfl))) (mvT hZ (hw _ (List.mem_of_getElem? (i := 32) rfl))) (by decide) (backOf (W := 1) (rm4 l Z a0 hw [] i8 h0 n0 Z0) hZ (hw _ (List.mem_of_getElem? (i := 32) rfl)) (hw _ (List.mem_of_getElem? (i := 2) rfl)) (by decide) (by decide)) (g := (mkF m 100 #[.val (.int i0), .val (.int i1), .val (.int i2), .val (.int i3), .val (.int i4), .val (.int i5), .val (.int i6), .val (.int i7), .val (.int i8), .val (.int i9), .val (.int i10), .val (.int i11), .val (.ref o12), .val (.ref o13), .unset, .unset, .unset, .unset, .unset] [(.int i8), (.int (own_t0 i1))])) rfl (by rw [hml]; rfl) (argsL := [(.int i8)]) (rest := [(.int (own_t0 i1))]) (lenOf pd_0_2 rfl) rfl (by show 2 * 0 + _ ≤ _; exact Nat.le_of_eq rfl) (hb hby at_100) (fun _ _ => ⟨rfl, e7, hcl, hsl⟩)
  dsimp only [Pt.U, Pt.locs, Pt.cells, Pt.slots] at X8 l8 y8 z8 st8 hQ8
  subst l8 y8 z8
  obtain ⟨rfl, rfl, e8⟩ := hQ8
  try rw [List.append_nil] at X8
  obtain ⟨_, _, ⟨T9, L9, k9, n9⟩, -, X9, ⟨Lc9, hQ9, l9, y9, z9⟩, st9⟩ := Jvm.LawKit.callS X8 hx (y := (⟨"com/example/chance_checker/chancechecker/construction/DistributionSameAsPinLaw", "prob0", "(I)D"⟩ : MethodName)) hown (mvT hZ (hw _ (List.mem_of_getElem? (i := 44) rfl))) (mvT hZ (hw _ (List.mem_of_getElem? (i := 45) rfl))) (mvT hZ (hw _ (List.mem_of_getElem? (i := 2) rfl))) (mvT hZ (hw _ (List.mem_of_getElem? (i := 46) rfl))) (by decide) (backOf (W := 0) (rm7 l Z a0 hw [] i4 h0 n0 Z0) hZ (hw _ (List.mem_of_getElem? (i := 46) rfl)) (hw _ (List.mem_of_getElem? (i := 2) rfl)) (by decide) (by decide)) (g := (mkF m 114 #[.val (.int i0), .val (.int i1), .val (.int i2), .val (.int i3), .val (.int i4), .val (.int i5), .val (.int i6), .val (.int i7), .val (.int i8), .val (.int i9), .val (.int i10), .val (.int i11), .val (.ref o12), .val (.ref o13), .unset, .unset, .unset, .unset, .unset] [(.int i4)])) rfl (by rw [hml]; rfl) (argsL := [(.int i4)]) (rest := []) (lenOf pd_0_5 rfl) rfl (by show 2 * 0 + _ ≤ _; exact Nat.le_of_eq rfl) (hb hby at_114) (fun _ _ => ⟨rfl, e8, hcl, hsl⟩)
  dsimp only [Pt.U, Pt.locs, Pt.cells, Pt.slots] at X9 l9 y9 z9 st9 hQ9
  subst l9 y9 z9
  obtain ⟨rfl, rfl, e9⟩ := hQ9
  try rw [List.append_nil] at X9
  obtain ⟨_, _, ⟨T10, L10, k10, n10⟩, -, X10, ⟨Lc10, hQ10, l10, y10, z10⟩, st10⟩ := Jvm.LawKit.callS X9 hx (y := (⟨"com/example/chance_checker/chancechecker/construction/DistributionSameAsPinLaw", "prob0", "(I)D"⟩ : MethodName)) hown (mvT hZ (hw _ (List.mem_of_getElem? (i := 44) rfl))) (mvT hZ (hw _ (List.mem_of_getElem? (i := 45) rfl))) (mvT hZ (hw _ (List.mem_of_getElem? (i := 2) rfl))) (mvT hZ (hw _ (List.mem_of_getElem? (i := 46) rfl))) (by decide) (backOf (W := 2) (rm7 l Z a0 hw [] i11 h0 n0 Z0) hZ (hw _ (List.mem_of_getElem? (i := 46) rfl)) (hw _ (List.mem_of_getElem? (i := 2) rfl)) (by decide) (by decide)) (g := (mkF m 119 #[.val (.int i0), .val (.int i1), .val (.int i2), .val (.int i3), .val (.int i4), .val (.int i5), .val (.int i6), .val (.int i7), .val (.int i8), .val (.int i9), .val (.int i10), .val (.int i11), .val (.ref o12), .val (.ref o13), .unset, .unset, .unset, .unset, .unset] [(.int i11), (.double (own_p0 i4))])) rfl (by rw [hml]; rfl) (argsL := [(.int i11)]) (rest := [(.double (own_p0 i4))]) (lenOf pd_0_5 rfl) rfl (by show 2 * 0 + _ ≤ _; exact Nat.le_of_eq rfl) (hb hby at_119) (fun _ _ => ⟨rfl, e9, hcl, hsl⟩)
  dsimp only [Pt.U, Pt.locs, Pt.cells, Pt.slots] at X10 l10 y10 z10 st10 hQ10
  subst l10 y10 z10
  obtain ⟨rfl, rfl, e10⟩ := hQ10
  try rw [List.append_nil] at X10
  refine ⟨T10, X10, e10, fun target kt => ?_⟩
  show Steps p.tables e below (T0.setTop (mkF m 94 #[.val (.int i0), .val (.int i1), .val (.int i2), .val (.int i3), .val (.int i4), .val (.int i5), .val (.int i6), .val (.int i7), .val (.int i8), .val (.int i9), .val (.int i10), .val (.int i11), .val (.ref o12), .val (.ref o13), .unset, .unset, .unset, .unset, .unset] [])) _
  refine XS.iloadN X0.here hx rfl (hb hby at_94) rfl ?_
  show Steps p.tables e below (T0.setTop (mkF m 95 #[.val (.int i0), .val (.int i1), .val (.int i2), .val (.int i3), .val (.int i4), .val (.int i5), .val (.int i6), .val (.int i7), .val (.int i8), .val (.int i9), .val (.int i10), .val (.int i11), .val (.ref o12), .val (.ref o13), .unset, .unset, .unset, .unset, .unset] [(.int i1)])) _
  refine st7 _ ?_
  show Steps p.tables e below (T7.setTop (mkF m 98 #[.val (.int i0), .val (.int i1), .val (.int i2), .val (.int i3), .val (.int i4), .val (.int i5), .val (.int i6), .val (.int i7), .val (.int i8), .val (.int i9), .val (.int i10), .val (.int i11), .val (.ref o12), .val (.ref o13), .unset, .unset, .unset, .unset, .unset] [(.int (own_t0 i1))])) _
  refine XS.iload X7.here hx rfl (hb hby at_98) rfl ?_
  show Steps p.tables e below (T7.setTop (mkF m 100 #[.val (.int i0), .val (.int i1), .val (.int i2), .val (.int i3), .val (.int i4), .val (.int i5), .val (.int i6), .val (.int i7), .val (.int i8), .val (.int i9), .val (.int i10), .val (.int i11), .val (.ref o12), .val (.ref o13), .unset, .unset, .unset, .unset, .unset] [(.int i8), (.int (own_t0 i1))])) _
  refine st8 _ ?_
  show Steps p.tables e below (T8.setTop (mkF m 103 #[.val (.int i0), .val (.int i1), .val (.int i2), .val (.int i3), .val (.int i4), .val (.int i5), .val (.int i6), .val (.int i7), .val (.int i8), .val (.int i9), .val (.int i10), .val (.int i11), .val (.ref o12), .val (.ref o13), .unset, .unset, .unset, .unset, .unset] [(.int (own_t0 i8)), (.int (own_t0 i1))])) _
  refine XS.icmpNo X8.here hx rfl (hb hby at_103) rfl (teq hc103).2 ?_
  show Steps p.tables e below (T8.setTop (mkF m 106 #[.val (.int i0), .val (.int i1), .val (.int i2), .val (.int i3), .val (.int i4), .val (.int i5), .val (.int i6), .val (.int i7), .val (.int i8), .val (.int i9), .val (.int i10), .val (.int i11), .val (.ref o12), .val (.ref o13), .unset, .unset, .unset, .unset, .unset] [])) _
  refine XS.iloadN X8.here hx rfl (hb hby at_106) rfl ?_
  show Steps p.tables e below (T8.setTop (mkF m 107 #[.val (.int i0), .val (.int i1), .val (.int i2), .val (.int i3), .val (.int i4), .val (.int i5), .val (.int i6), .val (.int i7), .val (.int i8), .val (.int i9), .val (.int i10), .val (.int i11), .val (.ref o12), .val (.ref o13), .unset, .unset, .unset, .unset, .unset] [(.int i2)])) _
  refine XS.iload X8.here hx rfl (hb hby at_107) rfl ?_
  show Steps p.tables e below (T8.setTop (mkF m 109 #[.val (.int i0), .val (.int i1), .val (.int i2), .val (.int i3), .val (.int i4), .val (.int i5), .val (.int i6), .val (.int i7), .val (.int i8), .val (.int i9), .val (.int i10), .val (.int i11), .val (.ref o12), .val (.ref o13), .unset, .unset, .unset, .unset, .unset] [(.int i9), (.int i2)])) _
  refine XS.icmpNo X8.here hx rfl (hb hby at_109) rfl (teq hc109).2 ?_
  show Steps p.tables e below (T8.setTop (mkF m 112 #[.val (.int i0), .val (.int i1), .val (.int i2), .val (.int i3), .val (.int i4), .val (.int i5), .val (.int i6), .val (.int i7), .val (.int i8), .val (.int i9), .val (.int i10), .val (.int i11), .val (.ref o12), .val (.ref o13), .unset, .unset, .unset, .unset, .unset] [])) _
  refine XS.iload X8.here hx rfl (hb hby at_112) rfl ?_
  show Steps p.tables e below (T8.setTop (mkF m 114 #[.val (.int i0), .val (.int i1), .val (.int i2), .val (.int i3), .val (.int i4), .val (.int i5), .val (.int i6), .val (.int i7), .val (.int i8), .val (.int i9), .val (.int i10), .val (.int i11), .val (.ref o12), .val (.ref o13), .unset, .unset, .unset, .unset, .unset] [(.int i4)])) _
  refine st9 _ ?_
  show Steps p.tables e below (T9.setTop (mkF m 117 #[.val (.int i0), .val (.int i1), .val (.int i2), .val (.int i3), .val (.int i4), .val (.int i5), .val (.int i6), .val (.int i7), .val (.int i8), .val (.int i9), .val (.int i10), .val (.int i11), .val (.ref o12), .val (.ref o13), .unset, .unset, .unset, .unset, .unset] [(.double (own_p0 i4))])) _
  refine XS.iload X9.here hx rfl (hb hby at_117) rfl ?_
  show Steps p.tables e below (T9.setTop (mkF m 119 #[.val (.int i0), .val (.int i1), .val (.int i2), .val (.int i3), .val (.int i4), .val (.int i5), .val (.int i6), .val (.int i7), .val (.int i8), .val (.int i9), .val (.int i10), .val (.int i11), .val (.ref o12), .val (.ref o13), .unset, .unset, .unset, .unset, .unset] [(.int i11), (.double (own_p0 i4))])) _
  refine st10 _ ?_
  show Steps p.tables e below (T10.setTop (mkF m 122 #[.val (.int i0), .val (.int i1), .val (.int i2), .val (.int i3), .val (.int i4), .val (.int i5), .val (.int i6), .val (.int i7), .val (.int i8), .val (.int i9), .val (.int i10), .val (.int i11), .val (.ref o12), .val (.ref o13), .unset, .unset, .unset, .unset, .unset] [(.double (own_p0 i11)), (.double (own_p0 i4))])) _
  refine XS.dcmpS X10.here hx rfl (hb hby at_122) rfl rfl ?_
  show Steps p.tables e below (T10.setTop (mkF m 123 #[.val (.int i0), .val (.int i1), .val (.int i2), .val (.int i3), .val (.int i4), .val (.int i5), .val (.int i6), .val (.int i7), .val (.int i8), .val (.int i9), .val (.int i10), .val (.int i11), .val (.ref o12), .val (.ref o13), .unset, .unset, .unset, .unset, .unset] [(.int (cmpValue (FP.dcmp (own_p0 i4) (own_p0 i11)) .l))])) _
  refine XS.ifNo X10.here hx rfl (hb hby at_123) rfl ((if0 _ _).trans (teq hc123).2) ?_
  show Steps p.tables e below (T10.setTop (mkF m 126 #[.val (.int i0), .val (.int i1), .val (.int i2), .val (.int i3), .val (.int i4), .val (.int i5), .val (.int i6), .val (.int i7), .val (.int i8), .val (.int i9), .val (.int i10), .val (.int i11), .val (.ref o12), .val (.ref o13), .unset, .unset, .unset, .unset, .unset] [])) _
  refine XS.iconst X10.here hx rfl (hb hby at_126) ?_
  show Steps p.tables e below (T10.setTop (mkF m 127 #[.val (.int i0), .val (.int i1), .val (.int i2), .val (.int i3), .val (.int i4), .val (.int i5), .val (.int i6), .val (.int i7), .val (.int i8), .val (.int i9), .val (.int i10), .val (.int i11), .val (.ref o12), .val (.ref o13), .unset, .unset, .unset, .unset, .unset] [(.int (1 : Int32))])) _
  refine XS.goto X10.here hx rfl (pc0 := 127) (pc' := 131) rfl (hb hby at_127) (by decide) (by decide) ?_
  show Steps p.tables e below (T10.setTop (mkF m 131 #[.val (.int i0), .val (.int i1), .val (.int i2), .val (.int i3), .val (.int i4), .val (.int i5), .val (.int i6), .val (.int i7), .val (.int i8), .val (.int i9), .val (.int i10), .val (.int i11), .val (.ref o12), .val (.ref o13), .unset, .unset, .unset, .unset, .unset] [(.int (1 : Int32))])) _
  refine XS.istore X10.here hx rfl (hb hby at_131) rfl (l' := #[.val (.int i0), .val (.int i1), .val (.int i2), .val (.int i3), .val (.int i4), .val (.int i5), .val (.int i6), .val (.int i7), .val (.int i8), .val (.int i9), .val (.int i10), .val (.int i11), .val (.ref o12), .val (.ref o13), .val (.int (1 : Int32)), .unset, .unset, .unset, .unset]) rfl ?_
  exact kt
theorem pd_0_3 : parseMethodDescriptor "(II)I" = some ⟨[.int, .int], some .int⟩ := by decide +kernel
set_option maxRecDepth 65536 in
set_option maxHeartbeats 40000000 in
theorem own_C_t {p : Program} {l : Launch} {e : Env} {s : State} {m : MethodId} {args : Array Value} {below : List Frame} {meth : Method} {c : Code} {T0 : State} {locs : List Loc} {cells slots : Nat} {Z : State} {a0 : Array Value} {h0 : Heap} (i0 : Int32) (i1 : Int32) (i2 : Int32) (i3 : Int32) (i4 : Int32) (i5 : Int32) (i6 : Int32) (i7 : Int32) (i8 : Int32) (i9 : Int32) (i10 : Int32) (i11 : Int32) (o12 : Addr) (o13 : Addr) (i14 : Int32)
    (X0 : Stand p l e room_1 s m args below meth c T0 locs cells slots) (hx : p.tables.exec = Jvm.exec) (hZ : Z.Warmed39 s.vm) (hw : ∀ d ∈ tables_1, d.before a0 Z = true) (hby : c.code = code) (hml : c.maxLocals = 19) (hown : s.vm.findClass "com/example/chance_checker/chancechecker/construction/DistributionSameAsPinLaw" = some m.cls) (e0 : T0.heap = h0) (n0 : Nat) (Z0 : n0 ≤ h0.size) (hcl : cells ≤ room_1.cells) (hsl : slots ≤ room_1.slots) (hc145 : ¬ ((own_t1 i1 i3) = (own_t1 i8 i10))) :
    ∃ (T' : State), Stand p l e room_1 s m args below meth c T' locs cells slots ∧ T'.heap = h0 ∧
      ∀ target, Steps p.tables e below (T'.setTop (mkF m 184 #[.val (.int i0), .val (.int i1), .val (.int i2), .val (.int i3), .val (.int i4), .val (.int i5), .val (.int i6), .val (.int i7), .val (.int i8), .val (.int i9), .val (.int i10), .val (.int i11), .val (.ref o12), .val (.ref o13), .val (.int i14), .val (.int (0 : Int32)), .unset, .unset, .unset] [])) target → Steps p.tables e below (T0.setTop (mkF m 133 #[.val (.int i0), .val (.int i1), .val (.int i2), .val (.int i3), .val (.int i4), .val (.int i5), .val (.int i6), .val (.int i7), .val (.int i8), .val (.int i9), .val (.int i10), .val (.int i11), .val (.ref o12), .val (.ref o13), .val (.int i14), .unset, .unset, .unset, .unset] [])) target := by
  obtain ⟨_, _, ⟨T7, L7, k7, n7⟩, -, X7, ⟨Lc7, hQ7, l7, y7, z7⟩, st7⟩ := Jvm.LawKit.callS X0 hx (y := (⟨"com/example/chance_checker/chancechecker/construction/DistributionSameAsPinLaw", "target1", "(II)I"⟩ : MethodName)) hown (mvT hZ (hw _ (List.mem_of_getElem? (i := 34) rfl))) (mvT hZ (hw _ (List.mem_of_getElem? (i := 35) rfl))) (mvT hZ (hw _ (List.mem_of_getElem? (i := 2) rfl))) (mvT hZ (hw _ (List.mem_of_getElem? (i := 36) rfl))) (by decide) (backOf (W := 0) (rm5 l Z a0 hw [] i1 i3 h0 n0 Z0) hZ (hw _ (List.mem_of_getElem? (i := 36) rfl)) (hw _ (List.mem_of_getElem? (i := 2) rfl)) (by decide) (by decide)) (g := (mkF m 135 #[.val (.int i0), .val (.int i1), .val (.int i2), .val (.int i3), .val (.int i4), .val (.int i5), .val (.int i6), .val (.int i7), .val (.int i8), .val (.int i9), .val (.int i10), .val (.int i11), .val (.ref o12), .val (.ref o13), .val (.int i14), .unset, .unset, .unset, .unset] [(.int i3), (.int i1)])) rfl (by rw [hml]; rfl) (argsL := [(.int i1), (.int i3)]) (rest := []) (lenOf pd_0_3 rfl) rfl (by show 2 * 0 + _ ≤ _; exact Nat.le_of_eq rfl) (hb hby at_135) (fun _ _ => ⟨rfl, e0, hcl, hsl⟩)
  dsimp only [Pt.U, Pt.locs, Pt.cells, Pt.slots] at X7 l7 y7 z7 st7 hQ7
  subst l7 y7 z7
  obtain ⟨rfl, rfl, e7⟩ := hQ7
  try rw [List.append_nil] at X7
  obtain ⟨_, _, ⟨T8, L8, k8, n8⟩, -, X8, ⟨Lc8, hQ8, l8, y8, z8⟩, st8⟩ := Jvm.LawKit.callS X7 hx (y := (⟨"com/example/chance_checker/chancechecker/construction/DistributionSameAsPinLaw", "target1", "(II)I"⟩ : MethodName)) hown (mvT hZ (hw _ (List.mem_of_getElem? (i := 34) rfl))) (mvT hZ (hw _ (List.mem_of_getElem? (i := 35) rfl))) (mvT hZ (hw _ (List.mem_of_getElem? (i := 2) rfl))) (mvT hZ (hw _ (List.mem_of_getElem? (i := 36) rfl))) (by decide) (backOf (W := 1) (rm5 l Z a0 hw [] i8 i10 h0 n0 Z0) hZ (hw _ (List.mem_of_getElem? (i := 36) rfl)) (hw _ (List.mem_of_getElem? (i := 2) rfl)) (by decide) (by decide)) (g := (mkF m 142 #[.val (.int i0), .val (.int i1), .val (.int i2), .val (.int i3), .val (.int i4), .val (.int i5), .val (.int i6), .val (.int i7), .val (.int i8), .val (.int i9), .val (.int i10), .val (.int i11), .val (.ref o12), .val (.ref o13), .val (.int i14), .unset, .unset, .unset, .unset] [(.int i10), (.int i8), (.int (own_t1 i1 i3))])) rfl (by rw [hml]; rfl) (argsL := [(.int i8), (.int i10)]) (rest := [(.int (own_t1 i1 i3))]) (lenOf pd_0_3 rfl) rfl (by show 2 * 0 + _ ≤ _; exact Nat.le_of_eq rfl) (hb hby at_142) (fun _ _ => ⟨rfl, e7, hcl, hsl⟩)
  dsimp only [Pt.U, Pt.locs, Pt.cells, Pt.slots] at X8 l8 y8 z8 st8 hQ8
  subst l8 y8 z8
  obtain ⟨rfl, rfl, e8⟩ := hQ8
  try rw [List.append_nil] at X8
  refine ⟨T8, X8, e8, fun target kt => ?_⟩
  show Steps p.tables e below (T0.setTop (mkF m 133 #[.val (.int i0), .val (.int i1), .val (.int i2), .val (.int i3), .val (.int i4), .val (.int i5), .val (.int i6), .val (.int i7), .val (.int i8), .val (.int i9), .val (.int i10), .val (.int i11), .val (.ref o12), .val (.ref o13), .val (.int i14), .unset, .unset, .unset, .unset] [])) _
  refine XS.iloadN X0.here hx rfl (hb hby at_133) rfl ?_
  show Steps p.tables e below (T0.setTop (mkF m 134 #[.val (.int i0), .val (.int i1), .val (.int i2), .val (.int i3), .val (.int i4), .val (.int i5), .val (.int i6), .val (.int i7), .val (.int i8), .val (.int i9), .val (.int i10), .val (.int i11), .val (.ref o12), .val (.ref o13), .val (.int i14), .unset, .unset, .unset, .unset] [(.int i1)])) _
  refine XS.iloadN X0.here hx rfl (hb hby at_134) rfl ?_
  show Steps p.tables e below (T0.setTop (mkF m 135 #[.val (.int i0), .val (.int i1), .val (.int i2), .val (.int i3), .val (.int i4), .val (.int i5), .val (.int i6), .val (.int i7), .val (.int i8), .val (.int i9), .val (.int i10), .val (.int i11), .val (.ref o12), .val (.ref o13), .val (.int i14), .unset, .unset, .unset, .unset] [(.int i3), (.int i1)])) _
  refine st7 _ ?_
  show Steps p.tables e below (T7.setTop (mkF m 138 #[.val (.int i0), .val (.int i1), .val (.int i2), .val (.int i3), .val (.int i4), .val (.int i5), .val (.int i6), .val (.int i7), .val (.int i8), .val (.int i9), .val (.int i10), .val (.int i11), .val (.ref o12), .val (.ref o13), .val (.int i14), .unset, .unset, .unset, .unset] [(.int (own_t1 i1 i3))])) _
  refine XS.iload X7.here hx rfl (hb hby at_138) rfl ?_
  show Steps p.tables e below (T7.setTop (mkF m 140 #[.val (.int i0), .val (.int i1), .val (.int i2), .val (.int i3), .val (.int i4), .val (.int i5), .val (.int i6), .val (.int i7), .val (.int i8), .val (.int i9), .val (.int i10), .val (.int i11), .val (.ref o12), .val (.ref o13), .val (.int i14), .unset, .unset, .unset, .unset] [(.int i8), (.int (own_t1 i1 i3))])) _
  refine XS.iload X7.here hx rfl (hb hby at_140) rfl ?_
  show Steps p.tables e below (T7.setTop (mkF m 142 #[.val (.int i0), .val (.int i1), .val (.int i2), .val (.int i3), .val (.int i4), .val (.int i5), .val (.int i6), .val (.int i7), .val (.int i8), .val (.int i9), .val (.int i10), .val (.int i11), .val (.ref o12), .val (.ref o13), .val (.int i14), .unset, .unset, .unset, .unset] [(.int i10), (.int i8), (.int (own_t1 i1 i3))])) _
  refine st8 _ ?_
  show Steps p.tables e below (T8.setTop (mkF m 145 #[.val (.int i0), .val (.int i1), .val (.int i2), .val (.int i3), .val (.int i4), .val (.int i5), .val (.int i6), .val (.int i7), .val (.int i8), .val (.int i9), .val (.int i10), .val (.int i11), .val (.ref o12), .val (.ref o13), .val (.int i14), .unset, .unset, .unset, .unset] [(.int (own_t1 i8 i10)), (.int (own_t1 i1 i3))])) _
  refine XS.icmpYes X8.here hx rfl (pc0 := 145) (pc' := 181) rfl (hb hby at_145) rfl (feq hc145).2 (by decide) (by decide) ?_
  show Steps p.tables e below (T8.setTop (mkF m 181 #[.val (.int i0), .val (.int i1), .val (.int i2), .val (.int i3), .val (.int i4), .val (.int i5), .val (.int i6), .val (.int i7), .val (.int i8), .val (.int i9), .val (.int i10), .val (.int i11), .val (.ref o12), .val (.ref o13), .val (.int i14), .unset, .unset, .unset, .unset] [])) _
  refine XS.iconst X8.here hx rfl (hb hby at_181) ?_
  show Steps p.tables e below (T8.setTop (mkF m 182 #[.val (.int i0), .val (.int i1), .val (.int i2), .val (.int i3), .val (.int i4), .val (.int i5), .val (.int i6), .val (.int i7), .val (.int i8), .val (.int i9), .val (.int i10), .val (.int i11), .val (.ref o12), .val (.ref o13), .val (.int i14), .unset, .unset, .unset, .unset] [(.int (0 : Int32))])) _
  refine XS.istore X8.here hx rfl (hb hby at_182) rfl (l' := #[.val (.int i0), .val (.int i1), .val (.int i2), .val (.int i3), .val (.int i4), .val (.int i5), .val (.int i6), .val (.int i7), .val (.int i8), .val (.int i9), .val (.int i10), .val (.int i11), .val (.ref o12), .val (.ref o13), .val (.int i14), .val (.int (0 : Int32)), .unset, .unset, .unset]) rfl ?_
  exact kt
set_option maxRecDepth 65536 in
set_option maxHeartbeats 40000000 in
theorem own_C_ft {p : Program} {l : Launch} {e : Env} {s : State} {m : MethodId} {args : Array Value} {below : List Frame} {meth : Method} {c : Code} {T0 : State} {locs : List Loc} {cells slots : Nat} {Z : State} {a0 : Array Value} {h0 : Heap} (i0 : Int32) (i1 : Int32) (i2 : Int32) (i3 : Int32) (i4 : Int32) (i5 : Int32) (i6 : Int32) (i7 : Int32) (i8 : Int32) (i9 : Int32) (i10 : Int32) (i11 : Int32) (o12 : Addr) (o13 : Addr) (i14 : Int32)
    (X0 : Stand p l e room_1 s m args below meth c T0 locs cells slots) (hx : p.tables.exec = Jvm.exec) (hZ : Z.Warmed39 s.vm) (hw : ∀ d ∈ tables_1, d.before a0 Z = true) (hby : c.code = code) (hml : c.maxLocals = 19) (hown : s.vm.findClass "com/example/chance_checker/chancechecker/construction/DistributionSameAsPinLaw" = some m.cls) (e0 : T0.heap = h0) (n0 : Nat) (Z0 : n0 ≤ h0.size) (hcl : cells ≤ room_1.cells) (hsl : slots ≤ room_1.slots) (hc145 : (own_t1 i1 i3) = (own_t1 i8 i10)) (hc160 : ¬ ((own_r1 i2 i3) = (own_r1 i9 i10))) :
    ∃ (T' : State), Stand p l e room_1 s m args below meth c T' locs cells slots ∧ T'.heap = h0 ∧
      ∀ target, Steps p.tables e below (T'.setTop (mkF m 184 #[.val (.int i0), .val (.int i1), .val (.int i2), .val (.int i3), .val (.int i4), .val (.int i5), .val (.int i6), .val (.int i7), .val (.int i8), .val (.int i9), .val (.int i10), .val (.int i11), .val (.ref o12), .val (.ref o13), .val (.int i14), .val (.int (0 : Int32)), .unset, .unset, .unset] [])) target → Steps p.tables e below (T0.setTop (mkF m 133 #[.val (.int i0), .val (.int i1), .val (.int i2), .val (.int i3), .val (.int i4), .val (.int i5), .val (.int i6), .val (.int i7), .val (.int i8), .val (.int i9), .val (.int i10), .val (.int i11), .val (.ref o12), .val (.ref o13), .val (.int i14), .unset, .unset, .unset, .unset] [])) target := by
  obtain ⟨_, _, ⟨T7, L7, k7, n7⟩, -, X7, ⟨Lc7, hQ7, l7, y7, z7⟩, st7⟩ := Jvm.LawKit.callS X0 hx (y := (⟨"com/example/chance_checker/chancechecker/construction/DistributionSameAsPinLaw", "target1", "(II)I"⟩ : MethodName)) hown (mvT hZ (hw _ (List.mem_of_getElem? (i := 34) rfl))) (mvT hZ (hw _ (List.mem_of_getElem? (i := 35) rfl))) (mvT hZ (hw _ (List.mem_of_getElem? (i := 2) rfl))) (mvT hZ (hw _ (List.mem_of_getElem? (i := 36) rfl))) (by decide) (backOf (W := 0) (rm5 l Z a0 hw [] i1 i3 h0 n0 Z0) hZ (hw _ (List.mem_of_getElem? (i := 36) rfl)) (hw _ (List.mem_of_getElem? (i := 2) rfl)) (by decide) (by decide)) (g := (mkF m 135 #[.val (.int i0), .val (.int i1), .val (.int i2), .val (.int i3), .val (.int i4), .val (.int i5), .val (.int i6), .val (.int i7), .val (.int i8), .val (.int i9), .val (.int i10), .val (.int i11), .val (.ref o12), .val (.ref o13), .val (.int i14), .unset, .unset, .unset, .unset] [(.int i3), (.int i1)])) rfl (by rw [hml]; rfl) (argsL := [(.int i1), (.int i3)]) (rest := []) (lenOf pd_0_3 rfl) rfl (by show 2 * 0 + _ ≤ _; exact Nat.le_of_eq rfl) (hb hby at_135) (fun _ _ => ⟨rfl, e0, hcl, hsl⟩)
  dsimp only [Pt.U, Pt.locs, Pt.cells, Pt.slots] at X7 l7 y7 z7 st7 hQ7
  subst l7 y7 z7
  obtain ⟨rfl, rfl, e7⟩ := hQ7
  try rw [List.append_nil] at X7
  obtain ⟨_, _, ⟨T8, L8, k8, n8⟩, -, X8, ⟨Lc8, hQ8, l8, y8, z8⟩, st8⟩ := Jvm.LawKit.callS X7 hx (y := (⟨"com/example/chance_checker/chancechecker/construction/DistributionSameAsPinLaw", "target1", "(II)I"⟩ : MethodName)) hown (mvT hZ (hw _ (List.mem_of_getElem? (i := 34) rfl))) (mvT hZ (hw _ (List.mem_of_getElem? (i := 35) rfl))) (mvT hZ (hw _ (List.mem_of_getElem? (i := 2) rfl))) (mvT hZ (hw _ (List.mem_of_getElem? (i := 36) rfl))) (by decide) (backOf (W := 1) (rm5 l Z a0 hw [] i8 i10 h0 n0 Z0) hZ (hw _ (List.mem_of_getElem? (i := 36) rfl)) (hw _ (List.mem_of_getElem? (i := 2) rfl)) (by decide) (by decide)) (g := (mkF m 142 #[.val (.int i0), .val (.int i1), .val (.int i2), .val (.int i3), .val (.int i4), .val (.int i5), .val (.int i6), .val (.int i7), .val (.int i8), .val (.int i9), .val (.int i10), .val (.int i11), .val (.ref o12), .val (.ref o13), .val (.int i14), .unset, .unset, .unset, .unset] [(.int i10), (.int i8), (.int (own_t1 i1 i3))])) rfl (by rw [hml]; rfl) (argsL := [(.int i8), (.int i10)]) (rest := [(.int (own_t1 i1 i3))]) (lenOf pd_0_3 rfl) rfl (by show 2 * 0 + _ ≤ _; exact Nat.le_of_eq rfl) (hb hby at_142) (fun _ _ => ⟨rfl, e7, hcl, hsl⟩)
  dsimp only [Pt.U, Pt.locs, Pt.cells, Pt.slots] at X8 l8 y8 z8 st8 hQ8
  subst l8 y8 z8
  obtain ⟨rfl, rfl, e8⟩ := hQ8
  try rw [List.append_nil] at X8
  obtain ⟨_, _, ⟨T9, L9, k9, n9⟩, -, X9, ⟨Lc9, hQ9, l9, y9, z9⟩, st9⟩ := Jvm.LawKit.callS X8 hx (y := (⟨"com/example/chance_checker/chancechecker/construction/DistributionSameAsPinLaw", "reset1", "(II)I"⟩ : MethodName)) hown (mvT hZ (hw _ (List.mem_of_getElem? (i := 53) rfl))) (mvT hZ (hw _ (List.mem_of_getElem? (i := 54) rfl))) (mvT hZ (hw _ (List.mem_of_getElem? (i := 2) rfl))) (mvT hZ (hw _ (List.mem_of_getElem? (i := 55) rfl))) (by decide) (backOf (W := 0) (rm9 l Z a0 hw [] i2 i3 h0 n0 Z0) hZ (hw _ (List.mem_of_getElem? (i := 55) rfl)) (hw _ (List.mem_of_getElem? (i := 2) rfl)) (by decide) (by decide)) (g := (mkF m 150 #[.val (.int i0), .val (.int i1), .val (.int i2), .val (.int i3), .val (.int i4), .val (.int i5), .val (.int i6), .val (.int i7), .val (.int i8), .val (.int i9), .val (.int i10), .val (.int i11), .val (.ref o12), .val (.ref o13), .val (.int i14), .unset, .unset, .unset, .unset] [(.int i3), (.int i2)])) rfl (by rw [hml]; rfl) (argsL := [(.int i2), (.int i3)]) (rest := []) (lenOf pd_0_3 rfl) rfl (by show 2 * 0 + _ ≤ _; exact Nat.le_of_eq rfl) (hb hby at_150) (fun _ _ => ⟨rfl, e8, hcl, hsl⟩)
  dsimp only [Pt.U, Pt.locs, Pt.cells, Pt.slots] at X9 l9 y9 z9 st9 hQ9
  subst l9 y9 z9
  obtain ⟨rfl, rfl, e9⟩ := hQ9
  try rw [List.append_nil] at X9
  obtain ⟨_, _, ⟨T10, L10, k10, n10⟩, -, X10, ⟨Lc10, hQ10, l10, y10, z10⟩, st10⟩ := Jvm.LawKit.callS X9 hx (y := (⟨"com/example/chance_checker/chancechecker/construction/DistributionSameAsPinLaw", "reset1", "(II)I"⟩ : MethodName)) hown (mvT hZ (hw _ (List.mem_of_getElem? (i := 53) rfl))) (mvT hZ (hw _ (List.mem_of_getElem? (i := 54) rfl))) (mvT hZ (hw _ (List.mem_of_getElem? (i := 2) rfl))) (mvT hZ (hw _ (List.mem_of_getElem? (i := 55) rfl))) (by decide) (backOf (W := 1) (rm9 l Z a0 hw [] i9 i10 h0 n0 Z0) hZ (hw _ (List.mem_of_getElem? (i := 55) rfl)) (hw _ (List.mem_of_getElem? (i := 2) rfl)) (by decide) (by decide)) (g := (mkF m 157 #[.val (.int i0), .val (.int i1), .val (.int i2), .val (.int i3), .val (.int i4), .val (.int i5), .val (.int i6), .val (.int i7), .val (.int i8), .val (.int i9), .val (.int i10), .val (.int i11), .val (.ref o12), .val (.ref o13), .val (.int i14), .unset, .unset, .unset, .unset] [(.int i10), (.int i9), (.int (own_r1 i2 i3))])) rfl (by rw [hml]; rfl) (argsL := [(.int i9), (.int i10)]) (rest := [(.int (own_r1 i2 i3))]) (lenOf pd_0_3 rfl) rfl (by show 2 * 0 + _ ≤ _; exact Nat.le_of_eq rfl) (hb hby at_157) (fun _ _ => ⟨rfl, e9, hcl, hsl⟩)
  dsimp only [Pt.U, Pt.locs, Pt.cells, Pt.slots] at X10 l10 y10 z10 st10 hQ10
  subst l10 y10 z10
  obtain ⟨rfl, rfl, e10⟩ := hQ10
  try rw [List.append_nil] at X10
  refine ⟨T10, X10, e10, fun target kt => ?_⟩
  show Steps p.tables e below (T0.setTop (mkF m 133 #[.val (.int i0), .val (.int i1), .val (.int i2), .val (.int i3), .val (.int i4), .val (.int i5), .val (.int i6), .val (.int i7), .val (.int i8), .val (.int i9), .val (.int i10), .val (.int i11), .val (.ref o12), .val (.ref o13), .val (.int i14), .unset, .unset, .unset, .unset] [])) _
  refine XS.iloadN X0.here hx rfl (hb hby at_133) rfl ?_
  show Steps p.tables e below (T0.setTop (mkF m 134 #[.val (.int i0), .val (.int i1), .val (.int i2), .val (.int i3), .val (.int i4), .val (.int i5), .val (.int i6), .val (.int i7), .val (.int i8), .val (.int i9), .val (.int i10), .val (.int i11), .val (.ref o12), .val (.ref o13), .val (.int i14), .unset, .unset, .unset, .unset] [(.int i1)])) _
  refine XS.iloadN X0.here hx rfl (hb hby at_134) rfl ?_
  show Steps p.tables e below (T0.setTop (mkF m 135 #[.val (.int i0), .val (.int i1), .val (.int i2), .val (.int i3), .val (.int i4), .val (.int i5), .val (.int i6), .val (.int i7), .val (.int i8), .val (.int i9), .val (.int i10), .val (.int i11), .val (.ref o12), .val (.ref o13), .val (.int i14), .unset, .unset, .unset, .unset] [(.int i3), (.int i1)])) _
  refine st7 _ ?_
  show Steps p.tables e below (T7.setTop (mkF m 138 #[.val (.int i0), .val (.int i1), .val (.int i2), .val (.int i3), .val (.int i4), .val (.int i5), .val (.int i6), .val (.int i7), .val (.int i8), .val (.int i9), .val (.int i10), .val (.int i11), .val (.ref o12), .val (.ref o13), .val (.int i14), .unset, .unset, .unset, .unset] [(.int (own_t1 i1 i3))])) _
  refine XS.iload X7.here hx rfl (hb hby at_138) rfl ?_
  show Steps p.tables e below (T7.setTop (mkF m 140 #[.val (.int i0), .val (.int i1), .val (.int i2), .val (.int i3), .val (.int i4), .val (.int i5), .val (.int i6), .val (.int i7), .val (.int i8), .val (.int i9), .val (.int i10), .val (.int i11), .val (.ref o12), .val (.ref o13), .val (.int i14), .unset, .unset, .unset, .unset] [(.int i8), (.int (own_t1 i1 i3))])) _
  refine XS.iload X7.here hx rfl (hb hby at_140) rfl ?_
  show Steps p.tables e below (T7.setTop (mkF m 142 #[.val (.int i0), .val (.int i1), .val (.int i2), .val (.int i3), .val (.int i4), .val (.int i5), .val (.int i6), .val (.int i7), .val (.int i8), .val (.int i9), .val (.int i10), .val (.int i11), .val (.ref o12), .val (.ref o13), .val (.int i14), .unset, .unset, .unset, .unset] [(.int i10), (.int i8), (.int (own_t1 i1 i3))])) _
  refine st8 _ ?_
  show Steps p.tables e below (T8.setTop (mkF m 145 #[.val (.int i0), .val (.int i1), .val (.int i2), .val (.int i3), .val (.int i4), .val (.int i5), .val (.int i6), .val (.int i7), .val (.int i8), .val (.int i9), .val (.int i10), .val (.int i11), .val (.ref o12), .val (.ref o13), .val (.int i14), .unset, .unset, .unset, .unset] [(.int (own_t1 i8 i10)), (.int (own_t1 i1 i3))])) _
  refine XS.icmpNo X8.here hx rfl (hb hby at_145) rfl (teq hc145).2 ?_
  show Steps p.tables e below (T8.setTop (mkF m 148 #[.val (.int i0), .val (.int i1), .val (.int i2), .val (.int i3), .val (.int i4), .val (.int i5), .val (.int i6), .val (.int i7), .val (.int i8), .val (.int i9), .val (.int i10), .val (.int i11), .val (.ref o12), .val (.ref o13), .val (.int i14), .unset, .unset, .unset, .unset] [])) _
  refine XS.iloadN X8.here hx rfl (hb hby at_148) rfl ?_
  show Steps p.tables e below (T8.setTop (mkF m 149 #[.val (.int i0), .val (.int i1), .val (.int i2), .val (.int i3), .val (.int i4), .val (.int i5), .val (.int i6), .val (.int i7), .val (.int i8), .val (.int i9), .val (.int i10), .val (.int i11), .val (.ref o12), .val (.ref o13), .val (.int i14), .unset, .unset, .unset, .unset] [(.int i2)])) _
  refine XS.iloadN X8.here hx rfl (hb hby at_149) rfl ?_
  show Steps p.tables e below (T8.setTop (mkF m 150 #[.val (.int i0), .val (.int i1), .val (.int i2), .val (.int i3), .val (.int i4), .val (.int i5), .val (.int i6), .val (.int i7), .val (.int i8), .val (.int i9), .val (.int i10), .val (.int i11), .val (.ref o12), .val (.ref o13), .val (.int i14), .unset, .unset, .unset, .unset] [(.int i3), (.int i2)])) _
  refine st9 _ ?_
  show Steps p.tables e below (T9.setTop (mkF m 153 #[.val (.int i0), .val (.int i1), .val (.int i2), .val (.int i3), .val (.int i4), .val (.int i5), .val (.int i6), .val (.int i7), .val (.int i8), .val (.int i9), .val (.int i10), .val (.int i11), .val (.ref o12), .val (.ref o13), .val (.int i14), .unset, .unset, .unset, .unset] [(.int (own_r1 i2 i3))])) _
  refine XS.iload X9.here hx rfl (hb hby at_153) rfl ?_
  show Steps p.tables e below (T9.setTop (mkF m 155 #[.val (.int i0), .val (.int i1), .val (.int i2), .val (.int i3), .val (.int i4), .val (.int i5), .val (.int i6), .val (.int i7), .val (.int i8), .val (.int i9), .val (.int i10), .val (.int i11), .val (.ref o12), .val (.ref o13), .val (.int i14), .unset, .unset, .unset, .unset] [(.int i9), (.int (own_r1 i2 i3))])) _
  refine XS.iload X9.here hx rfl (hb hby at_155) rfl ?_
  show Steps p.tables e below (T9.setTop (mkF m 157 #[.val (.int i0), .val (.int i1), .val (.int i2), .val (.int i3), .val (.int i4), .val (.int i5), .val (.int i6), .val (.int i7), .val (.int i8), .val (.int i9), .val (.int i10), .val (.int i11), .val (.ref o12), .val (.ref o13), .val (.int i14), .unset, .unset, .unset, .unset] [(.int i10), (.int i9), (.int (own_r1 i2 i3))])) _
  refine st10 _ ?_
  show Steps p.tables e below (T10.setTop (mkF m 160 #[.val (.int i0), .val (.int i1), .val (.int i2), .val (.int i3), .val (.int i4), .val (.int i5), .val (.int i6), .val (.int i7), .val (.int i8), .val (.int i9), .val (.int i10), .val (.int i11), .val (.ref o12), .val (.ref o13), .val (.int i14), .unset, .unset, .unset, .unset] [(.int (own_r1 i9 i10)), (.int (own_r1 i2 i3))])) _
  refine XS.icmpYes X10.here hx rfl (pc0 := 160) (pc' := 181) rfl (hb hby at_160) rfl (feq hc160).2 (by decide) (by decide) ?_
  show Steps p.tables e below (T10.setTop (mkF m 181 #[.val (.int i0), .val (.int i1), .val (.int i2), .val (.int i3), .val (.int i4), .val (.int i5), .val (.int i6), .val (.int i7), .val (.int i8), .val (.int i9), .val (.int i10), .val (.int i11), .val (.ref o12), .val (.ref o13), .val (.int i14), .unset, .unset, .unset, .unset] [])) _
  refine XS.iconst X10.here hx rfl (hb hby at_181) ?_
  show Steps p.tables e below (T10.setTop (mkF m 182 #[.val (.int i0), .val (.int i1), .val (.int i2), .val (.int i3), .val (.int i4), .val (.int i5), .val (.int i6), .val (.int i7), .val (.int i8), .val (.int i9), .val (.int i10), .val (.int i11), .val (.ref o12), .val (.ref o13), .val (.int i14), .unset, .unset, .unset, .unset] [(.int (0 : Int32))])) _
  refine XS.istore X10.here hx rfl (hb hby at_182) rfl (l' := #[.val (.int i0), .val (.int i1), .val (.int i2), .val (.int i3), .val (.int i4), .val (.int i5), .val (.int i6), .val (.int i7), .val (.int i8), .val (.int i9), .val (.int i10), .val (.int i11), .val (.ref o12), .val (.ref o13), .val (.int i14), .val (.int (0 : Int32)), .unset, .unset, .unset]) rfl ?_
  exact kt
set_option maxRecDepth 65536 in
set_option maxHeartbeats 40000000 in
theorem own_C_fft {p : Program} {l : Launch} {e : Env} {s : State} {m : MethodId} {args : Array Value} {below : List Frame} {meth : Method} {c : Code} {T0 : State} {locs : List Loc} {cells slots : Nat} {Z : State} {a0 : Array Value} {h0 : Heap} (i0 : Int32) (i1 : Int32) (i2 : Int32) (i3 : Int32) (i4 : Int32) (i5 : Int32) (i6 : Int32) (i7 : Int32) (i8 : Int32) (i9 : Int32) (i10 : Int32) (i11 : Int32) (o12 : Addr) (o13 : Addr) (i14 : Int32)
    (X0 : Stand p l e room_1 s m args below meth c T0 locs cells slots) (hx : p.tables.exec = Jvm.exec) (hZ : Z.Warmed39 s.vm) (hw : ∀ d ∈ tables_1, d.before a0 Z = true) (hby : c.code = code) (hml : c.maxLocals = 19) (hown : s.vm.findClass "com/example/chance_checker/chancechecker/construction/DistributionSameAsPinLaw" = some m.cls) (e0 : T0.heap = h0) (n0 : Nat) (Z0 : n0 ≤ h0.size) (hcl : cells ≤ room_1.cells) (hsl : slots ≤ room_1.slots) (hc145 : (own_t1 i1 i3) = (own_t1 i8 i10)) (hc160 : (own_r1 i2 i3) = (own_r1 i9 i10)) (hc174 : ¬ ((cmpValue (FP.dcmp (own_p1 i4) (own_p1 i11)) .l) = (0 : Int32))) :
    ∃ (T' : State), Stand p l e room_1 s m args below meth c T' locs cells slots ∧ T'.heap = h0 ∧
      ∀ target, Steps p.tables e below (T'.setTop (mkF m 184 #[.val (.int i0), .val (.int i1), .val (.int i2), .val (.int i3), .val (.int i4), .val (.int i5), .val (.int i6), .val (.int i7), .val (.int i8), .val (.int i9), .val (.int i10), .val (.int i11), .val (.ref o12), .val (.ref o13), .val (.int i14), .val (.int (0 : Int32)), .unset, .unset, .unset] [])) target → Steps p.tables e below (T0.setTop (mkF m 133 #[.val (.int i0), .val (.int i1), .val (.int i2), .val (.int i3), .val (.int i4), .val (.int i5), .val (.int i6), .val (.int i7), .val (.int i8), .val (.int i9), .val (.int i10), .val (.int i11), .val (.ref o12), .val (.ref o13), .val (.int i14), .unset, .unset, .unset, .unset] [])) target := by
  obtain ⟨_, _, ⟨T7, L7, k7, n7⟩, -, X7, ⟨Lc7, hQ7, l7, y7, z7⟩, st7⟩ := Jvm.LawKit.callS X0 hx (y := (⟨"com/example/chance_checker/chancechecker/construction/DistributionSameAsPinLaw", "target1", "(II)I"⟩ : MethodName)) hown (mvT hZ (hw _ (List.mem_of_getElem? (i := 34) rfl))) (mvT hZ (hw _ (List.mem_of_getElem? (i := 35) rfl))) (mvT hZ (hw _ (List.mem_of_getElem? (i := 2) rfl))) (mvT hZ (hw _ (List.mem_of_getElem? (i := 36) rfl))) (by decide) (backOf (W := 0) (rm5 l Z a0 hw [] i1 i3 h0 n0 Z0) hZ (hw _ (List.mem_of_getElem? (i := 36) rfl)) (hw _ (List.mem_of_getElem? (i := 2) rfl)) (by decide) (by decide)) (g := (mkF m 135 #[.val (.int i0), .val (.int i1), .val (.int i2), .val (.int i3), .val (.int i4), .val (.int i5), .val (.int i6), .val (.int i7), .val (.int i8), .val (.int i9), .val (.int i10), .val (.int i11), .val (.ref o12), .val (.ref o13), .val (.int i14), .unset, .unset, .unset, .unset] [(.int i3), (.int i1)])) rfl (by rw [hml]; rfl) (argsL := [(.int i1), (.int i3)]) (rest := []) (lenOf pd_0_3 rfl) rfl (by show 2 * 0 + _ ≤ _; exact Nat.le_of_eq rfl) (hb hby at_135) (fun _ _ => ⟨rfl, e0, hcl, hsl⟩)
  dsimp only [Pt.U, Pt.locs, Pt.cells, Pt.slots] at X7 l7 y7 z7 st7 hQ7
  subst l7 y7 z7
  obtain ⟨rfl, rfl, e7⟩ := hQ7
  try rw [List.append_nil] at X7
  obtain ⟨_, _, ⟨T8, L8, k8, n8⟩, -, X8, ⟨Lc8, hQ8, l8, y8, z8⟩, st8⟩ := Jvm.LawKit.callS X7 hx (y := (⟨"com/example/chance_checker/chancechecker/construction/DistributionSameAsPinLaw", "target1", "(II)I"⟩ : MethodName)) hown (mvT hZ (hw _ (List.mem_of_getElem? (i := 34) rfl))) (mvT hZ (hw _ (List.mem_of_getElem? (i := 35) rfl))) (mvT hZ (hw _ (List.mem_of_getElem? (i := 2) rfl))) (mvT hZ (hw _ (List.mem_of_getElem? (i := 36) rfl))) (by decide) (backOf (W := 1) (rm5 l Z a0 hw [] i8 i10 h0 n0 Z0) hZ (hw _ (List.mem_of_getElem? (i := 36) rfl)) (hw _ (List.mem_of_getElem? (i := 2) rfl)) (by decide) (by decide)) (g := (mkF m 142 #[.val (.int i0), .val (.int i1), .val (.int i2), .val (.int i3), .val (.int i4), .val (.int i5), .val (.int i6), .val (.int i7), .val (.int i8), .val (.int i9), .val (.int i10), .val (.int i11), .val (.ref o12), .val (.ref o13), .val (.int i14), .unset, .unset, .unset, .unset] [(.int i10), (.int i8), (.int (own_t1 i1 i3))])) rfl (by rw [hml]; rfl) (argsL := [(.int i8), (.int i10)]) (rest := [(.int (own_t1 i1 i3))]) (lenOf pd_0_3 rfl) rfl (by show 2 * 0 + _ ≤ _; exact Nat.le_of_eq rfl) (hb hby at_142) (fun _ _ => ⟨rfl, e7, hcl, hsl⟩)
  dsimp only [Pt.U, Pt.locs, Pt.cells, Pt.slots] at X8 l8 y8 z8 st8 hQ8
  subst l8 y8 z8
  obtain ⟨rfl, rfl, e8⟩ := hQ8
  try rw [List.append_nil] at X8
  obtain ⟨_, _, ⟨T9, L9, k9, n9⟩, -, X9, ⟨Lc9, hQ9, l9, y9, z9⟩, st9⟩ := Jvm.LawKit.callS X8 hx (y := (⟨"com/example/chance_checker/chancechecker/construction/DistributionSameAsPinLaw", "reset1", "(II)I"⟩ : MethodName)) hown (mvT hZ (hw _ (List.mem_of_getElem? (i := 53) rfl))) (mvT hZ (hw _ (List.mem_of_getElem? (i := 54) rfl))) (mvT hZ (hw _ (List.mem_of_getElem? (i := 2) rfl))) (mvT hZ (hw _ (List.mem_of_getElem? (i := 55) rfl))) (by decide) (backOf (W := 0) (rm9 l Z a0 hw [] i2 i3 h0 n0 Z0) hZ (hw _ (List.mem_of_getElem? (i := 55) rfl)) (hw _ (List.mem_of_getElem? (i := 2) rfl)) (by decide) (by decide)) (g := (mkF m 150 #[.val (.int i0), .val (.int i1), .val (.int i2), .val (.int i3), .val (.int i4), .val (.int i5), .val (.int i6), .val (.int i7), .val (.int i8), .val (.int i9), .val (.int i10), .val (.int i11), .val (.ref o12), .val (.ref o13), .val (.int i14), .unset, .unset, .unset, .unset] [(.int i3), (.int i2)])) rfl (by rw [hml]; rfl) (argsL := [(.int i2), (.int i3)]) (rest := []) (lenOf pd_0_3 rfl) rfl (by show 2 * 0 + _ ≤ _; exact Nat.le_of_eq rfl) (hb hby at_150) (fun _ _ => ⟨rfl, e8, hcl, hsl⟩)
  dsimp only [Pt.U, Pt.locs, Pt.cells, Pt.slots] at X9 l9 y9 z9 st9 hQ9
  subst l9 y9 z9
  obtain ⟨rfl, rfl, e9⟩ := hQ9
  try rw [List.append_nil] at X9
  obtain ⟨_, _, ⟨T10, L10, k10, n10⟩, -, X10, ⟨Lc10, hQ10, l10, y10, z10⟩, st10⟩ := Jvm.LawKit.callS X9 hx (y := (⟨"com/example/chance_checker/chancechecker/construction/DistributionSameAsPinLaw", "reset1", "(II)I"⟩ : MethodName)) hown (mvT hZ (hw _ (List.mem_of_getElem? (i := 53) rfl))) (mvT hZ (hw _ (List.mem_of_getElem? (i := 54) rfl))) (mvT hZ (hw _ (List.mem_of_getElem? (i := 2) rfl))) (mvT hZ (hw _ (List.mem_of_getElem? (i := 55) rfl))) (by decide) (backOf (W := 1) (rm9 l Z a0 hw [] i9 i10 h0 n0 Z0) hZ (hw _ (List.mem_of_getElem? (i := 55) rfl)) (hw _ (List.mem_of_getElem? (i := 2) rfl)) (by decide) (by decide)) (g := (mkF m 157 #[.val (.int i0), .val (.int i1), .val (.int i2), .val (.int i3), .val (.int i4), .val (.int i5), .val (.int i6), .val (.int i7), .val (.int i8), .val (.int i9), .val (.int i10), .val (.int i11), .val (.ref o12), .val (.ref o13), .val (.int i14), .unset, .unset, .unset, .unset] [(.int i10), (.int i9), (.int (own_r1 i2 i3))])) rfl (by rw [hml]; rfl) (argsL := [(.int i9), (.int i10)]) (rest := [(.int (own_r1 i2 i3))]) (lenOf pd_0_3 rfl) rfl (by show 2 * 0 + _ ≤ _; exact Nat.le_of_eq rfl) (hb hby at_157) (fun _ _ => ⟨rfl, e9, hcl, hsl⟩)
  dsimp only [Pt.U, Pt.locs, Pt.cells, Pt.slots] at X10 l10 y10 z10 st10 hQ10
  subst l10 y10 z10
  obtain ⟨rfl, rfl, e10⟩ := hQ10
  try rw [List.append_nil] at X10
  obtain ⟨_, _, ⟨T11, L11, k11, n11⟩, -, X11, ⟨Lc11, hQ11, l11, y11, z11⟩, st11⟩ := Jvm.LawKit.callS X10 hx (y := (⟨"com/example/chance_checker/chancechecker/construction/DistributionSameAsPinLaw", "prob1", "(I)D"⟩ : MethodName)) hown (mvT hZ (hw _ (List.mem_of_getElem? (i := 56) rfl))) (mvT hZ (hw _ (List.mem_of_getElem? (i := 57) rfl))) (mvT hZ (hw _ (List.mem_of_getElem? (i := 2) rfl))) (mvT hZ (hw _ (List.mem_of_getElem? (i := 58) rfl))) (by decide) (backOf (W := 0) (rm10 l Z a0 hw [] i4 h0 n0 Z0) hZ (hw _ (List.mem_of_getElem? (i := 58) rfl)) (hw _ (List.mem_of_getElem? (i := 2) rfl)) (by decide) (by decide)) (g := (mkF m 165 #[.val (.int i0), .val (.int i1), .val (.int i2), .val (.int i3), .val (.int i4), .val (.int i5), .val (.int i6), .val (.int i7), .val (.int i8), .val (.int i9), .val (.int i10), .val (.int i11), .val (.ref o12), .val (.ref o13), .val (.int i14), .unset, .unset, .unset, .unset] [(.int i4)])) rfl (by rw [hml]; rfl) (argsL := [(.int i4)]) (rest := []) (lenOf pd_0_5 rfl) rfl (by show 2 * 0 + _ ≤ _; exact Nat.le_of_eq rfl) (hb hby at_165) (fun _ _ => ⟨rfl, e10, hcl, hsl⟩)
  dsimp only [Pt.U, Pt.locs, Pt.cells, Pt.slots] at X11 l11 y11 z11 st11 hQ11
  subst l11 y11 z11
  obtain ⟨rfl, rfl, e11⟩ := hQ11
  try rw [List.append_nil] at X11
  obtain ⟨_, _, ⟨T12, L12, k12, n12⟩, -, X12, ⟨Lc12, hQ12, l12, y12, z12⟩, st12⟩ := Jvm.LawKit.callS X11 hx (y := (⟨"com/example/chance_checker/chancechecker/construction/DistributionSameAsPinLaw", "prob1", "(I)D"⟩ : MethodName)) hown (mvT hZ (hw _ (List.mem_of_getElem? (i := 56) rfl))) (mvT hZ (hw _ (List.mem_of_getElem? (i := 57) rfl))) (mvT hZ (hw _ (List.mem_of_getElem? (i := 2) rfl))) (mvT hZ (hw _ (List.mem_of_getElem? (i := 58) rfl))) (by decide) (backOf (W := 2) (rm10 l Z a0 hw [] i11 h0 n0 Z0) hZ (hw _ (List.mem_of_getElem? (i := 58) rfl)) (hw _ (List.mem_of_getElem? (i := 2) rfl)) (by decide) (by decide)) (g := (mkF m 170 #[.val (.int i0), .val (.int i1), .val (.int i2), .val (.int i3), .val (.int i4), .val (.int i5), .val (.int i6), .val (.int i7), .val (.int i8), .val (.int i9), .val (.int i10), .val (.int i11), .val (.ref o12), .val (.ref o13), .val (.int i14), .unset, .unset, .unset, .unset] [(.int i11), (.double (own_p1 i4))])) rfl (by rw [hml]; rfl) (argsL := [(.int i11)]) (rest := [(.double (own_p1 i4))]) (lenOf pd_0_5 rfl) rfl (by show 2 * 0 + _ ≤ _; exact Nat.le_of_eq rfl) (hb hby at_170) (fun _ _ => ⟨rfl, e11, hcl, hsl⟩)
  dsimp only [Pt.U, Pt.locs, Pt.cells, Pt.slots] at X12 l12 y12 z12 st12 hQ12
  subst l12 y12 z12
  obtain ⟨rfl, rfl, e12⟩ := hQ12
  try rw [List.append_nil] at X12
  refine ⟨T12, X12, e12, fun target kt => ?_⟩
  show Steps p.tables e below (T0.setTop (mkF m 133 #[.val (.int i0), .val (.int i1), .val (.int i2), .val (.int i3), .val (.int i4), .val (.int i5), .val (.int i6), .val (.int i7), .val (.int i8), .val (.int i9), .val (.int i10), .val (.int i11), .val (.ref o12), .val (.ref o13), .val (.int i14), .unset, .unset, .unset, .unset] [])) _
  refine XS.iloadN X0.here hx rfl (hb hby at_133) rfl ?_
  show Steps p.tables e below (T0.setTop (mkF m 134 #[.val (.int i0), .val (.int i1), .val (.int i2), .val (.int i3), .val (.int i4), .val (.int i5), .val (.int i6), .val (.int i7), .val (.int i8), .val (.int i9), .val (.int i10), .val (.int i11), .val (.ref o12), .val (.ref o13), .val (.int i14), .unset, .unset, .unset, .unset] [(.int i1)])) _
  refine XS.iloadN X0.here hx rfl (hb hby at_134) rfl ?_
  show Steps p.tables e below (T0.setTop (mkF m 135 #[.val (.int i0), .val (.int i1), .val (.int i2), .val (.int i3), .val (.int i4), .val (.int i5), .val (.int i6), .val (.int i7), .val (.int i8), .val (.int i9), .val (.int i10), .val (.int i11), .val (.ref o12), .val (.ref o13), .val (.int i14), .unset, .unset, .unset, .unset] [(.int i3), (.int i1)])) _
  refine st7 _ ?_
  show Steps p.tables e below (T7.setTop (mkF m 138 #[.val (.int i0), .val (.int i1), .val (.int i2), .val (.int i3), .val (.int i4), .val (.int i5), .val (.int i6), .val (.int i7), .val (.int i8), .val (.int i9), .val (.int i10), .val (.int i11), .val (.ref o12), .val (.ref o13), .val (.int i14), .unset, .unset, .unset, .unset] [(.int (own_t1 i1 i3))])) _
  refine XS.iload X7.here hx rfl (hb hby at_138) rfl ?_
  show Steps p.tables e below (T7.setTop (mkF m 140 #[.val (.int i0), .val (.int i1), .val (.int i2), .val (.int i3), .val (.int i4), .val (.int i5), .val (.int i6), .val (.int i7), .val (.int i8), .val (.int i9), .val (.int i10), .val (.int i11), .val (.ref o12), .val (.ref o13), .val (.int i14), .unset, .unset, .unset, .unset] [(.int i8), (.int (own_t1 i1 i3))])) _
  refine XS.iload X7.here hx rfl (hb hby at_140) rfl ?_
  show Steps p.tables e below (T7.setTop (mkF m 142 #[.val (.int i0), .val (.int i1), .val (.int i2), .val (.int i3), .val (.int i4), .val (.int i5), .val (.int i6), .val (.int i7), .val (.int i8), .val (.int i9), .val (.int i10), .val (.int i11), .val (.ref o12), .val (.ref o13), .val (.int i14), .unset, .unset, .unset, .unset] [(.int i10), (.int i8), (.int (own_t1 i1 i3))])) _
  refine st8 _ ?_
  show Steps p.tables e below (T8.setTop (mkF m 145 #[.val (.int i0), .val (.int i1), .val (.int i2), .val (.int i3), .val (.int i4), .val (.int i5), .val (.int i6), .val (.int i7), .val (.int i8), .val (.int i9), .val (.int i10), .val (.int i11), .val (.ref o12), .val (.ref o13), .val (.int i14), .unset, .unset, .unset, .unset] [(.int (own_t1 i8 i10)), (.int (own_t1 i1 i3))])) _
  refine XS.icmpNo X8.here hx rfl (hb hby at_145) rfl (teq hc145).2 ?_
  show Steps p.tables e below (T8.setTop (mkF m 148 #[.val (.int i0), .val (.int i1), .val (.int i2), .val (.int i3), .val (.int i4), .val (.int i5), .val (.int i6), .val (.int i7), .val (.int i8), .val (.int i9), .val (.int i10), .val (.int i11), .val (.ref o12), .val (.ref o13), .val (.int i14), .unset, .unset, .unset, .unset] [])) _
  refine XS.iloadN X8.here hx rfl (hb hby at_148) rfl ?_
  show Steps p.tables e below (T8.setTop (mkF m 149 #[.val (.int i0), .val (.int i1), .val (.int i2), .val (.int i3), .val (.int i4), .val (.int i5), .val (.int i6), .val (.int i7), .val (.int i8), .val (.int i9), .val (.int i10), .val (.int i11), .val (.ref o12), .val (.ref o13), .val (.int i14), .unset, .unset, .unset, .unset] [(.int i2)])) _
  refine XS.iloadN X8.here hx rfl (hb hby at_149) rfl ?_
  show Steps p.tables e below (T8.setTop (mkF m 150 #[.val (.int i0), .val (.int i1), .val (.int i2), .val (.int i3), .val (.int i4), .val (.int i5), .val (.int i6), .val (.int i7), .val (.int i8), .val (.int i9), .val (.int i10), .val (.int i11), .val (.ref o12), .val (.ref o13), .val (.int i14), .unset, .unset, .unset, .unset] [(.int i3), (.int i2)])) _
  refine st9 _ ?_
  show Steps p.tables e below (T9.setTop (mkF m 153 #[.val (.int i0), .val (.int i1), .val (.int i2), .val (.int i3), .val (.int i4), .val (.int i5), .val (.int i6), .val (.int i7), .val (.int i8), .val (.int i9), .val (.int i10), .val (.int i11), .val (.ref o12), .val (.ref o13), .val (.int i14), .unset, .unset, .unset, .unset] [(.int (own_r1 i2 i3))])) _
  refine XS.iload X9.here hx rfl (hb hby at_153) rfl ?_
  show Steps p.tables e below (T9.setTop (mkF m 155 #[.val (.int i0), .val (.int i1), .val (.int i2), .val (.int i3), .val (.int i4), .val (.int i5), .val (.int i6), .val (.int i7), .val (.int i8), .val (.int i9), .val (.int i10), .val (.int i11), .val (.ref o12), .val (.ref o13), .val (.int i14), .unset, .unset, .unset, .unset] [(.int i9), (.int (own_r1 i2 i3))])) _
  refine XS.iload X9.here hx rfl (hb hby at_155) rfl ?_
  show Steps p.tables e below (T9.setTop (mkF m 157 #[.val (.int i0), .val (.int i1), .val (.int i2), .val (.int i3), .val (.int i4), .val (.int i5), .val (.int i6), .val (.int i7), .val (.int i8), .val (.int i9), .val (.int i10), .val (.int i11), .val (.ref o12), .val (.ref o13), .val (.int i14), .unset, .unset, .unset, .unset] [(.int i10), (.int i9), (.int (own_r1 i2 i3))])) _
  refine st10 _ ?_
  show Steps p.tables e below (T10.setTop (mkF m 160 #[.val (.int i0), .val (.int i1), .val (.int i2), .val (.int i3), .val (.int i4), .val (.int i5), .val (.int i6), .val (.int i7), .val (.int i8), .val (.int i9), .val (.int i10), .val (.int i11), .val (.ref o12), .val (.ref o13), .val (.int i14), .unset, .unset, .unset, .unset] [(.int (own_r1 i9 i10)), (.int (own_r1 i2 i3))])) _
  refine XS.icmpNo X10.here hx rfl (hb hby at_160) rfl (teq hc160).2 ?_
  show Steps p.tables e below (T10.setTop (mkF m 163 #[.val (.int i0), .val (.int i1), .val (.int i2), .val (.int i3), .val (.int i4), .val (.int i5), .val (.int i6), .val (.int i7), .val (.int i8), .val (.int i9), .val (.int i10), .val (.int i11), .val (.ref o12), .val (.ref o13), .val (.int i14), .unset, .unset, .unset, .unset] [])) _
  refine XS.iload X10.here hx rfl (hb hby at_163) rfl ?_
  show Steps p.tables e below (T10.setTop (mkF m 165 #[.val (.int i0), .val (.int i1), .val (.int i2), .val (.int i3), .val (.int i4), .val (.int i5), .val (.int i6), .val (.int i7), .val (.int i8), .val (.int i9), .val (.int i10), .val (.int i11), .val (.ref o12), .val (.ref o13), .val (.int i14), .unset, .unset, .unset, .unset] [(.int i4)])) _
  refine st11 _ ?_
  show Steps p.tables e below (T11.setTop (mkF m 168 #[.val (.int i0), .val (.int i1), .val (.int i2), .val (.int i3), .val (.int i4), .val (.int i5), .val (.int i6), .val (.int i7), .val (.int i8), .val (.int i9), .val (.int i10), .val (.int i11), .val (.ref o12), .val (.ref o13), .val (.int i14), .unset, .unset, .unset, .unset] [(.double (own_p1 i4))])) _
  refine XS.iload X11.here hx rfl (hb hby at_168) rfl ?_
  show Steps p.tables e below (T11.setTop (mkF m 170 #[.val (.int i0), .val (.int i1), .val (.int i2), .val (.int i3), .val (.int i4), .val (.int i5), .val (.int i6), .val (.int i7), .val (.int i8), .val (.int i9), .val (.int i10), .val (.int i11), .val (.ref o12), .val (.ref o13), .val (.int i14), .unset, .unset, .unset, .unset] [(.int i11), (.double (own_p1 i4))])) _
  refine st12 _ ?_
  show Steps p.tables e below (T12.setTop (mkF m 173 #[.val (.int i0), .val (.int i1), .val (.int i2), .val (.int i3), .val (.int i4), .val (.int i5), .val (.int i6), .val (.int i7), .val (.int i8), .val (.int i9), .val (.int i10), .val (.int i11), .val (.ref o12), .val (.ref o13), .val (.int i14), .unset, .unset, .unset, .unset] [(.double (own_p1 i11)), (.double (own_p1 i4))])) _
  refine XS.dcmpS X12.here hx rfl (hb hby at_173) rfl rfl ?_
  show Steps p.tables e below (T12.setTop (mkF m 174 #[.val (.int i0), .val (.int i1), .val (.int i2), .val (.int i3), .val (.int i4), .val (.int i5), .val (.int i6), .val (.int i7), .val (.int i8), .val (.int i9), .val (.int i10), .val (.int i11), .val (.ref o12), .val (.ref o13), .val (.int i14), .unset, .unset, .unset, .unset] [(.int (cmpValue (FP.dcmp (own_p1 i4) (own_p1 i11)) .l))])) _
  refine XS.ifYes X12.here hx rfl (pc0 := 174) (pc' := 181) rfl (hb hby at_174) rfl ((if0 _ _).trans (feq hc174).2) (by decide) (by decide) ?_
  show Steps p.tables e below (T12.setTop (mkF m 181 #[.val (.int i0), .val (.int i1), .val (.int i2), .val (.int i3), .val (.int i4), .val (.int i5), .val (.int i6), .val (.int i7), .val (.int i8), .val (.int i9), .val (.int i10), .val (.int i11), .val (.ref o12), .val (.ref o13), .val (.int i14), .unset, .unset, .unset, .unset] [])) _
  refine XS.iconst X12.here hx rfl (hb hby at_181) ?_
  show Steps p.tables e below (T12.setTop (mkF m 182 #[.val (.int i0), .val (.int i1), .val (.int i2), .val (.int i3), .val (.int i4), .val (.int i5), .val (.int i6), .val (.int i7), .val (.int i8), .val (.int i9), .val (.int i10), .val (.int i11), .val (.ref o12), .val (.ref o13), .val (.int i14), .unset, .unset, .unset, .unset] [(.int (0 : Int32))])) _
  refine XS.istore X12.here hx rfl (hb hby at_182) rfl (l' := #[.val (.int i0), .val (.int i1), .val (.int i2), .val (.int i3), .val (.int i4), .val (.int i5), .val (.int i6), .val (.int i7), .val (.int i8), .val (.int i9), .val (.int i10), .val (.int i11), .val (.ref o12), .val (.ref o13), .val (.int i14), .val (.int (0 : Int32)), .unset, .unset, .unset]) rfl ?_
  exact kt
set_option maxRecDepth 65536 in
set_option maxHeartbeats 40000000 in
theorem own_C_fff {p : Program} {l : Launch} {e : Env} {s : State} {m : MethodId} {args : Array Value} {below : List Frame} {meth : Method} {c : Code} {T0 : State} {locs : List Loc} {cells slots : Nat} {Z : State} {a0 : Array Value} {h0 : Heap} (i0 : Int32) (i1 : Int32) (i2 : Int32) (i3 : Int32) (i4 : Int32) (i5 : Int32) (i6 : Int32) (i7 : Int32) (i8 : Int32) (i9 : Int32) (i10 : Int32) (i11 : Int32) (o12 : Addr) (o13 : Addr) (i14 : Int32)
    (X0 : Stand p l e room_1 s m args below meth c T0 locs cells slots) (hx : p.tables.exec = Jvm.exec) (hZ : Z.Warmed39 s.vm) (hw : ∀ d ∈ tables_1, d.before a0 Z = true) (hby : c.code = code) (hml : c.maxLocals = 19) (hown : s.vm.findClass "com/example/chance_checker/chancechecker/construction/DistributionSameAsPinLaw" = some m.cls) (e0 : T0.heap = h0) (n0 : Nat) (Z0 : n0 ≤ h0.size) (hcl : cells ≤ room_1.cells) (hsl : slots ≤ room_1.slots) (hc145 : (own_t1 i1 i3) = (own_t1 i8 i10)) (hc160 : (own_r1 i2 i3) = (own_r1 i9 i10)) (hc174 : (cmpValue (FP.dcmp (own_p1 i4) (own_p1 i11)) .l) = (0 : Int32)) :
    ∃ (T' : State), Stand p l e room_1 s m args below meth c T' locs cells slots ∧ T'.heap = h0 ∧
      ∀ target, Steps p.tables e below (T'.setTop (mkF m 184 #[.val (.int i0), .val (.int i1), .val (.int i2), .val (.int i3), .val (.int i4), .val (.int i5), .val (.int i6), .val (.int i7), .val (.int i8), .val (.int i9), .val (.int i10), .val (.int i11), .val (.ref o12), .val (.ref o13), .val (.int i14), .val (.int (1 : Int32)), .unset, .unset, .unset] [])) target → Steps p.tables e below (T0.setTop (mkF m 133 #[.val (.int i0), .val (.int i1), .val (.int i2), .val (.int i3), .val (.int i4), .val (.int i5), .val (.int i6), .val (.int i7), .val (.int i8), .val (.int i9), .val (.int i10), .val (.int i11), .val (.ref o12), .val (.ref o13), .val (.int i14), .unset, .unset, .unset, .unset] [])) target := by
  obtain ⟨_, _, ⟨T7, L7, k7, n7⟩, -, X7, ⟨Lc7, hQ7, l7, y7, z7⟩, st7⟩ := Jvm.LawKit.callS X0 hx (y := (⟨"com/example/chance_checker/chancechecker/construction/DistributionSameAsPinLaw", "target1", "(II)I"⟩ : MethodName)) hown (mvT hZ (hw _ (List.mem_of_getElem? (i := 34) rfl))) (mvT hZ (hw _ (List.mem_of_getElem? (i := 35) rfl))) (mvT hZ (hw _ (List.mem_of_getElem? (i := 2) rfl))) (mvT hZ (hw _ (List.mem_of_getElem? (i := 36) rfl))) (by decide) (backOf (W := 0) (rm5 l Z a0 hw [] i1 i3 h0 n0 Z0) hZ (hw _ (List.mem_of_getElem? (i := 36) rfl)) (hw _ (List.mem_of_getElem? (i := 2) rfl)) (by decide) (by decide)) (g := (mkF m 135 #[.val (.int i0), .val (.int i1), .val (.int i2), .val (.int i3), .val (.int i4), .val (.int i5), .val (.int i6), .val (.int i7), .val (.int i8), .val (.int i9), .val (.int i10), .val (.int i11), .val (.ref o12), .val (.ref o13), .val (.int i14), .unset, .unset, .unset, .unset] [(.int i3), (.int i1)])) rfl (by rw [hml]; rfl) (argsL := [(.int i1), (.int i3)]) (rest := []) (lenOf pd_0_3 rfl) rfl (by show 2 * 0 + _ ≤ _; exact Nat.le_of_eq rfl) (hb hby at_135) (fun _ _ => ⟨rfl, e0, hcl, hsl⟩)
  dsimp only [Pt.U, Pt.locs, Pt.cells, Pt.slots] at X7 l7 y7 z7 st7 hQ7
  subst l7 y7 z7
  obtain ⟨rfl, rfl, e7⟩ := hQ7
  try rw [List.append_nil] at X7
  obtain ⟨_, _, ⟨T8, L8, k8, n8⟩, -, X8, ⟨Lc8, hQ8, l8, y8, z8⟩, st8⟩ := Jvm.LawKit.callS X7 hx (y := (⟨"com/example/chance_checker/chancechecker/construction/DistributionSameAsPinLaw", "target1", "(II)I"⟩ : MethodName)) hown (mvT hZ (hw _ (List.mem_of_getElem? (i := 34) rfl))) (mvT hZ (hw _ (List.mem_of_getElem? (i := 35) rfl))) (mvT hZ (hw _ (List.mem_of_getElem? (i := 2) rfl))) (mvT hZ (hw _ (List.mem_of_getElem? (i := 36) rfl))) (by decide) (backOf (W := 1) (rm5 l Z a0 hw [] i8 i10 h0 n0 Z0) hZ (hw _ (List.mem_of_getElem? (i := 36) rfl)) (hw _ (List.mem_of_getElem? (i := 2) rfl)) (by decide) (by decide)) (g := (mkF m 142 #[.val (.int i0), .val (.int i1), .val (.int i2), .val (.int i3), .val (.int i4), .val (.int i5), .val (.int i6), .val (.int i7), .val (.int i8), .val (.int i9), .val (.int i10), .val (.int i11), .val (.ref o12), .val (.ref o13), .val (.int i14), .unset, .unset, .unset, .unset] [(.int i10), (.int i8), (.int (own_t1 i1 i3))])) rfl (by rw [hml]; rfl) (argsL := [(.int i8), (.int i10)]) (rest := [(.int (own_t1 i1 i3))]) (lenOf pd_0_3 rfl) rfl (by show 2 * 0 + _ ≤ _; exact Nat.le_of_eq rfl) (hb hby at_142) (fun _ _ => ⟨rfl, e7, hcl, hsl⟩)
  dsimp only [Pt.U, Pt.locs, Pt.cells, Pt.slots] at X8 l8 y8 z8 st8 hQ8
  subst l8 y8 z8
  obtain ⟨rfl, rfl, e8⟩ := hQ8
  try rw [List.append_nil] at X8
  obtain ⟨_, _, ⟨T9, L9, k9, n9⟩, -, X9, ⟨Lc9, hQ9, l9, y9, z9⟩, st9⟩ := Jvm.LawKit.callS X8 hx (y := (⟨"com/example/chance_checker/chancechecker/construction/DistributionSameAsPinLaw", "reset1", "(II)I"⟩ : MethodName)) hown (mvT hZ (hw _ (List.mem_of_getElem? (i := 53) rfl))) (mvT hZ (hw _ (List.mem_of_getElem? (i := 54) rfl))) (mvT hZ (hw _ (List.mem_of_getElem? (i := 2) rfl))) (mvT hZ (hw _ (List.mem_of_getElem? (i := 55) rfl))) (by decide) (backOf (W := 0) (rm9 l Z a0 hw [] i2 i3 h0 n0 Z0) hZ (hw _ (List.mem_of_getElem? (i := 55) rfl)) (hw _ (List.mem_of_getElem? (i := 2) rfl)) (by decide) (by decide)) (g := (mkF m 150 #[.val (.int i0), .val (.int i1), .val (.int i2), .val (.int i3), .val (.int i4), .val (.int i5), .val (.int i6), .val (.int i7), .val (.int i8), .val (.int i9), .val (.int i10), .val (.int i11), .val (.ref o12), .val (.ref o13), .val (.int i14), .unset, .unset, .unset, .unset] [(.int i3), (.int i2)])) rfl (by rw [hml]; rfl) (argsL := [(.int i2), (.int i3)]) (rest := []) (lenOf pd_0_3 rfl) rfl (by show 2 * 0 + _ ≤ _; exact Nat.le_of_eq rfl) (hb hby at_150) (fun _ _ => ⟨rfl, e8, hcl, hsl⟩)
  dsimp only [Pt.U, Pt.locs, Pt.cells, Pt.slots] at X9 l9 y9 z9 st9 hQ9
  subst l9 y9 z9
  obtain ⟨rfl, rfl, e9⟩ := hQ9
  try rw [List.append_nil] at X9
  obtain ⟨_, _, ⟨T10, L10, k10, n10⟩, -, X10, ⟨Lc10, hQ10, l10, y10, z10⟩, st10⟩ := Jvm.LawKit.callS X9 hx (y := (⟨"com/example/chance_checker/chancechecker/construction/DistributionSameAsPinLaw", "reset1", "(II)I"⟩ : MethodName)) hown (mvT hZ (hw _ (List.mem_of_getElem? (i := 53) rfl))) (mvT hZ (hw _ (List.mem_of_getElem? (i := 54) rfl))) (mvT hZ (hw _ (List.mem_of_getElem? (i := 2) rfl))) (mvT hZ (hw _ (List.mem_of_getElem? (i := 55) rfl))) (by decide) (backOf (W := 1) (rm9 l Z a0 hw [] i9 i10 h0 n0 Z0) hZ (hw _ (List.mem_of_getElem? (i := 55) rfl)) (hw _ (List.mem_of_getElem? (i := 2) rfl)) (by decide) (by decide)) (g := (mkF m 157 #[.val (.int i0), .val (.int i1), .val (.int i2), .val (.int i3), .val (.int i4), .val (.int i5), .val (.int i6), .val (.int i7), .val (.int i8), .val (.int i9), .val (.int i10), .val (.int i11), .val (.ref o12), .val (.ref o13), .val (.int i14), .unset, .unset, .unset, .unset] [(.int i10), (.int i9), (.int (own_r1 i2 i3))])) rfl (by rw [hml]; rfl) (argsL := [(.int i9), (.int i10)]) (rest := [(.int (own_r1 i2 i3))]) (lenOf pd_0_3 rfl) rfl (by show 2 * 0 + _ ≤ _; exact Nat.le_of_eq rfl) (hb hby at_157) (fun _ _ => ⟨rfl, e9, hcl, hsl⟩)
  dsimp only [Pt.U, Pt.locs, Pt.cells, Pt.slots] at X10 l10 y10 z10 st10 hQ10
  subst l10 y10 z10
  obtain ⟨rfl, rfl, e10⟩ := hQ10
  try rw [List.append_nil] at X10
  obtain ⟨_, _, ⟨T11, L11, k11, n11⟩, -, X11, ⟨Lc11, hQ11, l11, y11, z11⟩, st11⟩ := Jvm.LawKit.callS X10 hx (y := (⟨"com/example/chance_checker/chancechecker/construction/DistributionSameAsPinLaw", "prob1", "(I)D"⟩ : MethodName)) hown (mvT hZ (hw _ (List.mem_of_getElem? (i := 56) rfl))) (mvT hZ (hw _ (List.mem_of_getElem? (i := 57) rfl))) (mvT hZ (hw _ (List.mem_of_getElem? (i := 2) rfl))) (mvT hZ (hw _ (List.mem_of_getElem? (i := 58) rfl))) (by decide) (backOf (W := 0) (rm10 l Z a0 hw [] i4 h0 n0 Z0) hZ (hw _ (List.mem_of_getElem? (i := 58) rfl)) (hw _ (List.mem_of_getElem? (i := 2) rfl)) (by decide) (by decide)) (g := (mkF m 165 #[.val (.int i0), .val (.int i1), .val (.int i2), .val (.int i3), .val (.int i4), .val (.int i5), .val (.int i6), .val (.int i7), .val (.int i8), .val (.int i9), .val (.int i10), .val (.int i11), .val (.ref o12), .val (.ref o13), .val (.int i14), .unset, .unset, .unset, .unset] [(.int i4)])) rfl (by rw [hml]; rfl) (argsL := [(.int i4)]) (rest := []) (lenOf pd_0_5 rfl) rfl (by show 2 * 0 + _ ≤ _; exact Nat.le_of_eq rfl) (hb hby at_165) (fun _ _ => ⟨rfl, e10, hcl, hsl⟩)
  dsimp only [Pt.U, Pt.locs, Pt.cells, Pt.slots] at X11 l11 y11 z11 st11 hQ11
  subst l11 y11 z11
  obtain ⟨rfl, rfl, e11⟩ := hQ11
  try rw [List.append_nil] at X11
  obtain ⟨_, _, ⟨T12, L12, k12, n12⟩, -, X12, ⟨Lc12, hQ12, l12, y12, z12⟩, st12⟩ := Jvm.LawKit.callS X11 hx (y := (⟨"com/example/chance_checker/chancechecker/construction/DistributionSameAsPinLaw", "prob1", "(I)D"⟩ : MethodName)) hown (mvT hZ (hw _ (List.mem_of_getElem? (i := 56) rfl))) (mvT hZ (hw _ (List.mem_of_getElem? (i := 57) rfl))) (mvT hZ (hw _ (List.mem_of_getElem? (i := 2) rfl))) (mvT hZ (hw _ (List.mem_of_getElem? (i := 58) rfl))) (by decide) (backOf (W := 2) (rm10 l Z a0 hw [] i11 h0 n0 Z0) hZ (hw _ (List.mem_of_getElem? (i := 58) rfl)) (hw _ (List.mem_of_getElem? (i := 2) rfl)) (by decide) (by decide)) (g := (mkF m 170 #[.val (.int i0), .val (.int i1), .val (.int i2), .val (.int i3), .val (.int i4), .val (.int i5), .val (.int i6), .val (.int i7), .val (.int i8), .val (.int i9), .val (.int i10), .val (.int i11), .val (.ref o12), .val (.ref o13), .val (.int i14), .unset, .unset, .unset, .unset] [(.int i11), (.double (own_p1 i4))])) rfl (by rw [hml]; rfl) (argsL := [(.int i11)]) (rest := [(.double (own_p1 i4))]) (lenOf pd_0_5 rfl) rfl (by show 2 * 0 + _ ≤ _; exact Nat.le_of_eq rfl) (hb hby at_170) (fun _ _ => ⟨rfl, e11, hcl, hsl⟩)
  dsimp only [Pt.U, Pt.locs, Pt.cells, Pt.slots] at X12 l12 y12 z12 st12 hQ12
  subst l12 y12 z12
  obtain ⟨rfl, rfl, e12⟩ := hQ12
  try rw [List.append_nil] at X12
  refine ⟨T12, X12, e12, fun target kt => ?_⟩
  show Steps p.tables e below (T0.setTop (mkF m 133 #[.val (.int i0), .val (.int i1), .val (.int i2), .val (.int i3), .val (.int i4), .val (.int i5), .val (.int i6), .val (.int i7), .val (.int i8), .val (.int i9), .val (.int i10), .val (.int i11), .val (.ref o12), .val (.ref o13), .val (.int i14), .unset, .unset, .unset, .unset] [])) _
  refine XS.iloadN X0.here hx rfl (hb hby at_133) rfl ?_
  show Steps p.tables e below (T0.setTop (mkF m 134 #[.val (.int i0), .val (.int i1), .val (.int i2), .val (.int i3), .val (.int i4), .val (.int i5), .val (.int i6), .val (.int i7), .val (.int i8), .val (.int i9), .val (.int i10), .val (.int i11), .val (.ref o12), .val (.ref o13), .val (.int i14), .unset, .unset, .unset, .unset] [(.int i1)])) _
  refine XS.iloadN X0.here hx rfl (hb hby at_134) rfl ?_
  show Steps p.tables e below (T0.setTop (mkF m 135 #[.val (.int i0), .val (.int i1), .val (.int i2), .val (.int i3), .val (.int i4), .val (.int i5), .val (.int i6), .val (.int i7), .val (.int i8), .val (.int i9), .val (.int i10), .val (.int i11), .val (.ref o12), .val (.ref o13), .val (.int i14), .unset, .unset, .unset, .unset] [(.int i3), (.int i1)])) _
  refine st7 _ ?_
  show Steps p.tables e below (T7.setTop (mkF m 138 #[.val (.int i0), .val (.int i1), .val (.int i2), .val (.int i3), .val (.int i4), .val (.int i5), .val (.int i6), .val (.int i7), .val (.int i8), .val (.int i9), .val (.int i10), .val (.int i11), .val (.ref o12), .val (.ref o13), .val (.int i14), .unset, .unset, .unset, .unset] [(.int (own_t1 i1 i3))])) _
  refine XS.iload X7.here hx rfl (hb hby at_138) rfl ?_
  show Steps p.tables e below (T7.setTop (mkF m 140 #[.val (.int i0), .val (.int i1), .val (.int i2), .val (.int i3), .val (.int i4), .val (.int i5), .val (.int i6), .val (.int i7), .val (.int i8), .val (.int i9), .val (.int i10), .val (.int i11), .val (.ref o12), .val (.ref o13), .val (.int i14), .unset, .unset, .unset, .unset] [(.int i8), (.int (own_t1 i1 i3))])) _
  refine XS.iload X7.here hx rfl (hb hby at_140) rfl ?_
  show Steps p.tables e below (T7.setTop (mkF m 142 #[.val (.int i0), .val (.int i1), .val (.int i2), .val (.int i3), .val (.int i4), .val (.int i5), .val (.int i6), .val (.int i7), .val (.int i8), .val (.int i9), .val (.int i10), .val (.int i11), .val (.ref o12), .val (.ref o13), .val (.int i14), .unset, .unset, .unset, .unset] [(.int i10), (.int i8), (.int (own_t1 i1 i3))])) _
  refine st8 _ ?_
  show Steps p.tables e below (T8.setTop (mkF m 145 #[.val (.int i0), .val (.int i1), .val (.int i2), .val (.int i3), .val (.int i4), .val (.int i5), .val (.int i6), .val (.int i7), .val (.int i8), .val (.int i9), .val (.int i10), .val (.int i11), .val (.ref o12), .val (.ref o13), .val (.int i14), .unset, .unset, .unset, .unset] [(.int (own_t1 i8 i10)), (.int (own_t1 i1 i3))])) _
  refine XS.icmpNo X8.here hx rfl (hb hby at_145) rfl (teq hc145).2 ?_
  show Steps p.tables e below (T8.setTop (mkF m 148 #[.val (.int i0), .val (.int i1), .val (.int i2), .val (.int i3), .val (.int i4), .val (.int i5), .val (.int i6), .val (.int i7), .val (.int i8), .val (.int i9), .val (.int i10), .val (.int i11), .val (.ref o12), .val (.ref o13), .val (.int i14), .unset, .unset, .unset, .unset] [])) _
  refine XS.iloadN X8.here hx rfl (hb hby at_148) rfl ?_
  show Steps p.tables e below (T8.setTop (mkF m 149 #[.val (.int i0), .val (.int i1), .val (.int i2), .val (.int i3), .val (.int i4), .val (.int i5), .val (.int i6), .val (.int i7), .val (.int i8), .val (.int i9), .val (.int i10), .val (.int i11), .val (.ref o12), .val (.ref o13), .val (.int i14), .unset, .unset, .unset, .unset] [(.int i2)])) _
  refine XS.iloadN X8.here hx rfl (hb hby at_149) rfl ?_
  show Steps p.tables e below (T8.setTop (mkF m 150 #[.val (.int i0), .val (.int i1), .val (.int i2), .val (.int i3), .val (.int i4), .val (.int i5), .val (.int i6), .val (.int i7), .val (.int i8), .val (.int i9), .val (.int i10), .val (.int i11), .val (.ref o12), .val (.ref o13), .val (.int i14), .unset, .unset, .unset, .unset] [(.int i3), (.int i2)])) _
  refine st9 _ ?_
  show Steps p.tables e below (T9.setTop (mkF m 153 #[.val (.int i0), .val (.int i1), .val (.int i2), .val (.int i3), .val (.int i4), .val (.int i5), .val (.int i6), .val (.int i7), .val (.int i8), .val (.int i9), .val (.int i10), .val (.int i11), .val (.ref o12), .val (.ref o13), .val (.int i14), .unset, .unset, .unset, .unset] [(.int (own_r1 i2 i3))])) _
  refine XS.iload X9.here hx rfl (hb hby at_153) rfl ?_
  show Steps p.tables e below (T9.setTop (mkF m 155 #[.val (.int i0), .val (.int i1), .val (.int i2), .val (.int i3), .val (.int i4), .val (.int i5), .val (.int i6), .val (.int i7), .val (.int i8), .val (.int i9), .val (.int i10), .val (.int i11), .val (.ref o12), .val (.ref o13), .val (.int i14), .unset, .unset, .unset, .unset] [(.int i9), (.int (own_r1 i2 i3))])) _
  refine XS.iload X9.here hx rfl (hb hby at_155) rfl ?_
  show Steps p.tables e below (T9.setTop (mkF m 157 #[.val (.int i0), .val (.int i1), .val (.int i2), .val (.int i3), .val (.int i4), .val (.int i5), .val (.int i6), .val (.int i7), .val (.int i8), .val (.int i9), .val (.int i10), .val (.int i11), .val (.ref o12), .val (.ref o13), .val (.int i14), .unset, .unset, .unset, .unset] [(.int i10), (.int i9), (.int (own_r1 i2 i3))])) _
  refine st10 _ ?_
  show Steps p.tables e below (T10.setTop (mkF m 160 #[.val (.int i0), .val (.int i1), .val (.int i2), .val (.int i3), .val (.int i4), .val (.int i5), .val (.int i6), .val (.int i7), .val (.int i8), .val (.int i9), .val (.int i10), .val (.int i11), .val (.ref o12), .val (.ref o13), .val (.int i14), .unset, .unset, .unset, .unset] [(.int (own_r1 i9 i10)), (.int (own_r1 i2 i3))])) _
  refine XS.icmpNo X10.here hx rfl (hb hby at_160) rfl (teq hc160).2 ?_
  show Steps p.tables e below (T10.setTop (mkF m 163 #[.val (.int i0), .val (.int i1), .val (.int i2), .val (.int i3), .val (.int i4), .val (.int i5), .val (.int i6), .val (.int i7), .val (.int i8), .val (.int i9), .val (.int i10), .val (.int i11), .val (.ref o12), .val (.ref o13), .val (.int i14), .unset, .unset, .unset, .unset] [])) _
  refine XS.iload X10.here hx rfl (hb hby at_163) rfl ?_
  show Steps p.tables e below (T10.setTop (mkF m 165 #[.val (.int i0), .val (.int i1), .val (.int i2), .val (.int i3), .val (.int i4), .val (.int i5), .val (.int i6), .val (.int i7), .val (.int i8), .val (.int i9), .val (.int i10), .val (.int i11), .val (.ref o12), .val (.ref o13), .val (.int i14), .unset, .unset, .unset, .unset] [(.int i4)])) _
  refine st11 _ ?_
  show Steps p.tables e below (T11.setTop (mkF m 168 #[.val (.int i0), .val (.int i1), .val (.int i2), .val (.int i3), .val (.int i4), .val (.int i5), .val (.int i6), .val (.int i7), .val (.int i8), .val (.int i9), .val (.int i10), .val (.int i11), .val (.ref o12), .val (.ref o13), .val (.int i14), .unset, .unset, .unset, .unset] [(.double (own_p1 i4))])) _
  refine XS.iload X11.here hx rfl (hb hby at_168) rfl ?_
  show Steps p.tables e below (T11.setTop (mkF m 170 #[.val (.int i0), .val (.int i1), .val (.int i2), .val (.int i3), .val (.int i4), .val (.int i5), .val (.int i6), .val (.int i7), .val (.int i8), .val (.int i9), .val (.int i10), .val (.int i11), .val (.ref o12), .val (.ref o13), .val (.int i14), .unset, .unset, .unset, .unset] [(.int i11), (.double (own_p1 i4))])) _
  refine st12 _ ?_
  show Steps p.tables e below (T12.setTop (mkF m 173 #[.val (.int i0), .val (.int i1), .val (.int i2), .val (.int i3), .val (.int i4), .val (.int i5), .val (.int i6), .val (.int i7), .val (.int i8), .val (.int i9), .val (.int i10), .val (.int i11), .val (.ref o12), .val (.ref o13), .val (.int i14), .unset, .unset, .unset, .unset] [(.double (own_p1 i11)), (.double (own_p1 i4))])) _
  refine XS.dcmpS X12.here hx rfl (hb hby at_173) rfl rfl ?_
  show Steps p.tables e below (T12.setTop (mkF m 174 #[.val (.int i0), .val (.int i1), .val (.int i2), .val (.int i3), .val (.int i4), .val (.int i5), .val (.int i6), .val (.int i7), .val (.int i8), .val (.int i9), .val (.int i10), .val (.int i11), .val (.ref o12), .val (.ref o13), .val (.int i14), .unset, .unset, .unset, .unset] [(.int (cmpValue (FP.dcmp (own_p1 i4) (own_p1 i11)) .l))])) _
  refine XS.ifNo X12.here hx rfl (hb hby at_174) rfl ((if0 _ _).trans (teq hc174).2) ?_
  show Steps p.tables e below (T12.setTop (mkF m 177 #[.val (.int i0), .val (.int i1), .val (.int i2), .val (.int i3), .val (.int i4), .val (.int i5), .val (.int i6), .val (.int i7), .val (.int i8), .val (.int i9), .val (.int i10), .val (.int i11), .val (.ref o12), .val (.ref o13), .val (.int i14), .unset, .unset, .unset, .unset] [])) _
  refine XS.iconst X12.here hx rfl (hb hby at_177) ?_
  show Steps p.tables e below (T12.setTop (mkF m 178 #[.val (.int i0), .val (.int i1), .val (.int i2), .val (.int i3), .val (.int i4), .val (.int i5), .val (.int i6), .val (.int i7), .val (.int i8), .val (.int i9), .val (.int i10), .val (.int i11), .val (.ref o12), .val (.ref o13), .val (.int i14), .unset, .unset, .unset, .unset] [(.int (1 : Int32))])) _
  refine XS.goto X12.here hx rfl (pc0 := 178) (pc' := 182) rfl (hb hby at_178) (by decide) (by decide) ?_
  show Steps p.tables e below (T12.setTop (mkF m 182 #[.val (.int i0), .val (.int i1), .val (.int i2), .val (.int i3), .val (.int i4), .val (.int i5), .val (.int i6), .val (.int i7), .val (.int i8), .val (.int i9), .val (.int i10), .val (.int i11), .val (.ref o12), .val (.ref o13), .val (.int i14), .unset, .unset, .unset, .unset] [(.int (1 : Int32))])) _
  refine XS.istore X12.here hx rfl (hb hby at_182) rfl (l' := #[.val (.int i0), .val (.int i1), .val (.int i2), .val (.int i3), .val (.int i4), .val (.int i5), .val (.int i6), .val (.int i7), .val (.int i8), .val (.int i9), .val (.int i10), .val (.int i11), .val (.ref o12), .val (.ref o13), .val (.int i14), .val (.int (1 : Int32)), .unset, .unset, .unset]) rfl ?_
  exact kt
set_option maxRecDepth 65536 in
set_option maxHeartbeats 40000000 in
theorem own_E_t {p : Program} {l : Launch} {e : Env} {s : State} {m : MethodId} {args : Array Value} {below : List Frame} {meth : Method} {c : Code} {T0 : State} {locs : List Loc} {cells slots : Nat} {Z : State} {a0 : Array Value} {h0 : Heap} (i0 : Int32) (i1 : Int32) (i2 : Int32) (i3 : Int32) (i4 : Int32) (i5 : Int32) (i6 : Int32) (i7 : Int32) (i8 : Int32) (i9 : Int32) (i10 : Int32) (i11 : Int32) (o12 : Addr) (o13 : Addr) (i14 : Int32) (i15 : Int32)
    (X0 : Stand p l e room_1 s m args below meth c T0 locs cells slots) (hx : p.tables.exec = Jvm.exec) (hZ : Z.Warmed39 s.vm) (hw : ∀ d ∈ tables_1, d.before a0 Z = true) (hby : c.code = code) (hml : c.maxLocals = 19) (hown : s.vm.findClass "com/example/chance_checker/chancechecker/construction/DistributionSameAsPinLaw" = some m.cls) (e0 : T0.heap = h0) (hc188 : ¬ (i6 = i7)) :
    ∃ (T' : State), Stand p l e room_1 s m args below meth c T' locs cells slots ∧ T'.heap = h0 ∧
      ∀ target, Steps p.tables e below (T'.setTop (mkF m 220 #[.val (.int i0), .val (.int i1), .val (.int i2), .val (.int i3), .val (.int i4), .val (.int i5), .val (.int i6), .val (.int i7), .val (.int i8), .val (.int i9), .val (.int i10), .val (.int i11), .val (.ref o12), .val (.ref o13), .val (.int i14), .val (.int i15), .val (.int (0 : Int32)), .unset, .unset] [])) target → Steps p.tables e below (T0.setTop (mkF m 184 #[.val (.int i0), .val (.int i1), .val (.int i2), .val (.int i3), .val (.int i4), .val (.int i5), .val (.int i6), .val (.int i7), .val (.int i8), .val (.int i9), .val (.int i10), .val (.int i11), .val (.ref o12), .val (.ref o13), .val (.int i14), .val (.int i15), .unset, .unset, .unset] [])) target := by

  refine ⟨T0, X0, e0, fun target kt => ?_⟩
  show Steps p.tables e below (T0.setTop (mkF m 184 #[.val (.int i0), .val (.int i1), .val (.int i2), .val (.int i3), .val (.int i4), .val (.int i5), .val (.int i6), .val (.int i7), .val (.int i8), .val (.int i9), .val (.int i10), .val (.int i11), .val (.ref o12), .val (.ref o13), .val (.int i14), .val (.int i15), .unset, .unset, .unset] [])) _
  refine XS.iload X0.here hx rfl (hb hby at_184) rfl ?_
  show Steps p.tables e below (T0.setTop (mkF m 186 #[.val (.int i0), .val (.int i1), .val (.int i2), .val (.int i3), .val (.int i4), .val (.int i5), .val (.int i6), .val (.int i7), .val (.int i8), .val (.int i9), .val (.int i10), .val (.int i11), .val (.ref o12), .val (.ref o13), .val (.int i14), .val (.int i15), .unset, .unset, .unset] [(.int i6)])) _
  refine XS.iload X0.here hx rfl (hb hby at_186) rfl ?_
  show Steps p.tables e below (T0.setTop (mkF m 188 #[.val (.int i0), .val (.int i1), .val (.int i2), .val (.int i3), .val (.int i4), .val (.int i5), .val (.int i6), .val (.int i7), .val (.int i8), .val (.int i9), .val (.int i10), .val (.int i11), .val (.ref o12), .val (.ref o13), .val (.int i14), .val (.int i15), .unset, .unset, .unset] [(.int i7), (.int i6)])) _
  refine XS.icmpYes X0.here hx rfl (pc0 := 188) (pc' := 217) rfl (hb hby at_188) rfl (feq hc188).2 (by decide) (by decide) ?_
  show Steps p.tables e below (T0.setTop (mkF m 217 #[.val (.int i0), .val (.int i1), .val (.int i2), .val (.int i3), .val (.int i4), .val (.int i5), .val (.int i6), .val (.int i7), .val (.int i8), .val (.int i9), .val (.int i10), .val (.int i11), .val (.ref o12), .val (.ref o13), .val (.int i14), .val (.int i15), .unset, .unset, .unset] [])) _
  refine XS.iconst X0.here hx rfl (hb hby at_217) ?_
  show Steps p.tables e below (T0.setTop (mkF m 218 #[.val (.int i0), .val (.int i1), .val (.int i2), .val (.int i3), .val (.int i4), .val (.int i5), .val (.int i6), .val (.int i7), .val (.int i8), .val (.int i9), .val (.int i10), .val (.int i11), .val (.ref o12), .val (.ref o13), .val (.int i14), .val (.int i15), .unset, .unset, .unset] [(.int (0 : Int32))])) _
  refine XS.istore X0.here hx rfl (hb hby at_218) rfl (l' := #[.val (.int i0), .val (.int i1), .val (.int i2), .val (.int i3), .val (.int i4), .val (.int i5), .val (.int i6), .val (.int i7), .val (.int i8), .val (.int i9), .val (.int i10), .val (.int i11), .val (.ref o12), .val (.ref o13), .val (.int i14), .val (.int i15), .val (.int (0 : Int32)), .unset, .unset]) rfl ?_
  exact kt
set_option maxRecDepth 65536 in
set_option maxHeartbeats 40000000 in
theorem own_E_ftt {p : Program} {l : Launch} {e : Env} {s : State} {m : MethodId} {args : Array Value} {below : List Frame} {meth : Method} {c : Code} {T0 : State} {locs : List Loc} {cells slots : Nat} {Z : State} {a0 : Array Value} {h0 : Heap} (i0 : Int32) (i1 : Int32) (i2 : Int32) (i3 : Int32) (i4 : Int32) (i5 : Int32) (i6 : Int32) (i7 : Int32) (i8 : Int32) (i9 : Int32) (i10 : Int32) (i11 : Int32) (o12 : Addr) (o13 : Addr) (i14 : Int32) (i15 : Int32)
    (X0 : Stand p l e room_1 s m args below meth c T0 locs cells slots) (hx : p.tables.exec = Jvm.exec) (hZ : Z.Warmed39 s.vm) (hw : ∀ d ∈ tables_1, d.before a0 Z = true) (hby : c.code = code) (hml : c.maxLocals = 19) (hown : s.vm.findClass "com/example/chance_checker/chancechecker/construction/DistributionSameAsPinLaw" = some m.cls) (e0 : T0.heap = h0) (hc188 : i6 = i7) (hc194 : i6 < (1 : Int32)) (hc205 : i6 < (2 : Int32)) :
    ∃ (T' : State), Stand p l e room_1 s m args below meth c T' locs cells slots ∧ T'.heap = h0 ∧
      ∀ target, Steps p.tables e below (T'.setTop (mkF m 220 #[.val (.int i0), .val (.int i1), .val (.int i2), .val (.int i3), .val (.int i4), .val (.int i5), .val (.int i6), .val (.int i7), .val (.int i8), .val (.int i9), .val (.int i10), .val (.int i11), .val (.ref o12), .val (.ref o13), .val (.int i14), .val (.int i15), .val (.int (1 : Int32)), .unset, .unset] [])) target → Steps p.tables e below (T0.setTop (mkF m 184 #[.val (.int i0), .val (.int i1), .val (.int i2), .val (.int i3), .val (.int i4), .val (.int i5), .val (.int i6), .val (.int i7), .val (.int i8), .val (.int i9), .val (.int i10), .val (.int i11), .val (.ref o12), .val (.ref o13), .val (.int i14), .val (.int i15), .unset, .unset, .unset] [])) target := by

  refine ⟨T0, X0, e0, fun target kt => ?_⟩
  show Steps p.tables e below (T0.setTop (mkF m 184 #[.val (.int i0), .val (.int i1), .val (.int i2), .val (.int i3), .val (.int i4), .val (.int i5), .val (.int i6), .val (.int i7), .val (.int i8), .val (.int i9), .val (.int i10), .val (.int i11), .val (.ref o12), .val (.ref o13), .val (.int i14), .val (.int i15), .unset, .unset, .unset] [])) _
  refine XS.iload X0.here hx rfl (hb hby at_184) rfl ?_
  show Steps p.tables e below (T0.setTop (mkF m 186 #[.val (.int i0), .val (.int i1), .val (.int i2), .val (.int i3), .val (.int i4), .val (.int i5), .val (.int i6), .val (.int i7), .val (.int i8), .val (.int i9), .val (.int i10), .val (.int i11), .val (.ref o12), .val (.ref o13), .val (.int i14), .val (.int i15), .unset, .unset, .unset] [(.int i6)])) _
  refine XS.iload X0.here hx rfl (hb hby at_186) rfl ?_
  show Steps p.tables e below (T0.setTop (mkF m 188 #[.val (.int i0), .val (.int i1), .val (.int i2), .val (.int i3), .val (.int i4), .val (.int i5), .val (.int i6), .val (.int i7), .val (.int i8), .val (.int i9), .val (.int i10), .val (.int i11), .val (.ref o12), .val (.ref o13), .val (.int i14), .val (.int i15), .unset, .unset, .unset] [(.int i7), (.int i6)])) _
  refine XS.icmpNo X0.here hx rfl (hb hby at_188) rfl (teq hc188).2 ?_
  show Steps p.tables e below (T0.setTop (mkF m 191 #[.val (.int i0), .val (.int i1), .val (.int i2), .val (.int i3), .val (.int i4), .val (.int i5), .val (.int i6), .val (.int i7), .val (.int i8), .val (.int i9), .val (.int i10), .val (.int i11), .val (.ref o12), .val (.ref o13), .val (.int i14), .val (.int i15), .unset, .unset, .unset] [])) _
  refine XS.iload X0.here hx rfl (hb hby at_191) rfl ?_
  show Steps p.tables e below (T0.setTop (mkF m 193 #[.val (.int i0), .val (.int i1), .val (.int i2), .val (.int i3), .val (.int i4), .val (.int i5), .val (.int i6), .val (.int i7), .val (.int i8), .val (.int i9), .val (.int i10), .val (.int i11), .val (.ref o12), .val (.ref o13), .val (.int i14), .val (.int i15), .unset, .unset, .unset] [(.int i6)])) _
  refine XS.iconst X0.here hx rfl (hb hby at_193) ?_
  show Steps p.tables e below (T0.setTop (mkF m 194 #[.val (.int i0), .val (.int i1), .val (.int i2), .val (.int i3), .val (.int i4), .val (.int i5), .val (.int i6), .val (.int i7), .val (.int i8), .val (.int i9), .val (.int i10), .val (.int i11), .val (.ref o12), .val (.ref o13), .val (.int i14), .val (.int i15), .unset, .unset, .unset] [(.int (1 : Int32)), (.int i6)])) _
  refine XS.icmpYes X0.here hx rfl (pc0 := 194) (pc' := 202) rfl (hb hby at_194) rfl (tlt hc194).1 (by decide) (by decide) ?_
  show Steps p.tables e below (T0.setTop (mkF m 202 #[.val (.int i0), .val (.int i1), .val (.int i2), .val (.int i3), .val (.int i4), .val (.int i5), .val (.int i6), .val (.int i7), .val (.int i8), .val (.int i9), .val (.int i10), .val (.int i11), .val (.ref o12), .val (.ref o13), .val (.int i14), .val (.int i15), .unset, .unset, .unset] [])) _
  refine XS.iload X0.here hx rfl (hb hby at_202) rfl ?_
  show Steps p.tables e below (T0.setTop (mkF m 204 #[.val (.int i0), .val (.int i1), .val (.int i2), .val (.int i3), .val (.int i4), .val (.int i5), .val (.int i6), .val (.int i7), .val (.int i8), .val (.int i9), .val (.int i10), .val (.int i11), .val (.ref o12), .val (.ref o13), .val (.int i14), .val (.int i15), .unset, .unset, .unset] [(.int i6)])) _
  refine XS.iconst X0.here hx rfl (hb hby at_204) ?_
  show Steps p.tables e below (T0.setTop (mkF m 205 #[.val (.int i0), .val (.int i1), .val (.int i2), .val (.int i3), .val (.int i4), .val (.int i5), .val (.int i6), .val (.int i7), .val (.int i8), .val (.int i9), .val (.int i10), .val (.int i11), .val (.ref o12), .val (.ref o13), .val (.int i14), .val (.int i15), .unset, .unset, .unset] [(.int (2 : Int32)), (.int i6)])) _
  refine XS.icmpYes X0.here hx rfl (pc0 := 205) (pc' := 213) rfl (hb hby at_205) rfl (tlt hc205).1 (by decide) (by decide) ?_
  show Steps p.tables e below (T0.setTop (mkF m 213 #[.val (.int i0), .val (.int i1), .val (.int i2), .val (.int i3), .val (.int i4), .val (.int i5), .val (.int i6), .val (.int i7), .val (.int i8), .val (.int i9), .val (.int i10), .val (.int i11), .val (.ref o12), .val (.ref o13), .val (.int i14), .val (.int i15), .unset, .unset, .unset] [])) _
  refine XS.iconst X0.here hx rfl (hb hby at_213) ?_
  show Steps p.tables e below (T0.setTop (mkF m 214 #[.val (.int i0), .val (.int i1), .val (.int i2), .val (.int i3), .val (.int i4), .val (.int i5), .val (.int i6), .val (.int i7), .val (.int i8), .val (.int i9), .val (.int i10), .val (.int i11), .val (.ref o12), .val (.ref o13), .val (.int i14), .val (.int i15), .unset, .unset, .unset] [(.int (1 : Int32))])) _
  refine XS.goto X0.here hx rfl (pc0 := 214) (pc' := 218) rfl (hb hby at_214) (by decide) (by decide) ?_
  show Steps p.tables e below (T0.setTop (mkF m 218 #[.val (.int i0), .val (.int i1), .val (.int i2), .val (.int i3), .val (.int i4), .val (.int i5), .val (.int i6), .val (.int i7), .val (.int i8), .val (.int i9), .val (.int i10), .val (.int i11), .val (.ref o12), .val (.ref o13), .val (.int i14), .val (.int i15), .unset, .unset, .unset] [(.int (1 : Int32))])) _
  refine XS.istore X0.here hx rfl (hb hby at_218) rfl (l' := #[.val (.int i0), .val (.int i1), .val (.int i2), .val (.int i3), .val (.int i4), .val (.int i5), .val (.int i6), .val (.int i7), .val (.int i8), .val (.int i9), .val (.int i10), .val (.int i11), .val (.ref o12), .val (.ref o13), .val (.int i14), .val (.int i15), .val (.int (1 : Int32)), .unset, .unset]) rfl ?_
  exact kt
set_option maxRecDepth 65536 in
set_option maxHeartbeats 40000000 in
theorem own_E_fft {p : Program} {l : Launch} {e : Env} {s : State} {m : MethodId} {args : Array Value} {below : List Frame} {meth : Method} {c : Code} {T0 : State} {locs : List Loc} {cells slots : Nat} {Z : State} {a0 : Array Value} {h0 : Heap} (i0 : Int32) (i1 : Int32) (i2 : Int32) (i3 : Int32) (i4 : Int32) (i5 : Int32) (i6 : Int32) (i7 : Int32) (i8 : Int32) (i9 : Int32) (i10 : Int32) (i11 : Int32) (o12 : Addr) (o13 : Addr) (i14 : Int32) (i15 : Int32)
    (X0 : Stand p l e room_1 s m args below meth c T0 locs cells slots) (hx : p.tables.exec = Jvm.exec) (hZ : Z.Warmed39 s.vm) (hw : ∀ d ∈ tables_1, d.before a0 Z = true) (hby : c.code = code) (hml : c.maxLocals = 19) (hown : s.vm.findClass "com/example/chance_checker/chancechecker/construction/DistributionSameAsPinLaw" = some m.cls) (e0 : T0.heap = h0) (hc188 : i6 = i7) (hc194 : ¬ (i6 < (1 : Int32))) (hc199 : i14 = (0 : Int32)) :
    ∃ (T' : State), Stand p l e room_1 s m args below meth c T' locs cells slots ∧ T'.heap = h0 ∧
      ∀ target, Steps p.tables e below (T'.setTop (mkF m 220 #[.val (.int i0), .val (.int i1), .val (.int i2), .val (.int i3), .val (.int i4), .val (.int i5), .val (.int i6), .val (.int i7), .val (.int i8), .val (.int i9), .val (.int i10), .val (.int i11), .val (.ref o12), .val (.ref o13), .val (.int i14), .val (.int i15), .val (.int (0 : Int32)), .unset, .unset] [])) target → Steps p.tables e below (T0.setTop (mkF m 184 #[.val (.int i0), .val (.int i1), .val (.int i2), .val (.int i3), .val (.int i4), .val (.int i5), .val (.int i6), .val (.int i7), .val (.int i8), .val (.int i9), .val (.int i10), .val (.int i11), .val (.ref o12), .val (.ref o13), .val (.int i14), .val (.int i15), .unset, .unset, .unset] [])) target := by

  refine ⟨T0, X0, e0, fun target kt => ?_⟩
  show Steps p.tables e below (T0.setTop (mkF m 184 #[.val (.int i0), .val (.int i1), .val (.int i2), .val (.int i3), .val (.int i4), .val (.int i5), .val (.int i6), .val (.int i7), .val (.int i8), .val (.int i9), .val (.int i10), .val (.int i11), .val (.ref o12), .val (.ref o13), .val (.int i14), .val (.int i15), .unset, .unset, .unset] [])) _
  refine XS.iload X0.here hx rfl (hb hby at_184) rfl ?_
  show Steps p.tables e below (T0.setTop (mkF m 186 #[.val (.int i0), .val (.int i1), .val (.int i2), .val (.int i3), .val (.int i4), .val (.int i5), .val (.int i6), .val (.int i7), .val (.int i8), .val (.int i9), .val (.int i10), .val (.int i11), .val (.ref o12), .val (.ref o13), .val (.int i14), .val (.int i15), .unset, .unset, .unset] [(.int i6)])) _
  refine XS.iload X0.here hx rfl (hb hby at_186) rfl ?_
  show Steps p.tables e below (T0.setTop (mkF m 188 #[.val (.int i0), .val (.int i1), .val (.int i2), .val (.int i3), .val (.int i4), .val (.int i5), .val (.int i6), .val (.int i7), .val (.int i8), .val (.int i9), .val (.int i10), .val (.int i11), .val (.ref o12), .val (.ref o13), .val (.int i14), .val (.int i15), .unset, .unset, .unset] [(.int i7), (.int i6)])) _
  refine XS.icmpNo X0.here hx rfl (hb hby at_188) rfl (teq hc188).2 ?_
  show Steps p.tables e below (T0.setTop (mkF m 191 #[.val (.int i0), .val (.int i1), .val (.int i2), .val (.int i3), .val (.int i4), .val (.int i5), .val (.int i6), .val (.int i7), .val (.int i8), .val (.int i9), .val (.int i10), .val (.int i11), .val (.ref o12), .val (.ref o13), .val (.int i14), .val (.int i15), .unset, .unset, .unset] [])) _
  refine XS.iload X0.here hx rfl (hb hby at_191) rfl ?_
  show Steps p.tables e below (T0.setTop (mkF m 193 #[.val (.int i0), .val (.int i1), .val (.int i2), .val (.int i3), .val (.int i4), .val (.int i5), .val (.int i6), .val (.int i7), .val (.int i8), .val (.int i9), .val (.int i10), .val (.int i11), .val (.ref o12), .val (.ref o13), .val (.int i14), .val (.int i15), .unset, .unset, .unset] [(.int i6)])) _
  refine XS.iconst X0.here hx rfl (hb hby at_193) ?_
  show Steps p.tables e below (T0.setTop (mkF m 194 #[.val (.int i0), .val (.int i1), .val (.int i2), .val (.int i3), .val (.int i4), .val (.int i5), .val (.int i6), .val (.int i7), .val (.int i8), .val (.int i9), .val (.int i10), .val (.int i11), .val (.ref o12), .val (.ref o13), .val (.int i14), .val (.int i15), .unset, .unset, .unset] [(.int (1 : Int32)), (.int i6)])) _
  refine XS.icmpNo X0.here hx rfl (hb hby at_194) rfl (flt hc194).1 ?_
  show Steps p.tables e below (T0.setTop (mkF m 197 #[.val (.int i0), .val (.int i1), .val (.int i2), .val (.int i3), .val (.int i4), .val (.int i5), .val (.int i6), .val (.int i7), .val (.int i8), .val (.int i9), .val (.int i10), .val (.int i11), .val (.ref o12), .val (.ref o13), .val (.int i14), .val (.int i15), .unset, .unset, .unset] [])) _
  refine XS.iload X0.here hx rfl (hb hby at_197) rfl ?_
  show Steps p.tables e below (T0.setTop (mkF m 199 #[.val (.int i0), .val (.int i1), .val (.int i2), .val (.int i3), .val (.int i4), .val (.int i5), .val (.int i6), .val (.int i7), .val (.int i8), .val (.int i9), .val (.int i10), .val (.int i11), .val (.ref o12), .val (.ref o13), .val (.int i14), .val (.int i15), .unset, .unset, .unset] [(.int i14)])) _
  refine XS.ifYes X0.here hx rfl (pc0 := 199) (pc' := 217) rfl (hb hby at_199) rfl ((if0 _ _).trans (teq hc199).1) (by decide) (by decide) ?_
  show Steps p.tables e below (T0.setTop (mkF m 217 #[.val (.int i0), .val (.int i1), .val (.int i2), .val (.int i3), .val (.int i4), .val (.int i5), .val (.int i6), .val (.int i7), .val (.int i8), .val (.int i9), .val (.int i10), .val (.int i11), .val (.ref o12), .val (.ref o13), .val (.int i14), .val (.int i15), .unset, .unset, .unset] [])) _
  refine XS.iconst X0.here hx rfl (hb hby at_217) ?_
  show Steps p.tables e below (T0.setTop (mkF m 218 #[.val (.int i0), .val (.int i1), .val (.int i2), .val (.int i3), .val (.int i4), .val (.int i5), .val (.int i6), .val (.int i7), .val (.int i8), .val (.int i9), .val (.int i10), .val (.int i11), .val (.ref o12), .val (.ref o13), .val (.int i14), .val (.int i15), .unset, .unset, .unset] [(.int (0 : Int32))])) _
  refine XS.istore X0.here hx rfl (hb hby at_218) rfl (l' := #[.val (.int i0), .val (.int i1), .val (.int i2), .val (.int i3), .val (.int i4), .val (.int i5), .val (.int i6), .val (.int i7), .val (.int i8), .val (.int i9), .val (.int i10), .val (.int i11), .val (.ref o12), .val (.ref o13), .val (.int i14), .val (.int i15), .val (.int (0 : Int32)), .unset, .unset]) rfl ?_
  exact kt
set_option maxRecDepth 65536 in
set_option maxHeartbeats 40000000 in
theorem own_E_ffft {p : Program} {l : Launch} {e : Env} {s : State} {m : MethodId} {args : Array Value} {below : List Frame} {meth : Method} {c : Code} {T0 : State} {locs : List Loc} {cells slots : Nat} {Z : State} {a0 : Array Value} {h0 : Heap} (i0 : Int32) (i1 : Int32) (i2 : Int32) (i3 : Int32) (i4 : Int32) (i5 : Int32) (i6 : Int32) (i7 : Int32) (i8 : Int32) (i9 : Int32) (i10 : Int32) (i11 : Int32) (o12 : Addr) (o13 : Addr) (i14 : Int32) (i15 : Int32)
    (X0 : Stand p l e room_1 s m args below meth c T0 locs cells slots) (hx : p.tables.exec = Jvm.exec) (hZ : Z.Warmed39 s.vm) (hw : ∀ d ∈ tables_1, d.before a0 Z = true) (hby : c.code = code) (hml : c.maxLocals = 19) (hown : s.vm.findClass "com/example/chance_checker/chancechecker/construction/DistributionSameAsPinLaw" = some m.cls) (e0 : T0.heap = h0) (hc188 : i6 = i7) (hc194 : ¬ (i6 < (1 : Int32))) (hc199 : ¬ (i14 = (0 : Int32))) (hc205 : i6 < (2 : Int32)) :
    ∃ (T' : State), Stand p l e room_1 s m args below meth c T' locs cells slots ∧ T'.heap = h0 ∧
      ∀ target, Steps p.tables e below (T'.setTop (mkF m 220 #[.val (.int i0), .val (.int i1), .val (.int i2), .val (.int i3), .val (.int i4), .val (.int i5), .val (.int i6), .val (.int i7), .val (.int i8), .val (.int i9), .val (.int i10), .val (.int i11), .val (.ref o12), .val (.ref o13), .val (.int i14), .val (.int i15), .val (.int (1 : Int32)), .unset, .unset] [])) target → Steps p.tables e below (T0.setTop (mkF m 184 #[.val (.int i0), .val (.int i1), .val (.int i2), .val (.int i3), .val (.int i4), .val (.int i5), .val (.int i6), .val (.int i7), .val (.int i8), .val (.int i9), .val (.int i10), .val (.int i11), .val (.ref o12), .val (.ref o13), .val (.int i14), .val (.int i15), .unset, .unset, .unset] [])) target := by

  refine ⟨T0, X0, e0, fun target kt => ?_⟩
  show Steps p.tables e below (T0.setTop (mkF m 184 #[.val (.int i0), .val (.int i1), .val (.int i2), .val (.int i3), .val (.int i4), .val (.int i5), .val (.int i6), .val (.int i7), .val (.int i8), .val (.int i9), .val (.int i10), .val (.int i11), .val (.ref o12), .val (.ref o13), .val (.int i14), .val (.int i15), .unset, .unset, .unset] [])) _
  refine XS.iload X0.here hx rfl (hb hby at_184) rfl ?_
  show Steps p.tables e below (T0.setTop (mkF m 186 #[.val (.int i0), .val (.int i1), .val (.int i2), .val (.int i3), .val (.int i4), .val (.int i5), .val (.int i6), .val (.int i7), .val (.int i8), .val (.int i9), .val (.int i10), .val (.int i11), .val (.ref o12), .val (.ref o13), .val (.int i14), .val (.int i15), .unset, .unset, .unset] [(.int i6)])) _
  refine XS.iload X0.here hx rfl (hb hby at_186) rfl ?_
  show Steps p.tables e below (T0.setTop (mkF m 188 #[.val (.int i0), .val (.int i1), .val (.int i2), .val (.int i3), .val (.int i4), .val (.int i5), .val (.int i6), .val (.int i7), .val (.int i8), .val (.int i9), .val (.int i10), .val (.int i11), .val (.ref o12), .val (.ref o13), .val (.int i14), .val (.int i15), .unset, .unset, .unset] [(.int i7), (.int i6)])) _
  refine XS.icmpNo X0.here hx rfl (hb hby at_188) rfl (teq hc188).2 ?_
  show Steps p.tables e below (T0.setTop (mkF m 191 #[.val (.int i0), .val (.int i1), .val (.int i2), .val (.int i3), .val (.int i4), .val (.int i5), .val (.int i6), .val (.int i7), .val (.int i8), .val (.int i9), .val (.int i10), .val (.int i11), .val (.ref o12), .val (.ref o13), .val (.int i14), .val (.int i15), .unset, .unset, .unset] [])) _
  refine XS.iload X0.here hx rfl (hb hby at_191) rfl ?_
  show Steps p.tables e below (T0.setTop (mkF m 193 #[.val (.int i0), .val (.int i1), .val (.int i2), .val (.int i3), .val (.int i4), .val (.int i5), .val (.int i6), .val (.int i7), .val (.int i8), .val (.int i9), .val (.int i10), .val (.int i11), .val (.ref o12), .val (.ref o13), .val (.int i14), .val (.int i15), .unset, .unset, .unset] [(.int i6)])) _
  refine XS.iconst X0.here hx rfl (hb hby at_193) ?_
  show Steps p.tables e below (T0.setTop (mkF m 194 #[.val (.int i0), .val (.int i1), .val (.int i2), .val (.int i3), .val (.int i4), .val (.int i5), .val (.int i6), .val (.int i7), .val (.int i8), .val (.int i9), .val (.int i10), .val (.int i11), .val (.ref o12), .val (.ref o13), .val (.int i14), .val (.int i15), .unset, .unset, .unset] [(.int (1 : Int32)), (.int i6)])) _
  refine XS.icmpNo X0.here hx rfl (hb hby at_194) rfl (flt hc194).1 ?_
  show Steps p.tables e below (T0.setTop (mkF m 197 #[.val (.int i0), .val (.int i1), .val (.int i2), .val (.int i3), .val (.int i4), .val (.int i5), .val (.int i6), .val (.int i7), .val (.int i8), .val (.int i9), .val (.int i10), .val (.int i11), .val (.ref o12), .val (.ref o13), .val (.int i14), .val (.int i15), .unset, .unset, .unset] [])) _
  refine XS.iload X0.here hx rfl (hb hby at_197) rfl ?_
  show Steps p.tables e below (T0.setTop (mkF m 199 #[.val (.int i0), .val (.int i1), .val (.int i2), .val (.int i3), .val (.int i4), .val (.int i5), .val (.int i6), .val (.int i7), .val (.int i8), .val (.int i9), .val (.int i10), .val (.int i11), .val (.ref o12), .val (.ref o13), .val (.int i14), .val (.int i15), .unset, .unset, .unset] [(.int i14)])) _
  refine XS.ifNo X0.here hx rfl (hb hby at_199) rfl ((if0 _ _).trans (feq hc199).1) ?_
  show Steps p.tables e below (T0.setTop (mkF m 202 #[.val (.int i0), .val (.int i1), .val (.int i2), .val (.int i3), .val (.int i4), .val (.int i5), .val (.int i6), .val (.int i7), .val (.int i8), .val (.int i9), .val (.int i10), .val (.int i11), .val (.ref o12), .val (.ref o13), .val (.int i14), .val (.int i15), .unset, .unset, .unset] [])) _
  refine XS.iload X0.here hx rfl (hb hby at_202) rfl ?_
  show Steps p.tables e below (T0.setTop (mkF m 204 #[.val (.int i0), .val (.int i1), .val (.int i2), .val (.int i3), .val (.int i4), .val (.int i5), .val (.int i6), .val (.int i7), .val (.int i8), .val (.int i9), .val (.int i10), .val (.int i11), .val (.ref o12), .val (.ref o13), .val (.int i14), .val (.int i15), .unset, .unset, .unset] [(.int i6)])) _
  refine XS.iconst X0.here hx rfl (hb hby at_204) ?_
  show Steps p.tables e below (T0.setTop (mkF m 205 #[.val (.int i0), .val (.int i1), .val (.int i2), .val (.int i3), .val (.int i4), .val (.int i5), .val (.int i6), .val (.int i7), .val (.int i8), .val (.int i9), .val (.int i10), .val (.int i11), .val (.ref o12), .val (.ref o13), .val (.int i14), .val (.int i15), .unset, .unset, .unset] [(.int (2 : Int32)), (.int i6)])) _
  refine XS.icmpYes X0.here hx rfl (pc0 := 205) (pc' := 213) rfl (hb hby at_205) rfl (tlt hc205).1 (by decide) (by decide) ?_
  show Steps p.tables e below (T0.setTop (mkF m 213 #[.val (.int i0), .val (.int i1), .val (.int i2), .val (.int i3), .val (.int i4), .val (.int i5), .val (.int i6), .val (.int i7), .val (.int i8), .val (.int i9), .val (.int i10), .val (.int i11), .val (.ref o12), .val (.ref o13), .val (.int i14), .val (.int i15), .unset, .unset, .unset] [])) _
  refine XS.iconst X0.here hx rfl (hb hby at_213) ?_
  show Steps p.tables e below (T0.setTop (mkF m 214 #[.val (.int i0), .val (.int i1), .val (.int i2), .val (.int i3), .val (.int i4), .val (.int i5), .val (.int i6), .val (.int i7), .val (.int i8), .val (.int i9), .val (.int i10), .val (.int i11), .val (.ref o12), .val (.ref o13), .val (.int i14), .val (.int i15), .unset, .unset, .unset] [(.int (1 : Int32))])) _
  refine XS.goto X0.here hx rfl (pc0 := 214) (pc' := 218) rfl (hb hby at_214) (by decide) (by decide) ?_
  show Steps p.tables e below (T0.setTop (mkF m 218 #[.val (.int i0), .val (.int i1), .val (.int i2), .val (.int i3), .val (.int i4), .val (.int i5), .val (.int i6), .val (.int i7), .val (.int i8), .val (.int i9), .val (.int i10), .val (.int i11), .val (.ref o12), .val (.ref o13), .val (.int i14), .val (.int i15), .unset, .unset, .unset] [(.int (1 : Int32))])) _
  refine XS.istore X0.here hx rfl (hb hby at_218) rfl (l' := #[.val (.int i0), .val (.int i1), .val (.int i2), .val (.int i3), .val (.int i4), .val (.int i5), .val (.int i6), .val (.int i7), .val (.int i8), .val (.int i9), .val (.int i10), .val (.int i11), .val (.ref o12), .val (.ref o13), .val (.int i14), .val (.int i15), .val (.int (1 : Int32)), .unset, .unset]) rfl ?_
  exact kt
set_option maxRecDepth 65536 in
set_option maxHeartbeats 40000000 in
theorem own_E_fffft {p : Program} {l : Launch} {e : Env} {s : State} {m : MethodId} {args : Array Value} {below : List Frame} {meth : Method} {c : Code} {T0 : State} {locs : List Loc} {cells slots : Nat} {Z : State} {a0 : Array Value} {h0 : Heap} (i0 : Int32) (i1 : Int32) (i2 : Int32) (i3 : Int32) (i4 : Int32) (i5 : Int32) (i6 : Int32) (i7 : Int32) (i8 : Int32) (i9 : Int32) (i10 : Int32) (i11 : Int32) (o12 : Addr) (o13 : Addr) (i14 : Int32) (i15 : Int32)
    (X0 : Stand p l e room_1 s m args below meth c T0 locs cells slots) (hx : p.tables.exec = Jvm.exec) (hZ : Z.Warmed39 s.vm) (hw : ∀ d ∈ tables_1, d.before a0 Z = true) (hby : c.code = code) (hml : c.maxLocals = 19) (hown : s.vm.findClass "com/example/chance_checker/chancechecker/construction/DistributionSameAsPinLaw" = some m.cls) (e0 : T0.heap = h0) (hc188 : i6 = i7) (hc194 : ¬ (i6 < (1 : Int32))) (hc199 : ¬ (i14 = (0 : Int32))) (hc205 : ¬ (i6 < (2 : Int32))) (hc210 : i15 = (0 : Int32)) :
    ∃ (T' : State), Stand p l e room_1 s m args below meth c T' locs cells slots ∧ T'.heap = h0 ∧
      ∀ target, Steps p.tables e below (T'.setTop (mkF m 220 #[.val (.int i0), .val (.int i1), .val (.int i2), .val (.int i3), .val (.int i4), .val (.int i5), .val (.int i6), .val (.int i7), .val (.int i8), .val (.int i9), .val (.int i10), .val (.int i11), .val (.ref o12), .val (.ref o13), .val (.int i14), .val (.int i15), .val (.int (0 : Int32)), .unset, .unset] [])) target → Steps p.tables e below (T0.setTop (mkF m 184 #[.val (.int i0), .val (.int i1), .val (.int i2), .val (.int i3), .val (.int i4), .val (.int i5), .val (.int i6), .val (.int i7), .val (.int i8), .val (.int i9), .val (.int i10), .val (.int i11), .val (.ref o12), .val (.ref o13), .val (.int i14), .val (.int i15), .unset, .unset, .unset] [])) target := by

  refine ⟨T0, X0, e0, fun target kt => ?_⟩
  show Steps p.tables e below (T0.setTop (mkF m 184 #[.val (.int i0), .val (.int i1), .val (.int i2), .val (.int i3), .val (.int i4), .val (.int i5), .val (.int i6), .val (.int i7), .val (.int i8), .val (.int i9), .val (.int i10), .val (.int i11), .val (.ref o12), .val (.ref o13), .val (.int i14), .val (.int i15), .unset, .unset, .unset] [])) _
  refine XS.iload X0.here hx rfl (hb hby at_184) rfl ?_
  show Steps p.tables e below (T0.setTop (mkF m 186 #[.val (.int i0), .val (.int i1), .val (.int i2), .val (.int i3), .val (.int i4), .val (.int i5), .val (.int i6), .val (.int i7), .val (.int i8), .val (.int i9), .val (.int i10), .val (.int i11), .val (.ref o12), .val (.ref o13), .val (.int i14), .val (.int i15), .unset, .unset, .unset] [(.int i6)])) _
  refine XS.iload X0.here hx rfl (hb hby at_186) rfl ?_
  show Steps p.tables e below (T0.setTop (mkF m 188 #[.val (.int i0), .val (.int i1), .val (.int i2), .val (.int i3), .val (.int i4), .val (.int i5), .val (.int i6), .val (.int i7), .val (.int i8), .val (.int i9), .val (.int i10), .val (.int i11), .val (.ref o12), .val (.ref o13), .val (.int i14), .val (.int i15), .unset, .unset, .unset] [(.int i7), (.int i6)])) _
  refine XS.icmpNo X0.here hx rfl (hb hby at_188) rfl (teq hc188).2 ?_
  show Steps p.tables e below (T0.setTop (mkF m 191 #[.val (.int i0), .val (.int i1), .val (.int i2), .val (.int i3), .val (.int i4), .val (.int i5), .val (.int i6), .val (.int i7), .val (.int i8), .val (.int i9), .val (.int i10), .val (.int i11), .val (.ref o12), .val (.ref o13), .val (.int i14), .val (.int i15), .unset, .unset, .unset] [])) _
  refine XS.iload X0.here hx rfl (hb hby at_191) rfl ?_
  show Steps p.tables e below (T0.setTop (mkF m 193 #[.val (.int i0), .val (.int i1), .val (.int i2), .val (.int i3), .val (.int i4), .val (.int i5), .val (.int i6), .val (.int i7), .val (.int i8), .val (.int i9), .val (.int i10), .val (.int i11), .val (.ref o12), .val (.ref o13), .val (.int i14), .val (.int i15), .unset, .unset, .unset] [(.int i6)])) _
  refine XS.iconst X0.here hx rfl (hb hby at_193) ?_
  show Steps p.tables e below (T0.setTop (mkF m 194 #[.val (.int i0), .val (.int i1), .val (.int i2), .val (.int i3), .val (.int i4), .val (.int i5), .val (.int i6), .val (.int i7), .val (.int i8), .val (.int i9), .val (.int i10), .val (.int i11), .val (.ref o12), .val (.ref o13), .val (.int i14), .val (.int i15), .unset, .unset, .unset] [(.int (1 : Int32)), (.int i6)])) _
  refine XS.icmpNo X0.here hx rfl (hb hby at_194) rfl (flt hc194).1 ?_
  show Steps p.tables e below (T0.setTop (mkF m 197 #[.val (.int i0), .val (.int i1), .val (.int i2), .val (.int i3), .val (.int i4), .val (.int i5), .val (.int i6), .val (.int i7), .val (.int i8), .val (.int i9), .val (.int i10), .val (.int i11), .val (.ref o12), .val (.ref o13), .val (.int i14), .val (.int i15), .unset, .unset, .unset] [])) _
  refine XS.iload X0.here hx rfl (hb hby at_197) rfl ?_
  show Steps p.tables e below (T0.setTop (mkF m 199 #[.val (.int i0), .val (.int i1), .val (.int i2), .val (.int i3), .val (.int i4), .val (.int i5), .val (.int i6), .val (.int i7), .val (.int i8), .val (.int i9), .val (.int i10), .val (.int i11), .val (.ref o12), .val (.ref o13), .val (.int i14), .val (.int i15), .unset, .unset, .unset] [(.int i14)])) _
  refine XS.ifNo X0.here hx rfl (hb hby at_199) rfl ((if0 _ _).trans (feq hc199).1) ?_
  show Steps p.tables e below (T0.setTop (mkF m 202 #[.val (.int i0), .val (.int i1), .val (.int i2), .val (.int i3), .val (.int i4), .val (.int i5), .val (.int i6), .val (.int i7), .val (.int i8), .val (.int i9), .val (.int i10), .val (.int i11), .val (.ref o12), .val (.ref o13), .val (.int i14), .val (.int i15), .unset, .unset, .unset] [])) _
  refine XS.iload X0.here hx rfl (hb hby at_202) rfl ?_
  show Steps p.tables e below (T0.setTop (mkF m 204 #[.val (.int i0), .val (.int i1), .val (.int i2), .val (.int i3), .val (.int i4), .val (.int i5), .val (.int i6), .val (.int i7), .val (.int i8), .val (.int i9), .val (.int i10), .val (.int i11), .val (.ref o12), .val (.ref o13), .val (.int i14), .val (.int i15), .unset, .unset, .unset] [(.int i6)])) _
  refine XS.iconst X0.here hx rfl (hb hby at_204) ?_
  show Steps p.tables e below (T0.setTop (mkF m 205 #[.val (.int i0), .val (.int i1), .val (.int i2), .val (.int i3), .val (.int i4), .val (.int i5), .val (.int i6), .val (.int i7), .val (.int i8), .val (.int i9), .val (.int i10), .val (.int i11), .val (.ref o12), .val (.ref o13), .val (.int i14), .val (.int i15), .unset, .unset, .unset] [(.int (2 : Int32)), (.int i6)])) _
  refine XS.icmpNo X0.here hx rfl (hb hby at_205) rfl (flt hc205).1 ?_
  show Steps p.tables e below (T0.setTop (mkF m 208 #[.val (.int i0), .val (.int i1), .val (.int i2), .val (.int i3), .val (.int i4), .val (.int i5), .val (.int i6), .val (.int i7), .val (.int i8), .val (.int i9), .val (.int i10), .val (.int i11), .val (.ref o12), .val (.ref o13), .val (.int i14), .val (.int i15), .unset, .unset, .unset] [])) _
  refine XS.iload X0.here hx rfl (hb hby at_208) rfl ?_
  show Steps p.tables e below (T0.setTop (mkF m 210 #[.val (.int i0), .val (.int i1), .val (.int i2), .val (.int i3), .val (.int i4), .val (.int i5), .val (.int i6), .val (.int i7), .val (.int i8), .val (.int i9), .val (.int i10), .val (.int i11), .val (.ref o12), .val (.ref o13), .val (.int i14), .val (.int i15), .unset, .unset, .unset] [(.int i15)])) _
  refine XS.ifYes X0.here hx rfl (pc0 := 210) (pc' := 217) rfl (hb hby at_210) rfl ((if0 _ _).trans (teq hc210).1) (by decide) (by decide) ?_
  show Steps p.tables e below (T0.setTop (mkF m 217 #[.val (.int i0), .val (.int i1), .val (.int i2), .val (.int i3), .val (.int i4), .val (.int i5), .val (.int i6), .val (.int i7), .val (.int i8), .val (.int i9), .val (.int i10), .val (.int i11), .val (.ref o12), .val (.ref o13), .val (.int i14), .val (.int i15), .unset, .unset, .unset] [])) _
  refine XS.iconst X0.here hx rfl (hb hby at_217) ?_
  show Steps p.tables e below (T0.setTop (mkF m 218 #[.val (.int i0), .val (.int i1), .val (.int i2), .val (.int i3), .val (.int i4), .val (.int i5), .val (.int i6), .val (.int i7), .val (.int i8), .val (.int i9), .val (.int i10), .val (.int i11), .val (.ref o12), .val (.ref o13), .val (.int i14), .val (.int i15), .unset, .unset, .unset] [(.int (0 : Int32))])) _
  refine XS.istore X0.here hx rfl (hb hby at_218) rfl (l' := #[.val (.int i0), .val (.int i1), .val (.int i2), .val (.int i3), .val (.int i4), .val (.int i5), .val (.int i6), .val (.int i7), .val (.int i8), .val (.int i9), .val (.int i10), .val (.int i11), .val (.ref o12), .val (.ref o13), .val (.int i14), .val (.int i15), .val (.int (0 : Int32)), .unset, .unset]) rfl ?_
  exact kt
set_option maxRecDepth 65536 in
set_option maxHeartbeats 40000000 in
theorem own_E_fffff {p : Program} {l : Launch} {e : Env} {s : State} {m : MethodId} {args : Array Value} {below : List Frame} {meth : Method} {c : Code} {T0 : State} {locs : List Loc} {cells slots : Nat} {Z : State} {a0 : Array Value} {h0 : Heap} (i0 : Int32) (i1 : Int32) (i2 : Int32) (i3 : Int32) (i4 : Int32) (i5 : Int32) (i6 : Int32) (i7 : Int32) (i8 : Int32) (i9 : Int32) (i10 : Int32) (i11 : Int32) (o12 : Addr) (o13 : Addr) (i14 : Int32) (i15 : Int32)
    (X0 : Stand p l e room_1 s m args below meth c T0 locs cells slots) (hx : p.tables.exec = Jvm.exec) (hZ : Z.Warmed39 s.vm) (hw : ∀ d ∈ tables_1, d.before a0 Z = true) (hby : c.code = code) (hml : c.maxLocals = 19) (hown : s.vm.findClass "com/example/chance_checker/chancechecker/construction/DistributionSameAsPinLaw" = some m.cls) (e0 : T0.heap = h0) (hc188 : i6 = i7) (hc194 : ¬ (i6 < (1 : Int32))) (hc199 : ¬ (i14 = (0 : Int32))) (hc205 : ¬ (i6 < (2 : Int32))) (hc210 : ¬ (i15 = (0 : Int32))) :
    ∃ (T' : State), Stand p l e room_1 s m args below meth c T' locs cells slots ∧ T'.heap = h0 ∧
      ∀ target, Steps p.tables e below (T'.setTop (mkF m 220 #[.val (.int i0), .val (.int i1), .val (.int i2), .val (.int i3), .val (.int i4), .val (.int i5), .val (.int i6), .val (.int i7), .val (.int i8), .val (.int i9), .val (.int i10), .val (.int i11), .val (.ref o12), .val (.ref o13), .val (.int i14), .val (.int i15), .val (.int (1 : Int32)), .unset, .unset] [])) target → Steps p.tables e below (T0.setTop (mkF m 184 #[.val (.int i0), .val (.int i1), .val (.int i2), .val (.int i3), .val (.int i4), .val (.int i5), .val (.int i6), .val (.int i7), .val (.int i8), .val (.int i9), .val (.int i10), .val (.int i11), .val (.ref o12), .val (.ref o13), .val (.int i14), .val (.int i15), .unset, .unset, .unset] [])) target := by

  refine ⟨T0, X0, e0, fun target kt => ?_⟩
  show Steps p.tables e below (T0.setTop (mkF m 184 #[.val (.int i0), .val (.int i1), .val (.int i2), .val (.int i3), .val (.int i4), .val (.int i5), .val (.int i6), .val (.int i7), .val (.int i8), .val (.int i9), .val (.int i10), .val (.int i11), .val (.ref o12), .val (.ref o13), .val (.int i14), .val (.int i15), .unset, .unset, .unset] [])) _
  refine XS.iload X0.here hx rfl (hb hby at_184) rfl ?_
  show Steps p.tables e below (T0.setTop (mkF m 186 #[.val (.int i0), .val (.int i1), .val (.int i2), .val (.int i3), .val (.int i4), .val (.int i5), .val (.int i6), .val (.int i7), .val (.int i8), .val (.int i9), .val (.int i10), .val (.int i11), .val (.ref o12), .val (.ref o13), .val (.int i14), .val (.int i15), .unset, .unset, .unset] [(.int i6)])) _
  refine XS.iload X0.here hx rfl (hb hby at_186) rfl ?_
  show Steps p.tables e below (T0.setTop (mkF m 188 #[.val (.int i0), .val (.int i1), .val (.int i2), .val (.int i3), .val (.int i4), .val (.int i5), .val (.int i6), .val (.int i7), .val (.int i8), .val (.int i9), .val (.int i10), .val (.int i11), .val (.ref o12), .val (.ref o13), .val (.int i14), .val (.int i15), .unset, .unset, .unset] [(.int i7), (.int i6)])) _
  refine XS.icmpNo X0.here hx rfl (hb hby at_188) rfl (teq hc188).2 ?_
  show Steps p.tables e below (T0.setTop (mkF m 191 #[.val (.int i0), .val (.int i1), .val (.int i2), .val (.int i3), .val (.int i4), .val (.int i5), .val (.int i6), .val (.int i7), .val (.int i8), .val (.int i9), .val (.int i10), .val (.int i11), .val (.ref o12), .val (.ref o13), .val (.int i14), .val (.int i15), .unset, .unset, .unset] [])) _
  refine XS.iload X0.here hx rfl (hb hby at_191) rfl ?_
  show Steps p.tables e below (T0.setTop (mkF m 193 #[.val (.int i0), .val (.int i1), .val (.int i2), .val (.int i3), .val (.int i4), .val (.int i5), .val (.int i6), .val (.int i7), .val (.int i8), .val (.int i9), .val (.int i10), .val (.int i11), .val (.ref o12), .val (.ref o13), .val (.int i14), .val (.int i15), .unset, .unset, .unset] [(.int i6)])) _
  refine XS.iconst X0.here hx rfl (hb hby at_193) ?_
  show Steps p.tables e below (T0.setTop (mkF m 194 #[.val (.int i0), .val (.int i1), .val (.int i2), .val (.int i3), .val (.int i4), .val (.int i5), .val (.int i6), .val (.int i7), .val (.int i8), .val (.int i9), .val (.int i10), .val (.int i11), .val (.ref o12), .val (.ref o13), .val (.int i14), .val (.int i15), .unset, .unset, .unset] [(.int (1 : Int32)), (.int i6)])) _
  refine XS.icmpNo X0.here hx rfl (hb hby at_194) rfl (flt hc194).1 ?_
  show Steps p.tables e below (T0.setTop (mkF m 197 #[.val (.int i0), .val (.int i1), .val (.int i2), .val (.int i3), .val (.int i4), .val (.int i5), .val (.int i6), .val (.int i7), .val (.int i8), .val (.int i9), .val (.int i10), .val (.int i11), .val (.ref o12), .val (.ref o13), .val (.int i14), .val (.int i15), .unset, .unset, .unset] [])) _
  refine XS.iload X0.here hx rfl (hb hby at_197) rfl ?_
  show Steps p.tables e below (T0.setTop (mkF m 199 #[.val (.int i0), .val (.int i1), .val (.int i2), .val (.int i3), .val (.int i4), .val (.int i5), .val (.int i6), .val (.int i7), .val (.int i8), .val (.int i9), .val (.int i10), .val (.int i11), .val (.ref o12), .val (.ref o13), .val (.int i14), .val (.int i15), .unset, .unset, .unset] [(.int i14)])) _
  refine XS.ifNo X0.here hx rfl (hb hby at_199) rfl ((if0 _ _).trans (feq hc199).1) ?_
  show Steps p.tables e below (T0.setTop (mkF m 202 #[.val (.int i0), .val (.int i1), .val (.int i2), .val (.int i3), .val (.int i4), .val (.int i5), .val (.int i6), .val (.int i7), .val (.int i8), .val (.int i9), .val (.int i10), .val (.int i11), .val (.ref o12), .val (.ref o13), .val (.int i14), .val (.int i15), .unset, .unset, .unset] [])) _
  refine XS.iload X0.here hx rfl (hb hby at_202) rfl ?_
  show Steps p.tables e below (T0.setTop (mkF m 204 #[.val (.int i0), .val (.int i1), .val (.int i2), .val (.int i3), .val (.int i4), .val (.int i5), .val (.int i6), .val (.int i7), .val (.int i8), .val (.int i9), .val (.int i10), .val (.int i11), .val (.ref o12), .val (.ref o13), .val (.int i14), .val (.int i15), .unset, .unset, .unset] [(.int i6)])) _
  refine XS.iconst X0.here hx rfl (hb hby at_204) ?_
  show Steps p.tables e below (T0.setTop (mkF m 205 #[.val (.int i0), .val (.int i1), .val (.int i2), .val (.int i3), .val (.int i4), .val (.int i5), .val (.int i6), .val (.int i7), .val (.int i8), .val (.int i9), .val (.int i10), .val (.int i11), .val (.ref o12), .val (.ref o13), .val (.int i14), .val (.int i15), .unset, .unset, .unset] [(.int (2 : Int32)), (.int i6)])) _
  refine XS.icmpNo X0.here hx rfl (hb hby at_205) rfl (flt hc205).1 ?_
  show Steps p.tables e below (T0.setTop (mkF m 208 #[.val (.int i0), .val (.int i1), .val (.int i2), .val (.int i3), .val (.int i4), .val (.int i5), .val (.int i6), .val (.int i7), .val (.int i8), .val (.int i9), .val (.int i10), .val (.int i11), .val (.ref o12), .val (.ref o13), .val (.int i14), .val (.int i15), .unset, .unset, .unset] [])) _
  refine XS.iload X0.here hx rfl (hb hby at_208) rfl ?_
  show Steps p.tables e below (T0.setTop (mkF m 210 #[.val (.int i0), .val (.int i1), .val (.int i2), .val (.int i3), .val (.int i4), .val (.int i5), .val (.int i6), .val (.int i7), .val (.int i8), .val (.int i9), .val (.int i10), .val (.int i11), .val (.ref o12), .val (.ref o13), .val (.int i14), .val (.int i15), .unset, .unset, .unset] [(.int i15)])) _
  refine XS.ifNo X0.here hx rfl (hb hby at_210) rfl ((if0 _ _).trans (feq hc210).1) ?_
  show Steps p.tables e below (T0.setTop (mkF m 213 #[.val (.int i0), .val (.int i1), .val (.int i2), .val (.int i3), .val (.int i4), .val (.int i5), .val (.int i6), .val (.int i7), .val (.int i8), .val (.int i9), .val (.int i10), .val (.int i11), .val (.ref o12), .val (.ref o13), .val (.int i14), .val (.int i15), .unset, .unset, .unset] [])) _
  refine XS.iconst X0.here hx rfl (hb hby at_213) ?_
  show Steps p.tables e below (T0.setTop (mkF m 214 #[.val (.int i0), .val (.int i1), .val (.int i2), .val (.int i3), .val (.int i4), .val (.int i5), .val (.int i6), .val (.int i7), .val (.int i8), .val (.int i9), .val (.int i10), .val (.int i11), .val (.ref o12), .val (.ref o13), .val (.int i14), .val (.int i15), .unset, .unset, .unset] [(.int (1 : Int32))])) _
  refine XS.goto X0.here hx rfl (pc0 := 214) (pc' := 218) rfl (hb hby at_214) (by decide) (by decide) ?_
  show Steps p.tables e below (T0.setTop (mkF m 218 #[.val (.int i0), .val (.int i1), .val (.int i2), .val (.int i3), .val (.int i4), .val (.int i5), .val (.int i6), .val (.int i7), .val (.int i8), .val (.int i9), .val (.int i10), .val (.int i11), .val (.ref o12), .val (.ref o13), .val (.int i14), .val (.int i15), .unset, .unset, .unset] [(.int (1 : Int32))])) _
  refine XS.istore X0.here hx rfl (hb hby at_218) rfl (l' := #[.val (.int i0), .val (.int i1), .val (.int i2), .val (.int i3), .val (.int i4), .val (.int i5), .val (.int i6), .val (.int i7), .val (.int i8), .val (.int i9), .val (.int i10), .val (.int i11), .val (.ref o12), .val (.ref o13), .val (.int i14), .val (.int i15), .val (.int (1 : Int32)), .unset, .unset]) rfl ?_
  exact kt
theorem own_first {p : Program} {l : Launch} {e : Env} {s : State} {m : MethodId} {args : Array Value} {below : List Frame} {meth : Method} {c : Code} {locs : List Loc} {cells slots : Nat} {Z : State} {a0 : Array Value} {h0 : Heap} {T0 : State} (i0 i1 i2 i3 i4 i5 i6 i7 i8 i9 i10 i11 : Int32) (o12 o13 : Addr) (hx : p.tables.exec = Jvm.exec) (hZ : Z.Warmed39 s.vm) (hw : ∀ d ∈ tables_1, d.before a0 Z = true) (hby : c.code = code) (hml : c.maxLocals = 19) (hown : s.vm.findClass "com/example/chance_checker/chancechecker/construction/DistributionSameAsPinLaw" = some m.cls) (X0 : Stand p l e room_1 s m args below meth c T0 locs cells slots) (e0 : T0.heap = h0) (n0 : Nat) (Z0 : n0 ≤ h0.size) (hcl : cells ≤ room_1.cells) (hsl : slots ≤ room_1.slots) :
    ∃ (T' : State), Stand p l e room_1 s m args below meth c T' locs cells slots ∧ T'.heap = h0 ∧
      ∀ target, Steps p.tables e below (T'.setTop (mkF m 133 #[.val (.int i0), .val (.int i1), .val (.int i2), .val (.int i3), .val (.int i4), .val (.int i5), .val (.int i6), .val (.int i7), .val (.int i8), .val (.int i9), .val (.int i10), .val (.int i11), .val (.ref o12), .val (.ref o13), .val (.int (own_bi (own_eq4 (own_t0 i1) i2 (own_p0 i4) (own_t0 i8) i9 (own_p0 i11)))), .unset, .unset, .unset, .unset] [])) target → Steps p.tables e below (T0.setTop (mkF m 94 #[.val (.int i0), .val (.int i1), .val (.int i2), .val (.int i3), .val (.int i4), .val (.int i5), .val (.int i6), .val (.int i7), .val (.int i8), .val (.int i9), .val (.int i10), .val (.int i11), .val (.ref o12), .val (.ref o13), .unset, .unset, .unset, .unset, .unset] [])) target := by
  unfold own_eq4 own_bi
  by_cases qt : own_t0 i1 = own_t0 i8
  · by_cases qr : i2 = i9
    · by_cases qp : cmpValue (FP.dcmp (own_p0 i4) (own_p0 i11)) .l = 0
      · rw [decide_eq_true qt, decide_eq_true qr, decide_eq_true qp]
        exact own_B_fff i0 i1 i2 i3 i4 i5 i6 i7 i8 i9 i10 i11 o12 o13 X0 hx hZ hw hby hml hown e0 n0 Z0 hcl hsl qt qr qp
      · rw [decide_eq_true qt, decide_eq_true qr, decide_eq_false qp]
        exact own_B_fft i0 i1 i2 i3 i4 i5 i6 i7 i8 i9 i10 i11 o12 o13 X0 hx hZ hw hby hml hown e0 n0 Z0 hcl hsl qt qr qp
    · rw [decide_eq_true qt, decide_eq_false qr]
      exact own_B_ft i0 i1 i2 i3 i4 i5 i6 i7 i8 i9 i10 i11 o12 o13 X0 hx hZ hw hby hml hown e0 n0 Z0 hcl hsl qt qr
  · rw [decide_eq_false qt]
    exact own_B_t i0 i1 i2 i3 i4 i5 i6 i7 i8 i9 i10 i11 o12 o13 X0 hx hZ hw hby hml hown e0 n0 Z0 hcl hsl qt
theorem own_second {p : Program} {l : Launch} {e : Env} {s : State} {m : MethodId} {args : Array Value} {below : List Frame} {meth : Method} {c : Code} {locs : List Loc} {cells slots : Nat} {Z : State} {a0 : Array Value} {h0 : Heap} {T0 : State} (i0 i1 i2 i3 i4 i5 i6 i7 i8 i9 i10 i11 : Int32) (o12 o13 : Addr) (i14 : Int32) (hx : p.tables.exec = Jvm.exec) (hZ : Z.Warmed39 s.vm) (hw : ∀ d ∈ tables_1, d.before a0 Z = true) (hby : c.code = code) (hml : c.maxLocals = 19) (hown : s.vm.findClass "com/example/chance_checker/chancechecker/construction/DistributionSameAsPinLaw" = some m.cls) (X0 : Stand p l e room_1 s m args below meth c T0 locs cells slots) (e0 : T0.heap = h0) (n0 : Nat) (Z0 : n0 ≤ h0.size) (hcl : cells ≤ room_1.cells) (hsl : slots ≤ room_1.slots) :
    ∃ (T' : State), Stand p l e room_1 s m args below meth c T' locs cells slots ∧ T'.heap = h0 ∧
      ∀ target, Steps p.tables e below (T'.setTop (mkF m 184 #[.val (.int i0), .val (.int i1), .val (.int i2), .val (.int i3), .val (.int i4), .val (.int i5), .val (.int i6), .val (.int i7), .val (.int i8), .val (.int i9), .val (.int i10), .val (.int i11), .val (.ref o12), .val (.ref o13), .val (.int i14), .val (.int (own_bi (own_eq4 (own_t1 i1 i3) (own_r1 i2 i3) (own_p1 i4) (own_t1 i8 i10) (own_r1 i9 i10) (own_p1 i11)))), .unset, .unset, .unset] [])) target → Steps p.tables e below (T0.setTop (mkF m 133 #[.val (.int i0), .val (.int i1), .val (.int i2), .val (.int i3), .val (.int i4), .val (.int i5), .val (.int i6), .val (.int i7), .val (.int i8), .val (.int i9), .val (.int i10), .val (.int i11), .val (.ref o12), .val (.ref o13), .val (.int i14), .unset, .unset, .unset, .unset] [])) target := by
  unfold own_eq4 own_bi
  by_cases qt : own_t1 i1 i3 = own_t1 i8 i10
  · by_cases qr : own_r1 i2 i3 = own_r1 i9 i10
    · by_cases qp : cmpValue (FP.dcmp (own_p1 i4) (own_p1 i11)) .l = 0
      · rw [decide_eq_true qt, decide_eq_true qr, decide_eq_true qp]
        exact own_C_fff i0 i1 i2 i3 i4 i5 i6 i7 i8 i9 i10 i11 o12 o13 i14 X0 hx hZ hw hby hml hown e0 n0 Z0 hcl hsl qt qr qp
      · rw [decide_eq_true qt, decide_eq_true qr, decide_eq_false qp]
        exact own_C_fft i0 i1 i2 i3 i4 i5 i6 i7 i8 i9 i10 i11 o12 o13 i14 X0 hx hZ hw hby hml hown e0 n0 Z0 hcl hsl qt qr qp
    · rw [decide_eq_true qt, decide_eq_false qr]
      exact own_C_ft i0 i1 i2 i3 i4 i5 i6 i7 i8 i9 i10 i11 o12 o13 i14 X0 hx hZ hw hby hml hown e0 n0 Z0 hcl hsl qt qr
  · rw [decide_eq_false qt]
    exact own_C_t i0 i1 i2 i3 i4 i5 i6 i7 i8 i9 i10 i11 o12 o13 i14 X0 hx hZ hw hby hml hown e0 n0 Z0 hcl hsl qt
theorem own_expd {p : Program} {l : Launch} {e : Env} {s : State} {m : MethodId} {args : Array Value} {below : List Frame} {meth : Method} {c : Code} {locs : List Loc} {cells slots : Nat} {Z : State} {a0 : Array Value} {h0 : Heap} {T0 : State} (i0 i1 i2 i3 i4 i5 i6 i7 i8 i9 i10 i11 : Int32) (o12 o13 : Addr) (f g : Bool) (hx : p.tables.exec = Jvm.exec) (hZ : Z.Warmed39 s.vm) (hw : ∀ d ∈ tables_1, d.before a0 Z = true) (hby : c.code = code) (hml : c.maxLocals = 19) (hown : s.vm.findClass "com/example/chance_checker/chancechecker/construction/DistributionSameAsPinLaw" = some m.cls) (X0 : Stand p l e room_1 s m args below meth c T0 locs cells slots) (e0 : T0.heap = h0) (n0 : Nat) (Z0 : n0 ≤ h0.size) (hcl : cells ≤ room_1.cells) (hsl : slots ≤ room_1.slots) :
    ∃ (T' : State), Stand p l e room_1 s m args below meth c T' locs cells slots ∧ T'.heap = h0 ∧
      ∀ target, Steps p.tables e below (T'.setTop (mkF m 220 #[.val (.int i0), .val (.int i1), .val (.int i2), .val (.int i3), .val (.int i4), .val (.int i5), .val (.int i6), .val (.int i7), .val (.int i8), .val (.int i9), .val (.int i10), .val (.int i11), .val (.ref o12), .val (.ref o13), .val (.int (own_bi f)), .val (.int (own_bi g)), .val (.int (own_bi (own_exp i6 i7 f g))), .unset, .unset] [])) target → Steps p.tables e below (T0.setTop (mkF m 184 #[.val (.int i0), .val (.int i1), .val (.int i2), .val (.int i3), .val (.int i4), .val (.int i5), .val (.int i6), .val (.int i7), .val (.int i8), .val (.int i9), .val (.int i10), .val (.int i11), .val (.ref o12), .val (.ref o13), .val (.int (own_bi f)), .val (.int (own_bi g)), .unset, .unset, .unset] [])) target := by
  unfold own_exp
  by_cases q1 : i6 = i7
  · rw [decide_eq_true q1]
    by_cases q2 : i6 < (1 : Int32)
    · have q4 : i6 < (2 : Int32) := by
        rw [Int32.lt_iff_toInt_lt] at q2 ⊢
        have : (1 : Int32).toInt = 1 := by decide
        have : (2 : Int32).toInt = 2 := by decide
        omega
      rw [decide_eq_true q2, decide_eq_true q4]
      exact own_E_ftt i0 i1 i2 i3 i4 i5 i6 i7 i8 i9 i10 i11 o12 o13 (own_bi f) (own_bi g) X0 hx hZ hw hby hml hown e0 q1 q2 q4
    · rw [decide_eq_false q2]
      cases f with
      | false =>
        have q3 : own_bi false = (0 : Int32) := by decide
        exact own_E_fft i0 i1 i2 i3 i4 i5 i6 i7 i8 i9 i10 i11 o12 o13 (own_bi false) (own_bi g) X0 hx hZ hw hby hml hown e0 q1 q2 q3
      | true =>
        have q3 : ¬ (own_bi true = (0 : Int32)) := by decide
        by_cases q4 : i6 < (2 : Int32)
        · rw [decide_eq_true q4]
          exact own_E_ffft i0 i1 i2 i3 i4 i5 i6 i7 i8 i9 i10 i11 o12 o13 (own_bi true) (own_bi g) X0 hx hZ hw hby hml hown e0 q1 q2 q3 q4
        · rw [decide_eq_false q4]
          cases g with
          | false =>
            have q5 : own_bi false = (0 : Int32) := by decide
            exact own_E_fffft i0 i1 i2 i3 i4 i5 i6 i7 i8 i9 i10 i11 o12 o13 (own_bi true) (own_bi false) X0 hx hZ hw hby hml hown e0 q1 q2 q3 q4 q5
          | true =>
            have q5 : ¬ (own_bi true = (0 : Int32)) := by decide
            exact own_E_fffff i0 i1 i2 i3 i4 i5 i6 i7 i8 i9 i10 i11 o12 o13 (own_bi true) (own_bi true) X0 hx hZ hw hby hml hown e0 q1 q2 q3 q4 q5
  · rw [decide_eq_false q1]
    exact own_E_t i0 i1 i2 i3 i4 i5 i6 i7 i8 i9 i10 i11 o12 o13 (own_bi f) (own_bi g) X0 hx hZ hw hby hml hown e0 q1
theorem pn_0 : plainName "com/example/chance_checker/chancechecker/construction/DistributionSameAsPinLaw" = true := by first | (simp [plainName, overriddenIn]; done) | decide +kernel
theorem pd_0_0 : parseMethodDescriptor "(IIIII)Lcom/example/chance_checker/chancechecker/construction/Distribution;" = some ⟨[.int, .int, .int, .int, .int], some (.object "com/example/chance_checker/chancechecker/construction/Distribution")⟩ := by decide +kernel
theorem pd_0_4 : parseMethodDescriptor "(Lcom/example/chance_checker/chancechecker/construction/Distribution;)Z" = some ⟨[(.object "com/example/chance_checker/chancechecker/construction/Distribution")], some .boolean⟩ := by decide +kernel
theorem ef_0 (m : MethodId) (x0 : Int32) (x1 : Int32) (x2 : Int32) (x3 : Int32) (x4 : Int32) (x5 : Int32) : entryFrame m #[(.int x0), (.int x1), (.int x2), (.int x3), (.int x4), (.int x5)] maxLocals = mkF m 0 #[.val (.int x0), .val (.int x1), .val (.int x2), .val (.int x3), .val (.int x4), .val (.int x5), .unset, .unset, .unset, .unset, .unset, .unset, .unset, .unset, .unset, .unset, .unset, .unset, .unset] [] := by first | (simp [entryFrame, mkF, argsToLocals, Value.category, maxLocals]; done) | rfl
def Q0 (Z : State) (p1 : Int32) (p2 : Int32) (p3 : Int32) (p4 : Int32) (p5 : Int32) (p6 : Int32) (h0 : Heap) (n0 : Nat) (v : Option Value) (h : Heap) (L : List Loc) : Prop := v = some (.int (1 : Int32)) ∧ Fr n0 L
set_option maxRecDepth 65536 in
set_option maxHeartbeats 40000000 in
theorem rm0 (l : Launch) (Z : State) (a0 : Array Value) (hw : ∀ d ∈ tables_1, d.before a0 Z = true) (ws : List Jvm.Cond) (p1 : Int32) (p2 : Int32) (p3 : Int32) (p4 : Int32) (p5 : Int32) (p6 : Int32) (na : Int32) (nb : Int32) (tb : Int32) (rb : Int32) (db : Int32) (qb : Int32) (ka kb : Nat) (h0 : Heap) (n0 : Nat) (Z0 : n0 ≤ h0.size) (hna : ((p1 &&& (3 : Int32)) % (3 : Int32)) = na) (hnb : ((((p1.toUInt32 >>> ((2 : Int32) &&& 31).toUInt32).toInt32) &&& (3 : Int32)) % (3 : Int32)) = nb) (htb : (p2 ^^^ (p6 &&& (1 : Int32))) = tb) (hrb : (p3 ^^^ (((p6.toUInt32 >>> ((1 : Int32) &&& 31).toUInt32).toInt32) &&& (1 : Int32))) = rb) (hdb : ((p4 ^^^ (((p6.toUInt32 >>> ((2 : Int32) &&& 31).toUInt32).toInt32) &&& (3 : Int32))) ^^^ ((((p6.toUInt32 >>> ((4 : Int32) &&& 31).toUInt32).toInt32) &&& (3 : Int32)) <<< ((4 : Int32) &&& 31))) = db) (hqb : (p5 ^^^ (((p6.toUInt32 >>> ((8 : Int32) &&& 31).toUInt32).toInt32) &&& (255 : Int32))) = qb) (hka : na = Int32.ofNat ka) (hkb : nb = Int32.ofNat kb) (ka3 : ka < 3) (kb3 : kb < 3) :
    MetFree l x (head1 (Jvm.Cond.code x code maxLocals ret :: ws) room_1) (fun a U => a = #[(.int p1), (.int p2), (.int p3), (.int p4), (.int p5), (.int p6)] ∧ Z.Warmed39 U.vm ∧ U.heap = h0) (fun _ _ _ _ _ => True) (fun _ U o U' => ∃ v L, o = .returned v ∧ Q0 Z p1 p2 p3 p4 p5 p6 h0 n0 v U'.heap L ∧ FrameEnd U o U' L room_1.cells room_1.slots) := by
  refine MetFree.of_bodySF (plainFor_of_name pn_0) hisR ?_
  intro p e s m args below meth c s₁ Bd hml0 hP hK
  obtain ⟨rfl, hZ, hh⟩ := hP
  have hx := Bd.exec
  have hby := Bd.bytes
  have hml : c.maxLocals = 19 := hml0
  have hown : s.vm.findClass "com/example/chance_checker/chancechecker/construction/DistributionSameAsPinLaw" = some m.cls := findClass_of_methodNamed Bd.named
  have hnm := (name_of_methodNamed Bd.named Bd.method).1
  have X0 : Stand p l e room_1 s m #[(.int p1), (.int p2), (.int p3), (.int p4), (.int p5), (.int p6)] below meth c s₁ [] 0 0 := Stand.of_body Bd
  have e0 : s₁.heap = h0 := by rw [← hh, Bd.state]; rfl
  have N0 := Fr.nil n0
  have pre0 : ∀ t, Steps p.tables e below (s₁.setTop (mkF m 0 #[.val (.int p1), .val (.int p2), .val (.int p3), .val (.int p4), .val (.int p5), .val (.int p6), .unset, .unset, .unset, .unset, .unset, .unset, .unset, .unset, .unset, .unset, .unset, .unset, .unset] [])) t → Steps p.tables e below (s₁.setTop (entryFrame m #[(.int p1), (.int p2), (.int p3), (.int p4), (.int p5), (.int p6)] maxLocals)) t := fun t k => castTop (ef_0 m p1 p2 p3 p4 p5 p6) k
  obtain ⟨_, _, ⟨T7, L7, k7, n7⟩, -, X7, ⟨Lc7, hQ7, l7, y7, z7⟩, st7⟩ := Jvm.LawKit.callS X0 hx (y := (⟨"com/example/chance_checker/chancechecker/construction/DistributionSameAsPinLaw", "make", "(IIIII)Lcom/example/chance_checker/chancechecker/construction/Distribution;"⟩ : MethodName)) hown (mvT hZ (hw _ (List.mem_of_getElem? (i := 0) rfl))) (mvT hZ (hw _ (List.mem_of_getElem? (i := 1) rfl))) (mvT hZ (hw _ (List.mem_of_getElem? (i := 2) rfl))) (mvT hZ (hw _ (List.mem_of_getElem? (i := 3) rfl))) (by decide) (backOf (W := 0) (rm1 l Z a0 hw [] na p2 p3 p4 p5 h0 n0 Z0 ka ka3 hka) hZ (hw _ (List.mem_of_getElem? (i := 3) rfl)) (hw _ (List.mem_of_getElem? (i := 2) rfl)) (by decide) (by decide)) (g := (mkF m 74 #[.val (.int p1), .val (.int p2), .val (.int p3), .val (.int p4), .val (.int p5), .val (.int p6), .val (.int na), .val (.int nb), .val (.int tb), .val (.int rb), .val (.int db), .val (.int qb), .unset, .unset, .unset, .unset, .unset, .unset, .unset] [(.int p5), (.int p4), (.int p3), (.int p2), (.int na)])) rfl (by rw [hml]; rfl) (argsL := [(.int na), (.int p2), (.int p3), (.int p4), (.int p5)]) (rest := []) (lenOf pd_0_0 rfl) rfl (by show 2 * 0 + _ ≤ _; exact Nat.le_of_eq rfl) (hb hby at_74) (fun _ _ => ⟨rfl, e0, (Nat.le_of_ble_eq_true rfl), (Nat.le_of_ble_eq_true rfl)⟩)
  dsimp only [Pt.U, Pt.locs, Pt.cells, Pt.slots] at X7 l7 y7 z7 st7 hQ7
  subst l7 y7 z7
  obtain ⟨A1, t1, r1, pp1, rfl, N7q, K7q, ga1, gt1, gr1, gp1, D7⟩ := hQ7
  have N7 := Fr.app N0 N7q
  obtain ⟨_, _, ⟨T8, L8, k8, n8⟩, -, X8, ⟨Lc8, hQ8, l8, y8, z8⟩, st8⟩ := Jvm.LawKit.callS X7 hx (y := (⟨"com/example/chance_checker/chancechecker/construction/DistributionSameAsPinLaw", "make", "(IIIII)Lcom/example/chance_checker/chancechecker/construction/Distribution;"⟩ : MethodName)) hown (mvT hZ (hw _ (List.mem_of_getElem? (i := 0) rfl))) (mvT hZ (hw _ (List.mem_of_getElem? (i := 1) rfl))) (mvT hZ (hw _ (List.mem_of_getElem? (i := 2) rfl))) (mvT hZ (hw _ (List.mem_of_getElem? (i := 3) rfl))) (by decide) (backOf (W := 0) (rm1 l Z a0 hw [] nb tb rb db qb T7.heap n0 (Nat.le_trans Z0 K7q.1) kb kb3 hkb) hZ (hw _ (List.mem_of_getElem? (i := 3) rfl)) (hw _ (List.mem_of_getElem? (i := 2) rfl)) (by decide) (by decide)) (g := (mkF m 89 #[.val (.int p1), .val (.int p2), .val (.int p3), .val (.int p4), .val (.int p5), .val (.int p6), .val (.int na), .val (.int nb), .val (.int tb), .val (.int rb), .val (.int db), .val (.int qb), .val (.ref A1), .unset, .unset, .unset, .unset, .unset, .unset] [(.int qb), (.int db), (.int rb), (.int tb), (.int nb)])) rfl (by rw [hml]; rfl) (argsL := [(.int nb), (.int tb), (.int rb), (.int db), (.int qb)]) (rest := []) (lenOf pd_0_0 rfl) rfl (by show 2 * 0 + _ ≤ _; exact Nat.le_of_eq rfl) (hb hby at_89) (fun _ _ => ⟨rfl, rfl, (Nat.le_of_ble_eq_true rfl), (Nat.le_of_ble_eq_true rfl)⟩)
  dsimp only [Pt.U, Pt.locs, Pt.cells, Pt.slots] at X8 l8 y8 z8 st8 hQ8
  subst l8 y8 z8
  obtain ⟨A2, t2, r2, pp2, rfl, N8q, K8q, ga2, gt2, gr2, gp2, D2x⟩ := hQ8
  have Kh8 : Keep h0 T8.heap [] := K7q.trans K8q all0
  have D1x := D7.keep K8q nin0 nin0 nin0 nin0
  have N8 := Fr.app N7 N8q
  have hc12 : (own_bi (decide (ka = kb) && own_all (fun i => (own_eq4 ((own_e (own_t0 p2) (own_t1 p2 p4)) i) ((own_e p3 (own_r1 p3 p4)) i) ((own_e (own_p0 p5) (own_p1 p5)) i) ((own_e (own_t0 tb) (own_t1 tb db)) i) ((own_e rb (own_r1 rb db)) i) ((own_e (own_p0 qb) (own_p1 qb)) i))) ka 0)) = (own_bi (own_exp na nb (own_eq4 (own_t0 p2) p3 (own_p0 p5) (own_t0 tb) rb (own_p0 qb)) (own_eq4 (own_t1 p2 p4) (own_r1 p3 p4) (own_p1 p5) (own_t1 tb db) (own_r1 rb db) (own_p1 qb)))) := by
    have z := own_law ka3 kb3 (fun i => (own_eq4 ((own_e (own_t0 p2) (own_t1 p2 p4)) i) ((own_e p3 (own_r1 p3 p4)) i) ((own_e (own_p0 p5) (own_p1 p5)) i) ((own_e (own_t0 tb) (own_t1 tb db)) i) ((own_e rb (own_r1 rb db)) i) ((own_e (own_p0 qb) (own_p1 qb)) i)))
    simp only [own_e0, own_e1] at z
    rw [hka, hkb]
    exact congrArg own_bi z
  have hc21 : (own_bi (decide (kb = ka) && own_all (fun i => (own_eq4 ((own_e (own_t0 tb) (own_t1 tb db)) i) ((own_e rb (own_r1 rb db)) i) ((own_e (own_p0 qb) (own_p1 qb)) i) ((own_e (own_t0 p2) (own_t1 p2 p4)) i) ((own_e p3 (own_r1 p3 p4)) i) ((own_e (own_p0 p5) (own_p1 p5)) i))) kb 0)) = (own_bi (own_exp na nb (own_eq4 (own_t0 p2) p3 (own_p0 p5) (own_t0 tb) rb (own_p0 qb)) (own_eq4 (own_t1 p2 p4) (own_r1 p3 p4) (own_p1 p5) (own_t1 tb db) (own_r1 rb db) (own_p1 qb)))) := by
    have z := own_law2 ka3 kb3 (fun i => (own_eq4 ((own_e (own_t0 p2) (own_t1 p2 p4)) i) ((own_e p3 (own_r1 p3 p4)) i) ((own_e (own_p0 p5) (own_p1 p5)) i) ((own_e (own_t0 tb) (own_t1 tb db)) i) ((own_e rb (own_r1 rb db)) i) ((own_e (own_p0 qb) (own_p1 qb)) i))) (fun i => (own_eq4 ((own_e (own_t0 tb) (own_t1 tb db)) i) ((own_e rb (own_r1 rb db)) i) ((own_e (own_p0 qb) (own_p1 qb)) i) ((own_e (own_t0 p2) (own_t1 p2 p4)) i) ((own_e p3 (own_r1 p3 p4)) i) ((own_e (own_p0 p5) (own_p1 p5)) i))) (fun i => own_eq4_comm _ _ _ _ _ _)
    simp only [own_e0, own_e1] at z
    rw [hka, hkb]
    exact congrArg own_bi z
  obtain ⟨Ta, Xa, ea, sta⟩ := own_first p1 p2 p3 p4 p5 p6 na nb tb rb db qb A1 A2 hx hZ hw hby hml hown X8 (h0 := T8.heap) rfl n0 (Nat.le_trans Z0 Kh8.1) (by decide) (by decide)
  obtain ⟨Tb, Xb, eb, stb⟩ := own_second p1 p2 p3 p4 p5 p6 na nb tb rb db qb A1 A2 (own_bi (own_eq4 (own_t0 p2) p3 (own_p0 p5) (own_t0 tb) rb (own_p0 qb))) hx hZ hw hby hml hown Xa ea n0 (Nat.le_trans Z0 Kh8.1) (by decide) (by decide)
  obtain ⟨TG, XG, eG, stc⟩ := own_expd p1 p2 p3 p4 p5 p6 na nb tb rb db qb A1 A2 (own_eq4 (own_t0 p2) p3 (own_p0 p5) (own_t0 tb) rb (own_p0 qb)) (own_eq4 (own_t1 p2 p4) (own_r1 p3 p4) (own_p1 p5) (own_t1 tb db) (own_r1 rb db) (own_p1 qb)) hx hZ hw hby hml hown Xb eb n0 (Nat.le_trans Z0 Kh8.1) (by decide) (by decide)
  obtain ⟨cq13, kq13, q13a, q13b, q13c⟩ := isOf hZ eG D1x.1
  obtain ⟨_, _, ⟨T13, L13, k13, n13⟩, -, X13, ⟨Lc13, hQ13, l13, y13, z13⟩, st13⟩ := XG.virtualBack hx (y := (⟨"com/example/chance_checker/chancechecker/construction/Distribution", "sameAs", "(Lcom/example/chance_checker/chancechecker/construction/Distribution;)Z"⟩ : MethodName)) (z := (⟨"com/example/chance_checker/chancechecker/construction/Distribution", "sameAs", "(Lcom/example/chance_checker/chancechecker/construction/Distribution;)Z"⟩ : MethodName)) hown (mvT hZ (hw _ (List.mem_of_getElem? (i := 37) rfl))) (mvT hZ (hw _ (List.mem_of_getElem? (i := 38) rfl))) (notFace_of_selects (args := #[]) (mvT hZ (hw _ (List.mem_of_getElem? (i := 40) rfl)))) (mvT hZ (hw _ (List.mem_of_getElem? (i := 40) rfl))) (mvT hZ (hw _ (List.mem_of_getElem? (i := 39) rfl))) (by decide) (backOf (W := 0) (rm6 l Z a0 hw [] A1 A2 t1 r1 pp1 t2 r2 pp2 ka kb (own_e (own_t0 p2) (own_t1 p2 p4)) (own_e p3 (own_r1 p3 p4)) (own_e (own_t0 tb) (own_t1 tb db)) (own_e rb (own_r1 rb db)) (own_e (own_p0 p5) (own_p1 p5)) (own_e (own_p0 qb) (own_p1 qb)) T8.heap n0 (Nat.le_trans Z0 Kh8.1) D1x D2x ka3 kb3) hZ (hw _ (List.mem_of_getElem? (i := 41) rfl)) (hw _ (List.mem_of_getElem? (i := 6) rfl)) (by decide) (by decide)) q13a q13c (g := (mkF m 224 #[.val (.int p1), .val (.int p2), .val (.int p3), .val (.int p4), .val (.int p5), .val (.int p6), .val (.int na), .val (.int nb), .val (.int tb), .val (.int rb), .val (.int db), .val (.int qb), .val (.ref A1), .val (.ref A2), .val (.int (own_bi (own_eq4 (own_t0 p2) p3 (own_p0 p5) (own_t0 tb) rb (own_p0 qb)))), .val (.int (own_bi (own_eq4 (own_t1 p2 p4) (own_r1 p3 p4) (own_p1 p5) (own_t1 tb db) (own_r1 rb db) (own_p1 qb)))), .val (.int (own_bi (own_exp na nb (own_eq4 (own_t0 p2) p3 (own_p0 p5) (own_t0 tb) rb (own_p0 qb)) (own_eq4 (own_t1 p2 p4) (own_r1 p3 p4) (own_p1 p5) (own_t1 tb db) (own_r1 rb db) (own_p1 qb))))), .unset, .unset] [(.ref A2), (.ref A1)])) rfl (by rw [hml]; rfl) (Steps.refl _) (argsL := [(.ref A2)]) (rest := []) (lenOf pd_0_4 rfl) rfl (by show 2 * 0 + _ ≤ _; exact Nat.le_of_eq rfl) (hb hby at_224) (fun _ _ => ⟨rfl, eG, (Nat.le_of_ble_eq_true rfl), (Nat.le_of_ble_eq_true rfl)⟩)
  dsimp only [Pt.U, Pt.locs, Pt.cells, Pt.slots] at X13 l13 y13 z13 st13 hQ13
  subst l13 y13 z13
  obtain ⟨rfl, rfl, e13⟩ := hQ13
  try rw [List.append_nil] at X13
  obtain ⟨cq14, kq14, q14a, q14b, q14c⟩ := isOf hZ e13 D2x.1
  obtain ⟨_, _, ⟨T14, L14, k14, n14⟩, -, X14, ⟨Lc14, hQ14, l14, y14, z14⟩, st14⟩ := X13.virtualBack hx (y := (⟨"com/example/chance_checker/chancechecker/construction/Distribution", "sameAs", "(Lcom/example/chance_checker/chancechecker/construction/Distribution;)Z"⟩ : MethodName)) (z := (⟨"com/example/chance_checker/chancechecker/construction/Distribution", "sameAs", "(Lcom/example/chance_checker/chancechecker/construction/Distribution;)Z"⟩ : MethodName)) hown (mvT hZ (hw _ (List.mem_of_getElem? (i := 37) rfl))) (mvT hZ (hw _ (List.mem_of_getElem? (i := 38) rfl))) (notFace_of_selects (args := #[]) (mvT hZ (hw _ (List.mem_of_getElem? (i := 40) rfl)))) (mvT hZ (hw _ (List.mem_of_getElem? (i := 40) rfl))) (mvT hZ (hw _ (List.mem_of_getElem? (i := 39) rfl))) (by decide) (backOf (W := 0) (rm6 l Z a0 hw [] A2 A1 t2 r2 pp2 t1 r1 pp1 kb ka (own_e (own_t0 tb) (own_t1 tb db)) (own_e rb (own_r1 rb db)) (own_e (own_t0 p2) (own_t1 p2 p4)) (own_e p3 (own_r1 p3 p4)) (own_e (own_p0 qb) (own_p1 qb)) (own_e (own_p0 p5) (own_p1 p5)) T8.heap n0 (Nat.le_trans Z0 Kh8.1) D2x D1x kb3 ka3) hZ (hw _ (List.mem_of_getElem? (i := 41) rfl)) (hw _ (List.mem_of_getElem? (i := 6) rfl)) (by decide) (by decide)) q14a q14c (g := (mkF m 233 #[.val (.int p1), .val (.int p2), .val (.int p3), .val (.int p4), .val (.int p5), .val (.int p6), .val (.int na), .val (.int nb), .val (.int tb), .val (.int rb), .val (.int db), .val (.int qb), .val (.ref A1), .val (.ref A2), .val (.int (own_bi (own_eq4 (own_t0 p2) p3 (own_p0 p5) (own_t0 tb) rb (own_p0 qb)))), .val (.int (own_bi (own_eq4 (own_t1 p2 p4) (own_r1 p3 p4) (own_p1 p5) (own_t1 tb db) (own_r1 rb db) (own_p1 qb)))), .val (.int (own_bi (own_exp na nb (own_eq4 (own_t0 p2) p3 (own_p0 p5) (own_t0 tb) rb (own_p0 qb)) (own_eq4 (own_t1 p2 p4) (own_r1 p3 p4) (own_p1 p5) (own_t1 tb db) (own_r1 rb db) (own_p1 qb))))), .val (.int (own_bi (decide (ka = kb) && own_all (fun i => (own_eq4 ((own_e (own_t0 p2) (own_t1 p2 p4)) i) ((own_e p3 (own_r1 p3 p4)) i) ((own_e (own_p0 p5) (own_p1 p5)) i) ((own_e (own_t0 tb) (own_t1 tb db)) i) ((own_e rb (own_r1 rb db)) i) ((own_e (own_p0 qb) (own_p1 qb)) i))) ka 0))), .unset] [(.ref A1), (.ref A2)])) rfl (by rw [hml]; rfl) (Steps.refl _) (argsL := [(.ref A1)]) (rest := []) (lenOf pd_0_4 rfl) rfl (by show 2 * 0 + _ ≤ _; exact Nat.le_of_eq rfl) (hb hby at_233) (fun _ _ => ⟨rfl, e13, (Nat.le_of_ble_eq_true rfl), (Nat.le_of_ble_eq_true rfl)⟩)
  dsimp only [Pt.U, Pt.locs, Pt.cells, Pt.slots] at X14 l14 y14 z14 st14 hQ14
  subst l14 y14 z14
  obtain ⟨rfl, rfl, e14⟩ := hQ14
  try rw [List.append_nil] at X14
  obtain ⟨fs, hr, hrun, hended, hW, hsame⟩ := X14.leave (v := some (.int (1 : Int32))) (fun h => by rw [Bd.returns] at h; cases h)
  refine ⟨_, _, pre0 _ ?_, hrun, hended, _, _, rfl, ?_, ⟨_, rfl⟩, hW, hsame.mono (by decide) (by decide)⟩
  · show Steps p.tables e below (s₁.setTop (mkF m 0 #[.val (.int p1), .val (.int p2), .val (.int p3), .val (.int p4), .val (.int p5), .val (.int p6), .unset, .unset, .unset, .unset, .unset, .unset, .unset, .unset, .unset, .unset, .unset, .unset, .unset] [])) _
    refine XS.iloadN X0.here hx rfl (hb hby at_0) rfl ?_
    show Steps p.tables e below (s₁.setTop (mkF m 1 #[.val (.int p1), .val (.int p2), .val (.int p3), .val (.int p4), .val (.int p5), .val (.int p6), .unset, .unset, .unset, .unset, .unset, .unset, .unset, .unset, .unset, .unset, .unset, .unset, .unset] [(.int p1)])) _
    refine XS.iconst X0.here hx rfl (hb hby at_1) ?_
    show Steps p.tables e below (s₁.setTop (mkF m 2 #[.val (.int p1), .val (.int p2), .val (.int p3), .val (.int p4), .val (.int p5), .val (.int p6), .unset, .unset, .unset, .unset, .unset, .unset, .unset, .unset, .unset, .unset, .unset, .unset, .unset] [(.int (3 : Int32)), (.int p1)])) _
    refine XS.iand X0.here hx rfl (hb hby at_2) rfl ?_
    show Steps p.tables e below (s₁.setTop (mkF m 3 #[.val (.int p1), .val (.int p2), .val (.int p3), .val (.int p4), .val (.int p5), .val (.int p6), .unset, .unset, .unset, .unset, .unset, .unset, .unset, .unset, .unset, .unset, .unset, .unset, .unset] [(.int (p1 &&& (3 : Int32)))])) _
    refine XS.iconst X0.here hx rfl (hb hby at_3) ?_
    show Steps p.tables e below (s₁.setTop (mkF m 4 #[.val (.int p1), .val (.int p2), .val (.int p3), .val (.int p4), .val (.int p5), .val (.int p6), .unset, .unset, .unset, .unset, .unset, .unset, .unset, .unset, .unset, .unset, .unset, .unset, .unset] [(.int (3 : Int32)), (.int (p1 &&& (3 : Int32)))])) _
    refine XS.irem X0.here hx rfl (hb hby at_4) rfl (by decide) ?_
    rw [irem_eq_mod]
    show Steps p.tables e below (s₁.setTop (mkF m 5 #[.val (.int p1), .val (.int p2), .val (.int p3), .val (.int p4), .val (.int p5), .val (.int p6), .unset, .unset, .unset, .unset, .unset, .unset, .unset, .unset, .unset, .unset, .unset, .unset, .unset] [(.int ((p1 &&& (3 : Int32)) % (3 : Int32)))])) _
    rw [hna]
    show Steps p.tables e below (s₁.setTop (mkF m 5 #[.val (.int p1), .val (.int p2), .val (.int p3), .val (.int p4), .val (.int p5), .val (.int p6), .unset, .unset, .unset, .unset, .unset, .unset, .unset, .unset, .unset, .unset, .unset, .unset, .unset] [(.int na)])) _
    refine XS.istore X0.here hx rfl (hb hby at_5) rfl (l' := #[.val (.int p1), .val (.int p2), .val (.int p3), .val (.int p4), .val (.int p5), .val (.int p6), .val (.int na), .unset, .unset, .unset, .unset, .unset, .unset, .unset, .unset, .unset, .unset, .unset, .unset]) rfl ?_
    show Steps p.tables e below (s₁.setTop (mkF m 7 #[.val (.int p1), .val (.int p2), .val (.int p3), .val (.int p4), .val (.int p5), .val (.int p6), .val (.int na), .unset, .unset, .unset, .unset, .unset, .unset, .unset, .unset, .unset, .unset, .unset, .unset] [])) _
    refine XS.iloadN X0.here hx rfl (hb hby at_7) rfl ?_
    show Steps p.tables e below (s₁.setTop (mkF m 8 #[.val (.int p1), .val (.int p2), .val (.int p3), .val (.int p4), .val (.int p5), .val (.int p6), .val (.int na), .unset, .unset, .unset, .unset, .unset, .unset, .unset, .unset, .unset, .unset, .unset, .unset] [(.int p1)])) _
    refine XS.iconst X0.here hx rfl (hb hby at_8) ?_
    show Steps p.tables e below (s₁.setTop (mkF m 9 #[.val (.int p1), .val (.int p2), .val (.int p3), .val (.int p4), .val (.int p5), .val (.int p6), .val (.int na), .unset, .unset, .unset, .unset, .unset, .unset, .unset, .unset, .unset, .unset, .unset, .unset] [(.int (2 : Int32)), (.int p1)])) _
    refine XS.iushr X0.here hx rfl (hb hby at_9) rfl ?_
    show Steps p.tables e below (s₁.setTop (mkF m 10 #[.val (.int p1), .val (.int p2), .val (.int p3), .val (.int p4), .val (.int p5), .val (.int p6), .val (.int na), .unset, .unset, .unset, .unset, .unset, .unset, .unset, .unset, .unset, .unset, .unset, .unset] [(.int ((p1.toUInt32 >>> ((2 : Int32) &&& 31).toUInt32).toInt32))])) _
    refine XS.iconst X0.here hx rfl (hb hby at_10) ?_
    show Steps p.tables e below (s₁.setTop (mkF m 11 #[.val (.int p1), .val (.int p2), .val (.int p3), .val (.int p4), .val (.int p5), .val (.int p6), .val (.int na), .unset, .unset, .unset, .unset, .unset, .unset, .unset, .unset, .unset, .unset, .unset, .unset] [(.int (3 : Int32)), (.int ((p1.toUInt32 >>> ((2 : Int32) &&& 31).toUInt32).toInt32))])) _
    refine XS.iand X0.here hx rfl (hb hby at_11) rfl ?_
    show Steps p.tables e below (s₁.setTop (mkF m 12 #[.val (.int p1), .val (.int p2), .val (.int p3), .val (.int p4), .val (.int p5), .val (.int p6), .val (.int na), .unset, .unset, .unset, .unset, .unset, .unset, .unset, .unset, .unset, .unset, .unset, .unset] [(.int (((p1.toUInt32 >>> ((2 : Int32) &&& 31).toUInt32).toInt32) &&& (3 : Int32)))])) _
    refine XS.iconst X0.here hx rfl (hb hby at_12) ?_
    show Steps p.tables e below (s₁.setTop (mkF m 13 #[.val (.int p1), .val (.int p2), .val (.int p3), .val (.int p4), .val (.int p5), .val (.int p6), .val (.int na), .unset, .unset, .unset, .unset, .unset, .unset, .unset, .unset, .unset, .unset, .unset, .unset] [(.int (3 : Int32)), (.int (((p1.toUInt32 >>> ((2 : Int32) &&& 31).toUInt32).toInt32) &&& (3 : Int32)))])) _
    refine XS.irem X0.here hx rfl (hb hby at_13) rfl (by decide) ?_
    rw [irem_eq_mod]
    show Steps p.tables e below (s₁.setTop (mkF m 14 #[.val (.int p1), .val (.int p2), .val (.int p3), .val (.int p4), .val (.int p5), .val (.int p6), .val (.int na), .unset, .unset, .unset, .unset, .unset, .unset, .unset, .unset, .unset, .unset, .unset, .unset] [(.int ((((p1.toUInt32 >>> ((2 : Int32) &&& 31).toUInt32).toInt32) &&& (3 : Int32)) % (3 : Int32)))])) _
    rw [hnb]
    show Steps p.tables e below (s₁.setTop (mkF m 14 #[.val (.int p1), .val (.int p2), .val (.int p3), .val (.int p4), .val (.int p5), .val (.int p6), .val (.int na), .unset, .unset, .unset, .unset, .unset, .unset, .unset, .unset, .unset, .unset, .unset, .unset] [(.int nb)])) _
    refine XS.istore X0.here hx rfl (hb hby at_14) rfl (l' := #[.val (.int p1), .val (.int p2), .val (.int p3), .val (.int p4), .val (.int p5), .val (.int p6), .val (.int na), .val (.int nb), .unset, .unset, .unset, .unset, .unset, .unset, .unset, .unset, .unset, .unset, .unset]) rfl ?_
    show Steps p.tables e below (s₁.setTop (mkF m 16 #[.val (.int p1), .val (.int p2), .val (.int p3), .val (.int p4), .val (.int p5), .val (.int p6), .val (.int na), .val (.int nb), .unset, .unset, .unset, .unset, .unset, .unset, .unset, .unset, .unset, .unset, .unset] [])) _
    refine XS.iloadN X0.here hx rfl (hb hby at_16) rfl ?_
    show Steps p.tables e below (s₁.setTop (mkF m 17 #[.val (.int p1), .val (.int p2), .val (.int p3), .val (.int p4), .val (.int p5), .val (.int p6), .val (.int na), .val (.int nb), .unset, .unset, .unset, .unset, .unset, .unset, .unset, .unset, .unset, .unset, .unset] [(.int p2)])) _
    refine XS.iload X0.here hx rfl (hb hby at_17) rfl ?_
    show Steps p.tables e below (s₁.setTop (mkF m 19 #[.val (.int p1), .val (.int p2), .val (.int p3), .val (.int p4), .val (.int p5), .val (.int p6), .val (.int na), .val (.int nb), .unset, .unset, .unset, .unset, .unset, .unset, .unset, .unset, .unset, .unset, .unset] [(.int p6), (.int p2)])) _
    refine XS.iconst X0.here hx rfl (hb hby at_19) ?_
    show Steps p.tables e below (s₁.setTop (mkF m 20 #[.val (.int p1), .val (.int p2), .val (.int p3), .val (.int p4), .val (.int p5), .val (.int p6), .val (.int na), .val (.int nb), .unset, .unset, .unset, .unset, .unset, .unset, .unset, .unset, .unset, .unset, .unset] [(.int (1 : Int32)), (.int p6), (.int p2)])) _
    refine XS.iand X0.here hx rfl (hb hby at_20) rfl ?_
    show Steps p.tables e below (s₁.setTop (mkF m 21 #[.val (.int p1), .val (.int p2), .val (.int p3), .val (.int p4), .val (.int p5), .val (.int p6), .val (.int na), .val (.int nb), .unset, .unset, .unset, .unset, .unset, .unset, .unset, .unset, .unset, .unset, .unset] [(.int (p6 &&& (1 : Int32))), (.int p2)])) _
    refine XS.ixor X0.here hx rfl (hb hby at_21) rfl ?_
    show Steps p.tables e below (s₁.setTop (mkF m 22 #[.val (.int p1), .val (.int p2), .val (.int p3), .val (.int p4), .val (.int p5), .val (.int p6), .val (.int na), .val (.int nb), .unset, .unset, .unset, .unset, .unset, .unset, .unset, .unset, .unset, .unset, .unset] [(.int (p2 ^^^ (p6 &&& (1 : Int32))))])) _
    rw [htb]
    show Steps p.tables e below (s₁.setTop (mkF m 22 #[.val (.int p1), .val (.int p2), .val (.int p3), .val (.int p4), .val (.int p5), .val (.int p6), .val (.int na), .val (.int nb), .unset, .unset, .unset, .unset, .unset, .unset, .unset, .unset, .unset, .unset, .unset] [(.int tb)])) _
    refine XS.istore X0.here hx rfl (hb hby at_22) rfl (l' := #[.val (.int p1), .val (.int p2), .val (.int p3), .val (.int p4), .val (.int p5), .val (.int p6), .val (.int na), .val (.int nb), .val (.int tb), .unset, .unset, .unset, .unset, .unset, .unset, .unset, .unset, .unset, .unset]) rfl ?_
    show Steps p.tables e below (s₁.setTop (mkF m 24 #[.val (.int p1), .val (.int p2), .val (.int p3), .val (.int p4), .val (.int p5), .val (.int p6), .val (.int na), .val (.int nb), .val (.int tb), .unset, .unset, .unset, .unset, .unset, .unset, .unset, .unset, .unset, .unset] [])) _
    refine XS.iloadN X0.here hx rfl (hb hby at_24) rfl ?_
    show Steps p.tables e below (s₁.setTop (mkF m 25 #[.val (.int p1), .val (.int p2), .val (.int p3), .val (.int p4), .val (.int p5), .val (.int p6), .val (.int na), .val (.int nb), .val (.int tb), .unset, .unset, .unset, .unset, .unset, .unset, .unset, .unset, .unset, .unset] [(.int p3)])) _
    refine XS.iload X0.here hx rfl (hb hby at_25) rfl ?_
    show Steps p.tables e below (s₁.setTop (mkF m 27 #[.val (.int p1), .val (.int p2), .val (.int p3), .val (.int p4), .val (.int p5), .val (.int p6), .val (.int na), .val (.int nb), .val (.int tb), .unset, .unset, .unset, .unset, .unset, .unset, .unset, .unset, .unset, .unset] [(.int p6), (.int p3)])) _
    refine XS.iconst X0.here hx rfl (hb hby at_27) ?_
    show Steps p.tables e below (s₁.setTop (mkF m 28 #[.val (.int p1), .val (.int p2), .val (.int p3), .val (.int p4), .val (.int p5), .val (.int p6), .val (.int na), .val (.int nb), .val (.int tb), .unset, .unset, .unset, .unset, .unset, .unset, .unset, .unset, .unset, .unset] [(.int (1 : Int32)), (.int p6), (.int p3)])) _
    refine XS.iushr X0.here hx rfl (hb hby at_28) rfl ?_
    show Steps p.tables e below (s₁.setTop (mkF m 29 #[.val (.int p1), .val (.int p2), .val (.int p3), .val (.int p4), .val (.int p5), .val (.int p6), .val (.int na), .val (.int nb), .val (.int tb), .unset, .unset, .unset, .unset, .unset, .unset, .unset, .unset, .unset, .unset] [(.int ((p6.toUInt32 >>> ((1 : Int32) &&& 31).toUInt32).toInt32)), (.int p3)])) _
    refine XS.iconst X0.here hx rfl (hb hby at_29) ?_
    show Steps p.tables e below (s₁.setTop (mkF m 30 #[.val (.int p1), .val (.int p2), .val (.int p3), .val (.int p4), .val (.int p5), .val (.int p6), .val (.int na), .val (.int nb), .val (.int tb), .unset, .unset, .unset, .unset, .unset, .unset, .unset, .unset, .unset, .unset] [(.int (1 : Int32)), (.int ((p6.toUInt32 >>> ((1 : Int32) &&& 31).toUInt32).toInt32)), (.int p3)])) _
    refine XS.iand X0.here hx rfl (hb hby at_30) rfl ?_
    show Steps p.tables e below (s₁.setTop (mkF m 31 #[.val (.int p1), .val (.int p2), .val (.int p3), .val (.int p4), .val (.int p5), .val (.int p6), .val (.int na), .val (.int nb), .val (.int tb), .unset, .unset, .unset, .unset, .unset, .unset, .unset, .unset, .unset, .unset] [(.int (((p6.toUInt32 >>> ((1 : Int32) &&& 31).toUInt32).toInt32) &&& (1 : Int32))), (.int p3)])) _
    refine XS.ixor X0.here hx rfl (hb hby at_31) rfl ?_
    show Steps p.tables e below (s₁.setTop (mkF m 32 #[.val (.int p1), .val (.int p2), .val (.int p3), .val (.int p4), .val (.int p5), .val (.int p6), .val (.int na), .val (.int nb), .val (.int tb), .unset, .unset, .unset, .unset, .unset, .unset, .unset, .unset, .unset, .unset] [(.int (p3 ^^^ (((p6.toUInt32 >>> ((1 : Int32) &&& 31).toUInt32).toInt32) &&& (1 : Int32))))])) _
    rw [hrb]
    show Steps p.tables e below (s₁.setTop (mkF m 32 #[.val (.int p1), .val (.int p2), .val (.int p3), .val (.int p4), .val (.int p5), .val (.int p6), .val (.int na), .val (.int nb), .val (.int tb), .unset, .unset, .unset, .unset, .unset, .unset, .unset, .unset, .unset, .unset] [(.int rb)])) _
    refine XS.istore X0.here hx rfl (hb hby at_32) rfl (l' := #[.val (.int p1), .val (.int p2), .val (.int p3), .val (.int p4), .val (.int p5), .val (.int p6), .val (.int na), .val (.int nb), .val (.int tb), .val (.int rb), .unset, .unset, .unset, .unset, .unset, .unset, .unset, .unset, .unset]) rfl ?_
    show Steps p.tables e below (s₁.setTop (mkF m 34 #[.val (.int p1), .val (.int p2), .val (.int p3), .val (.int p4), .val (.int p5), .val (.int p6), .val (.int na), .val (.int nb), .val (.int tb), .val (.int rb), .unset, .unset, .unset, .unset, .unset, .unset, .unset, .unset, .unset] [])) _
    refine XS.iloadN X0.here hx rfl (hb hby at_34) rfl ?_
    show Steps p.tables e below (s₁.setTop (mkF m 35 #[.val (.int p1), .val (.int p2), .val (.int p3), .val (.int p4), .val (.int p5), .val (.int p6), .val (.int na), .val (.int nb), .val (.int tb), .val (.int rb), .unset, .unset, .unset, .unset, .unset, .unset, .unset, .unset, .unset] [(.int p4)])) _
    refine XS.iload X0.here hx rfl (hb hby at_35) rfl ?_
    show Steps p.tables e below (s₁.setTop (mkF m 37 #[.val (.int p1), .val (.int p2), .val (.int p3), .val (.int p4), .val (.int p5), .val (.int p6), .val (.int na), .val (.int nb), .val (.int tb), .val (.int rb), .unset, .unset, .unset, .unset, .unset, .unset, .unset, .unset, .unset] [(.int p6), (.int p4)])) _
    refine XS.iconst X0.here hx rfl (hb hby at_37) ?_
    show Steps p.tables e below (s₁.setTop (mkF m 38 #[.val (.int p1), .val (.int p2), .val (.int p3), .val (.int p4), .val (.int p5), .val (.int p6), .val (.int na), .val (.int nb), .val (.int tb), .val (.int rb), .unset, .unset, .unset, .unset, .unset, .unset, .unset, .unset, .unset] [(.int (2 : Int32)), (.int p6), (.int p4)])) _
    refine XS.iushr X0.here hx rfl (hb hby at_38) rfl ?_
    show Steps p.tables e below (s₁.setTop (mkF m 39 #[.val (.int p1), .val (.int p2), .val (.int p3), .val (.int p4), .val (.int p5), .val (.int p6), .val (.int na), .val (.int nb), .val (.int tb), .val (.int rb), .unset, .unset, .unset, .unset, .unset, .unset, .unset, .unset, .unset] [(.int ((p6.toUInt32 >>> ((2 : Int32) &&& 31).toUInt32).toInt32)), (.int p4)])) _
    refine XS.iconst X0.here hx rfl (hb hby at_39) ?_
    show Steps p.tables e below (s₁.setTop (mkF m 40 #[.val (.int p1), .val (.int p2), .val (.int p3), .val (.int p4), .val (.int p5), .val (.int p6), .val (.int na), .val (.int nb), .val (.int tb), .val (.int rb), .unset, .unset, .unset, .unset, .unset, .unset, .unset, .unset, .unset] [(.int (3 : Int32)), (.int ((p6.toUInt32 >>> ((2 : Int32) &&& 31).toUInt32).toInt32)), (.int p4)])) _
    refine XS.iand X0.here hx rfl (hb hby at_40) rfl ?_
    show Steps p.tables e below (s₁.setTop (mkF m 41 #[.val (.int p1), .val (.int p2), .val (.int p3), .val (.int p4), .val (.int p5), .val (.int p6), .val (.int na), .val (.int nb), .val (.int tb), .val (.int rb), .unset, .unset, .unset, .unset, .unset, .unset, .unset, .unset, .unset] [(.int (((p6.toUInt32 >>> ((2 : Int32) &&& 31).toUInt32).toInt32) &&& (3 : Int32))), (.int p4)])) _
    refine XS.ixor X0.here hx rfl (hb hby at_41) rfl ?_
    show Steps p.tables e below (s₁.setTop (mkF m 42 #[.val (.int p1), .val (.int p2), .val (.int p3), .val (.int p4), .val (.int p5), .val (.int p6), .val (.int na), .val (.int nb), .val (.int tb), .val (.int rb), .unset, .unset, .unset, .unset, .unset, .unset, .unset, .unset, .unset] [(.int (p4 ^^^ (((p6.toUInt32 >>> ((2 : Int32) &&& 31).toUInt32).toInt32) &&& (3 : Int32))))])) _
    refine XS.iload X0.here hx rfl (hb hby at_42) rfl ?_
    show Steps p.tables e below (s₁.setTop (mkF m 44 #[.val (.int p1), .val (.int p2), .val (.int p3), .val (.int p4), .val (.int p5), .val (.int p6), .val (.int na), .val (.int nb), .val (.int tb), .val (.int rb), .unset, .unset, .unset, .unset, .unset, .unset, .unset, .unset, .unset] [(.int p6), (.int (p4 ^^^ (((p6.toUInt32 >>> ((2 : Int32) &&& 31).toUInt32).toInt32) &&& (3 : Int32))))])) _
    refine XS.iconst X0.here hx rfl (hb hby at_44) ?_
    show Steps p.tables e below (s₁.setTop (mkF m 45 #[.val (.int p1), .val (.int p2), .val (.int p3), .val (.int p4), .val (.int p5), .val (.int p6), .val (.int na), .val (.int nb), .val (.int tb), .val (.int rb), .unset, .unset, .unset, .unset, .unset, .unset, .unset, .unset, .unset] [(.int (4 : Int32)), (.int p6), (.int (p4 ^^^ (((p6.toUInt32 >>> ((2 : Int32) &&& 31).toUInt32).toInt32) &&& (3 : Int32))))])) _
    refine XS.iushr X0.here hx rfl (hb hby at_45) rfl ?_
    show Steps p.tables e below (s₁.setTop (mkF m 46 #[.val (.int p1), .val (.int p2), .val (.int p3), .val (.int p4), .val (.int p5), .val (.int p6), .val (.int na), .val (.int nb), .val (.int tb), .val (.int rb), .unset, .unset, .unset, .unset, .unset, .unset, .unset, .unset, .unset] [(.int ((p6.toUInt32 >>> ((4 : Int32) &&& 31).toUInt32).toInt32)), (.int (p4 ^^^ (((p6.toUInt32 >>> ((2 : Int32) &&& 31).toUInt32).toInt32) &&& (3 : Int32))))])) _
    refine XS.iconst X0.here hx rfl (hb hby at_46) ?_
    show Steps p.tables e below (s₁.setTop (mkF m 47 #[.val (.int p1), .val (.int p2), .val (.int p3), .val (.int p4), .val (.int p5), .val (.int p6), .val (.int na), .val (.int nb), .val (.int tb), .val (.int rb), .unset, .unset, .unset, .unset, .unset, .unset, .unset, .unset, .unset] [(.int (3 : Int32)), (.int ((p6.toUInt32 >>> ((4 : Int32) &&& 31).toUInt32).toInt32)), (.int (p4 ^^^ (((p6.toUInt32 >>> ((2 : Int32) &&& 31).toUInt32).toInt32) &&& (3 : Int32))))])) _
    refine XS.iand X0.here hx rfl (hb hby at_47) rfl ?_
    show Steps p.tables e below (s₁.setTop (mkF m 48 #[.val (.int p1), .val (.int p2), .val (.int p3), .val (.int p4), .val (.int p5), .val (.int p6), .val (.int na), .val (.int nb), .val (.int tb), .val (.int rb), .unset, .unset, .unset, .unset, .unset, .unset, .unset, .unset, .unset] [(.int (((p6.toUInt32 >>> ((4 : Int32) &&& 31).toUInt32).toInt32) &&& (3 : Int32))), (.int (p4 ^^^ (((p6.toUInt32 >>> ((2 : Int32) &&& 31).toUInt32).toInt32) &&& (3 : Int32))))])) _
    refine XS.iconst X0.here hx rfl (hb hby at_48) ?_
    show Steps p.tables e below (s₁.setTop (mkF m 49 #[.val (.int p1), .val (.int p2), .val (.int p3), .val (.int p4), .val (.int p5), .val (.int p6), .val (.int na), .val (.int nb), .val (.int tb), .val (.int rb), .unset, .unset, .unset, .unset, .unset, .unset, .unset, .unset, .unset] [(.int (4 : Int32)), (.int (((p6.toUInt32 >>> ((4 : Int32) &&& 31).toUInt32).toInt32) &&& (3 : Int32))), (.int (p4 ^^^ (((p6.toUInt32 >>> ((2 : Int32) &&& 31).toUInt32).toInt32) &&& (3 : Int32))))])) _
    refine XS.ishl X0.here hx rfl (hb hby at_49) rfl ?_
    show Steps p.tables e below (s₁.setTop (mkF m 50 #[.val (.int p1), .val (.int p2), .val (.int p3), .val (.int p4), .val (.int p5), .val (.int p6), .val (.int na), .val (.int nb), .val (.int tb), .val (.int rb), .unset, .unset, .unset, .unset, .unset, .unset, .unset, .unset, .unset] [(.int ((((p6.toUInt32 >>> ((4 : Int32) &&& 31).toUInt32).toInt32) &&& (3 : Int32)) <<< ((4 : Int32) &&& 31))), (.int (p4 ^^^ (((p6.toUInt32 >>> ((2 : Int32) &&& 31).toUInt32).toInt32) &&& (3 : Int32))))])) _
    refine XS.ixor X0.here hx rfl (hb hby at_50) rfl ?_
    show Steps p.tables e below (s₁.setTop (mkF m 51 #[.val (.int p1), .val (.int p2), .val (.int p3), .val (.int p4), .val (.int p5), .val (.int p6), .val (.int na), .val (.int nb), .val (.int tb), .val (.int rb), .unset, .unset, .unset, .unset, .unset, .unset, .unset, .unset, .unset] [(.int ((p4 ^^^ (((p6.toUInt32 >>> ((2 : Int32) &&& 31).toUInt32).toInt32) &&& (3 : Int32))) ^^^ ((((p6.toUInt32 >>> ((4 : Int32) &&& 31).toUInt32).toInt32) &&& (3 : Int32)) <<< ((4 : Int32) &&& 31))))])) _
    rw [hdb]
    show Steps p.tables e below (s₁.setTop (mkF m 51 #[.val (.int p1), .val (.int p2), .val (.int p3), .val (.int p4), .val (.int p5), .val (.int p6), .val (.int na), .val (.int nb), .val (.int tb), .val (.int rb), .unset, .unset, .unset, .unset, .unset, .unset, .unset, .unset, .unset] [(.int db)])) _
    refine XS.istore X0.here hx rfl (hb hby at_51) rfl (l' := #[.val (.int p1), .val (.int p2), .val (.int p3), .val (.int p4), .val (.int p5), .val (.int p6), .val (.int na), .val (.int nb), .val (.int tb), .val (.int rb), .val (.int db), .unset, .unset, .unset, .unset, .unset, .unset, .unset, .unset]) rfl ?_
    show Steps p.tables e below (s₁.setTop (mkF m 53 #[.val (.int p1), .val (.int p2), .val (.int p3), .val (.int p4), .val (.int p5), .val (.int p6), .val (.int na), .val (.int nb), .val (.int tb), .val (.int rb), .val (.int db), .unset, .unset, .unset, .unset, .unset, .unset, .unset, .unset] [])) _
    refine XS.iload X0.here hx rfl (hb hby at_53) rfl ?_
    show Steps p.tables e below (s₁.setTop (mkF m 55 #[.val (.int p1), .val (.int p2), .val (.int p3), .val (.int p4), .val (.int p5), .val (.int p6), .val (.int na), .val (.int nb), .val (.int tb), .val (.int rb), .val (.int db), .unset, .unset, .unset, .unset, .unset, .unset, .unset, .unset] [(.int p5)])) _
    refine XS.iload X0.here hx rfl (hb hby at_55) rfl ?_
    show Steps p.tables e below (s₁.setTop (mkF m 57 #[.val (.int p1), .val (.int p2), .val (.int p3), .val (.int p4), .val (.int p5), .val (.int p6), .val (.int na), .val (.int nb), .val (.int tb), .val (.int rb), .val (.int db), .unset, .unset, .unset, .unset, .unset, .unset, .unset, .unset] [(.int p6), (.int p5)])) _
    refine XS.bipush X0.here hx rfl (hb hby at_57) ?_
    show Steps p.tables e below (s₁.setTop (mkF m 59 #[.val (.int p1), .val (.int p2), .val (.int p3), .val (.int p4), .val (.int p5), .val (.int p6), .val (.int na), .val (.int nb), .val (.int tb), .val (.int rb), .val (.int db), .unset, .unset, .unset, .unset, .unset, .unset, .unset, .unset] [(.int (8 : Int32)), (.int p6), (.int p5)])) _
    refine XS.iushr X0.here hx rfl (hb hby at_59) rfl ?_
    show Steps p.tables e below (s₁.setTop (mkF m 60 #[.val (.int p1), .val (.int p2), .val (.int p3), .val (.int p4), .val (.int p5), .val (.int p6), .val (.int na), .val (.int nb), .val (.int tb), .val (.int rb), .val (.int db), .unset, .unset, .unset, .unset, .unset, .unset, .unset, .unset] [(.int ((p6.toUInt32 >>> ((8 : Int32) &&& 31).toUInt32).toInt32)), (.int p5)])) _
    refine XS.sipush X0.here hx rfl (hb hby at_60) ?_
    show Steps p.tables e below (s₁.setTop (mkF m 63 #[.val (.int p1), .val (.int p2), .val (.int p3), .val (.int p4), .val (.int p5), .val (.int p6), .val (.int na), .val (.int nb), .val (.int tb), .val (.int rb), .val (.int db), .unset, .unset, .unset, .unset, .unset, .unset, .unset, .unset] [(.int (255 : Int32)), (.int ((p6.toUInt32 >>> ((8 : Int32) &&& 31).toUInt32).toInt32)), (.int p5)])) _
    refine XS.iand X0.here hx rfl (hb hby at_63) rfl ?_
    show Steps p.tables e below (s₁.setTop (mkF m 64 #[.val (.int p1), .val (.int p2), .val (.int p3), .val (.int p4), .val (.int p5), .val (.int p6), .val (.int na), .val (.int nb), .val (.int tb), .val (.int rb), .val (.int db), .unset, .unset, .unset, .unset, .unset, .unset, .unset, .unset] [(.int (((p6.toUInt32 >>> ((8 : Int32) &&& 31).toUInt32).toInt32) &&& (255 : Int32))), (.int p5)])) _
    refine XS.ixor X0.here hx rfl (hb hby at_64) rfl ?_
    show Steps p.tables e below (s₁.setTop (mkF m 65 #[.val (.int p1), .val (.int p2), .val (.int p3), .val (.int p4), .val (.int p5), .val (.int p6), .val (.int na), .val (.int nb), .val (.int tb), .val (.int rb), .val (.int db), .unset, .unset, .unset, .unset, .unset, .unset, .unset, .unset] [(.int (p5 ^^^ (((p6.toUInt32 >>> ((8 : Int32) &&& 31).toUInt32).toInt32) &&& (255 : Int32))))])) _
    rw [hqb]
    show Steps p.tables e below (s₁.setTop (mkF m 65 #[.val (.int p1), .val (.int p2), .val (.int p3), .val (.int p4), .val (.int p5), .val (.int p6), .val (.int na), .val (.int nb), .val (.int tb), .val (.int rb), .val (.int db), .unset, .unset, .unset, .unset, .unset, .unset, .unset, .unset] [(.int qb)])) _
    refine XS.istore X0.here hx rfl (hb hby at_65) rfl (l' := #[.val (.int p1), .val (.int p2), .val (.int p3), .val (.int p4), .val (.int p5), .val (.int p6), .val (.int na), .val (.int nb), .val (.int tb), .val (.int rb), .val (.int db), .val (.int qb), .unset, .unset, .unset, .unset, .unset, .unset, .unset]) rfl ?_
    show Steps p.tables e below (s₁.setTop (mkF m 67 #[.val (.int p1), .val (.int p2), .val (.int p3), .val (.int p4), .val (.int p5), .val (.int p6), .val (.int na), .val (.int nb), .val (.int tb), .val (.int rb), .val (.int db), .val (.int qb), .unset, .unset, .unset, .unset, .unset, .unset, .unset] [])) _
    refine XS.iload X0.here hx rfl (hb hby at_67) rfl ?_
    show Steps p.tables e below (s₁.setTop (mkF m 69 #[.val (.int p1), .val (.int p2), .val (.int p3), .val (.int p4), .val (.int p5), .val (.int p6), .val (.int na), .val (.int nb), .val (.int tb), .val (.int rb), .val (.int db), .val (.int qb), .unset, .unset, .unset, .unset, .unset, .unset, .unset] [(.int na)])) _
    refine XS.iloadN X0.here hx rfl (hb hby at_69) rfl ?_
    show Steps p.tables e below (s₁.setTop (mkF m 70 #[.val (.int p1), .val (.int p2), .val (.int p3), .val (.int p4), .val (.int p5), .val (.int p6), .val (.int na), .val (.int nb), .val (.int tb), .val (.int rb), .val (.int db), .val (.int qb), .unset, .unset, .unset, .unset, .unset, .unset, .unset] [(.int p2), (.int na)])) _
    refine XS.iloadN X0.here hx rfl (hb hby at_70) rfl ?_
    show Steps p.tables e below (s₁.setTop (mkF m 71 #[.val (.int p1), .val (.int p2), .val (.int p3), .val (.int p4), .val (.int p5), .val (.int p6), .val (.int na), .val (.int nb), .val (.int tb), .val (.int rb), .val (.int db), .val (.int qb), .unset, .unset, .unset, .unset, .unset, .unset, .unset] [(.int p3), (.int p2), (.int na)])) _
    refine XS.iloadN X0.here hx rfl (hb hby at_71) rfl ?_
    show Steps p.tables e below (s₁.setTop (mkF m 72 #[.val (.int p1), .val (.int p2), .val (.int p3), .val (.int p4), .val (.int p5), .val (.int p6), .val (.int na), .val (.int nb), .val (.int tb), .val (.int rb), .val (.int db), .val (.int qb), .unset, .unset, .unset, .unset, .unset, .unset, .unset] [(.int p4), (.int p3), (.int p2), (.int na)])) _
    refine XS.iload X0.here hx rfl (hb hby at_72) rfl ?_
    show Steps p.tables e below (s₁.setTop (mkF m 74 #[.val (.int p1), .val (.int p2), .val (.int p3), .val (.int p4), .val (.int p5), .val (.int p6), .val (.int na), .val (.int nb), .val (.int tb), .val (.int rb), .val (.int db), .val (.int qb), .unset, .unset, .unset, .unset, .unset, .unset, .unset] [(.int p5), (.int p4), (.int p3), (.int p2), (.int na)])) _
    refine st7 _ ?_
    show Steps p.tables e below (T7.setTop (mkF m 77 #[.val (.int p1), .val (.int p2), .val (.int p3), .val (.int p4), .val (.int p5), .val (.int p6), .val (.int na), .val (.int nb), .val (.int tb), .val (.int rb), .val (.int db), .val (.int qb), .unset, .unset, .unset, .unset, .unset, .unset, .unset] [(.ref A1)])) _
    refine XS.astore X7.here hx rfl (hb hby at_77) rfl rfl (l' := #[.val (.int p1), .val (.int p2), .val (.int p3), .val (.int p4), .val (.int p5), .val (.int p6), .val (.int na), .val (.int nb), .val (.int tb), .val (.int rb), .val (.int db), .val (.int qb), .val (.ref A1), .unset, .unset, .unset, .unset, .unset, .unset]) rfl ?_
    show Steps p.tables e below (T7.setTop (mkF m 79 #[.val (.int p1), .val (.int p2), .val (.int p3), .val (.int p4), .val (.int p5), .val (.int p6), .val (.int na), .val (.int nb), .val (.int tb), .val (.int rb), .val (.int db), .val (.int qb), .val (.ref A1), .unset, .unset, .unset, .unset, .unset, .unset] [])) _
    refine XS.iload X7.here hx rfl (hb hby at_79) rfl ?_
    show Steps p.tables e below (T7.setTop (mkF m 81 #[.val (.int p1), .val (.int p2), .val (.int p3), .val (.int p4), .val (.int p5), .val (.int p6), .val (.int na), .val (.int nb), .val (.int tb), .val (.int rb), .val (.int db), .val (.int qb), .val (.ref A1), .unset, .unset, .unset, .unset, .unset, .unset] [(.int nb)])) _
    refine XS.iload X7.here hx rfl (hb hby at_81) rfl ?_
    show Steps p.tables e below (T7.setTop (mkF m 83 #[.val (.int p1), .val (.int p2), .val (.int p3), .val (.int p4), .val (.int p5), .val (.int p6), .val (.int na), .val (.int nb), .val (.int tb), .val (.int rb), .val (.int db), .val (.int qb), .val (.ref A1), .unset, .unset, .unset, .unset, .unset, .unset] [(.int tb), (.int nb)])) _
    refine XS.iload X7.here hx rfl (hb hby at_83) rfl ?_
    show Steps p.tables e below (T7.setTop (mkF m 85 #[.val (.int p1), .val (.int p2), .val (.int p3), .val (.int p4), .val (.int p5), .val (.int p6), .val (.int na), .val (.int nb), .val (.int tb), .val (.int rb), .val (.int db), .val (.int qb), .val (.ref A1), .unset, .unset, .unset, .unset, .unset, .unset] [(.int rb), (.int tb), (.int nb)])) _
    refine XS.iload X7.here hx rfl (hb hby at_85) rfl ?_
    show Steps p.tables e below (T7.setTop (mkF m 87 #[.val (.int p1), .val (.int p2), .val (.int p3), .val (.int p4), .val (.int p5), .val (.int p6), .val (.int na), .val (.int nb), .val (.int tb), .val (.int rb), .val (.int db), .val (.int qb), .val (.ref A1), .unset, .unset, .unset, .unset, .unset, .unset] [(.int db), (.int rb), (.int tb), (.int nb)])) _
    refine XS.iload X7.here hx rfl (hb hby at_87) rfl ?_
    show Steps p.tables e below (T7.setTop (mkF m 89 #[.val (.int p1), .val (.int p2), .val (.int p3), .val (.int p4), .val (.int p5), .val (.int p6), .val (.int na), .val (.int nb), .val (.int tb), .val (.int rb), .val (.int db), .val (.int qb), .val (.ref A1), .unset, .unset, .unset, .unset, .unset, .unset] [(.int qb), (.int db), (.int rb), (.int tb), (.int nb)])) _
    refine st8 _ ?_
    show Steps p.tables e below (T8.setTop (mkF m 92 #[.val (.int p1), .val (.int p2), .val (.int p3), .val (.int p4), .val (.int p5), .val (.int p6), .val (.int na), .val (.int nb), .val (.int tb), .val (.int rb), .val (.int db), .val (.int qb), .val (.ref A1), .unset, .unset, .unset, .unset, .unset, .unset] [(.ref A2)])) _
    refine XS.astore X8.here hx rfl (hb hby at_92) rfl rfl (l' := #[.val (.int p1), .val (.int p2), .val (.int p3), .val (.int p4), .val (.int p5), .val (.int p6), .val (.int na), .val (.int nb), .val (.int tb), .val (.int rb), .val (.int db), .val (.int qb), .val (.ref A1), .val (.ref A2), .unset, .unset, .unset, .unset, .unset]) rfl ?_
    show Steps p.tables e below (T8.setTop (mkF m 94 #[.val (.int p1), .val (.int p2), .val (.int p3), .val (.int p4), .val (.int p5), .val (.int p6), .val (.int na), .val (.int nb), .val (.int tb), .val (.int rb), .val (.int db), .val (.int qb), .val (.ref A1), .val (.ref A2), .unset, .unset, .unset, .unset, .unset] [])) _
    refine sta _ (stb _ (stc _ ?_))
    show Steps p.tables e below (TG.setTop (mkF m 220 #[.val (.int p1), .val (.int p2), .val (.int p3), .val (.int p4), .val (.int p5), .val (.int p6), .val (.int na), .val (.int nb), .val (.int tb), .val (.int rb), .val (.int db), .val (.int qb), .val (.ref A1), .val (.ref A2), .val (.int (own_bi (own_eq4 (own_t0 p2) p3 (own_p0 p5) (own_t0 tb) rb (own_p0 qb)))), .val (.int (own_bi (own_eq4 (own_t1 p2 p4) (own_r1 p3 p4) (own_p1 p5) (own_t1 tb db) (own_r1 rb db) (own_p1 qb)))), .val (.int (own_bi (own_exp na nb (own_eq4 (own_t0 p2) p3 (own_p0 p5) (own_t0 tb) rb (own_p0 qb)) (own_eq4 (own_t1 p2 p4) (own_r1 p3 p4) (own_p1 p5) (own_t1 tb db) (own_r1 rb db) (own_p1 qb))))), .unset, .unset] [])) _
    refine XS.aload XG.here hx rfl (hb hby at_220) rfl rfl ?_
    show Steps p.tables e below (TG.setTop (mkF m 222 #[.val (.int p1), .val (.int p2), .val (.int p3), .val (.int p4), .val (.int p5), .val (.int p6), .val (.int na), .val (.int nb), .val (.int tb), .val (.int rb), .val (.int db), .val (.int qb), .val (.ref A1), .val (.ref A2), .val (.int (own_bi (own_eq4 (own_t0 p2) p3 (own_p0 p5) (own_t0 tb) rb (own_p0 qb)))), .val (.int (own_bi (own_eq4 (own_t1 p2 p4) (own_r1 p3 p4) (own_p1 p5) (own_t1 tb db) (own_r1 rb db) (own_p1 qb)))), .val (.int (own_bi (own_exp na nb (own_eq4 (own_t0 p2) p3 (own_p0 p5) (own_t0 tb) rb (own_p0 qb)) (own_eq4 (own_t1 p2 p4) (own_r1 p3 p4) (own_p1 p5) (own_t1 tb db) (own_r1 rb db) (own_p1 qb))))), .unset, .unset] [(.ref A1)])) _
    refine XS.aload XG.here hx rfl (hb hby at_222) rfl rfl ?_
    show Steps p.tables e below (TG.setTop (mkF m 224 #[.val (.int p1), .val (.int p2), .val (.int p3), .val (.int p4), .val (.int p5), .val (.int p6), .val (.int na), .val (.int nb), .val (.int tb), .val (.int rb), .val (.int db), .val (.int qb), .val (.ref A1), .val (.ref A2), .val (.int (own_bi (own_eq4 (own_t0 p2) p3 (own_p0 p5) (own_t0 tb) rb (own_p0 qb)))), .val (.int (own_bi (own_eq4 (own_t1 p2 p4) (own_r1 p3 p4) (own_p1 p5) (own_t1 tb db) (own_r1 rb db) (own_p1 qb)))), .val (.int (own_bi (own_exp na nb (own_eq4 (own_t0 p2) p3 (own_p0 p5) (own_t0 tb) rb (own_p0 qb)) (own_eq4 (own_t1 p2 p4) (own_r1 p3 p4) (own_p1 p5) (own_t1 tb db) (own_r1 rb db) (own_p1 qb))))), .unset, .unset] [(.ref A2), (.ref A1)])) _
    refine st13.trans ?_
    show Steps p.tables e below (T13.setTop (mkF m 227 #[.val (.int p1), .val (.int p2), .val (.int p3), .val (.int p4), .val (.int p5), .val (.int p6), .val (.int na), .val (.int nb), .val (.int tb), .val (.int rb), .val (.int db), .val (.int qb), .val (.ref A1), .val (.ref A2), .val (.int (own_bi (own_eq4 (own_t0 p2) p3 (own_p0 p5) (own_t0 tb) rb (own_p0 qb)))), .val (.int (own_bi (own_eq4 (own_t1 p2 p4) (own_r1 p3 p4) (own_p1 p5) (own_t1 tb db) (own_r1 rb db) (own_p1 qb)))), .val (.int (own_bi (own_exp na nb (own_eq4 (own_t0 p2) p3 (own_p0 p5) (own_t0 tb) rb (own_p0 qb)) (own_eq4 (own_t1 p2 p4) (own_r1 p3 p4) (own_p1 p5) (own_t1 tb db) (own_r1 rb db) (own_p1 qb))))), .unset, .unset] [(.int (own_bi (decide (ka = kb) && own_all (fun i => (own_eq4 ((own_e (own_t0 p2) (own_t1 p2 p4)) i) ((own_e p3 (own_r1 p3 p4)) i) ((own_e (own_p0 p5) (own_p1 p5)) i) ((own_e (own_t0 tb) (own_t1 tb db)) i) ((own_e rb (own_r1 rb db)) i) ((own_e (own_p0 qb) (own_p1 qb)) i))) ka 0)))])) _
    refine XS.istore X13.here hx rfl (hb hby at_227) rfl (l' := #[.val (.int p1), .val (.int p2), .val (.int p3), .val (.int p4), .val (.int p5), .val (.int p6), .val (.int na), .val (.int nb), .val (.int tb), .val (.int rb), .val (.int db), .val (.int qb), .val (.ref A1), .val (.ref A2), .val (.int (own_bi (own_eq4 (own_t0 p2) p3 (own_p0 p5) (own_t0 tb) rb (own_p0 qb)))), .val (.int (own_bi (own_eq4 (own_t1 p2 p4) (own_r1 p3 p4) (own_p1 p5) (own_t1 tb db) (own_r1 rb db) (own_p1 qb)))), .val (.int (own_bi (own_exp na nb (own_eq4 (own_t0 p2) p3 (own_p0 p5) (own_t0 tb) rb (own_p0 qb)) (own_eq4 (own_t1 p2 p4) (own_r1 p3 p4) (own_p1 p5) (own_t1 tb db) (own_r1 rb db) (own_p1 qb))))), .val (.int (own_bi (decide (ka = kb) && own_all (fun i => (own_eq4 ((own_e (own_t0 p2) (own_t1 p2 p4)) i) ((own_e p3 (own_r1 p3 p4)) i) ((own_e (own_p0 p5) (own_p1 p5)) i) ((own_e (own_t0 tb) (own_t1 tb db)) i) ((own_e rb (own_r1 rb db)) i) ((own_e (own_p0 qb) (own_p1 qb)) i))) ka 0))), .unset]) rfl ?_
    show Steps p.tables e below (T13.setTop (mkF m 229 #[.val (.int p1), .val (.int p2), .val (.int p3), .val (.int p4), .val (.int p5), .val (.int p6), .val (.int na), .val (.int nb), .val (.int tb), .val (.int rb), .val (.int db), .val (.int qb), .val (.ref A1), .val (.ref A2), .val (.int (own_bi (own_eq4 (own_t0 p2) p3 (own_p0 p5) (own_t0 tb) rb (own_p0 qb)))), .val (.int (own_bi (own_eq4 (own_t1 p2 p4) (own_r1 p3 p4) (own_p1 p5) (own_t1 tb db) (own_r1 rb db) (own_p1 qb)))), .val (.int (own_bi (own_exp na nb (own_eq4 (own_t0 p2) p3 (own_p0 p5) (own_t0 tb) rb (own_p0 qb)) (own_eq4 (own_t1 p2 p4) (own_r1 p3 p4) (own_p1 p5) (own_t1 tb db) (own_r1 rb db) (own_p1 qb))))), .val (.int (own_bi (decide (ka = kb) && own_all (fun i => (own_eq4 ((own_e (own_t0 p2) (own_t1 p2 p4)) i) ((own_e p3 (own_r1 p3 p4)) i) ((own_e (own_p0 p5) (own_p1 p5)) i) ((own_e (own_t0 tb) (own_t1 tb db)) i) ((own_e rb (own_r1 rb db)) i) ((own_e (own_p0 qb) (own_p1 qb)) i))) ka 0))), .unset] [])) _
    refine XS.aload X13.here hx rfl (hb hby at_229) rfl rfl ?_
    show Steps p.tables e below (T13.setTop (mkF m 231 #[.val (.int p1), .val (.int p2), .val (.int p3), .val (.int p4), .val (.int p5), .val (.int p6), .val (.int na), .val (.int nb), .val (.int tb), .val (.int rb), .val (.int db), .val (.int qb), .val (.ref A1), .val (.ref A2), .val (.int (own_bi (own_eq4 (own_t0 p2) p3 (own_p0 p5) (own_t0 tb) rb (own_p0 qb)))), .val (.int (own_bi (own_eq4 (own_t1 p2 p4) (own_r1 p3 p4) (own_p1 p5) (own_t1 tb db) (own_r1 rb db) (own_p1 qb)))), .val (.int (own_bi (own_exp na nb (own_eq4 (own_t0 p2) p3 (own_p0 p5) (own_t0 tb) rb (own_p0 qb)) (own_eq4 (own_t1 p2 p4) (own_r1 p3 p4) (own_p1 p5) (own_t1 tb db) (own_r1 rb db) (own_p1 qb))))), .val (.int (own_bi (decide (ka = kb) && own_all (fun i => (own_eq4 ((own_e (own_t0 p2) (own_t1 p2 p4)) i) ((own_e p3 (own_r1 p3 p4)) i) ((own_e (own_p0 p5) (own_p1 p5)) i) ((own_e (own_t0 tb) (own_t1 tb db)) i) ((own_e rb (own_r1 rb db)) i) ((own_e (own_p0 qb) (own_p1 qb)) i))) ka 0))), .unset] [(.ref A2)])) _
    refine XS.aload X13.here hx rfl (hb hby at_231) rfl rfl ?_
    show Steps p.tables e below (T13.setTop (mkF m 233 #[.val (.int p1), .val (.int p2), .val (.int p3), .val (.int p4), .val (.int p5), .val (.int p6), .val (.int na), .val (.int nb), .val (.int tb), .val (.int rb), .val (.int db), .val (.int qb), .val (.ref A1), .val (.ref A2), .val (.int (own_bi (own_eq4 (own_t0 p2) p3 (own_p0 p5) (own_t0 tb) rb (own_p0 qb)))), .val (.int (own_bi (own_eq4 (own_t1 p2 p4) (own_r1 p3 p4) (own_p1 p5) (own_t1 tb db) (own_r1 rb db) (own_p1 qb)))), .val (.int (own_bi (own_exp na nb (own_eq4 (own_t0 p2) p3 (own_p0 p5) (own_t0 tb) rb (own_p0 qb)) (own_eq4 (own_t1 p2 p4) (own_r1 p3 p4) (own_p1 p5) (own_t1 tb db) (own_r1 rb db) (own_p1 qb))))), .val (.int (own_bi (decide (ka = kb) && own_all (fun i => (own_eq4 ((own_e (own_t0 p2) (own_t1 p2 p4)) i) ((own_e p3 (own_r1 p3 p4)) i) ((own_e (own_p0 p5) (own_p1 p5)) i) ((own_e (own_t0 tb) (own_t1 tb db)) i) ((own_e rb (own_r1 rb db)) i) ((own_e (own_p0 qb) (own_p1 qb)) i))) ka 0))), .unset] [(.ref A1), (.ref A2)])) _
    refine st14.trans ?_
    show Steps p.tables e below (T14.setTop (mkF m 236 #[.val (.int p1), .val (.int p2), .val (.int p3), .val (.int p4), .val (.int p5), .val (.int p6), .val (.int na), .val (.int nb), .val (.int tb), .val (.int rb), .val (.int db), .val (.int qb), .val (.ref A1), .val (.ref A2), .val (.int (own_bi (own_eq4 (own_t0 p2) p3 (own_p0 p5) (own_t0 tb) rb (own_p0 qb)))), .val (.int (own_bi (own_eq4 (own_t1 p2 p4) (own_r1 p3 p4) (own_p1 p5) (own_t1 tb db) (own_r1 rb db) (own_p1 qb)))), .val (.int (own_bi (own_exp na nb (own_eq4 (own_t0 p2) p3 (own_p0 p5) (own_t0 tb) rb (own_p0 qb)) (own_eq4 (own_t1 p2 p4) (own_r1 p3 p4) (own_p1 p5) (own_t1 tb db) (own_r1 rb db) (own_p1 qb))))), .val (.int (own_bi (decide (ka = kb) && own_all (fun i => (own_eq4 ((own_e (own_t0 p2) (own_t1 p2 p4)) i) ((own_e p3 (own_r1 p3 p4)) i) ((own_e (own_p0 p5) (own_p1 p5)) i) ((own_e (own_t0 tb) (own_t1 tb db)) i) ((own_e rb (own_r1 rb db)) i) ((own_e (own_p0 qb) (own_p1 qb)) i))) ka 0))), .unset] [(.int (own_bi (decide (kb = ka) && own_all (fun i => (own_eq4 ((own_e (own_t0 tb) (own_t1 tb db)) i) ((own_e rb (own_r1 rb db)) i) ((own_e (own_p0 qb) (own_p1 qb)) i) ((own_e (own_t0 p2) (own_t1 p2 p4)) i) ((own_e p3 (own_r1 p3 p4)) i) ((own_e (own_p0 p5) (own_p1 p5)) i))) kb 0)))])) _
    refine XS.istore X14.here hx rfl (hb hby at_236) rfl (l' := #[.val (.int p1), .val (.int p2), .val (.int p3), .val (.int p4), .val (.int p5), .val (.int p6), .val (.int na), .val (.int nb), .val (.int tb), .val (.int rb), .val (.int db), .val (.int qb), .val (.ref A1), .val (.ref A2), .val (.int (own_bi (own_eq4 (own_t0 p2) p3 (own_p0 p5) (own_t0 tb) rb (own_p0 qb)))), .val (.int (own_bi (own_eq4 (own_t1 p2 p4) (own_r1 p3 p4) (own_p1 p5) (own_t1 tb db) (own_r1 rb db) (own_p1 qb)))), .val (.int (own_bi (own_exp na nb (own_eq4 (own_t0 p2) p3 (own_p0 p5) (own_t0 tb) rb (own_p0 qb)) (own_eq4 (own_t1 p2 p4) (own_r1 p3 p4) (own_p1 p5) (own_t1 tb db) (own_r1 rb db) (own_p1 qb))))), .val (.int (own_bi (decide (ka = kb) && own_all (fun i => (own_eq4 ((own_e (own_t0 p2) (own_t1 p2 p4)) i) ((own_e p3 (own_r1 p3 p4)) i) ((own_e (own_p0 p5) (own_p1 p5)) i) ((own_e (own_t0 tb) (own_t1 tb db)) i) ((own_e rb (own_r1 rb db)) i) ((own_e (own_p0 qb) (own_p1 qb)) i))) ka 0))), .val (.int (own_bi (decide (kb = ka) && own_all (fun i => (own_eq4 ((own_e (own_t0 tb) (own_t1 tb db)) i) ((own_e rb (own_r1 rb db)) i) ((own_e (own_p0 qb) (own_p1 qb)) i) ((own_e (own_t0 p2) (own_t1 p2 p4)) i) ((own_e p3 (own_r1 p3 p4)) i) ((own_e (own_p0 p5) (own_p1 p5)) i))) kb 0)))]) rfl ?_
    show Steps p.tables e below (T14.setTop (mkF m 238 #[.val (.int p1), .val (.int p2), .val (.int p3), .val (.int p4), .val (.int p5), .val (.int p6), .val (.int na), .val (.int nb), .val (.int tb), .val (.int rb), .val (.int db), .val (.int qb), .val (.ref A1), .val (.ref A2), .val (.int (own_bi (own_eq4 (own_t0 p2) p3 (own_p0 p5) (own_t0 tb) rb (own_p0 qb)))), .val (.int (own_bi (own_eq4 (own_t1 p2 p4) (own_r1 p3 p4) (own_p1 p5) (own_t1 tb db) (own_r1 rb db) (own_p1 qb)))), .val (.int (own_bi (own_exp na nb (own_eq4 (own_t0 p2) p3 (own_p0 p5) (own_t0 tb) rb (own_p0 qb)) (own_eq4 (own_t1 p2 p4) (own_r1 p3 p4) (own_p1 p5) (own_t1 tb db) (own_r1 rb db) (own_p1 qb))))), .val (.int (own_bi (decide (ka = kb) && own_all (fun i => (own_eq4 ((own_e (own_t0 p2) (own_t1 p2 p4)) i) ((own_e p3 (own_r1 p3 p4)) i) ((own_e (own_p0 p5) (own_p1 p5)) i) ((own_e (own_t0 tb) (own_t1 tb db)) i) ((own_e rb (own_r1 rb db)) i) ((own_e (own_p0 qb) (own_p1 qb)) i))) ka 0))), .val (.int (own_bi (decide (kb = ka) && own_all (fun i => (own_eq4 ((own_e (own_t0 tb) (own_t1 tb db)) i) ((own_e rb (own_r1 rb db)) i) ((own_e (own_p0 qb) (own_p1 qb)) i) ((own_e (own_t0 p2) (own_t1 p2 p4)) i) ((own_e p3 (own_r1 p3 p4)) i) ((own_e (own_p0 p5) (own_p1 p5)) i))) kb 0)))] [])) _
    refine XS.iload X14.here hx rfl (hb hby at_238) rfl ?_
    show Steps p.tables e below (T14.setTop (mkF m 240 #[.val (.int p1), .val (.int p2), .val (.int p3), .val (.int p4), .val (.int p5), .val (.int p6), .val (.int na), .val (.int nb), .val (.int tb), .val (.int rb), .val (.int db), .val (.int qb), .val (.ref A1), .val (.ref A2), .val (.int (own_bi (own_eq4 (own_t0 p2) p3 (own_p0 p5) (own_t0 tb) rb (own_p0 qb)))), .val (.int (own_bi (own_eq4 (own_t1 p2 p4) (own_r1 p3 p4) (own_p1 p5) (own_t1 tb db) (own_r1 rb db) (own_p1 qb)))), .val (.int (own_bi (own_exp na nb (own_eq4 (own_t0 p2) p3 (own_p0 p5) (own_t0 tb) rb (own_p0 qb)) (own_eq4 (own_t1 p2 p4) (own_r1 p3 p4) (own_p1 p5) (own_t1 tb db) (own_r1 rb db) (own_p1 qb))))), .val (.int (own_bi (decide (ka = kb) && own_all (fun i => (own_eq4 ((own_e (own_t0 p2) (own_t1 p2 p4)) i) ((own_e p3 (own_r1 p3 p4)) i) ((own_e (own_p0 p5) (own_p1 p5)) i) ((own_e (own_t0 tb) (own_t1 tb db)) i) ((own_e rb (own_r1 rb db)) i) ((own_e (own_p0 qb) (own_p1 qb)) i))) ka 0))), .val (.int (own_bi (decide (kb = ka) && own_all (fun i => (own_eq4 ((own_e (own_t0 tb) (own_t1 tb db)) i) ((own_e rb (own_r1 rb db)) i) ((own_e (own_p0 qb) (own_p1 qb)) i) ((own_e (own_t0 p2) (own_t1 p2 p4)) i) ((own_e p3 (own_r1 p3 p4)) i) ((own_e (own_p0 p5) (own_p1 p5)) i))) kb 0)))] [(.int (own_bi (decide (ka = kb) && own_all (fun i => (own_eq4 ((own_e (own_t0 p2) (own_t1 p2 p4)) i) ((own_e p3 (own_r1 p3 p4)) i) ((own_e (own_p0 p5) (own_p1 p5)) i) ((own_e (own_t0 tb) (own_t1 tb db)) i) ((own_e rb (own_r1 rb db)) i) ((own_e (own_p0 qb) (own_p1 qb)) i))) ka 0)))])) _
    refine XS.iload X14.here hx rfl (hb hby at_240) rfl ?_
    show Steps p.tables e below (T14.setTop (mkF m 242 #[.val (.int p1), .val (.int p2), .val (.int p3), .val (.int p4), .val (.int p5), .val (.int p6), .val (.int na), .val (.int nb), .val (.int tb), .val (.int rb), .val (.int db), .val (.int qb), .val (.ref A1), .val (.ref A2), .val (.int (own_bi (own_eq4 (own_t0 p2) p3 (own_p0 p5) (own_t0 tb) rb (own_p0 qb)))), .val (.int (own_bi (own_eq4 (own_t1 p2 p4) (own_r1 p3 p4) (own_p1 p5) (own_t1 tb db) (own_r1 rb db) (own_p1 qb)))), .val (.int (own_bi (own_exp na nb (own_eq4 (own_t0 p2) p3 (own_p0 p5) (own_t0 tb) rb (own_p0 qb)) (own_eq4 (own_t1 p2 p4) (own_r1 p3 p4) (own_p1 p5) (own_t1 tb db) (own_r1 rb db) (own_p1 qb))))), .val (.int (own_bi (decide (ka = kb) && own_all (fun i => (own_eq4 ((own_e (own_t0 p2) (own_t1 p2 p4)) i) ((own_e p3 (own_r1 p3 p4)) i) ((own_e (own_p0 p5) (own_p1 p5)) i) ((own_e (own_t0 tb) (own_t1 tb db)) i) ((own_e rb (own_r1 rb db)) i) ((own_e (own_p0 qb) (own_p1 qb)) i))) ka 0))), .val (.int (own_bi (decide (kb = ka) && own_all (fun i => (own_eq4 ((own_e (own_t0 tb) (own_t1 tb db)) i) ((own_e rb (own_r1 rb db)) i) ((own_e (own_p0 qb) (own_p1 qb)) i) ((own_e (own_t0 p2) (own_t1 p2 p4)) i) ((own_e p3 (own_r1 p3 p4)) i) ((own_e (own_p0 p5) (own_p1 p5)) i))) kb 0)))] [(.int (own_bi (own_exp na nb (own_eq4 (own_t0 p2) p3 (own_p0 p5) (own_t0 tb) rb (own_p0 qb)) (own_eq4 (own_t1 p2 p4) (own_r1 p3 p4) (own_p1 p5) (own_t1 tb db) (own_r1 rb db) (own_p1 qb))))), (.int (own_bi (decide (ka = kb) && own_all (fun i => (own_eq4 ((own_e (own_t0 p2) (own_t1 p2 p4)) i) ((own_e p3 (own_r1 p3 p4)) i) ((own_e (own_p0 p5) (own_p1 p5)) i) ((own_e (own_t0 tb) (own_t1 tb db)) i) ((own_e rb (own_r1 rb db)) i) ((own_e (own_p0 qb) (own_p1 qb)) i))) ka 0)))])) _
    refine XS.icmpNo X14.here hx rfl (hb hby at_242) rfl (teq hc12).2 ?_
    show Steps p.tables e below (T14.setTop (mkF m 245 #[.val (.int p1), .val (.int p2), .val (.int p3), .val (.int p4), .val (.int p5), .val (.int p6), .val (.int na), .val (.int nb), .val (.int tb), .val (.int rb), .val (.int db), .val (.int qb), .val (.ref A1), .val (.ref A2), .val (.int (own_bi (own_eq4 (own_t0 p2) p3 (own_p0 p5) (own_t0 tb) rb (own_p0 qb)))), .val (.int (own_bi (own_eq4 (own_t1 p2 p4) (own_r1 p3 p4) (own_p1 p5) (own_t1 tb db) (own_r1 rb db) (own_p1 qb)))), .val (.int (own_bi (own_exp na nb (own_eq4 (own_t0 p2) p3 (own_p0 p5) (own_t0 tb) rb (own_p0 qb)) (own_eq4 (own_t1 p2 p4) (own_r1 p3 p4) (own_p1 p5) (own_t1 tb db) (own_r1 rb db) (own_p1 qb))))), .val (.int (own_bi (decide (ka = kb) && own_all (fun i => (own_eq4 ((own_e (own_t0 p2) (own_t1 p2 p4)) i) ((own_e p3 (own_r1 p3 p4)) i) ((own_e (own_p0 p5) (own_p1 p5)) i) ((own_e (own_t0 tb) (own_t1 tb db)) i) ((own_e rb (own_r1 rb db)) i) ((own_e (own_p0 qb) (own_p1 qb)) i))) ka 0))), .val (.int (own_bi (decide (kb = ka) && own_all (fun i => (own_eq4 ((own_e (own_t0 tb) (own_t1 tb db)) i) ((own_e rb (own_r1 rb db)) i) ((own_e (own_p0 qb) (own_p1 qb)) i) ((own_e (own_t0 p2) (own_t1 p2 p4)) i) ((own_e p3 (own_r1 p3 p4)) i) ((own_e (own_p0 p5) (own_p1 p5)) i))) kb 0)))] [])) _
    refine XS.iload X14.here hx rfl (hb hby at_245) rfl ?_
    show Steps p.tables e below (T14.setTop (mkF m 247 #[.val (.int p1), .val (.int p2), .val (.int p3), .val (.int p4), .val (.int p5), .val (.int p6), .val (.int na), .val (.int nb), .val (.int tb), .val (.int rb), .val (.int db), .val (.int qb), .val (.ref A1), .val (.ref A2), .val (.int (own_bi (own_eq4 (own_t0 p2) p3 (own_p0 p5) (own_t0 tb) rb (own_p0 qb)))), .val (.int (own_bi (own_eq4 (own_t1 p2 p4) (own_r1 p3 p4) (own_p1 p5) (own_t1 tb db) (own_r1 rb db) (own_p1 qb)))), .val (.int (own_bi (own_exp na nb (own_eq4 (own_t0 p2) p3 (own_p0 p5) (own_t0 tb) rb (own_p0 qb)) (own_eq4 (own_t1 p2 p4) (own_r1 p3 p4) (own_p1 p5) (own_t1 tb db) (own_r1 rb db) (own_p1 qb))))), .val (.int (own_bi (decide (ka = kb) && own_all (fun i => (own_eq4 ((own_e (own_t0 p2) (own_t1 p2 p4)) i) ((own_e p3 (own_r1 p3 p4)) i) ((own_e (own_p0 p5) (own_p1 p5)) i) ((own_e (own_t0 tb) (own_t1 tb db)) i) ((own_e rb (own_r1 rb db)) i) ((own_e (own_p0 qb) (own_p1 qb)) i))) ka 0))), .val (.int (own_bi (decide (kb = ka) && own_all (fun i => (own_eq4 ((own_e (own_t0 tb) (own_t1 tb db)) i) ((own_e rb (own_r1 rb db)) i) ((own_e (own_p0 qb) (own_p1 qb)) i) ((own_e (own_t0 p2) (own_t1 p2 p4)) i) ((own_e p3 (own_r1 p3 p4)) i) ((own_e (own_p0 p5) (own_p1 p5)) i))) kb 0)))] [(.int (own_bi (decide (kb = ka) && own_all (fun i => (own_eq4 ((own_e (own_t0 tb) (own_t1 tb db)) i) ((own_e rb (own_r1 rb db)) i) ((own_e (own_p0 qb) (own_p1 qb)) i) ((own_e (own_t0 p2) (own_t1 p2 p4)) i) ((own_e p3 (own_r1 p3 p4)) i) ((own_e (own_p0 p5) (own_p1 p5)) i))) kb 0)))])) _
    refine XS.iload X14.here hx rfl (hb hby at_247) rfl ?_
    show Steps p.tables e below (T14.setTop (mkF m 249 #[.val (.int p1), .val (.int p2), .val (.int p3), .val (.int p4), .val (.int p5), .val (.int p6), .val (.int na), .val (.int nb), .val (.int tb), .val (.int rb), .val (.int db), .val (.int qb), .val (.ref A1), .val (.ref A2), .val (.int (own_bi (own_eq4 (own_t0 p2) p3 (own_p0 p5) (own_t0 tb) rb (own_p0 qb)))), .val (.int (own_bi (own_eq4 (own_t1 p2 p4) (own_r1 p3 p4) (own_p1 p5) (own_t1 tb db) (own_r1 rb db) (own_p1 qb)))), .val (.int (own_bi (own_exp na nb (own_eq4 (own_t0 p2) p3 (own_p0 p5) (own_t0 tb) rb (own_p0 qb)) (own_eq4 (own_t1 p2 p4) (own_r1 p3 p4) (own_p1 p5) (own_t1 tb db) (own_r1 rb db) (own_p1 qb))))), .val (.int (own_bi (decide (ka = kb) && own_all (fun i => (own_eq4 ((own_e (own_t0 p2) (own_t1 p2 p4)) i) ((own_e p3 (own_r1 p3 p4)) i) ((own_e (own_p0 p5) (own_p1 p5)) i) ((own_e (own_t0 tb) (own_t1 tb db)) i) ((own_e rb (own_r1 rb db)) i) ((own_e (own_p0 qb) (own_p1 qb)) i))) ka 0))), .val (.int (own_bi (decide (kb = ka) && own_all (fun i => (own_eq4 ((own_e (own_t0 tb) (own_t1 tb db)) i) ((own_e rb (own_r1 rb db)) i) ((own_e (own_p0 qb) (own_p1 qb)) i) ((own_e (own_t0 p2) (own_t1 p2 p4)) i) ((own_e p3 (own_r1 p3 p4)) i) ((own_e (own_p0 p5) (own_p1 p5)) i))) kb 0)))] [(.int (own_bi (own_exp na nb (own_eq4 (own_t0 p2) p3 (own_p0 p5) (own_t0 tb) rb (own_p0 qb)) (own_eq4 (own_t1 p2 p4) (own_r1 p3 p4) (own_p1 p5) (own_t1 tb db) (own_r1 rb db) (own_p1 qb))))), (.int (own_bi (decide (kb = ka) && own_all (fun i => (own_eq4 ((own_e (own_t0 tb) (own_t1 tb db)) i) ((own_e rb (own_r1 rb db)) i) ((own_e (own_p0 qb) (own_p1 qb)) i) ((own_e (own_t0 p2) (own_t1 p2 p4)) i) ((own_e p3 (own_r1 p3 p4)) i) ((own_e (own_p0 p5) (own_p1 p5)) i))) kb 0)))])) _
    refine XS.icmpNo X14.here hx rfl (hb hby at_249) rfl (teq hc21).2 ?_
    show Steps p.tables e below (T14.setTop (mkF m 252 #[.val (.int p1), .val (.int p2), .val (.int p3), .val (.int p4), .val (.int p5), .val (.int p6), .val (.int na), .val (.int nb), .val (.int tb), .val (.int rb), .val (.int db), .val (.int qb), .val (.ref A1), .val (.ref A2), .val (.int (own_bi (own_eq4 (own_t0 p2) p3 (own_p0 p5) (own_t0 tb) rb (own_p0 qb)))), .val (.int (own_bi (own_eq4 (own_t1 p2 p4) (own_r1 p3 p4) (own_p1 p5) (own_t1 tb db) (own_r1 rb db) (own_p1 qb)))), .val (.int (own_bi (own_exp na nb (own_eq4 (own_t0 p2) p3 (own_p0 p5) (own_t0 tb) rb (own_p0 qb)) (own_eq4 (own_t1 p2 p4) (own_r1 p3 p4) (own_p1 p5) (own_t1 tb db) (own_r1 rb db) (own_p1 qb))))), .val (.int (own_bi (decide (ka = kb) && own_all (fun i => (own_eq4 ((own_e (own_t0 p2) (own_t1 p2 p4)) i) ((own_e p3 (own_r1 p3 p4)) i) ((own_e (own_p0 p5) (own_p1 p5)) i) ((own_e (own_t0 tb) (own_t1 tb db)) i) ((own_e rb (own_r1 rb db)) i) ((own_e (own_p0 qb) (own_p1 qb)) i))) ka 0))), .val (.int (own_bi (decide (kb = ka) && own_all (fun i => (own_eq4 ((own_e (own_t0 tb) (own_t1 tb db)) i) ((own_e rb (own_r1 rb db)) i) ((own_e (own_p0 qb) (own_p1 qb)) i) ((own_e (own_t0 p2) (own_t1 p2 p4)) i) ((own_e p3 (own_r1 p3 p4)) i) ((own_e (own_p0 p5) (own_p1 p5)) i))) kb 0)))] [])) _
    refine XS.iconst X14.here hx rfl (hb hby at_252) ?_
    show Steps p.tables e below (T14.setTop (mkF m 253 #[.val (.int p1), .val (.int p2), .val (.int p3), .val (.int p4), .val (.int p5), .val (.int p6), .val (.int na), .val (.int nb), .val (.int tb), .val (.int rb), .val (.int db), .val (.int qb), .val (.ref A1), .val (.ref A2), .val (.int (own_bi (own_eq4 (own_t0 p2) p3 (own_p0 p5) (own_t0 tb) rb (own_p0 qb)))), .val (.int (own_bi (own_eq4 (own_t1 p2 p4) (own_r1 p3 p4) (own_p1 p5) (own_t1 tb db) (own_r1 rb db) (own_p1 qb)))), .val (.int (own_bi (own_exp na nb (own_eq4 (own_t0 p2) p3 (own_p0 p5) (own_t0 tb) rb (own_p0 qb)) (own_eq4 (own_t1 p2 p4) (own_r1 p3 p4) (own_p1 p5) (own_t1 tb db) (own_r1 rb db) (own_p1 qb))))), .val (.int (own_bi (decide (ka = kb) && own_all (fun i => (own_eq4 ((own_e (own_t0 p2) (own_t1 p2 p4)) i) ((own_e p3 (own_r1 p3 p4)) i) ((own_e (own_p0 p5) (own_p1 p5)) i) ((own_e (own_t0 tb) (own_t1 tb db)) i) ((own_e rb (own_r1 rb db)) i) ((own_e (own_p0 qb) (own_p1 qb)) i))) ka 0))), .val (.int (own_bi (decide (kb = ka) && own_all (fun i => (own_eq4 ((own_e (own_t0 tb) (own_t1 tb db)) i) ((own_e rb (own_r1 rb db)) i) ((own_e (own_p0 qb) (own_p1 qb)) i) ((own_e (own_t0 p2) (own_t1 p2 p4)) i) ((own_e p3 (own_r1 p3 p4)) i) ((own_e (own_p0 p5) (own_p1 p5)) i))) kb 0)))] [(.int (1 : Int32))])) _
    refine XS.goto X14.here hx rfl (pc0 := 253) (pc' := 257) rfl (hb hby at_253) (by decide) (by decide) ?_
    show Steps p.tables e below (T14.setTop (mkF m 257 #[.val (.int p1), .val (.int p2), .val (.int p3), .val (.int p4), .val (.int p5), .val (.int p6), .val (.int na), .val (.int nb), .val (.int tb), .val (.int rb), .val (.int db), .val (.int qb), .val (.ref A1), .val (.ref A2), .val (.int (own_bi (own_eq4 (own_t0 p2) p3 (own_p0 p5) (own_t0 tb) rb (own_p0 qb)))), .val (.int (own_bi (own_eq4 (own_t1 p2 p4) (own_r1 p3 p4) (own_p1 p5) (own_t1 tb db) (own_r1 rb db) (own_p1 qb)))), .val (.int (own_bi (own_exp na nb (own_eq4 (own_t0 p2) p3 (own_p0 p5) (own_t0 tb) rb (own_p0 qb)) (own_eq4 (own_t1 p2 p4) (own_r1 p3 p4) (own_p1 p5) (own_t1 tb db) (own_r1 rb db) (own_p1 qb))))), .val (.int (own_bi (decide (ka = kb) && own_all (fun i => (own_eq4 ((own_e (own_t0 p2) (own_t1 p2 p4)) i) ((own_e p3 (own_r1 p3 p4)) i) ((own_e (own_p0 p5) (own_p1 p5)) i) ((own_e (own_t0 tb) (own_t1 tb db)) i) ((own_e rb (own_r1 rb db)) i) ((own_e (own_p0 qb) (own_p1 qb)) i))) ka 0))), .val (.int (own_bi (decide (kb = ka) && own_all (fun i => (own_eq4 ((own_e (own_t0 tb) (own_t1 tb db)) i) ((own_e rb (own_r1 rb db)) i) ((own_e (own_p0 qb) (own_p1 qb)) i) ((own_e (own_t0 p2) (own_t1 p2 p4)) i) ((own_e p3 (own_r1 p3 p4)) i) ((own_e (own_p0 p5) (own_p1 p5)) i))) kb 0)))] [(.int (1 : Int32))])) _
    exact retN X14 hx (t := .boolean) Bd.returns (by simp) (hb hby at_257) hr
  · show Q0 Z p1 p2 p3 p4 p5 p6 h0 n0 _ T14.heap _
    rw [e14]
    exact ⟨rfl, N8⟩
set_option maxRecDepth 65536 in
set_option maxHeartbeats 40000000 in
theorem comes_1 {Post : Tables → Env → Array Value → State → Outcome → State → Prop} (hpost : ∀ tb e args s v u, (limb_1_1.after args s (.returned v) u = true ∧ limb_1_2.after args s (.returned v) u = true ∧ True) → FrameEnd s (.returned v) u (Jvm.fieldLocs frame_1_writes args s ++ Jvm.arrayLocs frame_1_arrays args s ++ Jvm.staticLocs frame_1_statics s) 40 192 → Post tb e args s (.returned v) u) :
    ArmFor flags0 classFile x code maxLocals ret World_1 tables_1 room_1 Calls_1 rest_1 Pre_1 Post := by
  intro l hfl _ _ p e ha hc hk s m args below hf hA hF happ hP
  obtain ⟨hcalls, hrest, hpre⟩ := hP
  obtain ⟨-, -, -, hnamed, -, -, -, hat⟩ := (Spec.applies_iff hf).mp happ
  obtain ⟨hg, hn⟩ := and_e (Cond.before_iff.mp (show (Jvm.Cond.and given_1 narrow_1).before args s = true from hpre))
  obtain ⟨g15, g16⟩ := and_e hg
  obtain ⟨g17, g18⟩ := and_e g16
  obtain ⟨g19, g20⟩ := and_e g18
  obtain ⟨g21, g22⟩ := and_e g20
  obtain ⟨g23, g24⟩ := and_e g22
  obtain ⟨g25, g26⟩ := and_e g24
  obtain ⟨w0, w1, w2, w3, w4, w5, rfl⟩ : ∃ w0 w1 w2 w3 w4 w5 : Value, args = #[w0, w1, w2, w3, w4, w5] := by
    have hs : args.size = 6 := by simpa [Cond.value, given_1] using g15
    obtain ⟨L⟩ := args
    match L, hs with
    | [w0, w1, w2, w3, w4, w5], _ => exact ⟨w0, w1, w2, w3, w4, w5, rfl⟩
  have hw := fun d (hd : d ∈ tables_1) => atoms_spec (ws := Jvm.Cond.code x code maxLocals ret :: tables_1) hat d (List.mem_cons_of_mem _ hd)
  have hfit : Fit s := fun {y c} hc i hi => by
    obtain ⟨ha, rfl⟩ := Array.getElem?_eq_some_iff.mp hc
    have q := List.all_eq_true.mp ((Array.all_eq_true_iff_forall_mem.mp hF) _ (Array.getElem_mem ha)) i (List.mem_range.mpr hi)
    simpa [Array.getElem?_eq_getElem hi] using q
  obtain ⟨i0, ei0⟩ := is_v g17
  obtain rfl : w0 = (.int i0) := Option.some.inj ei0
  obtain ⟨i1, ei1⟩ := is_v g19
  obtain rfl : w1 = (.int i1) := Option.some.inj ei1
  obtain ⟨i2, ei2⟩ := is_v g21
  obtain rfl : w2 = (.int i2) := Option.some.inj ei2
  obtain ⟨i3, ei3⟩ := is_v g23
  obtain rfl : w3 = (.int i3) := Option.some.inj ei3
  obtain ⟨i4, ei4⟩ := is_v g25
  obtain rfl : w4 = (.int i4) := Option.some.inj ei4
  obtain ⟨i5, ei5⟩ := is_v g26
  obtain rfl : w5 = (.int i5) := Option.some.inj ei5
  obtain ⟨ka, ka3, hka⟩ := own_mod3 (i0 &&& (3 : Int32)) (c_and i0 3 (by decide)).1
  obtain ⟨kb, kb3, hkb⟩ := own_mod3 (((i0.toUInt32 >>> ((2 : Int32) &&& 31).toUInt32).toInt32) &&& (3 : Int32)) (c_and _ 3 (by decide)).1
  obtain ⟨n, o, h1, h2, h3, _, L, rfl, ⟨rfl, N⟩, hq⟩ := rm0 l s _ hw tables_1 i0 i1 i2 i3 i4 i5 _ _ _ _ _ _ ka kb s.heap s.heap.size (Nat.le_refl _) rfl rfl rfl rfl rfl rfl hka hkb ka3 kb3 p e ha hc hk s m _ below hf ((Spec.applies_iff_loose hf).mp happ).1 ⟨rfl, State.Warmed39.refl s, rfl⟩ trivial
  refine ⟨n, _, h1, h2, h3, hpost _ _ _ _ _ _ ⟨Cond.after_iff.mpr rfl, Cond.after_iff.mpr (eq_i res_at (Term.int_eval (1)) rfl), trivial⟩ ⟨hq.1, hq.2.1, (hq.2.2.sift fun y hy => Or.inr (N y hy)).mono (by decide) (by decide)⟩⟩
theorem main_1_1 : Claimed_1_1 := comes_1 fun _ _ _ _ _ _ h hF => ⟨h.1, hF⟩
theorem main_1_2 : Claimed_1_2 := comes_1 fun _ _ _ _ _ _ h hF => ⟨h.2.1, hF⟩

end Jvm.Pilot.@@N@@
namespace Jvm.Pilot.@@N@@
open Jvm Jvm.ClassFile Sem Op Lib Jvm.Free Jvm.Stand Jvm.Pilot.@@N@@.Jvm.D
/-! MADE BY PROGRAM (witnessworld.py) out of the Statement's table words and the real class files: 13 classes; the members and pool entries that the words name. The judged class is class 1, her method 1. -/
namespace start1
open Jvm.ClassFile
def u (s : String) : CpInfo := .utf8 (stringToUtf16 s)
/-- a pool by its gaps: so many unusable entries, then the entry; so many at the end -/
def gap : Nat → List CpInfo → List CpInfo
  | 0, r => r
  | n + 1, r => .unusable :: gap n r
def poolList (es : List (Nat × CpInfo)) (last : Nat) : List CpInfo := es.foldr (fun e r => gap e.1 (e.2 :: r)) (gap last [])
def pool (es : List (Nat × CpInfo)) (last : Nat) : Array CpInfo := ⟨poolList es last⟩
def fileOf (pool : Array CpInfo) (this : Nat) (attrs : Array Attribute := #[]) (ms : Array MethodInfo := #[]) (fl : Nat := 33) (sup : Nat := 0) (ifs : Array Nat := #[]) (fds : Array FieldInfo := #[]) : ClassFile where
  minorVersion := 0
  majorVersion := 65
  constantPool := pool
  accessFlags := fl
  thisClass := this
  superClass := sup
  interfaces := ifs
  fields := fds
  methods := ms
  attributes := attrs
def plain (name : String) (sup : Option ClassId) : Class where
  name := name
  kind := .ordinary
  loader := none
  accessFlags := 33
  super := sup
  interfaces := #[]
  cf := none
  fields := #[]
  methods := #[]
  instanceTypes := #[]
  staticTypes := #[]
  resolved := #[]
  callSites := []
  init := .initialized
  statics := none
  mirror := none

def pool0 : Array CpInfo := pool [(5, u "<init>"), (0, u "()V"), (1, .class_ 10), (1, u "java/lang/Object")] 113

def k0c0 : Code := { maxStack := 0, maxLocals := 1, code := object_method_1_code, exceptionTable := #[], attributes := #[] }
def k0m0 : Method := { name := "<init>", desc := "()V", sig := { parameters := [], returnType := none }, accessFlags := 1, code := some k0c0 }
/-- java/lang/Object -/
def k0 : Class := { plain "java/lang/Object" none with
  accessFlags := 33
  interfaces := #[]
  cf := some (fileOf pool0 8 #[] #[{ accessFlags := 1, nameIndex := 5, descriptorIndex := 6, attributes := #[] }] 33 0 #[] #[])
  fields := #[]
  methods := #[k0m0]
  instanceTypes := #[]
  staticTypes := #[]
  resolved := Array.replicate 124 none
  statics := none }

def pool1 : Array CpInfo := pool [(2, .class_ 4), (0, .nameAndType 5 6), (0, u "java/lang/Object"), (0, u "<init>"), (0, u "()V"), (0, .methodref 8 9), (0, .class_ 10), (0, .nameAndType 11 12), (0, u "com/example/chance_checker/chancechecker/construction/DistributionSameAsPinLaw"), (0, u "make"), (0, u "(IIIII)Lcom/example/chance_checker/chancechecker/construction/Distribution;"), (0, .methodref 8 14), (0, .nameAndType 15 16), (0, u "target0"), (0, u "(I)I"), (0, .methodref 8 18), (0, .nameAndType 19 20), (0, u "prob0"), (0, u "(I)D"), (0, .methodref 8 22), (0, .nameAndType 23 24), (0, u "target1"), (0, u "(II)I"), (0, .methodref 8 26), (0, .nameAndType 27 24), (0, u "reset1"), (0, .methodref 8 29), (0, .nameAndType 30 20), (0, u "prob1"), (0, .methodref 32 33), (0, .class_ 34), (0, .nameAndType 35 36), (0, u "com/example/chance_checker/chancechecker/construction/Distribution"), (0, u "sameAs"), (0, u "(Lcom/example/chance_checker/chancechecker/construction/Distribution;)Z"), (0, .methodref 32 3), (0, .methodref 32 39), (0, .nameAndType 40 41), (0, u "add"), (0, u "(IID)V"), (0, .integer 1073741823), (0, .double 4625196817309499392), (3, u "law"), (0, u "(IIIIII)Z")] 3

def k1m0 : Method := { name := "<init>", desc := "()V", sig := { parameters := [], returnType := none }, accessFlags := 1, code := none }
def k1c1 : Code := { maxStack := 5, maxLocals := 19, code := code, exceptionTable := #[], attributes := #[] }
def k1m1 : Method := { name := "law", desc := "(IIIIII)Z", sig := { parameters := [.int, .int, .int, .int, .int, .int], returnType := some .boolean }, accessFlags := 9, code := some k1c1 }
def k1c2 : Code := { maxStack := 5, maxLocals := 6, code := method_3_code, exceptionTable := #[], attributes := #[] }
def k1m2 : Method := { name := "make", desc := "(IIIII)Lcom/example/chance_checker/chancechecker/construction/Distribution;", sig := { parameters := [.int, .int, .int, .int, .int], returnType := some (.object "com/example/chance_checker/chancechecker/construction/Distribution") }, accessFlags := 10, code := some k1c2 }
def k1c3 : Code := { maxStack := 2, maxLocals := 1, code := method_4_code, exceptionTable := #[], attributes := #[] }
def k1m3 : Method := { name := "target0", desc := "(I)I", sig := { parameters := [.int], returnType := some .int }, accessFlags := 10, code := some k1c3 }
def k1c4 : Code := { maxStack := 3, maxLocals := 2, code := method_5_code, exceptionTable := #[], attributes := #[] }
def k1m4 : Method := { name := "target1", desc := "(II)I", sig := { parameters := [.int, .int], returnType := some .int }, accessFlags := 10, code := some k1c4 }
def k1c5 : Code := { maxStack := 3, maxLocals := 2, code := method_6_code, exceptionTable := #[], attributes := #[] }
def k1m5 : Method := { name := "reset1", desc := "(II)I", sig := { parameters := [.int, .int], returnType := some .int }, accessFlags := 10, code := some k1c5 }
def k1c6 : Code := { maxStack := 4, maxLocals := 1, code := method_7_code, exceptionTable := #[], attributes := #[] }
def k1m6 : Method := { name := "prob0", desc := "(I)D", sig := { parameters := [.int], returnType := some .double }, accessFlags := 10, code := some k1c6 }
def k1c7 : Code := { maxStack := 4, maxLocals := 1, code := method_8_code, exceptionTable := #[], attributes := #[] }
def k1m7 : Method := { name := "prob1", desc := "(I)D", sig := { parameters := [.int], returnType := some .double }, accessFlags := 10, code := some k1c7 }
/-- com/example/chance_checker/chancechecker/construction/DistributionSameAsPinLaw -/
def k1 : Class := { plain "com/example/chance_checker/chancechecker/construction/DistributionSameAsPinLaw" (some 0) with
  accessFlags := 49
  interfaces := #[]
  cf := some (fileOf pool1 8 #[] #[{ accessFlags := 1, nameIndex := 5, descriptorIndex := 6, attributes := #[] }, { accessFlags := 9, nameIndex := 47, descriptorIndex := 48, attributes := #[] }, { accessFlags := 10, nameIndex := 11, descriptorIndex := 12, attributes := #[] }, { accessFlags := 10, nameIndex := 15, descriptorIndex := 16, attributes := #[] }, { accessFlags := 10, nameIndex := 23, descriptorIndex := 24, attributes := #[] }, { accessFlags := 10, nameIndex := 27, descriptorIndex := 24, attributes := #[] }, { accessFlags := 10, nameIndex := 19, descriptorIndex := 20, attributes := #[] }, { accessFlags := 10, nameIndex := 30, descriptorIndex := 20, attributes := #[] }] 49 2 #[] #[])
  fields := #[]
  methods := #[k1m0, k1m1, k1m2, k1m3, k1m4, k1m5, k1m6, k1m7]
  instanceTypes := #[]
  staticTypes := #[]
  resolved := Array.replicate 52 none
  statics := none }

def pool2 : Array CpInfo := pool [(1, .methodref 2 3), (0, .class_ 4), (0, .nameAndType 5 6), (0, u "java/lang/Object"), (0, u "<init>"), (0, u "()V"), (0, .fieldref 8 9), (0, .class_ 10), (0, .nameAndType 11 12), (0, u "com/example/chance_checker/chancechecker/construction/Distribution"), (0, u "targets"), (0, u "[I"), (0, .fieldref 8 14), (0, .nameAndType 15 12), (0, u "resets"), (0, .fieldref 8 17), (0, .nameAndType 18 19), (0, u "probabilities"), (0, u "[D"), (0, .fieldref 8 21), (0, .nameAndType 22 23), (0, u "keys"), (0, u "[J"), (0, .fieldref 8 25), (0, .nameAndType 26 12), (0, u "spareTargets"), (0, .fieldref 8 28), (0, .nameAndType 29 12), (0, u "spareResets"), (0, .fieldref 8 31), (0, .nameAndType 32 19), (0, u "spareProbabilities"), (0, .fieldref 8 34), (0, .nameAndType 35 36), (0, u "size"), (0, u "I"), (2, u "add"), (0, u "(IID)V"), (35, u "sameAs"), (0, u "(Lcom/example/chance_checker/chancechecker/construction/Distribution;)Z")] 4

def k2c0 : Code := { maxStack := 2, maxLocals := 1, code := prog_7_method_1_code, exceptionTable := #[], attributes := #[] }
def k2m0 : Method := { name := "<init>", desc := "()V", sig := { parameters := [], returnType := none }, accessFlags := 0, code := some k2c0 }
def k2c1 : Code := { maxStack := 4, maxLocals := 5, code := prog_7_method_8_code, exceptionTable := #[], attributes := #[] }
def k2m1 : Method := { name := "add", desc := "(IID)V", sig := { parameters := [.int, .int, .double], returnType := none }, accessFlags := 0, code := some k2c1 }
def k2c2 : Code := { maxStack := 4, maxLocals := 4, code := prog_7_method_11_code, exceptionTable := #[], attributes := #[] }
def k2m2 : Method := { name := "sameAs", desc := "(Lcom/example/chance_checker/chancechecker/construction/Distribution;)Z", sig := { parameters := [(.object "com/example/chance_checker/chancechecker/construction/Distribution")], returnType := some .boolean }, accessFlags := 0, code := some k2c2 }
/-- com/example/chance_checker/chancechecker/construction/Distribution -/
def k2 : Class := { plain "com/example/chance_checker/chancechecker/construction/Distribution" (some 0) with
  accessFlags := 32
  interfaces := #[]
  cf := some (fileOf pool2 8 #[] #[{ accessFlags := 0, nameIndex := 5, descriptorIndex := 6, attributes := #[] }, { accessFlags := 0, nameIndex := 39, descriptorIndex := 40, attributes := #[] }, { accessFlags := 0, nameIndex := 76, descriptorIndex := 77, attributes := #[] }] 32 2 #[] #[{ accessFlags := 2, nameIndex := 11, descriptorIndex := 12, attributes := #[] }, { accessFlags := 2, nameIndex := 15, descriptorIndex := 12, attributes := #[] }, { accessFlags := 2, nameIndex := 18, descriptorIndex := 19, attributes := #[] }, { accessFlags := 2, nameIndex := 35, descriptorIndex := 36, attributes := #[] }, { accessFlags := 2, nameIndex := 22, descriptorIndex := 23, attributes := #[] }, { accessFlags := 2, nameIndex := 26, descriptorIndex := 12, attributes := #[] }, { accessFlags := 2, nameIndex := 29, descriptorIndex := 12, attributes := #[] }, { accessFlags := 2, nameIndex := 32, descriptorIndex := 19, attributes := #[] }])
  fields := #[{ name := "targets", type := (.array .int), accessFlags := 2, slot := 0, constantValue := 0 }, { name := "resets", type := (.array .int), accessFlags := 2, slot := 1, constantValue := 0 }, { name := "probabilities", type := (.array .double), accessFlags := 2, slot := 2, constantValue := 0 }, { name := "size", type := .int, accessFlags := 2, slot := 3, constantValue := 0 }, { name := "keys", type := (.array .long), accessFlags := 2, slot := 4, constantValue := 0 }, { name := "spareTargets", type := (.array .int), accessFlags := 2, slot := 5, constantValue := 0 }, { name := "spareResets", type := (.array .int), accessFlags := 2, slot := 6, constantValue := 0 }, { name := "spareProbabilities", type := (.array .double), accessFlags := 2, slot := 7, constantValue := 0 }]
  methods := #[k2m0, k2m1, k2m2]
  instanceTypes := #[(.array .int), (.array .int), (.array .double), .int, (.array .long), (.array .int), (.array .int), (.array .double)]
  staticTypes := #[]
  resolved := Array.replicate 82 none
  statics := none }

def pool3 : Array CpInfo := pool [(1, u "java/lang/Cloneable"), (0, .class_ 1), (0, u "java/lang/Object"), (0, .class_ 3)] 3

/-- java/lang/Cloneable -/
def k3 : Class := { plain "java/lang/Cloneable" (some 0) with
  accessFlags := 1537
  interfaces := #[]
  cf := some (fileOf pool3 2 #[] #[] 1537 4 #[] #[])
  fields := #[]
  methods := #[]
  instanceTypes := #[]
  staticTypes := #[]
  resolved := Array.replicate 8 none
  statics := none }

def pool4 : Array CpInfo := pool [(1, u "java/io/Serializable"), (0, .class_ 1), (0, u "java/lang/Object"), (0, .class_ 3)] 3

/-- java/io/Serializable -/
def k4 : Class := { plain "java/io/Serializable" (some 0) with
  accessFlags := 1537
  interfaces := #[]
  cf := some (fileOf pool4 2 #[] #[] 1537 4 #[] #[])
  fields := #[]
  methods := #[]
  instanceTypes := #[]
  staticTypes := #[]
  resolved := Array.replicate 8 none
  statics := none }

/-- the primitive byte -/
def k5 : Class := { plain "byte" none with kind := .primitive 'B', accessFlags := 0x411 }
/-- [B -/
def k6 : Class := { plain "[B" (some 0) with kind := .array 5 .byte, interfaces := #[3, 4], accessFlags := 1041 }

/-- the primitive double -/
def k7 : Class := { plain "double" none with kind := .primitive 'D', accessFlags := 0x411 }
/-- [D -/
def k8 : Class := { plain "[D" (some 0) with kind := .array 7 .double, interfaces := #[3, 4], accessFlags := 1041 }

/-- the primitive int -/
def k9 : Class := { plain "int" none with kind := .primitive 'I', accessFlags := 0x411 }
/-- [I -/
def k10 : Class := { plain "[I" (some 0) with kind := .array 9 .int, interfaces := #[3, 4], accessFlags := 1041 }

/-- the primitive long -/
def k11 : Class := { plain "long" none with kind := .primitive 'J', accessFlags := 0x411 }
/-- [J -/
def k12 : Class := { plain "[J" (some 0) with kind := .array 11 .long, interfaces := #[3, 4], accessFlags := 1041 }

def heap : Heap := #[]
def classes : Array Class := #[k0, k1, k2, k3, k4, k5, k6, k7, k8, k9, k10, k11, k12]
def interned : List (Array UInt16 × Addr) := []
def slotsUsed : Nat := 0
def theMethod : MethodId := ⟨1, 1⟩
def args0 : Array Value := #[.int 3, .int 10, .int 4, .int 5, .int 6, .int 7]
def aboutOver (below : List Frame) : State where
  vm := { classes := classes, interned := interned.toArray }
  heap := heap
  slotsUsed := slotsUsed
  threads := #[{ frames := .invoking theMethod args0 :: below }]
def below0 : List Frame := [.native { method := ⟨0, 0⟩, args := #[] }]
def about1 : State := aboutOver below0
def p0 : Program := .bare "" "" ""
def e0 : Env := launch0.env 0 0 0
theorem w_frames : about1.frames = Frame.invoking theMethod args0 :: below0 := rfl
set_option maxRecDepth 65536 in
theorem w_args : argsFit about1.vm theMethod args0 = true := by decide +kernel
set_option maxRecDepth 65536 in
theorem w_heap : heapFits about1 = true := by decide +kernel
set_option maxRecDepth 65536 in
theorem w_runnable : about1.curStatus? = some .runnable := by decide +kernel
set_option maxRecDepth 65536 in
theorem w_alone : about1.alone = true := by decide +kernel
set_option maxRecDepth 65536 in
theorem w_named : about1.methodNamed? x = some theMethod := by decide +kernel
set_option maxRecDepth 65536 in
theorem w_hears : about1.hears theMethod below0 = true := by decide +kernel
set_option maxRecDepth 65536 in
theorem w_ripe : about1.ripe theMethod args0 below0 = true := by decide +kernel
theorem w_running : about1.status = .running := rfl
set_option maxRecDepth 65536 in
theorem w_room : about1.hasRoom e0.platform room_1 = true :=
  launch0.hasRoom_least _ room_1 (by decide +kernel) (by decide +kernel) (by decide +kernel) (by decide +kernel) (by decide +kernel) (by decide +kernel)
theorem allAtoms_all (ts : List Jvm.Cond) (a : Array Jvm.Value) (st : Jvm.State) : (allAtoms ts).before a st = ts.all (fun c => c.before a st) := by
  induction ts with
  | nil => rfl
  | cons c t ih =>
    show (Jvm.Cond.and c (allAtoms t)).before a st = _
    rw [Jvm.Cond.before_and, ih, List.all_cons]
def words1 : List Jvm.Cond := Jvm.Cond.code x code maxLocals ret :: tables_1
/-- a 'code' word, met by the world's own term for the bytes: nothing is compared byte by byte -/
theorem code_word {y : MethodName} {bytes : ByteArray} {mx : Nat} {rt : Option FieldType} {a : Array Value} {s : State} {m : MethodId} {meth : Method} {c : Code} (h1 : s.methodNamed? y = some m) (h2 : s.vm.method? m = some meth) (h3 : meth.code = some c) (h4 : c.code = bytes)
    (h5 : (c.maxLocals == mx && c.exceptionTable.isEmpty && decide (c.maxStack ≤ mostOperands) && decide (meth.sig.returnType = rt) && !meth.locks && decide (parseMethodDescriptor y.desc = some meth.sig)) = true) : (Jvm.Cond.code y bytes mx rt).before a s = true := by
  simp only [Bool.and_eq_true, beq_iff_eq, Bool.not_eq_true', decide_eq_true_eq] at h5
  obtain ⟨⟨⟨⟨⟨g1, g2⟩, g3⟩, g4⟩, g5⟩, g6⟩ := h5
  simp [Cond.before, Cond.holds, Cond.value, h1, h2, h3, h4, g1, g2, g3, g4, g5, g6]
def isCode : Jvm.Cond → Bool
  | .code _ _ _ _ => true
  | _ => false
theorem all_split {L : List Jvm.Cond} {P : Jvm.Cond → Bool} (h1 : L.all (fun c => isCode c || P c) = true) (h2 : ∀ c ∈ L.filter isCode, P c = true) : L.all P = true := by
  refine List.all_eq_true.mpr fun c hc => ?_
  have h := List.all_eq_true.mp h1 c hc
  rcases Bool.eq_false_or_eq_true (isCode c) with hi | hi
  · exact h2 c (List.mem_filter.mpr ⟨hc, hi⟩)
  · simpa [hi] using h
set_option maxRecDepth 65536 in
theorem w_c0 : (Jvm.Cond.code x code maxLocals ret).before args0 about1 = true := code_word (m := ⟨1, 1⟩) (meth := k1m1) (c := k1c1) (by decide +kernel) rfl rfl rfl (by decide +kernel)
set_option maxRecDepth 65536 in
theorem w_c1 : (Jvm.Cond.code ({ cls := "com/example/chance_checker/chancechecker/construction/DistributionSameAsPinLaw", name := "make", desc := "(IIIII)Lcom/example/chance_checker/chancechecker/construction/Distribution;" } : Jvm.MethodName) method_3_code (6 : Nat) (Option.some (Jvm.ClassFile.FieldType.object "com/example/chance_checker/chancechecker/construction/Distribution"))).before args0 about1 = true := code_word (m := ⟨1, 2⟩) (meth := k1m2) (c := k1c2) (by decide +kernel) rfl rfl rfl (by decide +kernel)
set_option maxRecDepth 65536 in
theorem w_c2 : (Jvm.Cond.code ({ cls := "com/example/chance_checker/chancechecker/construction/Distribution", name := "<init>", desc := "()V" } : Jvm.MethodName) prog_7_method_1_code (1 : Nat) (Option.none : Option Jvm.ClassFile.FieldType)).before args0 about1 = true := code_word (m := ⟨2, 0⟩) (meth := k2m0) (c := k2c0) (by decide +kernel) rfl rfl rfl (by decide +kernel)
set_option maxRecDepth 65536 in
theorem w_c3 : (Jvm.Cond.code ({ cls := "java/lang/Object", name := "<init>", desc := "()V" } : Jvm.MethodName) object_method_1_code (1 : Nat) (Option.none : Option Jvm.ClassFile.FieldType)).before args0 about1 = true := code_word (m := ⟨0, 0⟩) (meth := k0m0) (c := k0c0) (by decide +kernel) rfl rfl rfl (by decide +kernel)
set_option maxRecDepth 65536 in
theorem w_c4 : (Jvm.Cond.code ({ cls := "com/example/chance_checker/chancechecker/construction/DistributionSameAsPinLaw", name := "target0", desc := "(I)I" } : Jvm.MethodName) method_4_code (1 : Nat) (Option.some Jvm.ClassFile.FieldType.int)).before args0 about1 = true := code_word (m := ⟨1, 3⟩) (meth := k1m3) (c := k1c3) (by decide +kernel) rfl rfl rfl (by decide +kernel)
set_option maxRecDepth 65536 in
theorem w_c5 : (Jvm.Cond.code ({ cls := "com/example/chance_checker/chancechecker/construction/DistributionSameAsPinLaw", name := "target1", desc := "(II)I" } : Jvm.MethodName) method_5_code (2 : Nat) (Option.some Jvm.ClassFile.FieldType.int)).before args0 about1 = true := code_word (m := ⟨1, 4⟩) (meth := k1m4) (c := k1c4) (by decide +kernel) rfl rfl rfl (by decide +kernel)
set_option maxRecDepth 65536 in
theorem w_c6 : (Jvm.Cond.code ({ cls := "com/example/chance_checker/chancechecker/construction/Distribution", name := "sameAs", desc := "(Lcom/example/chance_checker/chancechecker/construction/Distribution;)Z" } : Jvm.MethodName) prog_7_method_11_code (4 : Nat) (Option.some Jvm.ClassFile.FieldType.boolean)).before args0 about1 = true := code_word (m := ⟨2, 2⟩) (meth := k2m2) (c := k2c2) (by decide +kernel) rfl rfl rfl (by decide +kernel)
set_option maxRecDepth 65536 in
theorem w_c7 : (Jvm.Cond.code ({ cls := "com/example/chance_checker/chancechecker/construction/DistributionSameAsPinLaw", name := "prob0", desc := "(I)D" } : Jvm.MethodName) method_7_code (1 : Nat) (Option.some Jvm.ClassFile.FieldType.double)).before args0 about1 = true := code_word (m := ⟨1, 6⟩) (meth := k1m6) (c := k1c6) (by decide +kernel) rfl rfl rfl (by decide +kernel)
set_option maxRecDepth 65536 in
theorem w_c8 : (Jvm.Cond.code ({ cls := "com/example/chance_checker/chancechecker/construction/Distribution", name := "add", desc := "(IID)V" } : Jvm.MethodName) prog_7_method_8_code (5 : Nat) (Option.none : Option Jvm.ClassFile.FieldType)).before args0 about1 = true := code_word (m := ⟨2, 1⟩) (meth := k2m1) (c := k2c1) (by decide +kernel) rfl rfl rfl (by decide +kernel)
set_option maxRecDepth 65536 in
theorem w_c9 : (Jvm.Cond.code ({ cls := "com/example/chance_checker/chancechecker/construction/DistributionSameAsPinLaw", name := "reset1", desc := "(II)I" } : Jvm.MethodName) method_6_code (2 : Nat) (Option.some Jvm.ClassFile.FieldType.int)).before args0 about1 = true := code_word (m := ⟨1, 5⟩) (meth := k1m5) (c := k1c5) (by decide +kernel) rfl rfl rfl (by decide +kernel)
set_option maxRecDepth 65536 in
theorem w_c10 : (Jvm.Cond.code ({ cls := "com/example/chance_checker/chancechecker/construction/DistributionSameAsPinLaw", name := "prob1", desc := "(I)D" } : Jvm.MethodName) method_8_code (1 : Nat) (Option.some Jvm.ClassFile.FieldType.double)).before args0 about1 = true := code_word (m := ⟨1, 7⟩) (meth := k1m7) (c := k1c7) (by decide +kernel) rfl rfl rfl (by decide +kernel)
def codes1 : List Jvm.Cond := [Jvm.Cond.code x code maxLocals ret, Jvm.Cond.code ({ cls := "com/example/chance_checker/chancechecker/construction/DistributionSameAsPinLaw", name := "make", desc := "(IIIII)Lcom/example/chance_checker/chancechecker/construction/Distribution;" } : Jvm.MethodName) method_3_code (6 : Nat) (Option.some (Jvm.ClassFile.FieldType.object "com/example/chance_checker/chancechecker/construction/Distribution")), Jvm.Cond.code ({ cls := "com/example/chance_checker/chancechecker/construction/Distribution", name := "<init>", desc := "()V" } : Jvm.MethodName) prog_7_method_1_code (1 : Nat) (Option.none : Option Jvm.ClassFile.FieldType), Jvm.Cond.code ({ cls := "java/lang/Object", name := "<init>", desc := "()V" } : Jvm.MethodName) object_method_1_code (1 : Nat) (Option.none : Option Jvm.ClassFile.FieldType), Jvm.Cond.code ({ cls := "com/example/chance_checker/chancechecker/construction/DistributionSameAsPinLaw", name := "target0", desc := "(I)I" } : Jvm.MethodName) method_4_code (1 : Nat) (Option.some Jvm.ClassFile.FieldType.int), Jvm.Cond.code ({ cls := "com/example/chance_checker/chancechecker/construction/DistributionSameAsPinLaw", name := "target1", desc := "(II)I" } : Jvm.MethodName) method_5_code (2 : Nat) (Option.some Jvm.ClassFile.FieldType.int), Jvm.Cond.code ({ cls := "com/example/chance_checker/chancechecker/construction/Distribution", name := "sameAs", desc := "(Lcom/example/chance_checker/chancechecker/construction/Distribution;)Z" } : Jvm.MethodName) prog_7_method_11_code (4 : Nat) (Option.some Jvm.ClassFile.FieldType.boolean), Jvm.Cond.code ({ cls := "com/example/chance_checker/chancechecker/construction/DistributionSameAsPinLaw", name := "prob0", desc := "(I)D" } : Jvm.MethodName) method_7_code (1 : Nat) (Option.some Jvm.ClassFile.FieldType.double), Jvm.Cond.code ({ cls := "com/example/chance_checker/chancechecker/construction/Distribution", name := "add", desc := "(IID)V" } : Jvm.MethodName) prog_7_method_8_code (5 : Nat) (Option.none : Option Jvm.ClassFile.FieldType), Jvm.Cond.code ({ cls := "com/example/chance_checker/chancechecker/construction/DistributionSameAsPinLaw", name := "reset1", desc := "(II)I" } : Jvm.MethodName) method_6_code (2 : Nat) (Option.some Jvm.ClassFile.FieldType.int), Jvm.Cond.code ({ cls := "com/example/chance_checker/chancechecker/construction/DistributionSameAsPinLaw", name := "prob1", desc := "(I)D" } : Jvm.MethodName) method_8_code (1 : Nat) (Option.some Jvm.ClassFile.FieldType.double)]
set_option maxRecDepth 65536 in
theorem codes_eq : words1.filter isCode = codes1 := rfl
theorem w_codes : ∀ c ∈ words1.filter isCode, c.before args0 about1 = true := by
  rw [codes_eq]
  intro c hc
  simp only [codes1, List.mem_cons, List.not_mem_nil, or_false] at hc
  rcases hc with rfl | rfl | rfl | rfl | rfl | rfl | rfl | rfl | rfl | rfl | rfl
  · exact w_c0
  · exact w_c1
  · exact w_c2
  · exact w_c3
  · exact w_c4
  · exact w_c5
  · exact w_c6
  · exact w_c7
  · exact w_c8
  · exact w_c9
  · exact w_c10
set_option maxRecDepth 65536 in
theorem w_t1 : (words1.take 24).all (fun c => isCode c || c.before args0 about1) = true := by decide +kernel
set_option maxRecDepth 65536 in
theorem w_t2 : ((words1.drop 24).take 24).all (fun c => isCode c || c.before args0 about1) = true := by decide +kernel
set_option maxRecDepth 65536 in
theorem w_t3 : ((words1.drop 24).drop 24).all (fun c => isCode c || c.before args0 about1) = true := by decide +kernel
theorem w_tables : (allAtoms (Jvm.Cond.code x code maxLocals ret :: tables_1)).before args0 about1 = true := by
  rw [allAtoms_all]
  show words1.all (fun c => c.before args0 about1) = true
  refine all_split ?_ w_codes
  rw [← List.take_append_drop 24 words1, List.all_append, w_t1, ← List.take_append_drop 24 (words1.drop 24), List.all_append, w_t2, w_t3]
  rfl
set_option maxRecDepth 65536 in
theorem w_case : (Jvm.Cond.and given_1 narrow_1).before args0 about1 = true := by decide +kernel
theorem w_applies : (headSpec (Jvm.Cond.code x code maxLocals ret :: tables_1) room_1).applies x e0.platform about1 = true :=
  (Spec.applies_iff w_frames).mpr ⟨w_running, w_runnable, w_alone, w_named, w_hears, w_ripe, w_room, w_tables⟩
theorem atStart : AtStart classFile x code maxLocals ret World_1 tables_1 room_1 Calls_1 rest_1 Pre_1 launch0 p0 e0 about1 theMethod args0 below0 :=
  ⟨lists_1, trivial, launch0.admits_env _ _ _, launch0.least_env, fairChoices_fair.cas, fairChoices_fair.clock, w_frames, w_args, w_heap, w_applies, trivial, trivial, w_case⟩
end start1
theorem witness_1 : WitnessClaimed_1 := ⟨start1.p0, start1.e0, start1.about1, start1.theMethod, start1.args0, start1.below0, start1.atStart⟩
end Jvm.Pilot.@@N@@

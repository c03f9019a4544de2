import JvmDerived
import JvmDerived.Pilot.@@N@@Statement
import JvmDerived.Pilot.@@N@@Code
set_option linter.unusedVariables false
set_option linter.unusedSimpArgs false
namespace Jvm.RoadKit
open Sem ClassFile Op Lib Jvm.Stand Jvm.Free Jvm.LawKit
section New
variable {p : Program} {l : Launch} {e : Env} {R : Room} {s : State} {m : MethodId} {args : Array Value} {below : List Frame} {meth : Method} {c : Code} {T : State} {locs : List Loc} {cells slots : Nat}
theorem retI (X : Stand p l e R s m args below meth c T locs cells slots) (hx : p.tables.exec = Jvm.exec) {pc : Nat} {Ls : Array Slot} {z : Int32} {rest : List Value} (hret : meth.sig.returnType = some .int) (hd : decode c.code pc = .ok (.ireturn, 1)) {fs : List Frame}
    (hl : ∀ (f : JFrame) (acts : List Action), f.method = m → f.locked = none → f.entered = [] → (doReturn e (T.setTop f) acts (some (.int z))).1 = T.setFrames fs) : Steps p.tables e below (T.setTop (mkF m pc Ls (.int z :: rest))) (T.setFrames fs) := by
  have hm' : T.vm.method? m = some meth := X.method'
  have hn : narrow .int (.int z) = .int z := rfl
  show Steps p.tables e below (T.setTop { method := m, pc := pc, locals := Ls, stack := _ :: rest, locked := none }) _
  jvm_step X.here [X.here.top, hx, hd, hm', hret, hn]
  first | (intro acts; rw [hl _ acts rfl rfl rfl]) | rw [hl _ _ rfl rfl rfl]
  exact Steps.refl _
end New
end Jvm.RoadKit
namespace Jvm.Pilot.@@N@@
open Jvm Jvm.ClassFile Sem Op Lib Jvm.Free Jvm.Stand Jvm.LawKit Jvm.RoadKit Bundle Jvm.Pilot.@@N@@.Jvm.D
theorem own_ofNat {j : Nat} (h : j < 2147483648) : (Int32.ofNat j).toInt = (j : Int) := Int32.toInt_ofNat_of_lt (by omega)
theorem own_clamp {j : Nat} (h : j < 2147483648) : (Int32.ofNat j).toNatClampNeg = j := by
  have e := own_ofNat h
  show (Int32.ofNat j).toInt.toNat = j
  rw [e]
  omega
theorem own_neg {j : Nat} (h : j < 2147483648) : ¬ Int32.ofNat j < 0 := by
  have e := own_ofNat h
  rw [Int32.lt_iff_toInt_lt, e, show (0 : Int32).toInt = 0 by decide]
  omega
theorem own_lt {j : Nat} (h : j < 200) : Int32.ofNat j < (200 : Int32) := by
  have e := own_ofNat (j := j) (by omega)
  rw [Int32.lt_iff_toInt_lt, e, show (200 : Int32).toInt = 200 by decide]
  omega
theorem own_in {j n : Nat} (h : j < 200) (hn : n = 200) : ¬ (Int32.ofNat j < 0 ∨ n ≤ (Int32.ofNat j).toNatClampNeg) := by
  rintro (q | q)
  · exact own_neg (by omega) q
  · rw [own_clamp (by omega)] at q
    omega
/-- how many of the first n places agree -/
def own_cnt (f g : Nat → Int64) : Nat → Nat
  | 0 => 0
  | n + 1 => own_cnt f g n + (if f n = g n then 1 else 0)
theorem own_cnt_s (f g : Nat → Int64) (n : Nat) : own_cnt f g (n + 1) = own_cnt f g n + (if f n = g n then 1 else 0) := rfl
/-- an array of noughts with x at I and then u at J -/
def own_f (I J : Nat) (x u : Int64) (i : Nat) : Int64 := if J = i then u else if I = i then x else 0
theorem own_count (I J : Nat) (x y u v : Int64) : ∀ n, own_cnt (own_f I J x u) (own_f I J y v) n + (if I < n ∧ I ≠ J ∧ x ≠ y then 1 else 0) + (if J < n ∧ u ≠ v then 1 else 0) = n := by
  intro n
  induction n with
  | zero => simp [own_cnt]
  | succ n ih =>
    rw [own_cnt_s]
    by_cases h1 : J = n
    · subst h1
      have a1 : own_f I J x u J = u := if_pos rfl
      have a2 : own_f I J y v J = v := if_pos rfl
      rw [a1, a2]
      by_cases h2 : u = v
      · subst h2
        simp only [ne_eq, not_true_eq_false, and_false, if_false, if_true] at ih ⊢
        by_cases h3 : I < J + 1 ∧ ¬ I = J ∧ ¬ x = y
        · rw [if_pos h3]
          rw [if_pos ⟨by omega, h3.2⟩] at ih
          omega
        · rw [if_neg h3]
          rw [if_neg (fun q => h3 ⟨by omega, q.2⟩)] at ih
          omega
      · rw [if_neg h2, if_pos (c := J < J + 1 ∧ u ≠ v) ⟨by omega, h2⟩]
        rw [if_neg (c := J < J ∧ u ≠ v) (fun q => Nat.lt_irrefl _ q.1)] at ih
        by_cases h3 : I < J + 1 ∧ I ≠ J ∧ x ≠ y
        · rw [if_pos h3]
          rw [if_pos ⟨by omega, h3.2⟩] at ih
          omega
        · rw [if_neg h3]
          rw [if_neg (fun q => h3 ⟨by omega, q.2⟩)] at ih
          omega
    · have a1 : own_f I J x u n = if I = n then x else 0 := if_neg h1
      have a2 : own_f I J y v n = if I = n then y else 0 := if_neg h1
      rw [a1, a2]
      have b1 : (if J < n + 1 ∧ u ≠ v then 1 else 0) = (if J < n ∧ u ≠ v then 1 else 0) := by
        by_cases h3 : J < n ∧ u ≠ v
        · rw [if_pos h3, if_pos ⟨by omega, h3.2⟩]
        · rw [if_neg h3, if_neg (fun q => h3 ⟨by omega, q.2⟩)]
      rw [b1]
      by_cases h2 : I = n
      · subst h2
        rw [if_pos rfl, if_pos rfl]
        rw [if_neg (c := I < I ∧ I ≠ J ∧ x ≠ y) (fun q => Nat.lt_irrefl _ q.1)] at ih
        by_cases h4 : x = y
        · rw [if_pos h4, if_neg (c := I < I + 1 ∧ I ≠ J ∧ x ≠ y) (fun q => q.2.2 h4)]
          omega
        · rw [if_neg h4, if_pos (c := I < I + 1 ∧ I ≠ J ∧ x ≠ y) ⟨by omega, fun q => h1 q.symm, h4⟩]
          omega
      · rw [if_neg h2, if_neg h2, if_pos rfl]
        have b2 : (if I < n + 1 ∧ I ≠ J ∧ x ≠ y then 1 else 0) = (if I < n ∧ I ≠ J ∧ x ≠ y then 1 else 0) := by
          by_cases h3 : I < n ∧ I ≠ J ∧ x ≠ y
          · rw [if_pos h3, if_pos ⟨by omega, h3.2⟩]
          · rw [if_neg h3, if_neg (fun q => h3 ⟨by omega, q.2⟩)]
        rw [b2]
        omega
/-- what the law expects -/
def own_agree (I J : Int32) (x y u v : Int64) : Int32 := if I = J then (199 : Int32) + (if u = v then 1 else 0) else (198 : Int32) + (if x = y then 1 else 0) + (if u = v then 1 else 0)
theorem own_idx (p : Int32) : ¬ ((p &&& (2147483647 : Int32)) % (200 : Int32)) < 0 ∧ ((p &&& (2147483647 : Int32)) % (200 : Int32)) < (200 : Int32) := by
  have k := c_mask p (2147483647 : Int32) 31 (by decide) (by decide)
  have g := (c_irem (p &&& (2147483647 : Int32)) (200 : Int32) 200 (by decide)).1 (by omega)
  rw [Int32.lt_iff_toInt_lt, Int32.lt_iff_toInt_lt, g, show (0 : Int32).toInt = 0 by decide, show (200 : Int32).toInt = 200 by decide]
  omega
theorem own_idxN (p : Int32) : ((p &&& (2147483647 : Int32)) % (200 : Int32)).toNatClampNeg < 200 ∧ ((p &&& (2147483647 : Int32)) % (200 : Int32)).toInt = (((p &&& (2147483647 : Int32)) % (200 : Int32)).toNatClampNeg : Int) := by
  have h := own_idx p
  have n := nat_of h.1
  refine ⟨?_, n⟩
  have h2 := h.2
  rw [Int32.lt_iff_toInt_lt, n, show (200 : Int32).toInt = 200 by decide] at h2
  omega
theorem own_agrees (p q : Int32) (x y u v : Int64) : Int32.ofNat (own_cnt (own_f ((p &&& (2147483647 : Int32)) % (200 : Int32)).toNatClampNeg ((q &&& (2147483647 : Int32)) % (200 : Int32)).toNatClampNeg x u) (own_f ((p &&& (2147483647 : Int32)) % (200 : Int32)).toNatClampNeg ((q &&& (2147483647 : Int32)) % (200 : Int32)).toNatClampNeg y v) 200) = own_agree ((p &&& (2147483647 : Int32)) % (200 : Int32)) ((q &&& (2147483647 : Int32)) % (200 : Int32)) x y u v := by
  obtain ⟨a1, a2⟩ := own_idxN p
  obtain ⟨b1, b2⟩ := own_idxN q
  generalize ((p &&& (2147483647 : Int32)) % (200 : Int32)) = I at a1 a2 ⊢
  generalize ((q &&& (2147483647 : Int32)) % (200 : Int32)) = J at b1 b2 ⊢
  have c := own_count I.toNatClampNeg J.toNatClampNeg x y u v 200
  generalize own_cnt _ _ 200 = N at c ⊢
  have e : I.toNatClampNeg = J.toNatClampNeg ↔ I = J := ⟨fun h => Int32.toInt_inj.mp (by rw [a2, b2, h]), fun h => by rw [h]⟩
  unfold own_agree
  by_cases h1 : I = J
  · rw [if_pos h1]
    rw [if_neg (c := I.toNatClampNeg < 200 ∧ I.toNatClampNeg ≠ J.toNatClampNeg ∧ x ≠ y) (fun z => z.2.1 (e.mpr h1))] at c
    by_cases h2 : u = v
    · rw [if_pos h2]
      rw [if_neg (fun z => z.2 h2)] at c
      rw [show N = 200 by omega]
      decide
    · rw [if_neg h2]
      rw [if_pos ⟨b1, h2⟩] at c
      rw [show N = 199 by omega]
      decide
  · rw [if_neg h1]
    by_cases h3 : x = y
    · rw [if_pos h3]
      rw [if_neg (c := I.toNatClampNeg < 200 ∧ I.toNatClampNeg ≠ J.toNatClampNeg ∧ x ≠ y) (fun z => z.2.2 h3)] at c
      by_cases h2 : u = v
      · rw [if_pos h2]
        rw [if_neg (fun z => z.2 h2)] at c
        rw [show N = 200 by omega]
        decide
      · rw [if_neg h2]
        rw [if_pos ⟨b1, h2⟩] at c
        rw [show N = 199 by omega]
        decide
    · rw [if_neg h3]
      rw [if_pos (c := I.toNatClampNeg < 200 ∧ I.toNatClampNeg ≠ J.toNatClampNeg ∧ x ≠ y) ⟨a1, fun z => h1 (e.mp z), h3⟩] at c
      by_cases h2 : u = v
      · rw [if_pos h2]
        rw [if_neg (fun z => z.2 h2)] at c
        rw [show N = 199 by omega]
        decide
      · rw [if_neg h2]
        rw [if_pos ⟨b1, h2⟩] at c
        rw [show N = 198 by omega]
        decide
theorem own_getH {I J : Int32} {x u : Int64} (hI : I.toInt = (I.toNatClampNeg : Int)) (hJ : J.toInt = (J.toNatClampNeg : Int)) (i : Nat) : getH [(J, .long u), (I, .long x)] [] (.long (0 : Int64)) i = .long (own_f I.toNatClampNeg J.toNatClampNeg x u i) := by
  simp only [getH, own_f, hI, hJ, Int.natCast_inj]
  by_cases h1 : J.toNatClampNeg = i
  · rw [if_pos h1, if_pos h1]
  · rw [if_neg h1, if_neg h1]
    by_cases h2 : I.toNatClampNeg = i
    · rw [if_pos h2, if_pos h2]
    · rw [if_neg h2, if_neg h2]
      rfl
theorem own_nn (n : Int32) : Jvm.Free.Fl.NoNaN64 (FP.ddiv (FP.i2d n) (4641240890982006784 : UInt64)) := Jvm.Free.Fl.ddiv_out (Jvm.Free.Fl.i2d_fin n).noNaN (by unfold Jvm.Free.Fl.Fin64; decide) (by unfold Jvm.Free.Fl.Nz64; decide)
theorem d1_0 : decode prog_1_method_1_code 0 = .ok (.aload_n 0, 1) := by decide +kernel
theorem d1_1 : decode prog_1_method_1_code 1 = .ok (.invokespecial 1, 3) := by decide +kernel
theorem d1_4 : decode prog_1_method_1_code 4 = .ok (.aload_n 1, 1) := by decide +kernel
theorem d1_5 : decode prog_1_method_1_code 5 = .ok (.arraylength, 1) := by decide +kernel
theorem d1_6 : decode prog_1_method_1_code 6 = .ok (.sipush 200, 3) := by decide +kernel
theorem d1_9 : decode prog_1_method_1_code 9 = .ok (.if_icmp .eq 18, 3) := by decide +kernel
theorem d1_27 : decode prog_1_method_1_code 27 = .ok (.aload_n 0, 1) := by decide +kernel
theorem d1_28 : decode prog_1_method_1_code 28 = .ok (.aload_n 1, 1) := by decide +kernel
theorem d1_29 : decode prog_1_method_1_code 29 = .ok (.invokevirtual 18, 3) := by decide +kernel
theorem d1_32 : decode prog_1_method_1_code 32 = .ok (.checkcast 19, 3) := by decide +kernel
theorem d1_35 : decode prog_1_method_1_code 35 = .ok (.putfield 24, 3) := by decide +kernel
theorem d1_38 : decode prog_1_method_1_code 38 = .ok (.return_, 1) := by decide +kernel
theorem pn_1 : plainName "com/example/frontier/frontier/content/Sketch" = true := by first | (simp [plainName, overriddenIn]; done) | decide +kernel
theorem pd_1_2 : parseMethodDescriptor "()Ljava/lang/Object;" = some ⟨[], some (.object "java/lang/Object")⟩ := by decide +kernel
theorem ef_1 (m : MethodId) (x0 : Addr) (x1 : Addr) : entryFrame m #[(.ref x0), (.ref x1)] 2 = mkF m 0 #[.val (.ref x0), .val (.ref x1)] [] := by first | (simp [entryFrame, mkF, argsToLocals, Value.category]; done) | rfl
def Q1 (Z : State) (a1 : Addr) (a2 : Addr) (kk : ClassId) (hs : List (Int32 × Value)) (h0 : Heap) (n0 : Nat) (v : Option Value) (h : Heap) (L : List Loc) : Prop := v = none ∧ Fr n0 L ∧ Keep h0 h [a1] ∧ Exa Z h a1 "com/example/frontier/frontier/content/Sketch" ∧ ∃ t : Addr, n0 ≤ t ∧ Fld Z h a1 "com/example/frontier/frontier/content/Sketch" "values" "[J" (.ref t) ∧ Arh Z h t kk .long (200 : Int32) hs [] (.long (0 : Int64))
set_option maxRecDepth 65536 in
set_option maxHeartbeats 40000000 in
theorem rm1 (l : Launch) (Z : State) (a0 : Array Value) (hw : ∀ d ∈ tables_1, d.before a0 Z = true) (ws : List Jvm.Cond) (a1 : Addr) (a2 : Addr) (kk : ClassId) (hs : List (Int32 × Value)) (u_values_a1 : Value) (h0 : Heap) (n0 : Nat) (Z0 : n0 ≤ h0.size) (F_a2 : Arh Z h0 a2 kk .long (200 : Int32) hs [] (.long (0 : Int64))) (E_a2 : Exa Z h0 a2 "[J") (E_a1 : Exa Z h0 a1 "com/example/frontier/frontier/content/Sketch") (F_values_a1 : Fld Z h0 a1 "com/example/frontier/frontier/content/Sketch" "values" "[J" u_values_a1) (g_a1 : n0 ≤ a1) :
    MetFree l (⟨"com/example/frontier/frontier/content/Sketch", "<init>", "([J)V"⟩ : MethodName) (head1 (Jvm.Cond.code (⟨"com/example/frontier/frontier/content/Sketch", "<init>", "([J)V"⟩ : MethodName) prog_1_method_1_code 2 none :: ws) ({ frames := 1, cells := 1, slots := 200, locals := 15 } : Room)) (fun a U => a = #[(.ref a1), (.ref a2)] ∧ Z.Warmed39 U.vm ∧ U.heap = h0) (fun _ _ _ _ _ => True) (fun _ U o U' => ∃ v L, o = .returned v ∧ Q1 Z a1 a2 kk hs h0 n0 v U'.heap L ∧ FrameEnd U o U' L ({ frames := 1, cells := 1, slots := 200, locals := 15 } : Room).cells ({ frames := 1, cells := 1, slots := 200, locals := 15 } : Room).slots) := by
  refine MetFree.of_bodySF (plainFor_of_name pn_1) hisR ?_
  intro p e s m args below meth c s₁ Bd hml0 hP hK
  obtain ⟨rfl, hZ, hh⟩ := hP
  have hx := Bd.exec
  have hby := Bd.bytes
  have hml : c.maxLocals = 2 := hml0
  have hown : s.vm.findClass "com/example/frontier/frontier/content/Sketch" = some m.cls := findClass_of_methodNamed Bd.named
  have hnm := (name_of_methodNamed Bd.named Bd.method).1
  have X0 : Stand p l e ({ frames := 1, cells := 1, slots := 200, locals := 15 } : Room) s m #[(.ref a1), (.ref a2)] below meth c s₁ [] 0 0 := Stand.of_body Bd
  have e0 : s₁.heap = h0 := by rw [← hh, Bd.state]; rfl
  have N0 := Fr.nil n0
  have pre0 : ∀ t, Steps p.tables e below (s₁.setTop (mkF m 0 #[.val (.ref a1), .val (.ref a2)] [])) t → Steps p.tables e below (s₁.setTop (entryFrame m #[(.ref a1), (.ref a2)] 2)) t := fun t k => castTop (ef_1 m a1 a2) k
  obtain ⟨cl_a2, Ar_a2, -, S_a2, N_a2, -, -⟩ := id F_a2
  obtain ⟨T3, X3, e3, st3⟩ := initO X0 hx hZ hown (hw _ (List.mem_of_getElem? (i := 8) rfl)) (hw _ (List.mem_of_getElem? (i := 9) rfl)) (hw _ (List.mem_of_getElem? (i := 10) rfl)) e0 (g := (mkF m 1 #[.val (.ref a1), .val (.ref a2)] [(.ref a1)])) rfl (by rw [hml]; rfl) rfl (hb hby d1_1) (by decide) (W := 0) (by show 2 * 0 + _ ≤ _; exact Nat.le_of_eq rfl) (by decide)
  obtain ⟨T4, h4, X4, e4, E4, A4, Ec4, st4⟩ := cloneH X3 hx hZ hown (hw _ (List.mem_of_getElem? (i := 11) rfl)) (hw _ (List.mem_of_getElem? (i := 12) rfl)) (hw _ (List.mem_of_getElem? (i := 16) rfl)) (hw _ (List.mem_of_getElem? (i := 14) rfl)) (hw _ (List.mem_of_getElem? (i := 15) rfl)) (hw _ (List.mem_of_getElem? (i := 17) rfl)) e3 F_a2 E_a2 (g := (mkF m 29 #[.val (.ref a1), .val (.ref a2)] [(.ref a2), (.ref a1)])) rfl (by rw [hml]; rfl) rfl (hb hby d1_29) (by decide) (W := 1) (by show 2 * 0 + _ ≤ _; exact Nat.le_of_eq rfl) (by decide) (cap := 200) (by decide) (by decide) (by decide)
  obtain ⟨b4, g4⟩ : ∃ z, z = h0.size := ⟨_, rfl⟩
  rw [← g4] at A4 Ec4 st4
  have ne4 : b4 ≠ a1 := fun q => absurd E_a1.lt (by rw [← g4, q]; exact Nat.lt_irrefl _)
  obtain ⟨T5, X5, e5, st5⟩ := castY X4 hx hZ hown (hw _ (List.mem_of_getElem? (i := 18) rfl)) e4 (Ins.self Ec4) (g := (mkF m 32 #[.val (.ref a1), .val (.ref a2)] [(.ref b4), (.ref a1)])) rfl rfl (hb hby d1_32)
  obtain ⟨T6, h6, X6, e6, W6, st6⟩ := putF X5 hx hZ hown (host := "") (Or.inl (hw _ (List.mem_of_getElem? (i := 20) rfl))) Via.refl e5 (F_values_a1.ext E4) (E_a1.ext E4) (Or.inr ⟨(hw _ (List.mem_of_getElem? (i := 21) rfl)), rfl, hnm⟩) (hw _ (List.mem_of_getElem? (i := 3) rfl)) (ty := (.array .long)) (by decide) rfl rfl (g := (mkF m 35 #[.val (.ref a1), .val (.ref a2)] [(.ref b4), (.ref a1)])) rfl rfl (hb hby d1_35)
  have Fw6 := (F_values_a1.ext E4).same W6
  have K6 : Keep h0 h6 [a1] := ((Keep.refl h0 [a1]).ext E4).wr W6 (Or.inl (List.mem_of_getElem? (i := 0) rfl))
  have N6 := Fr.snoc X6 N0 g_a1
  obtain ⟨fs, hr, hrun, hended, hW, hsame⟩ := X6.leave (v := none) (fun _ => rfl)
  refine ⟨_, _, pre0 _ ?_, hrun, hended, _, _, rfl, ?_, ⟨_, rfl⟩, hW, hsame.mono (by decide) (by decide)⟩
  · show Steps p.tables e below (s₁.setTop (mkF m 0 #[.val (.ref a1), .val (.ref a2)] [])) _
    refine XS.aloadN X0.here hx rfl (hb hby d1_0) rfl rfl ?_
    show Steps p.tables e below (s₁.setTop (mkF m 1 #[.val (.ref a1), .val (.ref a2)] [(.ref a1)])) _
    refine st3 _ ?_
    show Steps p.tables e below (T3.setTop (mkF m 4 #[.val (.ref a1), .val (.ref a2)] [])) _
    refine XS.aloadN X3.here hx rfl (hb hby d1_4) rfl rfl ?_
    show Steps p.tables e below (T3.setTop (mkF m 5 #[.val (.ref a1), .val (.ref a2)] [(.ref a2)])) _
    refine X3.arraylength hx (by rw [e3]; exact Ar_a2.1) (State.isArrayOf_alike hZ.alike Ar_a2.2.1) (g := (mkF m 5 #[.val (.ref a1), .val (.ref a2)] [(.ref a2)])) rfl rfl (hb hby d1_5) _ ?_
    rw [len_of S_a2 N_a2]
    show Steps p.tables e below (T3.setTop (mkF m 6 #[.val (.ref a1), .val (.ref a2)] [(.int (200 : Int32))])) _
    refine XS.sipush X3.here hx rfl (hb hby d1_6) ?_
    show Steps p.tables e below (T3.setTop (mkF m 9 #[.val (.ref a1), .val (.ref a2)] [(.int (200 : Int32)), (.int (200 : Int32))])) _
    refine XS.icmpYes X3.here hx rfl (pc0 := 9) (pc' := 27) rfl (hb hby d1_9) rfl (teq rfl).1 (by decide) (by decide) ?_
    show Steps p.tables e below (T3.setTop (mkF m 27 #[.val (.ref a1), .val (.ref a2)] [])) _
    refine XS.aloadN X3.here hx rfl (hb hby d1_27) rfl rfl ?_
    show Steps p.tables e below (T3.setTop (mkF m 28 #[.val (.ref a1), .val (.ref a2)] [(.ref a1)])) _
    refine XS.aloadN X3.here hx rfl (hb hby d1_28) rfl rfl ?_
    show Steps p.tables e below (T3.setTop (mkF m 29 #[.val (.ref a1), .val (.ref a2)] [(.ref a2), (.ref a1)])) _
    refine st4 _ ?_
    show Steps p.tables e below (T4.setTop (mkF m 32 #[.val (.ref a1), .val (.ref a2)] [(.ref b4), (.ref a1)])) _
    refine st5 _ ?_
    show Steps p.tables e below (T5.setTop (mkF m 35 #[.val (.ref a1), .val (.ref a2)] [(.ref b4), (.ref a1)])) _
    refine st6 _ ?_
    show Steps p.tables e below (T6.setTop (mkF m 38 #[.val (.ref a1), .val (.ref a2)] [])) _
    exact X6.returnOut hx Bd.returns (hb hby d1_38) hr
  · show Q1 Z a1 a2 kk hs h0 n0 _ T6.heap _
    rw [e6]
    exact ⟨rfl, N6, K6, (E_a1.ext E4).wr W6, b4, Nat.le_trans Z0 (Nat.le_of_eq g4.symm), Fw6, A4.other W6 ne4⟩
theorem d3_4 : decode prog_1_method_10_code 4 = .ok (.iload_n 3, 1) := by decide +kernel
theorem d3_5 : decode prog_1_method_10_code 5 = .ok (.sipush 200, 3) := by decide +kernel
theorem d3_8 : decode prog_1_method_10_code 8 = .ok (.if_icmp .ge 28, 3) := by decide +kernel
theorem d3_11 : decode prog_1_method_10_code 11 = .ok (.aload_n 0, 1) := by decide +kernel
theorem d3_12 : decode prog_1_method_10_code 12 = .ok (.getfield 24, 3) := by decide +kernel
theorem d3_15 : decode prog_1_method_10_code 15 = .ok (.iload_n 3, 1) := by decide +kernel
theorem d3_16 : decode prog_1_method_10_code 16 = .ok (.laload, 1) := by decide +kernel
theorem d3_17 : decode prog_1_method_10_code 17 = .ok (.aload_n 1, 1) := by decide +kernel
theorem d3_18 : decode prog_1_method_10_code 18 = .ok (.getfield 24, 3) := by decide +kernel
theorem d3_21 : decode prog_1_method_10_code 21 = .ok (.iload_n 3, 1) := by decide +kernel
theorem d3_22 : decode prog_1_method_10_code 22 = .ok (.laload, 1) := by decide +kernel
theorem d3_23 : decode prog_1_method_10_code 23 = .ok (.lcmp, 1) := by decide +kernel
theorem d3_24 : decode prog_1_method_10_code 24 = .ok (.ifCond .ne 6, 3) := by decide +kernel
theorem d3_27 : decode prog_1_method_10_code 27 = .ok (.iinc 2 1, 3) := by decide +kernel
theorem d3_30 : decode prog_1_method_10_code 30 = .ok (.iinc 3 1, 3) := by decide +kernel
theorem d3_33 : decode prog_1_method_10_code 33 = .ok (.goto (-29), 3) := by decide +kernel
set_option maxRecDepth 65536 in
set_option maxHeartbeats 40000000 in
theorem own_tA {p : Program} {l : Launch} {e : Env} {R : Room} {s : State} {m : MethodId} {args : Array Value} {below : List Frame} {meth : Method} {c : Code} {T0 : State} {locs : List Loc} {cells slots : Nat} {Z : State} {a0 : Array Value} {h0 : Heap} (o0 : Addr) (o1 : Addr) (i2 : Int32) (i3 : Int32) (w3 : Addr) (w5 : Int64) (cl_w3 : Cell) (w6 : Addr) (w8 : Int64) (cl_w6 : Cell)
    (X0 : Stand p l e R s m args below meth c T0 locs cells slots) (hx : p.tables.exec = Jvm.exec) (hZ : Z.Warmed39 s.vm) (hw : ∀ d ∈ tables_1, d.before a0 Z = true) (hby : c.code = prog_1_method_10_code) (hml : c.maxLocals = 4) (hown : s.vm.findClass "com/example/frontier/frontier/content/Sketch" = some m.cls) (e0 : T0.heap = h0) (F_values_o0 : Fld Z h0 o0 "com/example/frontier/frontier/content/Sketch" "values" "[J" (.ref w3)) (Ar_w3 : Arr Z h0 w3 cl_w3 .long) (hin16 : ¬ (i3 < 0 ∨ cl_w3.slots.size ≤ (i3).toNatClampNeg)) (hat16 : cl_w3.slots[(i3).toNatClampNeg]? = some (.long w5)) (F_values_o1 : Fld Z h0 o1 "com/example/frontier/frontier/content/Sketch" "values" "[J" (.ref w6)) (Ar_w6 : Arr Z h0 w6 cl_w6 .long) (hin22 : ¬ (i3 < 0 ∨ cl_w6.slots.size ≤ (i3).toNatClampNeg)) (hat22 : cl_w6.slots[(i3).toNatClampNeg]? = some (.long w8)) (hc8 : i3 < (200 : Int32)) (hc24 : (lcmpW w5 w8) = (0 : Int32)) :
    ∃ (T' : State), Stand p l e R s m args below meth c T' locs cells slots ∧ T'.heap = h0 ∧
      ∀ target, Steps p.tables e below (T'.setTop (mkF m 4 #[.val (.ref o0), .val (.ref o1), .val (.int (i2 + (1 : Int32))), .val (.int (i3 + (1 : Int32)))] [])) target → Steps p.tables e below (T0.setTop (mkF m 4 #[.val (.ref o0), .val (.ref o1), .val (.int i2), .val (.int i3)] [])) target := by
  obtain ⟨T4, X4, e4, st4⟩ := getF X0 hx hZ hown (host := "") (Or.inl (hw _ (List.mem_of_getElem? (i := 20) rfl))) Via.refl e0 F_values_o0 (g := (mkF m 12 #[.val (.ref o0), .val (.ref o1), .val (.int i2), .val (.int i3)] [(.ref o0)])) rfl rfl (hb hby d3_12)
  obtain ⟨T7, X7, e7, st7⟩ := getF X4 hx hZ hown (host := "") (Or.inl (hw _ (List.mem_of_getElem? (i := 20) rfl))) Via.refl e4 F_values_o1 (g := (mkF m 18 #[.val (.ref o0), .val (.ref o1), .val (.int i2), .val (.int i3)] [(.ref o1), (.long w5)])) rfl rfl (hb hby d3_18)
  refine ⟨T7, X7, e7, fun target kt => ?_⟩
  show Steps p.tables e below (T0.setTop (mkF m 4 #[.val (.ref o0), .val (.ref o1), .val (.int i2), .val (.int i3)] [])) _
  refine XS.iloadN X0.here hx rfl (hb hby d3_4) rfl ?_
  show Steps p.tables e below (T0.setTop (mkF m 5 #[.val (.ref o0), .val (.ref o1), .val (.int i2), .val (.int i3)] [(.int i3)])) _
  refine XS.sipush X0.here hx rfl (hb hby d3_5) ?_
  show Steps p.tables e below (T0.setTop (mkF m 8 #[.val (.ref o0), .val (.ref o1), .val (.int i2), .val (.int i3)] [(.int (200 : Int32)), (.int i3)])) _
  refine XS.icmpNo X0.here hx rfl (hb hby d3_8) rfl (tlt hc8).2.1 ?_
  show Steps p.tables e below (T0.setTop (mkF m 11 #[.val (.ref o0), .val (.ref o1), .val (.int i2), .val (.int i3)] [])) _
  refine XS.aloadN X0.here hx rfl (hb hby d3_11) rfl rfl ?_
  show Steps p.tables e below (T0.setTop (mkF m 12 #[.val (.ref o0), .val (.ref o1), .val (.int i2), .val (.int i3)] [(.ref o0)])) _
  refine st4 _ ?_
  show Steps p.tables e below (T4.setTop (mkF m 15 #[.val (.ref o0), .val (.ref o1), .val (.int i2), .val (.int i3)] [(.ref w3)])) _
  refine XS.iloadN X4.here hx rfl (hb hby d3_15) rfl ?_
  show Steps p.tables e below (T4.setTop (mkF m 16 #[.val (.ref o0), .val (.ref o1), .val (.int i2), .val (.int i3)] [(.int i3), (.ref w3)])) _
  refine X4.laload hx (j := i3) (v := (.long w5)) (by rw [e4]; exact Ar_w3.1) (State.isArrayOf_alike hZ.alike Ar_w3.2.1) Ar_w3.2.2 hin16 hat16 (g := (mkF m 16 #[.val (.ref o0), .val (.ref o1), .val (.int i2), .val (.int i3)] [(.int i3), (.ref w3)])) rfl rfl (hb hby d3_16) _ ?_
  show Steps p.tables e below (T4.setTop (mkF m 17 #[.val (.ref o0), .val (.ref o1), .val (.int i2), .val (.int i3)] [(.long w5)])) _
  refine XS.aloadN X4.here hx rfl (hb hby d3_17) rfl rfl ?_
  show Steps p.tables e below (T4.setTop (mkF m 18 #[.val (.ref o0), .val (.ref o1), .val (.int i2), .val (.int i3)] [(.ref o1), (.long w5)])) _
  refine st7 _ ?_
  show Steps p.tables e below (T7.setTop (mkF m 21 #[.val (.ref o0), .val (.ref o1), .val (.int i2), .val (.int i3)] [(.ref w6), (.long w5)])) _
  refine XS.iloadN X7.here hx rfl (hb hby d3_21) rfl ?_
  show Steps p.tables e below (T7.setTop (mkF m 22 #[.val (.ref o0), .val (.ref o1), .val (.int i2), .val (.int i3)] [(.int i3), (.ref w6), (.long w5)])) _
  refine X7.laload hx (j := i3) (v := (.long w8)) (by rw [e7]; exact Ar_w6.1) (State.isArrayOf_alike hZ.alike Ar_w6.2.1) Ar_w6.2.2 hin22 hat22 (g := (mkF m 22 #[.val (.ref o0), .val (.ref o1), .val (.int i2), .val (.int i3)] [(.int i3), (.ref w6), (.long w5)])) rfl rfl (hb hby d3_22) _ ?_
  show Steps p.tables e below (T7.setTop (mkF m 23 #[.val (.ref o0), .val (.ref o1), .val (.int i2), .val (.int i3)] [(.long w8), (.long w5)])) _
  refine XS.lcmp X7.here hx rfl (hb hby d3_23) rfl ?_
  show Steps p.tables e below (T7.setTop (mkF m 24 #[.val (.ref o0), .val (.ref o1), .val (.int i2), .val (.int i3)] [(.int (lcmpW w5 w8))])) _
  refine XS.ifNo X7.here hx rfl (hb hby d3_24) rfl ((if0 _ _).trans (teq hc24).2) ?_
  show Steps p.tables e below (T7.setTop (mkF m 27 #[.val (.ref o0), .val (.ref o1), .val (.int i2), .val (.int i3)] [])) _
  refine XS.iinc X7.here hx rfl (hb hby d3_27) rfl (l' := #[.val (.ref o0), .val (.ref o1), .val (.int (i2 + (1 : Int32))), .val (.int i3)]) rfl ?_
  show Steps p.tables e below (T7.setTop (mkF m 30 #[.val (.ref o0), .val (.ref o1), .val (.int (i2 + (1 : Int32))), .val (.int i3)] [])) _
  refine XS.iinc X7.here hx rfl (hb hby d3_30) rfl (l' := #[.val (.ref o0), .val (.ref o1), .val (.int (i2 + (1 : Int32))), .val (.int (i3 + (1 : Int32)))]) rfl ?_
  show Steps p.tables e below (T7.setTop (mkF m 33 #[.val (.ref o0), .val (.ref o1), .val (.int (i2 + (1 : Int32))), .val (.int (i3 + (1 : Int32)))] [])) _
  refine XS.goto X7.here hx rfl (pc0 := 33) (pc' := 4) rfl (hb hby d3_33) (by decide) (by decide) ?_
  exact kt
set_option maxRecDepth 65536 in
set_option maxHeartbeats 40000000 in
theorem own_tB {p : Program} {l : Launch} {e : Env} {R : Room} {s : State} {m : MethodId} {args : Array Value} {below : List Frame} {meth : Method} {c : Code} {T0 : State} {locs : List Loc} {cells slots : Nat} {Z : State} {a0 : Array Value} {h0 : Heap} (o0 : Addr) (o1 : Addr) (i2 : Int32) (i3 : Int32) (w3 : Addr) (w5 : Int64) (cl_w3 : Cell) (w6 : Addr) (w8 : Int64) (cl_w6 : Cell)
    (X0 : Stand p l e R s m args below meth c T0 locs cells slots) (hx : p.tables.exec = Jvm.exec) (hZ : Z.Warmed39 s.vm) (hw : ∀ d ∈ tables_1, d.before a0 Z = true) (hby : c.code = prog_1_method_10_code) (hml : c.maxLocals = 4) (hown : s.vm.findClass "com/example/frontier/frontier/content/Sketch" = some m.cls) (e0 : T0.heap = h0) (F_values_o0 : Fld Z h0 o0 "com/example/frontier/frontier/content/Sketch" "values" "[J" (.ref w3)) (Ar_w3 : Arr Z h0 w3 cl_w3 .long) (hin16 : ¬ (i3 < 0 ∨ cl_w3.slots.size ≤ (i3).toNatClampNeg)) (hat16 : cl_w3.slots[(i3).toNatClampNeg]? = some (.long w5)) (F_values_o1 : Fld Z h0 o1 "com/example/frontier/frontier/content/Sketch" "values" "[J" (.ref w6)) (Ar_w6 : Arr Z h0 w6 cl_w6 .long) (hin22 : ¬ (i3 < 0 ∨ cl_w6.slots.size ≤ (i3).toNatClampNeg)) (hat22 : cl_w6.slots[(i3).toNatClampNeg]? = some (.long w8)) (hc8 : i3 < (200 : Int32)) (hc24 : ¬ ((lcmpW w5 w8) = (0 : Int32))) :
    ∃ (T' : State), Stand p l e R s m args below meth c T' locs cells slots ∧ T'.heap = h0 ∧
      ∀ target, Steps p.tables e below (T'.setTop (mkF m 4 #[.val (.ref o0), .val (.ref o1), .val (.int i2), .val (.int (i3 + (1 : Int32)))] [])) target → Steps p.tables e below (T0.setTop (mkF m 4 #[.val (.ref o0), .val (.ref o1), .val (.int i2), .val (.int i3)] [])) target := by
  obtain ⟨T4, X4, e4, st4⟩ := getF X0 hx hZ hown (host := "") (Or.inl (hw _ (List.mem_of_getElem? (i := 20) rfl))) Via.refl e0 F_values_o0 (g := (mkF m 12 #[.val (.ref o0), .val (.ref o1), .val (.int i2), .val (.int i3)] [(.ref o0)])) rfl rfl (hb hby d3_12)
  obtain ⟨T7, X7, e7, st7⟩ := getF X4 hx hZ hown (host := "") (Or.inl (hw _ (List.mem_of_getElem? (i := 20) rfl))) Via.refl e4 F_values_o1 (g := (mkF m 18 #[.val (.ref o0), .val (.ref o1), .val (.int i2), .val (.int i3)] [(.ref o1), (.long w5)])) rfl rfl (hb hby d3_18)
  refine ⟨T7, X7, e7, fun target kt => ?_⟩
  show Steps p.tables e below (T0.setTop (mkF m 4 #[.val (.ref o0), .val (.ref o1), .val (.int i2), .val (.int i3)] [])) _
  refine XS.iloadN X0.here hx rfl (hb hby d3_4) rfl ?_
  show Steps p.tables e below (T0.setTop (mkF m 5 #[.val (.ref o0), .val (.ref o1), .val (.int i2), .val (.int i3)] [(.int i3)])) _
  refine XS.sipush X0.here hx rfl (hb hby d3_5) ?_
  show Steps p.tables e below (T0.setTop (mkF m 8 #[.val (.ref o0), .val (.ref o1), .val (.int i2), .val (.int i3)] [(.int (200 : Int32)), (.int i3)])) _
  refine XS.icmpNo X0.here hx rfl (hb hby d3_8) rfl (tlt hc8).2.1 ?_
  show Steps p.tables e below (T0.setTop (mkF m 11 #[.val (.ref o0), .val (.ref o1), .val (.int i2), .val (.int i3)] [])) _
  refine XS.aloadN X0.here hx rfl (hb hby d3_11) rfl rfl ?_
  show Steps p.tables e below (T0.setTop (mkF m 12 #[.val (.ref o0), .val (.ref o1), .val (.int i2), .val (.int i3)] [(.ref o0)])) _
  refine st4 _ ?_
  show Steps p.tables e below (T4.setTop (mkF m 15 #[.val (.ref o0), .val (.ref o1), .val (.int i2), .val (.int i3)] [(.ref w3)])) _
  refine XS.iloadN X4.here hx rfl (hb hby d3_15) rfl ?_
  show Steps p.tables e below (T4.setTop (mkF m 16 #[.val (.ref o0), .val (.ref o1), .val (.int i2), .val (.int i3)] [(.int i3), (.ref w3)])) _
  refine X4.laload hx (j := i3) (v := (.long w5)) (by rw [e4]; exact Ar_w3.1) (State.isArrayOf_alike hZ.alike Ar_w3.2.1) Ar_w3.2.2 hin16 hat16 (g := (mkF m 16 #[.val (.ref o0), .val (.ref o1), .val (.int i2), .val (.int i3)] [(.int i3), (.ref w3)])) rfl rfl (hb hby d3_16) _ ?_
  show Steps p.tables e below (T4.setTop (mkF m 17 #[.val (.ref o0), .val (.ref o1), .val (.int i2), .val (.int i3)] [(.long w5)])) _
  refine XS.aloadN X4.here hx rfl (hb hby d3_17) rfl rfl ?_
  show Steps p.tables e below (T4.setTop (mkF m 18 #[.val (.ref o0), .val (.ref o1), .val (.int i2), .val (.int i3)] [(.ref o1), (.long w5)])) _
  refine st7 _ ?_
  show Steps p.tables e below (T7.setTop (mkF m 21 #[.val (.ref o0), .val (.ref o1), .val (.int i2), .val (.int i3)] [(.ref w6), (.long w5)])) _
  refine XS.iloadN X7.here hx rfl (hb hby d3_21) rfl ?_
  show Steps p.tables e below (T7.setTop (mkF m 22 #[.val (.ref o0), .val (.ref o1), .val (.int i2), .val (.int i3)] [(.int i3), (.ref w6), (.long w5)])) _
  refine X7.laload hx (j := i3) (v := (.long w8)) (by rw [e7]; exact Ar_w6.1) (State.isArrayOf_alike hZ.alike Ar_w6.2.1) Ar_w6.2.2 hin22 hat22 (g := (mkF m 22 #[.val (.ref o0), .val (.ref o1), .val (.int i2), .val (.int i3)] [(.int i3), (.ref w6), (.long w5)])) rfl rfl (hb hby d3_22) _ ?_
  show Steps p.tables e below (T7.setTop (mkF m 23 #[.val (.ref o0), .val (.ref o1), .val (.int i2), .val (.int i3)] [(.long w8), (.long w5)])) _
  refine XS.lcmp X7.here hx rfl (hb hby d3_23) rfl ?_
  show Steps p.tables e below (T7.setTop (mkF m 24 #[.val (.ref o0), .val (.ref o1), .val (.int i2), .val (.int i3)] [(.int (lcmpW w5 w8))])) _
  refine XS.ifYes X7.here hx rfl (pc0 := 24) (pc' := 30) rfl (hb hby d3_24) rfl ((if0 _ _).trans (feq hc24).2) (by decide) (by decide) ?_
  show Steps p.tables e below (T7.setTop (mkF m 30 #[.val (.ref o0), .val (.ref o1), .val (.int i2), .val (.int i3)] [])) _
  refine XS.iinc X7.here hx rfl (hb hby d3_30) rfl (l' := #[.val (.ref o0), .val (.ref o1), .val (.int i2), .val (.int (i3 + (1 : Int32)))]) rfl ?_
  show Steps p.tables e below (T7.setTop (mkF m 33 #[.val (.ref o0), .val (.ref o1), .val (.int i2), .val (.int (i3 + (1 : Int32)))] [])) _
  refine XS.goto X7.here hx rfl (pc0 := 33) (pc' := 4) rfl (hb hby d3_33) (by decide) (by decide) ?_
  exact kt
set_option maxRecDepth 65536 in
set_option maxHeartbeats 40000000 in
theorem own_tC {p : Program} {l : Launch} {e : Env} {R : Room} {s : State} {m : MethodId} {args : Array Value} {below : List Frame} {meth : Method} {c : Code} {T0 : State} {locs : List Loc} {cells slots : Nat} {Z : State} {a0 : Array Value} {h0 : Heap} (o0 : Addr) (o1 : Addr) (i2 : Int32) (i3 : Int32)
    (X0 : Stand p l e R s m args below meth c T0 locs cells slots) (hx : p.tables.exec = Jvm.exec) (hZ : Z.Warmed39 s.vm) (hw : ∀ d ∈ tables_1, d.before a0 Z = true) (hby : c.code = prog_1_method_10_code) (hml : c.maxLocals = 4) (hown : s.vm.findClass "com/example/frontier/frontier/content/Sketch" = some m.cls) (e0 : T0.heap = h0) (hc8 : ¬ (i3 < (200 : Int32))) :
    ∃ (T' : State), Stand p l e R s m args below meth c T' locs cells slots ∧ T'.heap = h0 ∧
      ∀ target, Steps p.tables e below (T'.setTop (mkF m 36 #[.val (.ref o0), .val (.ref o1), .val (.int i2), .val (.int i3)] [])) target → Steps p.tables e below (T0.setTop (mkF m 4 #[.val (.ref o0), .val (.ref o1), .val (.int i2), .val (.int i3)] [])) target := by

  refine ⟨T0, X0, e0, fun target kt => ?_⟩
  show Steps p.tables e below (T0.setTop (mkF m 4 #[.val (.ref o0), .val (.ref o1), .val (.int i2), .val (.int i3)] [])) _
  refine XS.iloadN X0.here hx rfl (hb hby d3_4) rfl ?_
  show Steps p.tables e below (T0.setTop (mkF m 5 #[.val (.ref o0), .val (.ref o1), .val (.int i2), .val (.int i3)] [(.int i3)])) _
  refine XS.sipush X0.here hx rfl (hb hby d3_5) ?_
  show Steps p.tables e below (T0.setTop (mkF m 8 #[.val (.ref o0), .val (.ref o1), .val (.int i2), .val (.int i3)] [(.int (200 : Int32)), (.int i3)])) _
  refine XS.icmpYes X0.here hx rfl (pc0 := 8) (pc' := 36) rfl (hb hby d3_8) rfl (flt hc8).2.1 (by decide) (by decide) ?_
  exact kt
theorem own_loop {p : Program} {l : Launch} {e : Env} {R : Room} {s : State} {m : MethodId} {args : Array Value} {below : List Frame} {meth : Method} {c : Code} {locs : List Loc} {cells slots : Nat} {Z : State} {a0 : Array Value} {h0 : Heap} (o0 o1 w3 w6 : Addr) (c3 c6 : Cell) (f g : Nat → Int64) (hx : p.tables.exec = Jvm.exec) (hZ : Z.Warmed39 s.vm) (hw : ∀ d ∈ tables_1, d.before a0 Z = true) (hby : c.code = prog_1_method_10_code) (hml : c.maxLocals = 4) (hown : s.vm.findClass "com/example/frontier/frontier/content/Sketch" = some m.cls)
    (F0 : Fld Z h0 o0 "com/example/frontier/frontier/content/Sketch" "values" "[J" (.ref w3)) (A3 : Arr Z h0 w3 c3 .long) (S3 : c3.slots.size = 200) (H3 : ∀ i, i < 200 → c3.slots[i]? = some (.long (f i))) (F1 : Fld Z h0 o1 "com/example/frontier/frontier/content/Sketch" "values" "[J" (.ref w6)) (A6 : Arr Z h0 w6 c6 .long) (S6 : c6.slots.size = 200) (H6 : ∀ i, i < 200 → c6.slots[i]? = some (.long (g i))) :
    ∀ (k j : Nat) (T0 : State), j + k = 200 → Stand p l e R s m args below meth c T0 locs cells slots → T0.heap = h0 →
    ∃ (T' : State), Stand p l e R s m args below meth c T' locs cells slots ∧ T'.heap = h0 ∧
      ∀ target, Steps p.tables e below (T'.setTop (mkF m 36 #[.val (.ref o0), .val (.ref o1), .val (.int (Int32.ofNat (own_cnt f g 200))), .val (.int (Int32.ofNat 200))] [])) target → Steps p.tables e below (T0.setTop (mkF m 4 #[.val (.ref o0), .val (.ref o1), .val (.int (Int32.ofNat (own_cnt f g j))), .val (.int (Int32.ofNat j))] [])) target := by
  intro k
  induction k with
  | zero =>
    intro j T0 hj X0 e0
    obtain rfl : j = 200 := by omega
    exact own_tC o0 o1 _ _ X0 hx hZ hw hby hml hown e0 (by decide)
  | succ k ih =>
    intro j T0 hj X0 e0
    have hj2 : j < 200 := by omega
    have cl : (Int32.ofNat j).toNatClampNeg = j := own_clamp (by omega)
    have at3 : c3.slots[(Int32.ofNat j).toNatClampNeg]? = some (.long (f j)) := by rw [cl]; exact H3 j hj2
    have at6 : c6.slots[(Int32.ofNat j).toNatClampNeg]? = some (.long (g j)) := by rw [cl]; exact H6 j hj2
    have n1 : Int32.ofNat j + (1 : Int32) = Int32.ofNat (j + 1) := (Int32.ofNat_add j 1).symm
    by_cases q : f j = g j
    · obtain ⟨T1, X1, e1, st1⟩ := own_tA o0 o1 (Int32.ofNat (own_cnt f g j)) (Int32.ofNat j) w3 (f j) c3 w6 (g j) c6 X0 hx hZ hw hby hml hown e0 F0 A3 (own_in hj2 S3) at3 F1 A6 (own_in hj2 S6) at6 (own_lt hj2) ((lw_eq _ _).mpr q)
      obtain ⟨T2, X2, e2, st2⟩ := ih (j + 1) T1 (by omega) X1 e1
      refine ⟨T2, X2, e2, fun target kt => st1 target ?_⟩
      have n2 : Int32.ofNat (own_cnt f g j) + (1 : Int32) = Int32.ofNat (own_cnt f g (j + 1)) := by rw [own_cnt_s, if_pos q]; exact (Int32.ofNat_add _ 1).symm
      rw [n1, n2]
      exact st2 target kt
    · obtain ⟨T1, X1, e1, st1⟩ := own_tB o0 o1 (Int32.ofNat (own_cnt f g j)) (Int32.ofNat j) w3 (f j) c3 w6 (g j) c6 X0 hx hZ hw hby hml hown e0 F0 A3 (own_in hj2 S3) at3 F1 A6 (own_in hj2 S6) at6 (own_lt hj2) (fun z => q ((lw_eq _ _).mp z))
      obtain ⟨T2, X2, e2, st2⟩ := ih (j + 1) T1 (by omega) X1 e1
      refine ⟨T2, X2, e2, fun target kt => st1 target ?_⟩
      have n2 : own_cnt f g (j + 1) = own_cnt f g j := by rw [own_cnt_s, if_neg q]; rfl
      rw [n1, ← n2]
      exact st2 target kt
theorem d3_0 : decode prog_1_method_10_code 0 = .ok (.iconst 0, 1) := by decide +kernel
theorem d3_1 : decode prog_1_method_10_code 1 = .ok (.istore_n 2, 1) := by decide +kernel
theorem d3_2 : decode prog_1_method_10_code 2 = .ok (.iconst 0, 1) := by decide +kernel
theorem d3_3 : decode prog_1_method_10_code 3 = .ok (.istore_n 3, 1) := by decide +kernel
theorem d3_36 : decode prog_1_method_10_code 36 = .ok (.iload_n 2, 1) := by decide +kernel
theorem d3_37 : decode prog_1_method_10_code 37 = .ok (.i2d, 1) := by decide +kernel
theorem d3_38 : decode prog_1_method_10_code 38 = .ok (.ldc2_w 112, 3) := by decide +kernel
theorem d3_41 : decode prog_1_method_10_code 41 = .ok (.ddiv, 1) := by decide +kernel
theorem d3_42 : decode prog_1_method_10_code 42 = .ok (.dreturn, 1) := by decide +kernel
theorem pn_3 : plainName "com/example/frontier/frontier/content/Sketch" = true := by first | (simp [plainName, overriddenIn]; done) | decide +kernel
theorem ef_3 (m : MethodId) (x0 : Addr) (x1 : Addr) : entryFrame m #[(.ref x0), (.ref x1)] 4 = mkF m 0 #[.val (.ref x0), .val (.ref x1), .unset, .unset] [] := by first | (simp [entryFrame, mkF, argsToLocals, Value.category]; done) | rfl
def Q3 (Z : State) (a1 : Addr) (a2 : Addr) (w3 w6 : Addr) (c3 c6 : Cell) (f g : Nat → Int64) (h0 : Heap) (n0 : Nat) (v : Option Value) (h : Heap) (L : List Loc) : Prop := v = some (.double (FP.ddiv (FP.i2d (Int32.ofNat (own_cnt f g 200))) (4641240890982006784 : UInt64))) ∧ Fr n0 L ∧ h = h0
set_option maxRecDepth 65536 in
set_option maxHeartbeats 40000000 in
theorem rm3 (l : Launch) (Z : State) (a0 : Array Value) (hw : ∀ d ∈ tables_1, d.before a0 Z = true) (ws : List Jvm.Cond) (a1 : Addr) (a2 : Addr) (w3 w6 : Addr) (c3 c6 : Cell) (f g : Nat → Int64) (h0 : Heap) (n0 : Nat) (Z0 : n0 ≤ h0.size) (F0 : Fld Z h0 a1 "com/example/frontier/frontier/content/Sketch" "values" "[J" (.ref w3)) (A3 : Arr Z h0 w3 c3 .long) (S3 : c3.slots.size = 200) (H3 : ∀ i, i < 200 → c3.slots[i]? = some (.long (f i))) (F1 : Fld Z h0 a2 "com/example/frontier/frontier/content/Sketch" "values" "[J" (.ref w6)) (A6 : Arr Z h0 w6 c6 .long) (S6 : c6.slots.size = 200) (H6 : ∀ i, i < 200 → c6.slots[i]? = some (.long (g i))) :
    MetFree l (⟨"com/example/frontier/frontier/content/Sketch", "similarity", "(Lcom/example/frontier/frontier/content/Sketch;)D"⟩ : MethodName) (head1 (Jvm.Cond.code (⟨"com/example/frontier/frontier/content/Sketch", "similarity", "(Lcom/example/frontier/frontier/content/Sketch;)D"⟩ : MethodName) prog_1_method_10_code 4 (some .double) :: ws) ({ frames := 0, cells := 0, slots := 0, locals := 0 } : Room)) (fun a U => a = #[(.ref a1), (.ref a2)] ∧ Z.Warmed39 U.vm ∧ U.heap = h0) (fun _ _ _ _ _ => True) (fun _ U o U' => ∃ v L, o = .returned v ∧ Q3 Z a1 a2 w3 w6 c3 c6 f g h0 n0 v U'.heap L ∧ FrameEnd U o U' L ({ frames := 0, cells := 0, slots := 0, locals := 0 } : Room).cells ({ frames := 0, cells := 0, slots := 0, locals := 0 } : Room).slots) := by
  refine MetFree.of_bodySF (plainFor_of_name pn_3) hisR ?_
  intro p e s m args below meth c s₁ Bd hml0 hP hK
  obtain ⟨rfl, hZ, hh⟩ := hP
  have hx := Bd.exec
  have hby := Bd.bytes
  have hml : c.maxLocals = 4 := hml0
  have hown : s.vm.findClass "com/example/frontier/frontier/content/Sketch" = some m.cls := findClass_of_methodNamed Bd.named
  have hnm := (name_of_methodNamed Bd.named Bd.method).1
  have X0 : Stand p l e ({ frames := 0, cells := 0, slots := 0, locals := 0 } : Room) s m #[(.ref a1), (.ref a2)] below meth c s₁ [] 0 0 := Stand.of_body Bd
  have e0 : s₁.heap = h0 := by rw [← hh, Bd.state]; rfl
  have N0 := Fr.nil n0
  have pre0 : ∀ t, Steps p.tables e below (s₁.setTop (mkF m 0 #[.val (.ref a1), .val (.ref a2), .unset, .unset] [])) t → Steps p.tables e below (s₁.setTop (entryFrame m #[(.ref a1), (.ref a2)] 4)) t := fun t k => castTop (ef_3 m a1 a2) k

  obtain ⟨TG, XG, eG, stG⟩ := own_loop a1 a2 w3 w6 c3 c6 f g hx hZ hw hby hml hown F0 A3 S3 H3 F1 A6 S6 H6 200 0 s₁ rfl X0 e0
  obtain ⟨fs, hr, hrun, hended, hW, hsame⟩ := XG.leave (v := some (.double (FP.ddiv (FP.i2d (Int32.ofNat (own_cnt f g 200))) (4641240890982006784 : UInt64)))) (fun h => by rw [Bd.returns] at h; cases h)
  refine ⟨_, _, pre0 _ ?_, hrun, hended, _, _, rfl, ?_, ⟨_, rfl⟩, hW, hsame.mono (by decide) (by decide)⟩
  · show Steps p.tables e below (s₁.setTop (mkF m 0 #[.val (.ref a1), .val (.ref a2), .unset, .unset] [])) _
    refine XS.iconst X0.here hx rfl (hb hby d3_0) ?_
    show Steps p.tables e below (s₁.setTop (mkF m 1 #[.val (.ref a1), .val (.ref a2), .unset, .unset] [(.int (0 : Int32))])) _
    refine XS.istoreN X0.here hx rfl (hb hby d3_1) rfl (l' := #[.val (.ref a1), .val (.ref a2), .val (.int (0 : Int32)), .unset]) rfl ?_
    show Steps p.tables e below (s₁.setTop (mkF m 2 #[.val (.ref a1), .val (.ref a2), .val (.int (0 : Int32)), .unset] [])) _
    refine XS.iconst X0.here hx rfl (hb hby d3_2) ?_
    show Steps p.tables e below (s₁.setTop (mkF m 3 #[.val (.ref a1), .val (.ref a2), .val (.int (0 : Int32)), .unset] [(.int (0 : Int32))])) _
    refine XS.istoreN X0.here hx rfl (hb hby d3_3) rfl (l' := #[.val (.ref a1), .val (.ref a2), .val (.int (0 : Int32)), .val (.int (0 : Int32))]) rfl ?_
    show Steps p.tables e below (s₁.setTop (mkF m 4 #[.val (.ref a1), .val (.ref a2), .val (.int (0 : Int32)), .val (.int (0 : Int32))] [])) _
    refine stG _ ?_
    show Steps p.tables e below (TG.setTop (mkF m 36 #[.val (.ref a1), .val (.ref a2), .val (.int (Int32.ofNat (own_cnt f g 200))), .val (.int (Int32.ofNat 200))] [])) _
    refine XS.iloadN XG.here hx rfl (hb hby d3_36) rfl ?_
    show Steps p.tables e below (TG.setTop (mkF m 37 #[.val (.ref a1), .val (.ref a2), .val (.int (Int32.ofNat (own_cnt f g 200))), .val (.int (Int32.ofNat 200))] [(.int (Int32.ofNat (own_cnt f g 200)))])) _
    refine XS.i2dS XG.here hx rfl (hb hby d3_37) rfl rfl ?_
    show Steps p.tables e below (TG.setTop (mkF m 38 #[.val (.ref a1), .val (.ref a2), .val (.int (Int32.ofNat (own_cnt f g 200))), .val (.int (Int32.ofNat 200))] [(.double (FP.i2d (Int32.ofNat (own_cnt f g 200))))])) _
    refine XG.ldc2DoubleC hx hown (mvT hZ (hw _ (List.mem_of_getElem? (i := 28) rfl))) (g := (mkF m 38 #[.val (.ref a1), .val (.ref a2), .val (.int (Int32.ofNat (own_cnt f g 200))), .val (.int (Int32.ofNat 200))] [(.double (FP.i2d (Int32.ofNat (own_cnt f g 200))))])) rfl (hb hby d3_38) _ ?_
    show Steps p.tables e below (TG.setTop (mkF m 41 #[.val (.ref a1), .val (.ref a2), .val (.int (Int32.ofNat (own_cnt f g 200))), .val (.int (Int32.ofNat 200))] [(.double (4641240890982006784 : UInt64)), (.double (FP.i2d (Int32.ofNat (own_cnt f g 200))))])) _
    refine XS.ddivS XG.here hx rfl (hb hby d3_41) rfl (own_nn _) rfl ?_
    show Steps p.tables e below (TG.setTop (mkF m 42 #[.val (.ref a1), .val (.ref a2), .val (.int (Int32.ofNat (own_cnt f g 200))), .val (.int (Int32.ofNat 200))] [(.double (FP.ddiv (FP.i2d (Int32.ofNat (own_cnt f g 200))) (4641240890982006784 : UInt64)))])) _
    jvm_step XG.here [XG.here.top, hx, (hb hby d3_42), XG.method', Bd.returns, narrow]
    first | (intro acts; rw [hr _ acts rfl rfl rfl]) | rw [hr _ _ rfl rfl rfl]
    exact Steps.refl _
  · show Q3 Z a1 a2 w3 w6 c3 c6 f g h0 n0 _ TG.heap _
    rw [eG]
    exact ⟨rfl, N0, rfl⟩
theorem os0_107 {s0 : Slot} {s1 : Slot} {z2 : Value} {z4 : Value} {z6 : Value} {z8 : Value} {s10 : Slot} {s11 : Slot} {z12 : Value} {z13 : Value} {s14 : Slot} {s15 : Slot} {s16 : Slot} {s17 : Slot} {s18 : Slot} {v : Int32} (h : One s16) : storeLocals #[s0, s1, .val z2, .second, .val z4, .second, .val z6, .second, .val z8, .second, s10, s11, .val z12, .val z13, s14, s15, s16, s17, s18] 16 (.int v) = some #[s0, s1, .val z2, .second, .val z4, .second, .val z6, .second, .val z8, .second, s10, s11, .val z12, .val z13, s14, s15, .val (.int v), s17, s18] := by
  rcases h with rfl | ⟨w, rfl, hw⟩
  · rfl
  · cases w <;> first | rfl | (simp [Value.category] at hw)
set_option maxRecDepth 65536 in
set_option maxHeartbeats 40000000 in
theorem own_s_ff {p : Program} {l : Launch} {e : Env} {R : Room} {s : State} {m : MethodId} {args : Array Value} {below : List Frame} {meth : Method} {c : Code} {T0 : State} {locs : List Loc} {cells slots : Nat} {Z : State} {a0 : Array Value} {h0 : Heap} (s0 : Slot) (s1 : Slot) (j2 : Int64) (j4 : Int64) (j6 : Int64) (j8 : Int64) (s10 : Slot) (s11 : Slot) (i12 : Int32) (i13 : Int32) (s14 : Slot) (s15 : Slot) (s16 : Slot) (s17 : Slot) (s18 : Slot)
    (X0 : Stand p l e R s m args below meth c T0 locs cells slots) (hx : p.tables.exec = Jvm.exec) (hZ : Z.Warmed39 s.vm) (hw : ∀ d ∈ tables_1, d.before a0 Z = true) (hby : c.code = code) (hml : c.maxLocals = 19) (hown : s.vm.findClass "com/example/frontier/frontier/content/SketchSimilarityPinLaw" = some m.cls) (e0 : T0.heap = h0) (hs16 : One s16) (hc87 : i12 = i13) (hc98 : (lcmpW j6 j8) = (0 : Int32)) :
    ∃ (T' : State), Stand p l e R s m args below meth c T' locs cells slots ∧ T'.heap = h0 ∧
      ∀ target, Steps p.tables e below (T'.setTop (mkF m 144 #[s0, s1, .val (.long j2), .second, .val (.long j4), .second, .val (.long j6), .second, .val (.long j8), .second, s10, s11, .val (.int i12), .val (.int i13), s14, s15, .val (.int ((199 : Int32) + (1 : Int32))), s17, s18] [])) target → Steps p.tables e below (T0.setTop (mkF m 83 #[s0, s1, .val (.long j2), .second, .val (.long j4), .second, .val (.long j6), .second, .val (.long j8), .second, s10, s11, .val (.int i12), .val (.int i13), s14, s15, s16, s17, s18] [])) target := by

  refine ⟨T0, X0, e0, fun target kt => ?_⟩
  show Steps p.tables e below (T0.setTop (mkF m 83 #[s0, s1, .val (.long j2), .second, .val (.long j4), .second, .val (.long j6), .second, .val (.long j8), .second, s10, s11, .val (.int i12), .val (.int i13), s14, s15, s16, s17, s18] [])) _
  refine XS.iload X0.here hx rfl (hb hby at_83) rfl ?_
  show Steps p.tables e below (T0.setTop (mkF m 85 #[s0, s1, .val (.long j2), .second, .val (.long j4), .second, .val (.long j6), .second, .val (.long j8), .second, s10, s11, .val (.int i12), .val (.int i13), s14, s15, s16, s17, s18] [(.int i12)])) _
  refine XS.iload X0.here hx rfl (hb hby at_85) rfl ?_
  show Steps p.tables e below (T0.setTop (mkF m 87 #[s0, s1, .val (.long j2), .second, .val (.long j4), .second, .val (.long j6), .second, .val (.long j8), .second, s10, s11, .val (.int i12), .val (.int i13), s14, s15, s16, s17, s18] [(.int i13), (.int i12)])) _
  refine XS.icmpNo X0.here hx rfl (hb hby at_87) rfl (teq hc87).2 ?_
  show Steps p.tables e below (T0.setTop (mkF m 90 #[s0, s1, .val (.long j2), .second, .val (.long j4), .second, .val (.long j6), .second, .val (.long j8), .second, s10, s11, .val (.int i12), .val (.int i13), s14, s15, s16, s17, s18] [])) _
  refine XS.sipush X0.here hx rfl (hb hby at_90) ?_
  show Steps p.tables e below (T0.setTop (mkF m 93 #[s0, s1, .val (.long j2), .second, .val (.long j4), .second, .val (.long j6), .second, .val (.long j8), .second, s10, s11, .val (.int i12), .val (.int i13), s14, s15, s16, s17, s18] [(.int (199 : Int32))])) _
  refine XS.lload X0.here hx rfl (hb hby at_93) rfl ?_
  show Steps p.tables e below (T0.setTop (mkF m 95 #[s0, s1, .val (.long j2), .second, .val (.long j4), .second, .val (.long j6), .second, .val (.long j8), .second, s10, s11, .val (.int i12), .val (.int i13), s14, s15, s16, s17, s18] [(.long j6), (.int (199 : Int32))])) _
  refine XS.lload X0.here hx rfl (hb hby at_95) rfl ?_
  show Steps p.tables e below (T0.setTop (mkF m 97 #[s0, s1, .val (.long j2), .second, .val (.long j4), .second, .val (.long j6), .second, .val (.long j8), .second, s10, s11, .val (.int i12), .val (.int i13), s14, s15, s16, s17, s18] [(.long j8), (.long j6), (.int (199 : Int32))])) _
  refine XS.lcmp X0.here hx rfl (hb hby at_97) rfl ?_
  show Steps p.tables e below (T0.setTop (mkF m 98 #[s0, s1, .val (.long j2), .second, .val (.long j4), .second, .val (.long j6), .second, .val (.long j8), .second, s10, s11, .val (.int i12), .val (.int i13), s14, s15, s16, s17, s18] [(.int (lcmpW j6 j8)), (.int (199 : Int32))])) _
  refine XS.ifNo X0.here hx rfl (hb hby at_98) rfl ((if0 _ _).trans (teq hc98).2) ?_
  show Steps p.tables e below (T0.setTop (mkF m 101 #[s0, s1, .val (.long j2), .second, .val (.long j4), .second, .val (.long j6), .second, .val (.long j8), .second, s10, s11, .val (.int i12), .val (.int i13), s14, s15, s16, s17, s18] [(.int (199 : Int32))])) _
  refine XS.iconst X0.here hx rfl (hb hby at_101) ?_
  show Steps p.tables e below (T0.setTop (mkF m 102 #[s0, s1, .val (.long j2), .second, .val (.long j4), .second, .val (.long j6), .second, .val (.long j8), .second, s10, s11, .val (.int i12), .val (.int i13), s14, s15, s16, s17, s18] [(.int (1 : Int32)), (.int (199 : Int32))])) _
  refine XS.goto X0.here hx rfl (pc0 := 102) (pc' := 106) rfl (hb hby at_102) (by decide) (by decide) ?_
  show Steps p.tables e below (T0.setTop (mkF m 106 #[s0, s1, .val (.long j2), .second, .val (.long j4), .second, .val (.long j6), .second, .val (.long j8), .second, s10, s11, .val (.int i12), .val (.int i13), s14, s15, s16, s17, s18] [(.int (1 : Int32)), (.int (199 : Int32))])) _
  refine XS.iadd X0.here hx rfl (hb hby at_106) rfl ?_
  show Steps p.tables e below (T0.setTop (mkF m 107 #[s0, s1, .val (.long j2), .second, .val (.long j4), .second, .val (.long j6), .second, .val (.long j8), .second, s10, s11, .val (.int i12), .val (.int i13), s14, s15, s16, s17, s18] [(.int ((199 : Int32) + (1 : Int32)))])) _
  refine XS.istore X0.here hx rfl (hb hby at_107) rfl (l' := #[s0, s1, .val (.long j2), .second, .val (.long j4), .second, .val (.long j6), .second, .val (.long j8), .second, s10, s11, .val (.int i12), .val (.int i13), s14, s15, .val (.int ((199 : Int32) + (1 : Int32))), s17, s18]) (os0_107 hs16) ?_
  show Steps p.tables e below (T0.setTop (mkF m 109 #[s0, s1, .val (.long j2), .second, .val (.long j4), .second, .val (.long j6), .second, .val (.long j8), .second, s10, s11, .val (.int i12), .val (.int i13), s14, s15, .val (.int ((199 : Int32) + (1 : Int32))), s17, s18] [])) _
  refine XS.goto X0.here hx rfl (pc0 := 109) (pc' := 144) rfl (hb hby at_109) (by decide) (by decide) ?_
  exact kt
set_option maxRecDepth 65536 in
set_option maxHeartbeats 40000000 in
theorem own_s_ft {p : Program} {l : Launch} {e : Env} {R : Room} {s : State} {m : MethodId} {args : Array Value} {below : List Frame} {meth : Method} {c : Code} {T0 : State} {locs : List Loc} {cells slots : Nat} {Z : State} {a0 : Array Value} {h0 : Heap} (s0 : Slot) (s1 : Slot) (j2 : Int64) (j4 : Int64) (j6 : Int64) (j8 : Int64) (s10 : Slot) (s11 : Slot) (i12 : Int32) (i13 : Int32) (s14 : Slot) (s15 : Slot) (s16 : Slot) (s17 : Slot) (s18 : Slot)
    (X0 : Stand p l e R s m args below meth c T0 locs cells slots) (hx : p.tables.exec = Jvm.exec) (hZ : Z.Warmed39 s.vm) (hw : ∀ d ∈ tables_1, d.before a0 Z = true) (hby : c.code = code) (hml : c.maxLocals = 19) (hown : s.vm.findClass "com/example/frontier/frontier/content/SketchSimilarityPinLaw" = some m.cls) (e0 : T0.heap = h0) (hs16 : One s16) (hc87 : i12 = i13) (hc98 : ¬ ((lcmpW j6 j8) = (0 : Int32))) :
    ∃ (T' : State), Stand p l e R s m args below meth c T' locs cells slots ∧ T'.heap = h0 ∧
      ∀ target, Steps p.tables e below (T'.setTop (mkF m 144 #[s0, s1, .val (.long j2), .second, .val (.long j4), .second, .val (.long j6), .second, .val (.long j8), .second, s10, s11, .val (.int i12), .val (.int i13), s14, s15, .val (.int ((199 : Int32) + (0 : Int32))), s17, s18] [])) target → Steps p.tables e below (T0.setTop (mkF m 83 #[s0, s1, .val (.long j2), .second, .val (.long j4), .second, .val (.long j6), .second, .val (.long j8), .second, s10, s11, .val (.int i12), .val (.int i13), s14, s15, s16, s17, s18] [])) target := by

  refine ⟨T0, X0, e0, fun target kt => ?_⟩
  show Steps p.tables e below (T0.setTop (mkF m 83 #[s0, s1, .val (.long j2), .second, .val (.long j4), .second, .val (.long j6), .second, .val (.long j8), .second, s10, s11, .val (.int i12), .val (.int i13), s14, s15, s16, s17, s18] [])) _
  refine XS.iload X0.here hx rfl (hb hby at_83) rfl ?_
  show Steps p.tables e below (T0.setTop (mkF m 85 #[s0, s1, .val (.long j2), .second, .val (.long j4), .second, .val (.long j6), .second, .val (.long j8), .second, s10, s11, .val (.int i12), .val (.int i13), s14, s15, s16, s17, s18] [(.int i12)])) _
  refine XS.iload X0.here hx rfl (hb hby at_85) rfl ?_
  show Steps p.tables e below (T0.setTop (mkF m 87 #[s0, s1, .val (.long j2), .second, .val (.long j4), .second, .val (.long j6), .second, .val (.long j8), .second, s10, s11, .val (.int i12), .val (.int i13), s14, s15, s16, s17, s18] [(.int i13), (.int i12)])) _
  refine XS.icmpNo X0.here hx rfl (hb hby at_87) rfl (teq hc87).2 ?_
  show Steps p.tables e below (T0.setTop (mkF m 90 #[s0, s1, .val (.long j2), .second, .val (.long j4), .second, .val (.long j6), .second, .val (.long j8), .second, s10, s11, .val (.int i12), .val (.int i13), s14, s15, s16, s17, s18] [])) _
  refine XS.sipush X0.here hx rfl (hb hby at_90) ?_
  show Steps p.tables e below (T0.setTop (mkF m 93 #[s0, s1, .val (.long j2), .second, .val (.long j4), .second, .val (.long j6), .second, .val (.long j8), .second, s10, s11, .val (.int i12), .val (.int i13), s14, s15, s16, s17, s18] [(.int (199 : Int32))])) _
  refine XS.lload X0.here hx rfl (hb hby at_93) rfl ?_
  show Steps p.tables e below (T0.setTop (mkF m 95 #[s0, s1, .val (.long j2), .second, .val (.long j4), .second, .val (.long j6), .second, .val (.long j8), .second, s10, s11, .val (.int i12), .val (.int i13), s14, s15, s16, s17, s18] [(.long j6), (.int (199 : Int32))])) _
  refine XS.lload X0.here hx rfl (hb hby at_95) rfl ?_
  show Steps p.tables e below (T0.setTop (mkF m 97 #[s0, s1, .val (.long j2), .second, .val (.long j4), .second, .val (.long j6), .second, .val (.long j8), .second, s10, s11, .val (.int i12), .val (.int i13), s14, s15, s16, s17, s18] [(.long j8), (.long j6), (.int (199 : Int32))])) _
  refine XS.lcmp X0.here hx rfl (hb hby at_97) rfl ?_
  show Steps p.tables e below (T0.setTop (mkF m 98 #[s0, s1, .val (.long j2), .second, .val (.long j4), .second, .val (.long j6), .second, .val (.long j8), .second, s10, s11, .val (.int i12), .val (.int i13), s14, s15, s16, s17, s18] [(.int (lcmpW j6 j8)), (.int (199 : Int32))])) _
  refine XS.ifYes X0.here hx rfl (pc0 := 98) (pc' := 105) rfl (hb hby at_98) rfl ((if0 _ _).trans (feq hc98).2) (by decide) (by decide) ?_
  show Steps p.tables e below (T0.setTop (mkF m 105 #[s0, s1, .val (.long j2), .second, .val (.long j4), .second, .val (.long j6), .second, .val (.long j8), .second, s10, s11, .val (.int i12), .val (.int i13), s14, s15, s16, s17, s18] [(.int (199 : Int32))])) _
  refine XS.iconst X0.here hx rfl (hb hby at_105) ?_
  show Steps p.tables e below (T0.setTop (mkF m 106 #[s0, s1, .val (.long j2), .second, .val (.long j4), .second, .val (.long j6), .second, .val (.long j8), .second, s10, s11, .val (.int i12), .val (.int i13), s14, s15, s16, s17, s18] [(.int (0 : Int32)), (.int (199 : Int32))])) _
  refine XS.iadd X0.here hx rfl (hb hby at_106) rfl ?_
  show Steps p.tables e below (T0.setTop (mkF m 107 #[s0, s1, .val (.long j2), .second, .val (.long j4), .second, .val (.long j6), .second, .val (.long j8), .second, s10, s11, .val (.int i12), .val (.int i13), s14, s15, s16, s17, s18] [(.int ((199 : Int32) + (0 : Int32)))])) _
  refine XS.istore X0.here hx rfl (hb hby at_107) rfl (l' := #[s0, s1, .val (.long j2), .second, .val (.long j4), .second, .val (.long j6), .second, .val (.long j8), .second, s10, s11, .val (.int i12), .val (.int i13), s14, s15, .val (.int ((199 : Int32) + (0 : Int32))), s17, s18]) (os0_107 hs16) ?_
  show Steps p.tables e below (T0.setTop (mkF m 109 #[s0, s1, .val (.long j2), .second, .val (.long j4), .second, .val (.long j6), .second, .val (.long j8), .second, s10, s11, .val (.int i12), .val (.int i13), s14, s15, .val (.int ((199 : Int32) + (0 : Int32))), s17, s18] [])) _
  refine XS.goto X0.here hx rfl (pc0 := 109) (pc' := 144) rfl (hb hby at_109) (by decide) (by decide) ?_
  exact kt
theorem os0_142 {s0 : Slot} {s1 : Slot} {z2 : Value} {z4 : Value} {z6 : Value} {z8 : Value} {s10 : Slot} {s11 : Slot} {z12 : Value} {z13 : Value} {s14 : Slot} {s15 : Slot} {s16 : Slot} {s17 : Slot} {s18 : Slot} {v : Int32} (h : One s16) : storeLocals #[s0, s1, .val z2, .second, .val z4, .second, .val z6, .second, .val z8, .second, s10, s11, .val z12, .val z13, s14, s15, s16, s17, s18] 16 (.int v) = some #[s0, s1, .val z2, .second, .val z4, .second, .val z6, .second, .val z8, .second, s10, s11, .val z12, .val z13, s14, s15, .val (.int v), s17, s18] := by
  rcases h with rfl | ⟨w, rfl, hw⟩
  · rfl
  · cases w <;> first | rfl | (simp [Value.category] at hw)
set_option maxRecDepth 65536 in
set_option maxHeartbeats 40000000 in
theorem own_s_tff {p : Program} {l : Launch} {e : Env} {R : Room} {s : State} {m : MethodId} {args : Array Value} {below : List Frame} {meth : Method} {c : Code} {T0 : State} {locs : List Loc} {cells slots : Nat} {Z : State} {a0 : Array Value} {h0 : Heap} (s0 : Slot) (s1 : Slot) (j2 : Int64) (j4 : Int64) (j6 : Int64) (j8 : Int64) (s10 : Slot) (s11 : Slot) (i12 : Int32) (i13 : Int32) (s14 : Slot) (s15 : Slot) (s16 : Slot) (s17 : Slot) (s18 : Slot)
    (X0 : Stand p l e R s m args below meth c T0 locs cells slots) (hx : p.tables.exec = Jvm.exec) (hZ : Z.Warmed39 s.vm) (hw : ∀ d ∈ tables_1, d.before a0 Z = true) (hby : c.code = code) (hml : c.maxLocals = 19) (hown : s.vm.findClass "com/example/frontier/frontier/content/SketchSimilarityPinLaw" = some m.cls) (e0 : T0.heap = h0) (hs16 : One s16) (hc87 : ¬ (i12 = i13)) (hc119 : (lcmpW j2 j4) = (0 : Int32)) (hc133 : (lcmpW j6 j8) = (0 : Int32)) :
    ∃ (T' : State), Stand p l e R s m args below meth c T' locs cells slots ∧ T'.heap = h0 ∧
      ∀ target, Steps p.tables e below (T'.setTop (mkF m 144 #[s0, s1, .val (.long j2), .second, .val (.long j4), .second, .val (.long j6), .second, .val (.long j8), .second, s10, s11, .val (.int i12), .val (.int i13), s14, s15, .val (.int (((198 : Int32) + (1 : Int32)) + (1 : Int32))), s17, s18] [])) target → Steps p.tables e below (T0.setTop (mkF m 83 #[s0, s1, .val (.long j2), .second, .val (.long j4), .second, .val (.long j6), .second, .val (.long j8), .second, s10, s11, .val (.int i12), .val (.int i13), s14, s15, s16, s17, s18] [])) target := by

  refine ⟨T0, X0, e0, fun target kt => ?_⟩
  show Steps p.tables e below (T0.setTop (mkF m 83 #[s0, s1, .val (.long j2), .second, .val (.long j4), .second, .val (.long j6), .second, .val (.long j8), .second, s10, s11, .val (.int i12), .val (.int i13), s14, s15, s16, s17, s18] [])) _
  refine XS.iload X0.here hx rfl (hb hby at_83) rfl ?_
  show Steps p.tables e below (T0.setTop (mkF m 85 #[s0, s1, .val (.long j2), .second, .val (.long j4), .second, .val (.long j6), .second, .val (.long j8), .second, s10, s11, .val (.int i12), .val (.int i13), s14, s15, s16, s17, s18] [(.int i12)])) _
  refine XS.iload X0.here hx rfl (hb hby at_85) rfl ?_
  show Steps p.tables e below (T0.setTop (mkF m 87 #[s0, s1, .val (.long j2), .second, .val (.long j4), .second, .val (.long j6), .second, .val (.long j8), .second, s10, s11, .val (.int i12), .val (.int i13), s14, s15, s16, s17, s18] [(.int i13), (.int i12)])) _
  refine XS.icmpYes X0.here hx rfl (pc0 := 87) (pc' := 112) rfl (hb hby at_87) rfl (feq hc87).2 (by decide) (by decide) ?_
  show Steps p.tables e below (T0.setTop (mkF m 112 #[s0, s1, .val (.long j2), .second, .val (.long j4), .second, .val (.long j6), .second, .val (.long j8), .second, s10, s11, .val (.int i12), .val (.int i13), s14, s15, s16, s17, s18] [])) _
  refine XS.sipush X0.here hx rfl (hb hby at_112) ?_
  show Steps p.tables e below (T0.setTop (mkF m 115 #[s0, s1, .val (.long j2), .second, .val (.long j4), .second, .val (.long j6), .second, .val (.long j8), .second, s10, s11, .val (.int i12), .val (.int i13), s14, s15, s16, s17, s18] [(.int (198 : Int32))])) _
  refine XS.lloadN X0.here hx rfl (hb hby at_115) rfl ?_
  show Steps p.tables e below (T0.setTop (mkF m 116 #[s0, s1, .val (.long j2), .second, .val (.long j4), .second, .val (.long j6), .second, .val (.long j8), .second, s10, s11, .val (.int i12), .val (.int i13), s14, s15, s16, s17, s18] [(.long j2), (.int (198 : Int32))])) _
  refine XS.lload X0.here hx rfl (hb hby at_116) rfl ?_
  show Steps p.tables e below (T0.setTop (mkF m 118 #[s0, s1, .val (.long j2), .second, .val (.long j4), .second, .val (.long j6), .second, .val (.long j8), .second, s10, s11, .val (.int i12), .val (.int i13), s14, s15, s16, s17, s18] [(.long j4), (.long j2), (.int (198 : Int32))])) _
  refine XS.lcmp X0.here hx rfl (hb hby at_118) rfl ?_
  show Steps p.tables e below (T0.setTop (mkF m 119 #[s0, s1, .val (.long j2), .second, .val (.long j4), .second, .val (.long j6), .second, .val (.long j8), .second, s10, s11, .val (.int i12), .val (.int i13), s14, s15, s16, s17, s18] [(.int (lcmpW j2 j4)), (.int (198 : Int32))])) _
  refine XS.ifNo X0.here hx rfl (hb hby at_119) rfl ((if0 _ _).trans (teq hc119).2) ?_
  show Steps p.tables e below (T0.setTop (mkF m 122 #[s0, s1, .val (.long j2), .second, .val (.long j4), .second, .val (.long j6), .second, .val (.long j8), .second, s10, s11, .val (.int i12), .val (.int i13), s14, s15, s16, s17, s18] [(.int (198 : Int32))])) _
  refine XS.iconst X0.here hx rfl (hb hby at_122) ?_
  show Steps p.tables e below (T0.setTop (mkF m 123 #[s0, s1, .val (.long j2), .second, .val (.long j4), .second, .val (.long j6), .second, .val (.long j8), .second, s10, s11, .val (.int i12), .val (.int i13), s14, s15, s16, s17, s18] [(.int (1 : Int32)), (.int (198 : Int32))])) _
  refine XS.goto X0.here hx rfl (pc0 := 123) (pc' := 127) rfl (hb hby at_123) (by decide) (by decide) ?_
  show Steps p.tables e below (T0.setTop (mkF m 127 #[s0, s1, .val (.long j2), .second, .val (.long j4), .second, .val (.long j6), .second, .val (.long j8), .second, s10, s11, .val (.int i12), .val (.int i13), s14, s15, s16, s17, s18] [(.int (1 : Int32)), (.int (198 : Int32))])) _
  refine XS.iadd X0.here hx rfl (hb hby at_127) rfl ?_
  show Steps p.tables e below (T0.setTop (mkF m 128 #[s0, s1, .val (.long j2), .second, .val (.long j4), .second, .val (.long j6), .second, .val (.long j8), .second, s10, s11, .val (.int i12), .val (.int i13), s14, s15, s16, s17, s18] [(.int ((198 : Int32) + (1 : Int32)))])) _
  refine XS.lload X0.here hx rfl (hb hby at_128) rfl ?_
  show Steps p.tables e below (T0.setTop (mkF m 130 #[s0, s1, .val (.long j2), .second, .val (.long j4), .second, .val (.long j6), .second, .val (.long j8), .second, s10, s11, .val (.int i12), .val (.int i13), s14, s15, s16, s17, s18] [(.long j6), (.int ((198 : Int32) + (1 : Int32)))])) _
  refine XS.lload X0.here hx rfl (hb hby at_130) rfl ?_
  show Steps p.tables e below (T0.setTop (mkF m 132 #[s0, s1, .val (.long j2), .second, .val (.long j4), .second, .val (.long j6), .second, .val (.long j8), .second, s10, s11, .val (.int i12), .val (.int i13), s14, s15, s16, s17, s18] [(.long j8), (.long j6), (.int ((198 : Int32) + (1 : Int32)))])) _
  refine XS.lcmp X0.here hx rfl (hb hby at_132) rfl ?_
  show Steps p.tables e below (T0.setTop (mkF m 133 #[s0, s1, .val (.long j2), .second, .val (.long j4), .second, .val (.long j6), .second, .val (.long j8), .second, s10, s11, .val (.int i12), .val (.int i13), s14, s15, s16, s17, s18] [(.int (lcmpW j6 j8)), (.int ((198 : Int32) + (1 : Int32)))])) _
  refine XS.ifNo X0.here hx rfl (hb hby at_133) rfl ((if0 _ _).trans (teq hc133).2) ?_
  show Steps p.tables e below (T0.setTop (mkF m 136 #[s0, s1, .val (.long j2), .second, .val (.long j4), .second, .val (.long j6), .second, .val (.long j8), .second, s10, s11, .val (.int i12), .val (.int i13), s14, s15, s16, s17, s18] [(.int ((198 : Int32) + (1 : Int32)))])) _
  refine XS.iconst X0.here hx rfl (hb hby at_136) ?_
  show Steps p.tables e below (T0.setTop (mkF m 137 #[s0, s1, .val (.long j2), .second, .val (.long j4), .second, .val (.long j6), .second, .val (.long j8), .second, s10, s11, .val (.int i12), .val (.int i13), s14, s15, s16, s17, s18] [(.int (1 : Int32)), (.int ((198 : Int32) + (1 : Int32)))])) _
  refine XS.goto X0.here hx rfl (pc0 := 137) (pc' := 141) rfl (hb hby at_137) (by decide) (by decide) ?_
  show Steps p.tables e below (T0.setTop (mkF m 141 #[s0, s1, .val (.long j2), .second, .val (.long j4), .second, .val (.long j6), .second, .val (.long j8), .second, s10, s11, .val (.int i12), .val (.int i13), s14, s15, s16, s17, s18] [(.int (1 : Int32)), (.int ((198 : Int32) + (1 : Int32)))])) _
  refine XS.iadd X0.here hx rfl (hb hby at_141) rfl ?_
  show Steps p.tables e below (T0.setTop (mkF m 142 #[s0, s1, .val (.long j2), .second, .val (.long j4), .second, .val (.long j6), .second, .val (.long j8), .second, s10, s11, .val (.int i12), .val (.int i13), s14, s15, s16, s17, s18] [(.int (((198 : Int32) + (1 : Int32)) + (1 : Int32)))])) _
  refine XS.istore X0.here hx rfl (hb hby at_142) rfl (l' := #[s0, s1, .val (.long j2), .second, .val (.long j4), .second, .val (.long j6), .second, .val (.long j8), .second, s10, s11, .val (.int i12), .val (.int i13), s14, s15, .val (.int (((198 : Int32) + (1 : Int32)) + (1 : Int32))), s17, s18]) (os0_142 hs16) ?_
  exact kt
set_option maxRecDepth 65536 in
set_option maxHeartbeats 40000000 in
theorem own_s_tft {p : Program} {l : Launch} {e : Env} {R : Room} {s : State} {m : MethodId} {args : Array Value} {below : List Frame} {meth : Method} {c : Code} {T0 : State} {locs : List Loc} {cells slots : Nat} {Z : State} {a0 : Array Value} {h0 : Heap} (s0 : Slot) (s1 : Slot) (j2 : Int64) (j4 : Int64) (j6 : Int64) (j8 : Int64) (s10 : Slot) (s11 : Slot) (i12 : Int32) (i13 : Int32) (s14 : Slot) (s15 : Slot) (s16 : Slot) (s17 : Slot) (s18 : Slot)
    (X0 : Stand p l e R s m args below meth c T0 locs cells slots) (hx : p.tables.exec = Jvm.exec) (hZ : Z.Warmed39 s.vm) (hw : ∀ d ∈ tables_1, d.before a0 Z = true) (hby : c.code = code) (hml : c.maxLocals = 19) (hown : s.vm.findClass "com/example/frontier/frontier/content/SketchSimilarityPinLaw" = some m.cls) (e0 : T0.heap = h0) (hs16 : One s16) (hc87 : ¬ (i12 = i13)) (hc119 : (lcmpW j2 j4) = (0 : Int32)) (hc133 : ¬ ((lcmpW j6 j8) = (0 : Int32))) :
    ∃ (T' : State), Stand p l e R s m args below meth c T' locs cells slots ∧ T'.heap = h0 ∧
      ∀ target, Steps p.tables e below (T'.setTop (mkF m 144 #[s0, s1, .val (.long j2), .second, .val (.long j4), .second, .val (.long j6), .second, .val (.long j8), .second, s10, s11, .val (.int i12), .val (.int i13), s14, s15, .val (.int (((198 : Int32) + (1 : Int32)) + (0 : Int32))), s17, s18] [])) target → Steps p.tables e below (T0.setTop (mkF m 83 #[s0, s1, .val (.long j2), .second, .val (.long j4), .second, .val (.long j6), .second, .val (.long j8), .second, s10, s11, .val (.int i12), .val (.int i13), s14, s15, s16, s17, s18] [])) target := by

  refine ⟨T0, X0, e0, fun target kt => ?_⟩
  show Steps p.tables e below (T0.setTop (mkF m 83 #[s0, s1, .val (.long j2), .second, .val (.long j4), .second, .val (.long j6), .second, .val (.long j8), .second, s10, s11, .val (.int i12), .val (.int i13), s14, s15, s16, s17, s18] [])) _
  refine XS.iload X0.here hx rfl (hb hby at_83) rfl ?_
  show Steps p.tables e below (T0.setTop (mkF m 85 #[s0, s1, .val (.long j2), .second, .val (.long j4), .second, .val (.long j6), .second, .val (.long j8), .second, s10, s11, .val (.int i12), .val (.int i13), s14, s15, s16, s17, s18] [(.int i12)])) _
  refine XS.iload X0.here hx rfl (hb hby at_85) rfl ?_
  show Steps p.tables e below (T0.setTop (mkF m 87 #[s0, s1, .val (.long j2), .second, .val (.long j4), .second, .val (.long j6), .second, .val (.long j8), .second, s10, s11, .val (.int i12), .val (.int i13), s14, s15, s16, s17, s18] [(.int i13), (.int i12)])) _
  refine XS.icmpYes X0.here hx rfl (pc0 := 87) (pc' := 112) rfl (hb hby at_87) rfl (feq hc87).2 (by decide) (by decide) ?_
  show Steps p.tables e below (T0.setTop (mkF m 112 #[s0, s1, .val (.long j2), .second, .val (.long j4), .second, .val (.long j6), .second, .val (.long j8), .second, s10, s11, .val (.int i12), .val (.int i13), s14, s15, s16, s17, s18] [])) _
  refine XS.sipush X0.here hx rfl (hb hby at_112) ?_
  show Steps p.tables e below (T0.setTop (mkF m 115 #[s0, s1, .val (.long j2), .second, .val (.long j4), .second, .val (.long j6), .second, .val (.long j8), .second, s10, s11, .val (.int i12), .val (.int i13), s14, s15, s16, s17, s18] [(.int (198 : Int32))])) _
  refine XS.lloadN X0.here hx rfl (hb hby at_115) rfl ?_
  show Steps p.tables e below (T0.setTop (mkF m 116 #[s0, s1, .val (.long j2), .second, .val (.long j4), .second, .val (.long j6), .second, .val (.long j8), .second, s10, s11, .val (.int i12), .val (.int i13), s14, s15, s16, s17, s18] [(.long j2), (.int (198 : Int32))])) _
  refine XS.lload X0.here hx rfl (hb hby at_116) rfl ?_
  show Steps p.tables e below (T0.setTop (mkF m 118 #[s0, s1, .val (.long j2), .second, .val (.long j4), .second, .val (.long j6), .second, .val (.long j8), .second, s10, s11, .val (.int i12), .val (.int i13), s14, s15, s16, s17, s18] [(.long j4), (.long j2), (.int (198 : Int32))])) _
  refine XS.lcmp X0.here hx rfl (hb hby at_118) rfl ?_
  show Steps p.tables e below (T0.setTop (mkF m 119 #[s0, s1, .val (.long j2), .second, .val (.long j4), .second, .val (.long j6), .second, .val (.long j8), .second, s10, s11, .val (.int i12), .val (.int i13), s14, s15, s16, s17, s18] [(.int (lcmpW j2 j4)), (.int (198 : Int32))])) _
  refine XS.ifNo X0.here hx rfl (hb hby at_119) rfl ((if0 _ _).trans (teq hc119).2) ?_
  show Steps p.tables e below (T0.setTop (mkF m 122 #[s0, s1, .val (.long j2), .second, .val (.long j4), .second, .val (.long j6), .second, .val (.long j8), .second, s10, s11, .val (.int i12), .val (.int i13), s14, s15, s16, s17, s18] [(.int (198 : Int32))])) _
  refine XS.iconst X0.here hx rfl (hb hby at_122) ?_
  show Steps p.tables e below (T0.setTop (mkF m 123 #[s0, s1, .val (.long j2), .second, .val (.long j4), .second, .val (.long j6), .second, .val (.long j8), .second, s10, s11, .val (.int i12), .val (.int i13), s14, s15, s16, s17, s18] [(.int (1 : Int32)), (.int (198 : Int32))])) _
  refine XS.goto X0.here hx rfl (pc0 := 123) (pc' := 127) rfl (hb hby at_123) (by decide) (by decide) ?_
  show Steps p.tables e below (T0.setTop (mkF m 127 #[s0, s1, .val (.long j2), .second, .val (.long j4), .second, .val (.long j6), .second, .val (.long j8), .second, s10, s11, .val (.int i12), .val (.int i13), s14, s15, s16, s17, s18] [(.int (1 : Int32)), (.int (198 : Int32))])) _
  refine XS.iadd X0.here hx rfl (hb hby at_127) rfl ?_
  show Steps p.tables e below (T0.setTop (mkF m 128 #[s0, s1, .val (.long j2), .second, .val (.long j4), .second, .val (.long j6), .second, .val (.long j8), .second, s10, s11, .val (.int i12), .val (.int i13), s14, s15, s16, s17, s18] [(.int ((198 : Int32) + (1 : Int32)))])) _
  refine XS.lload X0.here hx rfl (hb hby at_128) rfl ?_
  show Steps p.tables e below (T0.setTop (mkF m 130 #[s0, s1, .val (.long j2), .second, .val (.long j4), .second, .val (.long j6), .second, .val (.long j8), .second, s10, s11, .val (.int i12), .val (.int i13), s14, s15, s16, s17, s18] [(.long j6), (.int ((198 : Int32) + (1 : Int32)))])) _
  refine XS.lload X0.here hx rfl (hb hby at_130) rfl ?_
  show Steps p.tables e below (T0.setTop (mkF m 132 #[s0, s1, .val (.long j2), .second, .val (.long j4), .second, .val (.long j6), .second, .val (.long j8), .second, s10, s11, .val (.int i12), .val (.int i13), s14, s15, s16, s17, s18] [(.long j8), (.long j6), (.int ((198 : Int32) + (1 : Int32)))])) _
  refine XS.lcmp X0.here hx rfl (hb hby at_132) rfl ?_
  show Steps p.tables e below (T0.setTop (mkF m 133 #[s0, s1, .val (.long j2), .second, .val (.long j4), .second, .val (.long j6), .second, .val (.long j8), .second, s10, s11, .val (.int i12), .val (.int i13), s14, s15, s16, s17, s18] [(.int (lcmpW j6 j8)), (.int ((198 : Int32) + (1 : Int32)))])) _
  refine XS.ifYes X0.here hx rfl (pc0 := 133) (pc' := 140) rfl (hb hby at_133) rfl ((if0 _ _).trans (feq hc133).2) (by decide) (by decide) ?_
  show Steps p.tables e below (T0.setTop (mkF m 140 #[s0, s1, .val (.long j2), .second, .val (.long j4), .second, .val (.long j6), .second, .val (.long j8), .second, s10, s11, .val (.int i12), .val (.int i13), s14, s15, s16, s17, s18] [(.int ((198 : Int32) + (1 : Int32)))])) _
  refine XS.iconst X0.here hx rfl (hb hby at_140) ?_
  show Steps p.tables e below (T0.setTop (mkF m 141 #[s0, s1, .val (.long j2), .second, .val (.long j4), .second, .val (.long j6), .second, .val (.long j8), .second, s10, s11, .val (.int i12), .val (.int i13), s14, s15, s16, s17, s18] [(.int (0 : Int32)), (.int ((198 : Int32) + (1 : Int32)))])) _
  refine XS.iadd X0.here hx rfl (hb hby at_141) rfl ?_
  show Steps p.tables e below (T0.setTop (mkF m 142 #[s0, s1, .val (.long j2), .second, .val (.long j4), .second, .val (.long j6), .second, .val (.long j8), .second, s10, s11, .val (.int i12), .val (.int i13), s14, s15, s16, s17, s18] [(.int (((198 : Int32) + (1 : Int32)) + (0 : Int32)))])) _
  refine XS.istore X0.here hx rfl (hb hby at_142) rfl (l' := #[s0, s1, .val (.long j2), .second, .val (.long j4), .second, .val (.long j6), .second, .val (.long j8), .second, s10, s11, .val (.int i12), .val (.int i13), s14, s15, .val (.int (((198 : Int32) + (1 : Int32)) + (0 : Int32))), s17, s18]) (os0_142 hs16) ?_
  exact kt
set_option maxRecDepth 65536 in
set_option maxHeartbeats 40000000 in
theorem own_s_ttf {p : Program} {l : Launch} {e : Env} {R : Room} {s : State} {m : MethodId} {args : Array Value} {below : List Frame} {meth : Method} {c : Code} {T0 : State} {locs : List Loc} {cells slots : Nat} {Z : State} {a0 : Array Value} {h0 : Heap} (s0 : Slot) (s1 : Slot) (j2 : Int64) (j4 : Int64) (j6 : Int64) (j8 : Int64) (s10 : Slot) (s11 : Slot) (i12 : Int32) (i13 : Int32) (s14 : Slot) (s15 : Slot) (s16 : Slot) (s17 : Slot) (s18 : Slot)
    (X0 : Stand p l e R s m args below meth c T0 locs cells slots) (hx : p.tables.exec = Jvm.exec) (hZ : Z.Warmed39 s.vm) (hw : ∀ d ∈ tables_1, d.before a0 Z = true) (hby : c.code = code) (hml : c.maxLocals = 19) (hown : s.vm.findClass "com/example/frontier/frontier/content/SketchSimilarityPinLaw" = some m.cls) (e0 : T0.heap = h0) (hs16 : One s16) (hc87 : ¬ (i12 = i13)) (hc119 : ¬ ((lcmpW j2 j4) = (0 : Int32))) (hc133 : (lcmpW j6 j8) = (0 : Int32)) :
    ∃ (T' : State), Stand p l e R s m args below meth c T' locs cells slots ∧ T'.heap = h0 ∧
      ∀ target, Steps p.tables e below (T'.setTop (mkF m 144 #[s0, s1, .val (.long j2), .second, .val (.long j4), .second, .val (.long j6), .second, .val (.long j8), .second, s10, s11, .val (.int i12), .val (.int i13), s14, s15, .val (.int (((198 : Int32) + (0 : Int32)) + (1 : Int32))), s17, s18] [])) target → Steps p.tables e below (T0.setTop (mkF m 83 #[s0, s1, .val (.long j2), .second, .val (.long j4), .second, .val (.long j6), .second, .val (.long j8), .second, s10, s11, .val (.int i12), .val (.int i13), s14, s15, s16, s17, s18] [])) target := by

  refine ⟨T0, X0, e0, fun target kt => ?_⟩
  show Steps p.tables e below (T0.setTop (mkF m 83 #[s0, s1, .val (.long j2), .second, .val (.long j4), .second, .val (.long j6), .second, .val (.long j8), .second, s10, s11, .val (.int i12), .val (.int i13), s14, s15, s16, s17, s18] [])) _
  refine XS.iload X0.here hx rfl (hb hby at_83) rfl ?_
  show Steps p.tables e below (T0.setTop (mkF m 85 #[s0, s1, .val (.long j2), .second, .val (.long j4), .second, .val (.long j6), .second, .val (.long j8), .second, s10, s11, .val (.int i12), .val (.int i13), s14, s15, s16, s17, s18] [(.int i12)])) _
  refine XS.iload X0.here hx rfl (hb hby at_85) rfl ?_
  show Steps p.tables e below (T0.setTop (mkF m 87 #[s0, s1, .val (.long j2), .second, .val (.long j4), .second, .val (.long j6), .second, .val (.long j8), .second, s10, s11, .val (.int i12), .val (.int i13), s14, s15, s16, s17, s18] [(.int i13), (.int i12)])) _
  refine XS.icmpYes X0.here hx rfl (pc0 := 87) (pc' := 112) rfl (hb hby at_87) rfl (feq hc87).2 (by decide) (by decide) ?_
  show Steps p.tables e below (T0.setTop (mkF m 112 #[s0, s1, .val (.long j2), .second, .val (.long j4), .second, .val (.long j6), .second, .val (.long j8), .second, s10, s11, .val (.int i12), .val (.int i13), s14, s15, s16, s17, s18] [])) _
  refine XS.sipush X0.here hx rfl (hb hby at_112) ?_
  show Steps p.tables e below (T0.setTop (mkF m 115 #[s0, s1, .val (.long j2), .second, .val (.long j4), .second, .val (.long j6), .second, .val (.long j8), .second, s10, s11, .val (.int i12), .val (.int i13), s14, s15, s16, s17, s18] [(.int (198 : Int32))])) _
  refine XS.lloadN X0.here hx rfl (hb hby at_115) rfl ?_
  show Steps p.tables e below (T0.setTop (mkF m 116 #[s0, s1, .val (.long j2), .second, .val (.long j4), .second, .val (.long j6), .second, .val (.long j8), .second, s10, s11, .val (.int i12), .val (.int i13), s14, s15, s16, s17, s18] [(.long j2), (.int (198 : Int32))])) _
  refine XS.lload X0.here hx rfl (hb hby at_116) rfl ?_
  show Steps p.tables e below (T0.setTop (mkF m 118 #[s0, s1, .val (.long j2), .second, .val (.long j4), .second, .val (.long j6), .second, .val (.long j8), .second, s10, s11, .val (.int i12), .val (.int i13), s14, s15, s16, s17, s18] [(.long j4), (.long j2), (.int (198 : Int32))])) _
  refine XS.lcmp X0.here hx rfl (hb hby at_118) rfl ?_
  show Steps p.tables e below (T0.setTop (mkF m 119 #[s0, s1, .val (.long j2), .second, .val (.long j4), .second, .val (.long j6), .second, .val (.long j8), .second, s10, s11, .val (.int i12), .val (.int i13), s14, s15, s16, s17, s18] [(.int (lcmpW j2 j4)), (.int (198 : Int32))])) _
  refine XS.ifYes X0.here hx rfl (pc0 := 119) (pc' := 126) rfl (hb hby at_119) rfl ((if0 _ _).trans (feq hc119).2) (by decide) (by decide) ?_
  show Steps p.tables e below (T0.setTop (mkF m 126 #[s0, s1, .val (.long j2), .second, .val (.long j4), .second, .val (.long j6), .second, .val (.long j8), .second, s10, s11, .val (.int i12), .val (.int i13), s14, s15, s16, s17, s18] [(.int (198 : Int32))])) _
  refine XS.iconst X0.here hx rfl (hb hby at_126) ?_
  show Steps p.tables e below (T0.setTop (mkF m 127 #[s0, s1, .val (.long j2), .second, .val (.long j4), .second, .val (.long j6), .second, .val (.long j8), .second, s10, s11, .val (.int i12), .val (.int i13), s14, s15, s16, s17, s18] [(.int (0 : Int32)), (.int (198 : Int32))])) _
  refine XS.iadd X0.here hx rfl (hb hby at_127) rfl ?_
  show Steps p.tables e below (T0.setTop (mkF m 128 #[s0, s1, .val (.long j2), .second, .val (.long j4), .second, .val (.long j6), .second, .val (.long j8), .second, s10, s11, .val (.int i12), .val (.int i13), s14, s15, s16, s17, s18] [(.int ((198 : Int32) + (0 : Int32)))])) _
  refine XS.lload X0.here hx rfl (hb hby at_128) rfl ?_
  show Steps p.tables e below (T0.setTop (mkF m 130 #[s0, s1, .val (.long j2), .second, .val (.long j4), .second, .val (.long j6), .second, .val (.long j8), .second, s10, s11, .val (.int i12), .val (.int i13), s14, s15, s16, s17, s18] [(.long j6), (.int ((198 : Int32) + (0 : Int32)))])) _
  refine XS.lload X0.here hx rfl (hb hby at_130) rfl ?_
  show Steps p.tables e below (T0.setTop (mkF m 132 #[s0, s1, .val (.long j2), .second, .val (.long j4), .second, .val (.long j6), .second, .val (.long j8), .second, s10, s11, .val (.int i12), .val (.int i13), s14, s15, s16, s17, s18] [(.long j8), (.long j6), (.int ((198 : Int32) + (0 : Int32)))])) _
  refine XS.lcmp X0.here hx rfl (hb hby at_132) rfl ?_
  show Steps p.tables e below (T0.setTop (mkF m 133 #[s0, s1, .val (.long j2), .second, .val (.long j4), .second, .val (.long j6), .second, .val (.long j8), .second, s10, s11, .val (.int i12), .val (.int i13), s14, s15, s16, s17, s18] [(.int (lcmpW j6 j8)), (.int ((198 : Int32) + (0 : Int32)))])) _
  refine XS.ifNo X0.here hx rfl (hb hby at_133) rfl ((if0 _ _).trans (teq hc133).2) ?_
  show Steps p.tables e below (T0.setTop (mkF m 136 #[s0, s1, .val (.long j2), .second, .val (.long j4), .second, .val (.long j6), .second, .val (.long j8), .second, s10, s11, .val (.int i12), .val (.int i13), s14, s15, s16, s17, s18] [(.int ((198 : Int32) + (0 : Int32)))])) _
  refine XS.iconst X0.here hx rfl (hb hby at_136) ?_
  show Steps p.tables e below (T0.setTop (mkF m 137 #[s0, s1, .val (.long j2), .second, .val (.long j4), .second, .val (.long j6), .second, .val (.long j8), .second, s10, s11, .val (.int i12), .val (.int i13), s14, s15, s16, s17, s18] [(.int (1 : Int32)), (.int ((198 : Int32) + (0 : Int32)))])) _
  refine XS.goto X0.here hx rfl (pc0 := 137) (pc' := 141) rfl (hb hby at_137) (by decide) (by decide) ?_
  show Steps p.tables e below (T0.setTop (mkF m 141 #[s0, s1, .val (.long j2), .second, .val (.long j4), .second, .val (.long j6), .second, .val (.long j8), .second, s10, s11, .val (.int i12), .val (.int i13), s14, s15, s16, s17, s18] [(.int (1 : Int32)), (.int ((198 : Int32) + (0 : Int32)))])) _
  refine XS.iadd X0.here hx rfl (hb hby at_141) rfl ?_
  show Steps p.tables e below (T0.setTop (mkF m 142 #[s0, s1, .val (.long j2), .second, .val (.long j4), .second, .val (.long j6), .second, .val (.long j8), .second, s10, s11, .val (.int i12), .val (.int i13), s14, s15, s16, s17, s18] [(.int (((198 : Int32) + (0 : Int32)) + (1 : Int32)))])) _
  refine XS.istore X0.here hx rfl (hb hby at_142) rfl (l' := #[s0, s1, .val (.long j2), .second, .val (.long j4), .second, .val (.long j6), .second, .val (.long j8), .second, s10, s11, .val (.int i12), .val (.int i13), s14, s15, .val (.int (((198 : Int32) + (0 : Int32)) + (1 : Int32))), s17, s18]) (os0_142 hs16) ?_
  exact kt
set_option maxRecDepth 65536 in
set_option maxHeartbeats 40000000 in
theorem own_s_ttt {p : Program} {l : Launch} {e : Env} {R : Room} {s : State} {m : MethodId} {args : Array Value} {below : List Frame} {meth : Method} {c : Code} {T0 : State} {locs : List Loc} {cells slots : Nat} {Z : State} {a0 : Array Value} {h0 : Heap} (s0 : Slot) (s1 : Slot) (j2 : Int64) (j4 : Int64) (j6 : Int64) (j8 : Int64) (s10 : Slot) (s11 : Slot) (i12 : Int32) (i13 : Int32) (s14 : Slot) (s15 : Slot) (s16 : Slot) (s17 : Slot) (s18 : Slot)
    (X0 : Stand p l e R s m args below meth c T0 locs cells slots) (hx : p.tables.exec = Jvm.exec) (hZ : Z.Warmed39 s.vm) (hw : ∀ d ∈ tables_1, d.before a0 Z = true) (hby : c.code = code) (hml : c.maxLocals = 19) (hown : s.vm.findClass "com/example/frontier/frontier/content/SketchSimilarityPinLaw" = some m.cls) (e0 : T0.heap = h0) (hs16 : One s16) (hc87 : ¬ (i12 = i13)) (hc119 : ¬ ((lcmpW j2 j4) = (0 : Int32))) (hc133 : ¬ ((lcmpW j6 j8) = (0 : Int32))) :
    ∃ (T' : State), Stand p l e R s m args below meth c T' locs cells slots ∧ T'.heap = h0 ∧
      ∀ target, Steps p.tables e below (T'.setTop (mkF m 144 #[s0, s1, .val (.long j2), .second, .val (.long j4), .second, .val (.long j6), .second, .val (.long j8), .second, s10, s11, .val (.int i12), .val (.int i13), s14, s15, .val (.int (((198 : Int32) + (0 : Int32)) + (0 : Int32))), s17, s18] [])) target → Steps p.tables e below (T0.setTop (mkF m 83 #[s0, s1, .val (.long j2), .second, .val (.long j4), .second, .val (.long j6), .second, .val (.long j8), .second, s10, s11, .val (.int i12), .val (.int i13), s14, s15, s16, s17, s18] [])) target := by

  refine ⟨T0, X0, e0, fun target kt => ?_⟩
  show Steps p.tables e below (T0.setTop (mkF m 83 #[s0, s1, .val (.long j2), .second, .val (.long j4), .second, .val (.long j6), .second, .val (.long j8), .second, s10, s11, .val (.int i12), .val (.int i13), s14, s15, s16, s17, s18] [])) _
  refine XS.iload X0.here hx rfl (hb hby at_83) rfl ?_
  show Steps p.tables e below (T0.setTop (mkF m 85 #[s0, s1, .val (.long j2), .second, .val (.long j4), .second, .val (.long j6), .second, .val (.long j8), .second, s10, s11, .val (.int i12), .val (.int i13), s14, s15, s16, s17, s18] [(.int i12)])) _
  refine XS.iload X0.here hx rfl (hb hby at_85) rfl ?_
  show Steps p.tables e below (T0.setTop (mkF m 87 #[s0, s1, .val (.long j2), .second, .val (.long j4), .second, .val (.long j6), .second, .val (.long j8), .second, s10, s11, .val (.int i12), .val (.int i13), s14, s15, s16, s17, s18] [(.int i13), (.int i12)])) _
  refine XS.icmpYes X0.here hx rfl (pc0 := 87) (pc' := 112) rfl (hb hby at_87) rfl (feq hc87).2 (by decide) (by decide) ?_
  show Steps p.tables e below (T0.setTop (mkF m 112 #[s0, s1, .val (.long j2), .second, .val (.long j4), .second, .val (.long j6), .second, .val (.long j8), .second, s10, s11, .val (.int i12), .val (.int i13), s14, s15, s16, s17, s18] [])) _
  refine XS.sipush X0.here hx rfl (hb hby at_112) ?_
  show Steps p.tables e below (T0.setTop (mkF m 115 #[s0, s1, .val (.long j2), .second, .val (.long j4), .second, .val (.long j6), .second, .val (.long j8), .second, s10, s11, .val (.int i12), .val (.int i13), s14, s15, s16, s17, s18] [(.int (198 : Int32))])) _
  refine XS.lloadN X0.here hx rfl (hb hby at_115) rfl ?_
  show Steps p.tables e below (T0.setTop (mkF m 116 #[s0, s1, .val (.long j2), .second, .val (.long j4), .second, .val (.long j6), .second, .val (.long j8), .second, s10, s11, .val (.int i12), .val (.int i13), s14, s15, s16, s17, s18] [(.long j2), (.int (198 : Int32))])) _
  refine XS.lload X0.here hx rfl (hb hby at_116) rfl ?_
  show Steps p.tables e below (T0.setTop (mkF m 118 #[s0, s1, .val (.long j2), .second, .val (.long j4), .second, .val (.long j6), .second, .val (.long j8), .second, s10, s11, .val (.int i12), .val (.int i13), s14, s15, s16, s17, s18] [(.long j4), (.long j2), (.int (198 : Int32))])) _
  refine XS.lcmp X0.here hx rfl (hb hby at_118) rfl ?_
  show Steps p.tables e below (T0.setTop (mkF m 119 #[s0, s1, .val (.long j2), .second, .val (.long j4), .second, .val (.long j6), .second, .val (.long j8), .second, s10, s11, .val (.int i12), .val (.int i13), s14, s15, s16, s17, s18] [(.int (lcmpW j2 j4)), (.int (198 : Int32))])) _
  refine XS.ifYes X0.here hx rfl (pc0 := 119) (pc' := 126) rfl (hb hby at_119) rfl ((if0 _ _).trans (feq hc119).2) (by decide) (by decide) ?_
  show Steps p.tables e below (T0.setTop (mkF m 126 #[s0, s1, .val (.long j2), .second, .val (.long j4), .second, .val (.long j6), .second, .val (.long j8), .second, s10, s11, .val (.int i12), .val (.int i13), s14, s15, s16, s17, s18] [(.int (198 : Int32))])) _
  refine XS.iconst X0.here hx rfl (hb hby at_126) ?_
  show Steps p.tables e below (T0.setTop (mkF m 127 #[s0, s1, .val (.long j2), .second, .val (.long j4), .second, .val (.long j6), .second, .val (.long j8), .second, s10, s11, .val (.int i12), .val (.int i13), s14, s15, s16, s17, s18] [(.int (0 : Int32)), (.int (198 : Int32))])) _
  refine XS.iadd X0.here hx rfl (hb hby at_127) rfl ?_
  show Steps p.tables e below (T0.setTop (mkF m 128 #[s0, s1, .val (.long j2), .second, .val (.long j4), .second, .val (.long j6), .second, .val (.long j8), .second, s10, s11, .val (.int i12), .val (.int i13), s14, s15, s16, s17, s18] [(.int ((198 : Int32) + (0 : Int32)))])) _
  refine XS.lload X0.here hx rfl (hb hby at_128) rfl ?_
  show Steps p.tables e below (T0.setTop (mkF m 130 #[s0, s1, .val (.long j2), .second, .val (.long j4), .second, .val (.long j6), .second, .val (.long j8), .second, s10, s11, .val (.int i12), .val (.int i13), s14, s15, s16, s17, s18] [(.long j6), (.int ((198 : Int32) + (0 : Int32)))])) _
  refine XS.lload X0.here hx rfl (hb hby at_130) rfl ?_
  show Steps p.tables e below (T0.setTop (mkF m 132 #[s0, s1, .val (.long j2), .second, .val (.long j4), .second, .val (.long j6), .second, .val (.long j8), .second, s10, s11, .val (.int i12), .val (.int i13), s14, s15, s16, s17, s18] [(.long j8), (.long j6), (.int ((198 : Int32) + (0 : Int32)))])) _
  refine XS.lcmp X0.here hx rfl (hb hby at_132) rfl ?_
  show Steps p.tables e below (T0.setTop (mkF m 133 #[s0, s1, .val (.long j2), .second, .val (.long j4), .second, .val (.long j6), .second, .val (.long j8), .second, s10, s11, .val (.int i12), .val (.int i13), s14, s15, s16, s17, s18] [(.int (lcmpW j6 j8)), (.int ((198 : Int32) + (0 : Int32)))])) _
  refine XS.ifYes X0.here hx rfl (pc0 := 133) (pc' := 140) rfl (hb hby at_133) rfl ((if0 _ _).trans (feq hc133).2) (by decide) (by decide) ?_
  show Steps p.tables e below (T0.setTop (mkF m 140 #[s0, s1, .val (.long j2), .second, .val (.long j4), .second, .val (.long j6), .second, .val (.long j8), .second, s10, s11, .val (.int i12), .val (.int i13), s14, s15, s16, s17, s18] [(.int ((198 : Int32) + (0 : Int32)))])) _
  refine XS.iconst X0.here hx rfl (hb hby at_140) ?_
  show Steps p.tables e below (T0.setTop (mkF m 141 #[s0, s1, .val (.long j2), .second, .val (.long j4), .second, .val (.long j6), .second, .val (.long j8), .second, s10, s11, .val (.int i12), .val (.int i13), s14, s15, s16, s17, s18] [(.int (0 : Int32)), (.int ((198 : Int32) + (0 : Int32)))])) _
  refine XS.iadd X0.here hx rfl (hb hby at_141) rfl ?_
  show Steps p.tables e below (T0.setTop (mkF m 142 #[s0, s1, .val (.long j2), .second, .val (.long j4), .second, .val (.long j6), .second, .val (.long j8), .second, s10, s11, .val (.int i12), .val (.int i13), s14, s15, s16, s17, s18] [(.int (((198 : Int32) + (0 : Int32)) + (0 : Int32)))])) _
  refine XS.istore X0.here hx rfl (hb hby at_142) rfl (l' := #[s0, s1, .val (.long j2), .second, .val (.long j4), .second, .val (.long j6), .second, .val (.long j8), .second, s10, s11, .val (.int i12), .val (.int i13), s14, s15, .val (.int (((198 : Int32) + (0 : Int32)) + (0 : Int32))), s17, s18]) (os0_142 hs16) ?_
  exact kt
theorem own_seg {p : Program} {l : Launch} {e : Env} {R : Room} {s : State} {m : MethodId} {args : Array Value} {below : List Frame} {meth : Method} {c : Code} {T0 : State} {locs : List Loc} {cells slots : Nat} {Z : State} {a0 : Array Value} {h0 : Heap} (s0 s1 : Slot) (j2 j4 j6 j8 : Int64) (s10 s11 : Slot) (i12 i13 : Int32) (s14 s15 s16 s17 s18 : Slot)
    (X0 : Stand p l e R s m args below meth c T0 locs cells slots) (hx : p.tables.exec = Jvm.exec) (hZ : Z.Warmed39 s.vm) (hw : ∀ d ∈ tables_1, d.before a0 Z = true) (hby : c.code = code) (hml : c.maxLocals = 19) (hown : s.vm.findClass "com/example/frontier/frontier/content/SketchSimilarityPinLaw" = some m.cls) (e0 : T0.heap = h0) (hs16 : One s16) :
    ∃ (T' : State), Stand p l e R s m args below meth c T' locs cells slots ∧ T'.heap = h0 ∧
      ∀ target, Steps p.tables e below (T'.setTop (mkF m 144 #[s0, s1, .val (.long j2), .second, .val (.long j4), .second, .val (.long j6), .second, .val (.long j8), .second, s10, s11, .val (.int i12), .val (.int i13), s14, s15, .val (.int (own_agree i12 i13 j2 j4 j6 j8)), s17, s18] [])) target → Steps p.tables e below (T0.setTop (mkF m 83 #[s0, s1, .val (.long j2), .second, .val (.long j4), .second, .val (.long j6), .second, .val (.long j8), .second, s10, s11, .val (.int i12), .val (.int i13), s14, s15, s16, s17, s18] [])) target := by
  unfold own_agree
  by_cases h1 : i12 = i13
  · rw [if_pos h1]
    by_cases h2 : j6 = j8
    · rw [if_pos h2]
      exact own_s_ff s0 s1 j2 j4 j6 j8 s10 s11 i12 i13 s14 s15 s16 s17 s18 X0 hx hZ hw hby hml hown e0 hs16 h1 ((lw_eq _ _).mpr h2)
    · rw [if_neg h2]
      exact own_s_ft s0 s1 j2 j4 j6 j8 s10 s11 i12 i13 s14 s15 s16 s17 s18 X0 hx hZ hw hby hml hown e0 hs16 h1 (fun z => h2 ((lw_eq _ _).mp z))
  · rw [if_neg h1]
    by_cases h3 : j2 = j4
    · rw [if_pos h3]
      by_cases h2 : j6 = j8
      · rw [if_pos h2]
        exact own_s_tff s0 s1 j2 j4 j6 j8 s10 s11 i12 i13 s14 s15 s16 s17 s18 X0 hx hZ hw hby hml hown e0 hs16 h1 ((lw_eq _ _).mpr h3) ((lw_eq _ _).mpr h2)
      · rw [if_neg h2]
        exact own_s_tft s0 s1 j2 j4 j6 j8 s10 s11 i12 i13 s14 s15 s16 s17 s18 X0 hx hZ hw hby hml hown e0 hs16 h1 ((lw_eq _ _).mpr h3) (fun z => h2 ((lw_eq _ _).mp z))
    · rw [if_neg h3]
      by_cases h2 : j6 = j8
      · rw [if_pos h2]
        exact own_s_ttf s0 s1 j2 j4 j6 j8 s10 s11 i12 i13 s14 s15 s16 s17 s18 X0 hx hZ hw hby hml hown e0 hs16 h1 (fun z => h3 ((lw_eq _ _).mp z)) ((lw_eq _ _).mpr h2)
      · rw [if_neg h2]
        exact own_s_ttt s0 s1 j2 j4 j6 j8 s10 s11 i12 i13 s14 s15 s16 s17 s18 X0 hx hZ hw hby hml hown e0 hs16 h1 (fun z => h3 ((lw_eq _ _).mp z)) (fun z => h2 ((lw_eq _ _).mp z))
theorem pn_0 : plainName "com/example/frontier/frontier/content/SketchSimilarityPinLaw" = true := by first | (simp [plainName, overriddenIn]; done) | decide +kernel
theorem pd_0_0 : parseMethodDescriptor "([J)V" = some ⟨[(.array .long)], none⟩ := by decide +kernel
theorem pd_0_3 : parseMethodDescriptor "(Lcom/example/frontier/frontier/content/Sketch;)D" = some ⟨[(.object "com/example/frontier/frontier/content/Sketch")], some .double⟩ := by decide +kernel
theorem ef_0 (m : MethodId) (x0 : Int32) (x1 : Int32) (x2 : Int64) (x3 : Int64) (x4 : Int64) (x5 : Int64) : entryFrame m #[(.int x0), (.int x1), (.long x2), (.long x3), (.long x4), (.long x5)] maxLocals = mkF m 0 #[.val (.int x0), .val (.int x1), .val (.long x2), .second, .val (.long x3), .second, .val (.long x4), .second, .val (.long x5), .second, .unset, .unset, .unset, .unset, .unset, .unset, .unset, .unset, .unset] [] := by first | (simp [entryFrame, mkF, argsToLocals, Value.category, maxLocals]; done) | rfl
def Q0 (Z : State) (p1 : Int32) (p2 : Int32) (q3 : Int64) (q4 : Int64) (q5 : Int64) (q6 : Int64) (h0 : Heap) (n0 : Nat) (v : Option Value) (h : Heap) (L : List Loc) : Prop := v = some (.int (1 : Int32)) ∧ Fr n0 L
set_option maxRecDepth 65536 in
set_option maxHeartbeats 40000000 in
theorem rm0 (l : Launch) (Z : State) (a0 : Array Value) (hw : ∀ d ∈ tables_1, d.before a0 Z = true) (ws : List Jvm.Cond) (p1 : Int32) (p2 : Int32) (q3 : Int64) (q4 : Int64) (q5 : Int64) (q6 : Int64) (h0 : Heap) (n0 : Nat) (Z0 : n0 ≤ h0.size) :
    MetFree l x (head1 (Jvm.Cond.code x code maxLocals ret :: ws) room_1) (fun a U => a = #[(.int p1), (.int p2), (.long q3), (.long q4), (.long q5), (.long q6)] ∧ Z.Warmed39 U.vm ∧ U.heap = h0) (fun _ _ _ _ _ => True) (fun _ U o U' => ∃ v L, o = .returned v ∧ Q0 Z p1 p2 q3 q4 q5 q6 h0 n0 v U'.heap L ∧ FrameEnd U o U' L room_1.cells room_1.slots) := by
  refine MetFree.of_bodySF (plainFor_of_name pn_0) hisR ?_
  intro p e s m args below meth c s₁ Bd hml0 hP hK
  obtain ⟨rfl, hZ, hh⟩ := hP
  have hx := Bd.exec
  have hby := Bd.bytes
  have hml : c.maxLocals = 19 := hml0
  have hown : s.vm.findClass "com/example/frontier/frontier/content/SketchSimilarityPinLaw" = some m.cls := findClass_of_methodNamed Bd.named
  have hnm := (name_of_methodNamed Bd.named Bd.method).1
  have X0 : Stand p l e room_1 s m #[(.int p1), (.int p2), (.long q3), (.long q4), (.long q5), (.long q6)] below meth c s₁ [] 0 0 := Stand.of_body Bd
  have e0 : s₁.heap = h0 := by rw [← hh, Bd.state]; rfl
  have N0 := Fr.nil n0
  have pre0 : ∀ t, Steps p.tables e below (s₁.setTop (mkF m 0 #[.val (.int p1), .val (.int p2), .val (.long q3), .second, .val (.long q4), .second, .val (.long q5), .second, .val (.long q6), .second, .unset, .unset, .unset, .unset, .unset, .unset, .unset, .unset, .unset] [])) t → Steps p.tables e below (s₁.setTop (entryFrame m #[(.int p1), (.int p2), (.long q3), (.long q4), (.long q5), (.long q6)] maxLocals)) t := fun t k => castTop (ef_0 m p1 p2 q3 q4 q5 q6) k
  obtain ⟨T7, h7, k7, X7, e7, E7, A7, Ex7, st7⟩ := newPE X0 hx hZ (hw _ (List.mem_of_getElem? (i := 0) rfl)) e0 (g := (mkF m 3 #[.val (.int p1), .val (.int p2), .val (.long q3), .second, .val (.long q4), .second, .val (.long q5), .second, .val (.long q6), .second, .unset, .unset, .unset, .unset, .unset, .unset, .unset, .unset, .unset] [(.int (200 : Int32))])) rfl (hb hby at_3) rfl (by decide) (cap := 200) (by decide) (by decide) (by decide) (by decide) (ad := "[J") (by decide)
  obtain ⟨b7, g7⟩ : ∃ z, z = h0.size := ⟨_, rfl⟩
  rw [← g7] at A7 Ex7 st7
  have V_b7 : Arh Z h7 b7 k7 .long (200 : Int32) [] [] (.long (0 : Int64)) := Arv.new A7 (by decide)
  have g_b7 : n0 ≤ b7 := Nat.le_trans Z0 (Nat.le_of_eq g7.symm)
  have sz_b7 : h0.size ≤ b7 := (Nat.le_trans (Keep.refl h0 []).1 (Nat.le_of_eq g7.symm))
  have K7 : Keep h0 h7 [] := (Keep.refl h0 []).ext E7
  obtain ⟨T8, h8, k8, X8, e8, E8, A8, Ex8, st8⟩ := newPE X7 hx hZ (hw _ (List.mem_of_getElem? (i := 0) rfl)) e7 (g := (mkF m 10 #[.val (.int p1), .val (.int p2), .val (.long q3), .second, .val (.long q4), .second, .val (.long q5), .second, .val (.long q6), .second, .val (.ref b7), .unset, .unset, .unset, .unset, .unset, .unset, .unset, .unset] [(.int (200 : Int32))])) rfl (hb hby at_10) rfl (by decide) (cap := 200) (by decide) (by decide) (by decide) (by decide) (ad := "[J") (by decide)
  obtain ⟨b8, g8⟩ : ∃ z, z = h7.size := ⟨_, rfl⟩
  rw [← g8] at A8 Ex8 st8
  have V_b8 : Arh Z h8 b8 k8 .long (200 : Int32) [] [] (.long (0 : Int64)) := Arv.new A8 (by decide)
  have g_b8 : n0 ≤ b8 := Nat.le_trans (Nat.le_trans Z0 E7.1) (Nat.le_of_eq g8.symm)
  have sz_b8 : h0.size ≤ b8 := (Nat.le_trans K7.1 (Nat.le_of_eq g8.symm))
  have ne78 : b7 ≠ b8 := Nat.ne_of_lt (Nat.lt_of_lt_of_le V_b7.lt (Nat.le_of_eq g8.symm))
  have K8 : Keep h0 h8 [] := K7.ext E8
  obtain ⟨cl_b7_39, Ar_b7, q_b7, S_b7, N_b7, H_b7, G_b7⟩ := (V_b7.ext E8)
  have hin39 : ¬ (((p1 &&& (2147483647 : Int32)) % (200 : Int32)) < 0 ∨ cl_b7_39.slots.size ≤ (((p1 &&& (2147483647 : Int32)) % (200 : Int32))).toNatClampNeg) := inb_of S_b7 (own_idx p1)
  obtain ⟨T9, h9, X9, e9, W9, st9⟩ := stJ X8 hx hZ e8 Ar_b7 (j := ((p1 &&& (2147483647 : Int32)) % (200 : Int32))) hin39 (g := (mkF m 39 #[.val (.int p1), .val (.int p2), .val (.long q3), .second, .val (.long q4), .second, .val (.long q5), .second, .val (.long q6), .second, .val (.ref b7), .val (.ref b8), .val (.int ((p1 &&& (2147483647 : Int32)) % (200 : Int32))), .val (.int ((p2 &&& (2147483647 : Int32)) % (200 : Int32))), .unset, .unset, .unset, .unset, .unset] [(.long q3), (.int ((p1 &&& (2147483647 : Int32)) % (200 : Int32))), (.ref b7)])) rfl rfl (hb hby at_39)
  have V_b7_9 := Arh.push Ar_b7 q_b7 S_b7 N_b7 H_b7 G_b7 rfl W9 hin39
  have K9 : Keep h0 h9 [] := K8.wr W9 (Or.inr sz_b7)
  have N9 := Fr.snoc X9 N0 g_b7
  obtain ⟨cl_b8_46, Ar_b8, q_b8, S_b8, N_b8, H_b8, G_b8⟩ := (V_b8.other W9 (Ne.symm ne78))
  have hin46 : ¬ (((p1 &&& (2147483647 : Int32)) % (200 : Int32)) < 0 ∨ cl_b8_46.slots.size ≤ (((p1 &&& (2147483647 : Int32)) % (200 : Int32))).toNatClampNeg) := inb_of S_b8 (own_idx p1)
  obtain ⟨T10, h10, X10, e10, W10, st10⟩ := stJ X9 hx hZ e9 Ar_b8 (j := ((p1 &&& (2147483647 : Int32)) % (200 : Int32))) hin46 (g := (mkF m 46 #[.val (.int p1), .val (.int p2), .val (.long q3), .second, .val (.long q4), .second, .val (.long q5), .second, .val (.long q6), .second, .val (.ref b7), .val (.ref b8), .val (.int ((p1 &&& (2147483647 : Int32)) % (200 : Int32))), .val (.int ((p2 &&& (2147483647 : Int32)) % (200 : Int32))), .unset, .unset, .unset, .unset, .unset] [(.long q4), (.int ((p1 &&& (2147483647 : Int32)) % (200 : Int32))), (.ref b8)])) rfl rfl (hb hby at_46)
  have V_b8_10 := Arh.push Ar_b8 q_b8 S_b8 N_b8 H_b8 G_b8 rfl W10 hin46
  have K10 : Keep h0 h10 [] := K9.wr W10 (Or.inr sz_b8)
  have N10 := Fr.snoc X10 N9 g_b8
  obtain ⟨cl_b7_53, Ar_b7, q_b7, S_b7, N_b7, H_b7, G_b7⟩ := (V_b7_9.other W10 ne78)
  have hin53 : ¬ (((p2 &&& (2147483647 : Int32)) % (200 : Int32)) < 0 ∨ cl_b7_53.slots.size ≤ (((p2 &&& (2147483647 : Int32)) % (200 : Int32))).toNatClampNeg) := inb_of S_b7 (own_idx p2)
  obtain ⟨T11, h11, X11, e11, W11, st11⟩ := stJ X10 hx hZ e10 Ar_b7 (j := ((p2 &&& (2147483647 : Int32)) % (200 : Int32))) hin53 (g := (mkF m 53 #[.val (.int p1), .val (.int p2), .val (.long q3), .second, .val (.long q4), .second, .val (.long q5), .second, .val (.long q6), .second, .val (.ref b7), .val (.ref b8), .val (.int ((p1 &&& (2147483647 : Int32)) % (200 : Int32))), .val (.int ((p2 &&& (2147483647 : Int32)) % (200 : Int32))), .unset, .unset, .unset, .unset, .unset] [(.long q5), (.int ((p2 &&& (2147483647 : Int32)) % (200 : Int32))), (.ref b7)])) rfl rfl (hb hby at_53)
  have V_b7_11 := Arh.push Ar_b7 q_b7 S_b7 N_b7 H_b7 G_b7 rfl W11 hin53
  have K11 : Keep h0 h11 [] := K10.wr W11 (Or.inr sz_b7)
  have N11 := Fr.snoc X11 N10 g_b7
  obtain ⟨cl_b8_60, Ar_b8, q_b8, S_b8, N_b8, H_b8, G_b8⟩ := (V_b8_10.other W11 (Ne.symm ne78))
  have hin60 : ¬ (((p2 &&& (2147483647 : Int32)) % (200 : Int32)) < 0 ∨ cl_b8_60.slots.size ≤ (((p2 &&& (2147483647 : Int32)) % (200 : Int32))).toNatClampNeg) := inb_of S_b8 (own_idx p2)
  obtain ⟨T12, h12, X12, e12, W12, st12⟩ := stJ X11 hx hZ e11 Ar_b8 (j := ((p2 &&& (2147483647 : Int32)) % (200 : Int32))) hin60 (g := (mkF m 60 #[.val (.int p1), .val (.int p2), .val (.long q3), .second, .val (.long q4), .second, .val (.long q5), .second, .val (.long q6), .second, .val (.ref b7), .val (.ref b8), .val (.int ((p1 &&& (2147483647 : Int32)) % (200 : Int32))), .val (.int ((p2 &&& (2147483647 : Int32)) % (200 : Int32))), .unset, .unset, .unset, .unset, .unset] [(.long q6), (.int ((p2 &&& (2147483647 : Int32)) % (200 : Int32))), (.ref b8)])) rfl rfl (hb hby at_60)
  have V_b8_12 := Arh.push Ar_b8 q_b8 S_b8 N_b8 H_b8 G_b8 rfl W12 hin60
  have K12 : Keep h0 h12 [] := K11.wr W12 (Or.inr sz_b8)
  have N12 := Fr.snoc X12 N11 g_b8
  obtain ⟨T13, h13, X13, e13, E13, A13, D13, -, st13⟩ := newO X12 hx hZ hown (hw _ (List.mem_of_getElem? (i := 2) rfl)) (hw _ (List.mem_of_getElem? (i := 3) rfl)) (hw _ (List.mem_of_getElem? (i := 4) rfl)) e12 (g := (mkF m 61 #[.val (.int p1), .val (.int p2), .val (.long q3), .second, .val (.long q4), .second, .val (.long q5), .second, .val (.long q6), .second, .val (.ref b7), .val (.ref b8), .val (.int ((p1 &&& (2147483647 : Int32)) % (200 : Int32))), .val (.int ((p2 &&& (2147483647 : Int32)) % (200 : Int32))), .unset, .unset, .unset, .unset, .unset] [])) rfl (hb hby at_61) (by decide) (by decide)
  obtain ⟨b13, g13⟩ : ∃ z, z = h12.size := ⟨_, rfl⟩
  rw [← g13] at A13 D13 st13
  have F_values_b13 : Fld Z h13 b13 "com/example/frontier/frontier/content/Sketch" "values" "[J" .null := D13 (Or.inr (hw _ (List.mem_of_getElem? (i := 21) rfl))) (ty := (.array .long)) (by decide)
  have E_b13 := A13
  have g_b13 : n0 ≤ b13 := Nat.le_trans (Nat.le_trans (Nat.le_trans (Nat.le_trans (Nat.le_trans (Nat.le_trans (Nat.le_trans Z0 E7.1) E8.1) (Keep.of_wr W9).1) (Keep.of_wr W10).1) (Keep.of_wr W11).1) (Keep.of_wr W12).1) (Nat.le_of_eq g13.symm)
  have sz_b13 : h0.size ≤ b13 := (Nat.le_trans K12.1 (Nat.le_of_eq g13.symm))
  have K13 : Keep h0 h13 [] := K12.ext E13
  obtain ⟨_, _, ⟨T14, L14, k14, n14⟩, -, X14, ⟨Lc14, hQ14, l14, y14, z14⟩, st14⟩ := X13.specialBack hx (y := (⟨"com/example/frontier/frontier/content/Sketch", "<init>", "([J)V"⟩ : MethodName)) rfl hown (mvT hZ (hw _ (List.mem_of_getElem? (i := 5) rfl))) (mvT hZ (hw _ (List.mem_of_getElem? (i := 6) rfl))) (mvT hZ (hw _ (List.mem_of_getElem? (i := 7) rfl))) (by decide) (backOf (W := 1) (rm1 l Z a0 hw [] b13 b7 k7 [(((p2 &&& (2147483647 : Int32)) % (200 : Int32)), .long q5), (((p1 &&& (2147483647 : Int32)) % (200 : Int32)), .long q3)] .null h13 n0 (Nat.le_trans Z0 K13.1) ((V_b7_11.other W12 ne78).ext E13) ((((((Ex7.ext E8).wr W9).wr W10).wr W11).wr W12).ext E13) E_b13 F_values_b13 g_b13) hZ (hw _ (List.mem_of_getElem? (i := 7) rfl)) (hw _ (List.mem_of_getElem? (i := 4) rfl)) (by decide) (by decide)) (g := (mkF m 67 #[.val (.int p1), .val (.int p2), .val (.long q3), .second, .val (.long q4), .second, .val (.long q5), .second, .val (.long q6), .second, .val (.ref b7), .val (.ref b8), .val (.int ((p1 &&& (2147483647 : Int32)) % (200 : Int32))), .val (.int ((p2 &&& (2147483647 : Int32)) % (200 : Int32))), .unset, .unset, .unset, .unset, .unset] [(.ref b7), (.ref b13), (.ref b13)])) rfl (by rw [hml]; rfl) (Steps.refl _) (a := b13) (argsL := [(.ref b7)]) (rest := [(.ref b13)]) (lenOf pd_0_0 rfl) rfl (by show 2 * 0 + _ ≤ _; exact Nat.le_of_eq rfl) (hb hby at_67) (fun _ _ => ⟨rfl, e13, (by decide : 3 + 1 ≤ _), (by decide : 401 + 200 ≤ _)⟩)
  dsimp only [Pt.U, Pt.locs, Pt.cells, Pt.slots] at X14 l14 y14 z14 st14 hQ14
  subst l14 y14 z14
  obtain ⟨rfl, N14q, K14, E14x, t14, gt14, Ft14, At14⟩ := hQ14
  have K14h : Keep h0 T14.heap [] := K13.trans K14 fun x hx => by cases List.mem_singleton.mp hx; exact Or.inr sz_b13
  have ne813 : b8 ≠ b13 := Nat.ne_of_lt (Nat.lt_of_lt_of_le V_b8_12.lt (Nat.le_of_eq g13.symm))
  have N14 := Fr.app N12 N14q
  obtain ⟨T15, h15, X15, e15, E15, A15, D15, -, st15⟩ := newO X14 hx hZ hown (hw _ (List.mem_of_getElem? (i := 2) rfl)) (hw _ (List.mem_of_getElem? (i := 3) rfl)) (hw _ (List.mem_of_getElem? (i := 4) rfl)) rfl (g := (mkF m 72 #[.val (.int p1), .val (.int p2), .val (.long q3), .second, .val (.long q4), .second, .val (.long q5), .second, .val (.long q6), .second, .val (.ref b7), .val (.ref b8), .val (.int ((p1 &&& (2147483647 : Int32)) % (200 : Int32))), .val (.int ((p2 &&& (2147483647 : Int32)) % (200 : Int32))), .val (.ref b13), .unset, .unset, .unset, .unset] [])) rfl (hb hby at_72) (by decide) (by decide)
  obtain ⟨b15, g15⟩ : ∃ z, z = T14.heap.size := ⟨_, rfl⟩
  rw [← g15] at A15 D15 st15
  have F_values_b15 : Fld Z h15 b15 "com/example/frontier/frontier/content/Sketch" "values" "[J" .null := D15 (Or.inr (hw _ (List.mem_of_getElem? (i := 21) rfl))) (ty := (.array .long)) (by decide)
  have E_b15 := A15
  have g_b15 : n0 ≤ b15 := Nat.le_trans (Nat.le_trans (Nat.le_trans (Nat.le_trans (Nat.le_trans (Nat.le_trans (Nat.le_trans (Nat.le_trans (Nat.le_trans Z0 E7.1) E8.1) (Keep.of_wr W9).1) (Keep.of_wr W10).1) (Keep.of_wr W11).1) (Keep.of_wr W12).1) E13.1) K14.1) (Nat.le_of_eq g15.symm)
  have sz_b15 : h0.size ≤ b15 := (Nat.le_trans K14h.1 (Nat.le_of_eq g15.symm))
  have K15 : Keep h0 h15 [] := K14h.ext E15
  obtain ⟨_, _, ⟨T16, L16, k16, n16⟩, -, X16, ⟨Lc16, hQ16, l16, y16, z16⟩, st16⟩ := X15.specialBack hx (y := (⟨"com/example/frontier/frontier/content/Sketch", "<init>", "([J)V"⟩ : MethodName)) rfl hown (mvT hZ (hw _ (List.mem_of_getElem? (i := 5) rfl))) (mvT hZ (hw _ (List.mem_of_getElem? (i := 6) rfl))) (mvT hZ (hw _ (List.mem_of_getElem? (i := 7) rfl))) (by decide) (backOf (W := 1) (rm1 l Z a0 hw [] b15 b8 k8 [(((p2 &&& (2147483647 : Int32)) % (200 : Int32)), .long q6), (((p1 &&& (2147483647 : Int32)) % (200 : Int32)), .long q4)] .null h15 n0 (Nat.le_trans Z0 K15.1) (((V_b8_12.ext E13).keep K14 (ninS ne813 nin0)).ext E15) ((((((((Ex8.wr W9).wr W10).wr W11).wr W12).ext E13).keep K14)).ext E15) E_b15 F_values_b15 g_b15) hZ (hw _ (List.mem_of_getElem? (i := 7) rfl)) (hw _ (List.mem_of_getElem? (i := 4) rfl)) (by decide) (by decide)) (g := (mkF m 78 #[.val (.int p1), .val (.int p2), .val (.long q3), .second, .val (.long q4), .second, .val (.long q5), .second, .val (.long q6), .second, .val (.ref b7), .val (.ref b8), .val (.int ((p1 &&& (2147483647 : Int32)) % (200 : Int32))), .val (.int ((p2 &&& (2147483647 : Int32)) % (200 : Int32))), .val (.ref b13), .unset, .unset, .unset, .unset] [(.ref b8), (.ref b15), (.ref b15)])) rfl (by rw [hml]; rfl) (Steps.refl _) (a := b15) (argsL := [(.ref b8)]) (rest := [(.ref b15)]) (lenOf pd_0_0 rfl) rfl (by show 2 * 0 + _ ≤ _; exact Nat.le_of_eq rfl) (hb hby at_78) (fun _ _ => ⟨rfl, e15, (by decide : 5 + 1 ≤ _), (by decide : 602 + 200 ≤ _)⟩)
  dsimp only [Pt.U, Pt.locs, Pt.cells, Pt.slots] at X16 l16 y16 z16 st16 hQ16
  subst l16 y16 z16
  obtain ⟨rfl, N16q, K16, E16x, t16, gt16, Ft16, At16⟩ := hQ16
  have K16h : Keep h0 T16.heap [] := K15.trans K16 fun x hx => by cases List.mem_singleton.mp hx; exact Or.inr sz_b15
  have ne1315 : b13 ≠ b15 := Nat.ne_of_lt (Nat.lt_of_lt_of_le E14x.lt (Nat.le_of_eq g15.symm))
  have net14 : t14 ≠ b15 := Nat.ne_of_lt (Nat.lt_of_lt_of_le At14.lt (Nat.le_of_eq g15.symm))
  have N16 := Fr.app N14 N16q
  obtain ⟨TG, XG, eG, stG⟩ := own_seg (.val (.int p1)) (.val (.int p2)) q3 q4 q5 q6 (.val (.ref b7)) (.val (.ref b8)) ((p1 &&& (2147483647 : Int32)) % (200 : Int32)) ((p2 &&& (2147483647 : Int32)) % (200 : Int32)) (.val (.ref b13)) (.val (.ref b15)) .unset .unset .unset X16 hx hZ hw hby hml hown (h0 := T16.heap) rfl One.u
  obtain ⟨cq17, kq17, q17a, q17b, q17c⟩ := isOf hZ eG ((E14x.ext E15).keep K16)
  obtain ⟨c3, A3, -, S3, -, H3, -⟩ := (At14.ext E15).keep K16 (ninS net14 nin0)
  obtain ⟨c6, A6, -, S6, -, H6, -⟩ := At16
  have H3' : ∀ i, i < 200 → c3.slots[i]? = some (.long (own_f ((p1 &&& (2147483647 : Int32)) % (200 : Int32)).toNatClampNeg ((p2 &&& (2147483647 : Int32)) % (200 : Int32)).toNatClampNeg q3 q5 i)) := fun i hi => (H3 i (by rw [S3]; exact hi)).trans (congrArg some (own_getH (own_idxN p1).2 (own_idxN p2).2 i))
  have H6' : ∀ i, i < 200 → c6.slots[i]? = some (.long (own_f ((p1 &&& (2147483647 : Int32)) % (200 : Int32)).toNatClampNeg ((p2 &&& (2147483647 : Int32)) % (200 : Int32)).toNatClampNeg q4 q6 i)) := fun i hi => (H6 i (by rw [S6]; exact hi)).trans (congrArg some (own_getH (own_idxN p1).2 (own_idxN p2).2 i))
  obtain ⟨_, _, ⟨T17, L17, k17, n17⟩, -, X17, ⟨Lc17, hQ17, l17, y17, z17⟩, st17⟩ := XG.virtualBack hx (y := (⟨"com/example/frontier/frontier/content/Sketch", "similarity", "(Lcom/example/frontier/frontier/content/Sketch;)D"⟩ : MethodName)) (z := (⟨"com/example/frontier/frontier/content/Sketch", "similarity", "(Lcom/example/frontier/frontier/content/Sketch;)D"⟩ : MethodName)) hown (mvT hZ (hw _ (List.mem_of_getElem? (i := 23) rfl))) (mvT hZ (hw _ (List.mem_of_getElem? (i := 24) rfl))) (notFace_of_selects (args := #[]) (mvT hZ (hw _ (List.mem_of_getElem? (i := 26) rfl)))) (mvT hZ (hw _ (List.mem_of_getElem? (i := 26) rfl))) (mvT hZ (hw _ (List.mem_of_getElem? (i := 25) rfl))) (by decide) (backOf (W := 0) (rm3 l Z a0 hw [] b13 b15 t14 t16 c3 c6 (own_f ((p1 &&& (2147483647 : Int32)) % (200 : Int32)).toNatClampNeg ((p2 &&& (2147483647 : Int32)) % (200 : Int32)).toNatClampNeg q3 q5) (own_f ((p1 &&& (2147483647 : Int32)) % (200 : Int32)).toNatClampNeg ((p2 &&& (2147483647 : Int32)) % (200 : Int32)).toNatClampNeg q4 q6) T16.heap n0 (Nat.le_trans Z0 K16h.1) ((Ft14.ext E15).keep K16 (ninS ne1315 nin0)) A3 (S3.trans (by decide)) H3' Ft16 A6 (S6.trans (by decide)) H6') hZ (hw _ (List.mem_of_getElem? (i := 27) rfl)) (hw _ (List.mem_of_getElem? (i := 4) rfl)) (by decide) (by decide)) q17a q17c (g := (mkF m 157 #[.val (.int p1), .val (.int p2), .val (.long q3), .second, .val (.long q4), .second, .val (.long q5), .second, .val (.long q6), .second, .val (.ref b7), .val (.ref b8), .val (.int ((p1 &&& (2147483647 : Int32)) % (200 : Int32))), .val (.int ((p2 &&& (2147483647 : Int32)) % (200 : Int32))), .val (.ref b13), .val (.ref b15), .val (.int (own_agree ((p1 &&& (2147483647 : Int32)) % (200 : Int32)) ((p2 &&& (2147483647 : Int32)) % (200 : Int32)) q3 q4 q5 q6)), .val (.double (FP.ddiv (FP.i2d (own_agree ((p1 &&& (2147483647 : Int32)) % (200 : Int32)) ((p2 &&& (2147483647 : Int32)) % (200 : Int32)) q3 q4 q5 q6)) (4641240890982006784 : UInt64))), .second] [(.ref b15), (.ref b13)])) rfl (by rw [hml]; rfl) (Steps.refl _) (argsL := [(.ref b15)]) (rest := []) (lenOf pd_0_3 rfl) rfl (by show 2 * 0 + _ ≤ _; exact Nat.le_of_eq rfl) (hb hby at_157) (fun _ _ => ⟨rfl, eG, (by decide : 6 + 0 ≤ _), (by decide : 802 + 0 ≤ _)⟩)
  dsimp only [Pt.U, Pt.locs, Pt.cells, Pt.slots] at X17 l17 y17 z17 st17 hQ17
  subst l17 y17 z17
  obtain ⟨rfl, N17q, hk17⟩ := hQ17
  have N17 := Fr.app N16 N17q
  obtain ⟨fs, hr, hrun, hended, hW, hsame⟩ := X17.leave (v := some (.int (1 : Int32))) (fun h => by rw [Bd.returns] at h; cases h)
  refine ⟨_, _, pre0 _ ?_, hrun, hended, _, _, rfl, ?_, ⟨_, rfl⟩, hW, hsame.mono (by decide) (by decide)⟩
  · show Steps p.tables e below (s₁.setTop (mkF m 0 #[.val (.int p1), .val (.int p2), .val (.long q3), .second, .val (.long q4), .second, .val (.long q5), .second, .val (.long q6), .second, .unset, .unset, .unset, .unset, .unset, .unset, .unset, .unset, .unset] [])) _
    refine XS.sipush X0.here hx rfl (hb hby at_0) ?_
    show Steps p.tables e below (s₁.setTop (mkF m 3 #[.val (.int p1), .val (.int p2), .val (.long q3), .second, .val (.long q4), .second, .val (.long q5), .second, .val (.long q6), .second, .unset, .unset, .unset, .unset, .unset, .unset, .unset, .unset, .unset] [(.int (200 : Int32))])) _
    refine st7 _ ?_
    show Steps p.tables e below (T7.setTop (mkF m 5 #[.val (.int p1), .val (.int p2), .val (.long q3), .second, .val (.long q4), .second, .val (.long q5), .second, .val (.long q6), .second, .unset, .unset, .unset, .unset, .unset, .unset, .unset, .unset, .unset] [(.ref b7)])) _
    refine XS.astore X7.here hx rfl (hb hby at_5) rfl rfl (l' := #[.val (.int p1), .val (.int p2), .val (.long q3), .second, .val (.long q4), .second, .val (.long q5), .second, .val (.long q6), .second, .val (.ref b7), .unset, .unset, .unset, .unset, .unset, .unset, .unset, .unset]) rfl ?_
    show Steps p.tables e below (T7.setTop (mkF m 7 #[.val (.int p1), .val (.int p2), .val (.long q3), .second, .val (.long q4), .second, .val (.long q5), .second, .val (.long q6), .second, .val (.ref b7), .unset, .unset, .unset, .unset, .unset, .unset, .unset, .unset] [])) _
    refine XS.sipush X7.here hx rfl (hb hby at_7) ?_
    show Steps p.tables e below (T7.setTop (mkF m 10 #[.val (.int p1), .val (.int p2), .val (.long q3), .second, .val (.long q4), .second, .val (.long q5), .second, .val (.long q6), .second, .val (.ref b7), .unset, .unset, .unset, .unset, .unset, .unset, .unset, .unset] [(.int (200 : Int32))])) _
    refine st8 _ ?_
    show Steps p.tables e below (T8.setTop (mkF m 12 #[.val (.int p1), .val (.int p2), .val (.long q3), .second, .val (.long q4), .second, .val (.long q5), .second, .val (.long q6), .second, .val (.ref b7), .unset, .unset, .unset, .unset, .unset, .unset, .unset, .unset] [(.ref b8)])) _
    refine XS.astore X8.here hx rfl (hb hby at_12) rfl rfl (l' := #[.val (.int p1), .val (.int p2), .val (.long q3), .second, .val (.long q4), .second, .val (.long q5), .second, .val (.long q6), .second, .val (.ref b7), .val (.ref b8), .unset, .unset, .unset, .unset, .unset, .unset, .unset]) rfl ?_
    show Steps p.tables e below (T8.setTop (mkF m 14 #[.val (.int p1), .val (.int p2), .val (.long q3), .second, .val (.long q4), .second, .val (.long q5), .second, .val (.long q6), .second, .val (.ref b7), .val (.ref b8), .unset, .unset, .unset, .unset, .unset, .unset, .unset] [])) _
    refine XS.iloadN X8.here hx rfl (hb hby at_14) rfl ?_
    show Steps p.tables e below (T8.setTop (mkF m 15 #[.val (.int p1), .val (.int p2), .val (.long q3), .second, .val (.long q4), .second, .val (.long q5), .second, .val (.long q6), .second, .val (.ref b7), .val (.ref b8), .unset, .unset, .unset, .unset, .unset, .unset, .unset] [(.int p1)])) _
    refine X8.ldcInt hx hown (mvT hZ (hw _ (List.mem_of_getElem? (i := 1) rfl))) (g := (mkF m 15 #[.val (.int p1), .val (.int p2), .val (.long q3), .second, .val (.long q4), .second, .val (.long q5), .second, .val (.long q6), .second, .val (.ref b7), .val (.ref b8), .unset, .unset, .unset, .unset, .unset, .unset, .unset] [(.int p1)])) rfl (hb hby at_15) _ ?_
    show Steps p.tables e below (T8.setTop (mkF m 17 #[.val (.int p1), .val (.int p2), .val (.long q3), .second, .val (.long q4), .second, .val (.long q5), .second, .val (.long q6), .second, .val (.ref b7), .val (.ref b8), .unset, .unset, .unset, .unset, .unset, .unset, .unset] [(.int (2147483647 : Int32)), (.int p1)])) _
    refine XS.iand X8.here hx rfl (hb hby at_17) rfl ?_
    show Steps p.tables e below (T8.setTop (mkF m 18 #[.val (.int p1), .val (.int p2), .val (.long q3), .second, .val (.long q4), .second, .val (.long q5), .second, .val (.long q6), .second, .val (.ref b7), .val (.ref b8), .unset, .unset, .unset, .unset, .unset, .unset, .unset] [(.int (p1 &&& (2147483647 : Int32)))])) _
    refine XS.sipush X8.here hx rfl (hb hby at_18) ?_
    show Steps p.tables e below (T8.setTop (mkF m 21 #[.val (.int p1), .val (.int p2), .val (.long q3), .second, .val (.long q4), .second, .val (.long q5), .second, .val (.long q6), .second, .val (.ref b7), .val (.ref b8), .unset, .unset, .unset, .unset, .unset, .unset, .unset] [(.int (200 : Int32)), (.int (p1 &&& (2147483647 : Int32)))])) _
    refine XS.irem X8.here hx rfl (hb hby at_21) rfl (by decide) ?_
    rw [irem_eq_mod]
    show Steps p.tables e below (T8.setTop (mkF m 22 #[.val (.int p1), .val (.int p2), .val (.long q3), .second, .val (.long q4), .second, .val (.long q5), .second, .val (.long q6), .second, .val (.ref b7), .val (.ref b8), .unset, .unset, .unset, .unset, .unset, .unset, .unset] [(.int ((p1 &&& (2147483647 : Int32)) % (200 : Int32)))])) _
    refine XS.istore X8.here hx rfl (hb hby at_22) rfl (l' := #[.val (.int p1), .val (.int p2), .val (.long q3), .second, .val (.long q4), .second, .val (.long q5), .second, .val (.long q6), .second, .val (.ref b7), .val (.ref b8), .val (.int ((p1 &&& (2147483647 : Int32)) % (200 : Int32))), .unset, .unset, .unset, .unset, .unset, .unset]) rfl ?_
    show Steps p.tables e below (T8.setTop (mkF m 24 #[.val (.int p1), .val (.int p2), .val (.long q3), .second, .val (.long q4), .second, .val (.long q5), .second, .val (.long q6), .second, .val (.ref b7), .val (.ref b8), .val (.int ((p1 &&& (2147483647 : Int32)) % (200 : Int32))), .unset, .unset, .unset, .unset, .unset, .unset] [])) _
    refine XS.iloadN X8.here hx rfl (hb hby at_24) rfl ?_
    show Steps p.tables e below (T8.setTop (mkF m 25 #[.val (.int p1), .val (.int p2), .val (.long q3), .second, .val (.long q4), .second, .val (.long q5), .second, .val (.long q6), .second, .val (.ref b7), .val (.ref b8), .val (.int ((p1 &&& (2147483647 : Int32)) % (200 : Int32))), .unset, .unset, .unset, .unset, .unset, .unset] [(.int p2)])) _
    refine X8.ldcInt hx hown (mvT hZ (hw _ (List.mem_of_getElem? (i := 1) rfl))) (g := (mkF m 25 #[.val (.int p1), .val (.int p2), .val (.long q3), .second, .val (.long q4), .second, .val (.long q5), .second, .val (.long q6), .second, .val (.ref b7), .val (.ref b8), .val (.int ((p1 &&& (2147483647 : Int32)) % (200 : Int32))), .unset, .unset, .unset, .unset, .unset, .unset] [(.int p2)])) rfl (hb hby at_25) _ ?_
    show Steps p.tables e below (T8.setTop (mkF m 27 #[.val (.int p1), .val (.int p2), .val (.long q3), .second, .val (.long q4), .second, .val (.long q5), .second, .val (.long q6), .second, .val (.ref b7), .val (.ref b8), .val (.int ((p1 &&& (2147483647 : Int32)) % (200 : Int32))), .unset, .unset, .unset, .unset, .unset, .unset] [(.int (2147483647 : Int32)), (.int p2)])) _
    refine XS.iand X8.here hx rfl (hb hby at_27) rfl ?_
    show Steps p.tables e below (T8.setTop (mkF m 28 #[.val (.int p1), .val (.int p2), .val (.long q3), .second, .val (.long q4), .second, .val (.long q5), .second, .val (.long q6), .second, .val (.ref b7), .val (.ref b8), .val (.int ((p1 &&& (2147483647 : Int32)) % (200 : Int32))), .unset, .unset, .unset, .unset, .unset, .unset] [(.int (p2 &&& (2147483647 : Int32)))])) _
    refine XS.sipush X8.here hx rfl (hb hby at_28) ?_
    show Steps p.tables e below (T8.setTop (mkF m 31 #[.val (.int p1), .val (.int p2), .val (.long q3), .second, .val (.long q4), .second, .val (.long q5), .second, .val (.long q6), .second, .val (.ref b7), .val (.ref b8), .val (.int ((p1 &&& (2147483647 : Int32)) % (200 : Int32))), .unset, .unset, .unset, .unset, .unset, .unset] [(.int (200 : Int32)), (.int (p2 &&& (2147483647 : Int32)))])) _
    refine XS.irem X8.here hx rfl (hb hby at_31) rfl (by decide) ?_
    rw [irem_eq_mod]
    show Steps p.tables e below (T8.setTop (mkF m 32 #[.val (.int p1), .val (.int p2), .val (.long q3), .second, .val (.long q4), .second, .val (.long q5), .second, .val (.long q6), .second, .val (.ref b7), .val (.ref b8), .val (.int ((p1 &&& (2147483647 : Int32)) % (200 : Int32))), .unset, .unset, .unset, .unset, .unset, .unset] [(.int ((p2 &&& (2147483647 : Int32)) % (200 : Int32)))])) _
    refine XS.istore X8.here hx rfl (hb hby at_32) rfl (l' := #[.val (.int p1), .val (.int p2), .val (.long q3), .second, .val (.long q4), .second, .val (.long q5), .second, .val (.long q6), .second, .val (.ref b7), .val (.ref b8), .val (.int ((p1 &&& (2147483647 : Int32)) % (200 : Int32))), .val (.int ((p2 &&& (2147483647 : Int32)) % (200 : Int32))), .unset, .unset, .unset, .unset, .unset]) rfl ?_
    show Steps p.tables e below (T8.setTop (mkF m 34 #[.val (.int p1), .val (.int p2), .val (.long q3), .second, .val (.long q4), .second, .val (.long q5), .second, .val (.long q6), .second, .val (.ref b7), .val (.ref b8), .val (.int ((p1 &&& (2147483647 : Int32)) % (200 : Int32))), .val (.int ((p2 &&& (2147483647 : Int32)) % (200 : Int32))), .unset, .unset, .unset, .unset, .unset] [])) _
    refine XS.aload X8.here hx rfl (hb hby at_34) rfl rfl ?_
    show Steps p.tables e below (T8.setTop (mkF m 36 #[.val (.int p1), .val (.int p2), .val (.long q3), .second, .val (.long q4), .second, .val (.long q5), .second, .val (.long q6), .second, .val (.ref b7), .val (.ref b8), .val (.int ((p1 &&& (2147483647 : Int32)) % (200 : Int32))), .val (.int ((p2 &&& (2147483647 : Int32)) % (200 : Int32))), .unset, .unset, .unset, .unset, .unset] [(.ref b7)])) _
    refine XS.iload X8.here hx rfl (hb hby at_36) rfl ?_
    show Steps p.tables e below (T8.setTop (mkF m 38 #[.val (.int p1), .val (.int p2), .val (.long q3), .second, .val (.long q4), .second, .val (.long q5), .second, .val (.long q6), .second, .val (.ref b7), .val (.ref b8), .val (.int ((p1 &&& (2147483647 : Int32)) % (200 : Int32))), .val (.int ((p2 &&& (2147483647 : Int32)) % (200 : Int32))), .unset, .unset, .unset, .unset, .unset] [(.int ((p1 &&& (2147483647 : Int32)) % (200 : Int32))), (.ref b7)])) _
    refine XS.lloadN X8.here hx rfl (hb hby at_38) rfl ?_
    show Steps p.tables e below (T8.setTop (mkF m 39 #[.val (.int p1), .val (.int p2), .val (.long q3), .second, .val (.long q4), .second, .val (.long q5), .second, .val (.long q6), .second, .val (.ref b7), .val (.ref b8), .val (.int ((p1 &&& (2147483647 : Int32)) % (200 : Int32))), .val (.int ((p2 &&& (2147483647 : Int32)) % (200 : Int32))), .unset, .unset, .unset, .unset, .unset] [(.long q3), (.int ((p1 &&& (2147483647 : Int32)) % (200 : Int32))), (.ref b7)])) _
    refine st9 _ ?_
    show Steps p.tables e below (T9.setTop (mkF m 40 #[.val (.int p1), .val (.int p2), .val (.long q3), .second, .val (.long q4), .second, .val (.long q5), .second, .val (.long q6), .second, .val (.ref b7), .val (.ref b8), .val (.int ((p1 &&& (2147483647 : Int32)) % (200 : Int32))), .val (.int ((p2 &&& (2147483647 : Int32)) % (200 : Int32))), .unset, .unset, .unset, .unset, .unset] [])) _
    refine XS.aload X9.here hx rfl (hb hby at_40) rfl rfl ?_
    show Steps p.tables e below (T9.setTop (mkF m 42 #[.val (.int p1), .val (.int p2), .val (.long q3), .second, .val (.long q4), .second, .val (.long q5), .second, .val (.long q6), .second, .val (.ref b7), .val (.ref b8), .val (.int ((p1 &&& (2147483647 : Int32)) % (200 : Int32))), .val (.int ((p2 &&& (2147483647 : Int32)) % (200 : Int32))), .unset, .unset, .unset, .unset, .unset] [(.ref b8)])) _
    refine XS.iload X9.here hx rfl (hb hby at_42) rfl ?_
    show Steps p.tables e below (T9.setTop (mkF m 44 #[.val (.int p1), .val (.int p2), .val (.long q3), .second, .val (.long q4), .second, .val (.long q5), .second, .val (.long q6), .second, .val (.ref b7), .val (.ref b8), .val (.int ((p1 &&& (2147483647 : Int32)) % (200 : Int32))), .val (.int ((p2 &&& (2147483647 : Int32)) % (200 : Int32))), .unset, .unset, .unset, .unset, .unset] [(.int ((p1 &&& (2147483647 : Int32)) % (200 : Int32))), (.ref b8)])) _
    refine XS.lload X9.here hx rfl (hb hby at_44) rfl ?_
    show Steps p.tables e below (T9.setTop (mkF m 46 #[.val (.int p1), .val (.int p2), .val (.long q3), .second, .val (.long q4), .second, .val (.long q5), .second, .val (.long q6), .second, .val (.ref b7), .val (.ref b8), .val (.int ((p1 &&& (2147483647 : Int32)) % (200 : Int32))), .val (.int ((p2 &&& (2147483647 : Int32)) % (200 : Int32))), .unset, .unset, .unset, .unset, .unset] [(.long q4), (.int ((p1 &&& (2147483647 : Int32)) % (200 : Int32))), (.ref b8)])) _
    refine st10 _ ?_
    show Steps p.tables e below (T10.setTop (mkF m 47 #[.val (.int p1), .val (.int p2), .val (.long q3), .second, .val (.long q4), .second, .val (.long q5), .second, .val (.long q6), .second, .val (.ref b7), .val (.ref b8), .val (.int ((p1 &&& (2147483647 : Int32)) % (200 : Int32))), .val (.int ((p2 &&& (2147483647 : Int32)) % (200 : Int32))), .unset, .unset, .unset, .unset, .unset] [])) _
    refine XS.aload X10.here hx rfl (hb hby at_47) rfl rfl ?_
    show Steps p.tables e below (T10.setTop (mkF m 49 #[.val (.int p1), .val (.int p2), .val (.long q3), .second, .val (.long q4), .second, .val (.long q5), .second, .val (.long q6), .second, .val (.ref b7), .val (.ref b8), .val (.int ((p1 &&& (2147483647 : Int32)) % (200 : Int32))), .val (.int ((p2 &&& (2147483647 : Int32)) % (200 : Int32))), .unset, .unset, .unset, .unset, .unset] [(.ref b7)])) _
    refine XS.iload X10.here hx rfl (hb hby at_49) rfl ?_
    show Steps p.tables e below (T10.setTop (mkF m 51 #[.val (.int p1), .val (.int p2), .val (.long q3), .second, .val (.long q4), .second, .val (.long q5), .second, .val (.long q6), .second, .val (.ref b7), .val (.ref b8), .val (.int ((p1 &&& (2147483647 : Int32)) % (200 : Int32))), .val (.int ((p2 &&& (2147483647 : Int32)) % (200 : Int32))), .unset, .unset, .unset, .unset, .unset] [(.int ((p2 &&& (2147483647 : Int32)) % (200 : Int32))), (.ref b7)])) _
    refine XS.lload X10.here hx rfl (hb hby at_51) rfl ?_
    show Steps p.tables e below (T10.setTop (mkF m 53 #[.val (.int p1), .val (.int p2), .val (.long q3), .second, .val (.long q4), .second, .val (.long q5), .second, .val (.long q6), .second, .val (.ref b7), .val (.ref b8), .val (.int ((p1 &&& (2147483647 : Int32)) % (200 : Int32))), .val (.int ((p2 &&& (2147483647 : Int32)) % (200 : Int32))), .unset, .unset, .unset, .unset, .unset] [(.long q5), (.int ((p2 &&& (2147483647 : Int32)) % (200 : Int32))), (.ref b7)])) _
    refine st11 _ ?_
    show Steps p.tables e below (T11.setTop (mkF m 54 #[.val (.int p1), .val (.int p2), .val (.long q3), .second, .val (.long q4), .second, .val (.long q5), .second, .val (.long q6), .second, .val (.ref b7), .val (.ref b8), .val (.int ((p1 &&& (2147483647 : Int32)) % (200 : Int32))), .val (.int ((p2 &&& (2147483647 : Int32)) % (200 : Int32))), .unset, .unset, .unset, .unset, .unset] [])) _
    refine XS.aload X11.here hx rfl (hb hby at_54) rfl rfl ?_
    show Steps p.tables e below (T11.setTop (mkF m 56 #[.val (.int p1), .val (.int p2), .val (.long q3), .second, .val (.long q4), .second, .val (.long q5), .second, .val (.long q6), .second, .val (.ref b7), .val (.ref b8), .val (.int ((p1 &&& (2147483647 : Int32)) % (200 : Int32))), .val (.int ((p2 &&& (2147483647 : Int32)) % (200 : Int32))), .unset, .unset, .unset, .unset, .unset] [(.ref b8)])) _
    refine XS.iload X11.here hx rfl (hb hby at_56) rfl ?_
    show Steps p.tables e below (T11.setTop (mkF m 58 #[.val (.int p1), .val (.int p2), .val (.long q3), .second, .val (.long q4), .second, .val (.long q5), .second, .val (.long q6), .second, .val (.ref b7), .val (.ref b8), .val (.int ((p1 &&& (2147483647 : Int32)) % (200 : Int32))), .val (.int ((p2 &&& (2147483647 : Int32)) % (200 : Int32))), .unset, .unset, .unset, .unset, .unset] [(.int ((p2 &&& (2147483647 : Int32)) % (200 : Int32))), (.ref b8)])) _
    refine XS.lload X11.here hx rfl (hb hby at_58) rfl ?_
    show Steps p.tables e below (T11.setTop (mkF m 60 #[.val (.int p1), .val (.int p2), .val (.long q3), .second, .val (.long q4), .second, .val (.long q5), .second, .val (.long q6), .second, .val (.ref b7), .val (.ref b8), .val (.int ((p1 &&& (2147483647 : Int32)) % (200 : Int32))), .val (.int ((p2 &&& (2147483647 : Int32)) % (200 : Int32))), .unset, .unset, .unset, .unset, .unset] [(.long q6), (.int ((p2 &&& (2147483647 : Int32)) % (200 : Int32))), (.ref b8)])) _
    refine st12 _ ?_
    show Steps p.tables e below (T12.setTop (mkF m 61 #[.val (.int p1), .val (.int p2), .val (.long q3), .second, .val (.long q4), .second, .val (.long q5), .second, .val (.long q6), .second, .val (.ref b7), .val (.ref b8), .val (.int ((p1 &&& (2147483647 : Int32)) % (200 : Int32))), .val (.int ((p2 &&& (2147483647 : Int32)) % (200 : Int32))), .unset, .unset, .unset, .unset, .unset] [])) _
    refine st13 _ ?_
    show Steps p.tables e below (T13.setTop (mkF m 64 #[.val (.int p1), .val (.int p2), .val (.long q3), .second, .val (.long q4), .second, .val (.long q5), .second, .val (.long q6), .second, .val (.ref b7), .val (.ref b8), .val (.int ((p1 &&& (2147483647 : Int32)) % (200 : Int32))), .val (.int ((p2 &&& (2147483647 : Int32)) % (200 : Int32))), .unset, .unset, .unset, .unset, .unset] [(.ref b13)])) _
    refine XS.dup X13.here hx rfl (hb hby at_64) rfl rfl ?_
    show Steps p.tables e below (T13.setTop (mkF m 65 #[.val (.int p1), .val (.int p2), .val (.long q3), .second, .val (.long q4), .second, .val (.long q5), .second, .val (.long q6), .second, .val (.ref b7), .val (.ref b8), .val (.int ((p1 &&& (2147483647 : Int32)) % (200 : Int32))), .val (.int ((p2 &&& (2147483647 : Int32)) % (200 : Int32))), .unset, .unset, .unset, .unset, .unset] [(.ref b13), (.ref b13)])) _
    refine XS.aload X13.here hx rfl (hb hby at_65) rfl rfl ?_
    show Steps p.tables e below (T13.setTop (mkF m 67 #[.val (.int p1), .val (.int p2), .val (.long q3), .second, .val (.long q4), .second, .val (.long q5), .second, .val (.long q6), .second, .val (.ref b7), .val (.ref b8), .val (.int ((p1 &&& (2147483647 : Int32)) % (200 : Int32))), .val (.int ((p2 &&& (2147483647 : Int32)) % (200 : Int32))), .unset, .unset, .unset, .unset, .unset] [(.ref b7), (.ref b13), (.ref b13)])) _
    refine st14.trans ?_
    show Steps p.tables e below (T14.setTop (mkF m 70 #[.val (.int p1), .val (.int p2), .val (.long q3), .second, .val (.long q4), .second, .val (.long q5), .second, .val (.long q6), .second, .val (.ref b7), .val (.ref b8), .val (.int ((p1 &&& (2147483647 : Int32)) % (200 : Int32))), .val (.int ((p2 &&& (2147483647 : Int32)) % (200 : Int32))), .unset, .unset, .unset, .unset, .unset] [(.ref b13)])) _
    refine XS.astore X14.here hx rfl (hb hby at_70) rfl rfl (l' := #[.val (.int p1), .val (.int p2), .val (.long q3), .second, .val (.long q4), .second, .val (.long q5), .second, .val (.long q6), .second, .val (.ref b7), .val (.ref b8), .val (.int ((p1 &&& (2147483647 : Int32)) % (200 : Int32))), .val (.int ((p2 &&& (2147483647 : Int32)) % (200 : Int32))), .val (.ref b13), .unset, .unset, .unset, .unset]) rfl ?_
    show Steps p.tables e below (T14.setTop (mkF m 72 #[.val (.int p1), .val (.int p2), .val (.long q3), .second, .val (.long q4), .second, .val (.long q5), .second, .val (.long q6), .second, .val (.ref b7), .val (.ref b8), .val (.int ((p1 &&& (2147483647 : Int32)) % (200 : Int32))), .val (.int ((p2 &&& (2147483647 : Int32)) % (200 : Int32))), .val (.ref b13), .unset, .unset, .unset, .unset] [])) _
    refine st15 _ ?_
    show Steps p.tables e below (T15.setTop (mkF m 75 #[.val (.int p1), .val (.int p2), .val (.long q3), .second, .val (.long q4), .second, .val (.long q5), .second, .val (.long q6), .second, .val (.ref b7), .val (.ref b8), .val (.int ((p1 &&& (2147483647 : Int32)) % (200 : Int32))), .val (.int ((p2 &&& (2147483647 : Int32)) % (200 : Int32))), .val (.ref b13), .unset, .unset, .unset, .unset] [(.ref b15)])) _
    refine XS.dup X15.here hx rfl (hb hby at_75) rfl rfl ?_
    show Steps p.tables e below (T15.setTop (mkF m 76 #[.val (.int p1), .val (.int p2), .val (.long q3), .second, .val (.long q4), .second, .val (.long q5), .second, .val (.long q6), .second, .val (.ref b7), .val (.ref b8), .val (.int ((p1 &&& (2147483647 : Int32)) % (200 : Int32))), .val (.int ((p2 &&& (2147483647 : Int32)) % (200 : Int32))), .val (.ref b13), .unset, .unset, .unset, .unset] [(.ref b15), (.ref b15)])) _
    refine XS.aload X15.here hx rfl (hb hby at_76) rfl rfl ?_
    show Steps p.tables e below (T15.setTop (mkF m 78 #[.val (.int p1), .val (.int p2), .val (.long q3), .second, .val (.long q4), .second, .val (.long q5), .second, .val (.long q6), .second, .val (.ref b7), .val (.ref b8), .val (.int ((p1 &&& (2147483647 : Int32)) % (200 : Int32))), .val (.int ((p2 &&& (2147483647 : Int32)) % (200 : Int32))), .val (.ref b13), .unset, .unset, .unset, .unset] [(.ref b8), (.ref b15), (.ref b15)])) _
    refine st16.trans ?_
    show Steps p.tables e below (T16.setTop (mkF m 81 #[.val (.int p1), .val (.int p2), .val (.long q3), .second, .val (.long q4), .second, .val (.long q5), .second, .val (.long q6), .second, .val (.ref b7), .val (.ref b8), .val (.int ((p1 &&& (2147483647 : Int32)) % (200 : Int32))), .val (.int ((p2 &&& (2147483647 : Int32)) % (200 : Int32))), .val (.ref b13), .unset, .unset, .unset, .unset] [(.ref b15)])) _
    refine XS.astore X16.here hx rfl (hb hby at_81) rfl rfl (l' := #[.val (.int p1), .val (.int p2), .val (.long q3), .second, .val (.long q4), .second, .val (.long q5), .second, .val (.long q6), .second, .val (.ref b7), .val (.ref b8), .val (.int ((p1 &&& (2147483647 : Int32)) % (200 : Int32))), .val (.int ((p2 &&& (2147483647 : Int32)) % (200 : Int32))), .val (.ref b13), .val (.ref b15), .unset, .unset, .unset]) rfl ?_
    show Steps p.tables e below (T16.setTop (mkF m 83 #[.val (.int p1), .val (.int p2), .val (.long q3), .second, .val (.long q4), .second, .val (.long q5), .second, .val (.long q6), .second, .val (.ref b7), .val (.ref b8), .val (.int ((p1 &&& (2147483647 : Int32)) % (200 : Int32))), .val (.int ((p2 &&& (2147483647 : Int32)) % (200 : Int32))), .val (.ref b13), .val (.ref b15), .unset, .unset, .unset] [])) _
    refine stG _ ?_
    show Steps p.tables e below (TG.setTop (mkF m 144 #[.val (.int p1), .val (.int p2), .val (.long q3), .second, .val (.long q4), .second, .val (.long q5), .second, .val (.long q6), .second, .val (.ref b7), .val (.ref b8), .val (.int ((p1 &&& (2147483647 : Int32)) % (200 : Int32))), .val (.int ((p2 &&& (2147483647 : Int32)) % (200 : Int32))), .val (.ref b13), .val (.ref b15), .val (.int (own_agree ((p1 &&& (2147483647 : Int32)) % (200 : Int32)) ((p2 &&& (2147483647 : Int32)) % (200 : Int32)) q3 q4 q5 q6)), .unset, .unset] [])) _
    refine XS.iload XG.here hx rfl (hb hby at_144) rfl ?_
    show Steps p.tables e below (TG.setTop (mkF m 146 #[.val (.int p1), .val (.int p2), .val (.long q3), .second, .val (.long q4), .second, .val (.long q5), .second, .val (.long q6), .second, .val (.ref b7), .val (.ref b8), .val (.int ((p1 &&& (2147483647 : Int32)) % (200 : Int32))), .val (.int ((p2 &&& (2147483647 : Int32)) % (200 : Int32))), .val (.ref b13), .val (.ref b15), .val (.int (own_agree ((p1 &&& (2147483647 : Int32)) % (200 : Int32)) ((p2 &&& (2147483647 : Int32)) % (200 : Int32)) q3 q4 q5 q6)), .unset, .unset] [(.int (own_agree ((p1 &&& (2147483647 : Int32)) % (200 : Int32)) ((p2 &&& (2147483647 : Int32)) % (200 : Int32)) q3 q4 q5 q6))])) _
    refine XS.i2dS XG.here hx rfl (hb hby at_146) rfl rfl ?_
    show Steps p.tables e below (TG.setTop (mkF m 147 #[.val (.int p1), .val (.int p2), .val (.long q3), .second, .val (.long q4), .second, .val (.long q5), .second, .val (.long q6), .second, .val (.ref b7), .val (.ref b8), .val (.int ((p1 &&& (2147483647 : Int32)) % (200 : Int32))), .val (.int ((p2 &&& (2147483647 : Int32)) % (200 : Int32))), .val (.ref b13), .val (.ref b15), .val (.int (own_agree ((p1 &&& (2147483647 : Int32)) % (200 : Int32)) ((p2 &&& (2147483647 : Int32)) % (200 : Int32)) q3 q4 q5 q6)), .unset, .unset] [(.double (FP.i2d (own_agree ((p1 &&& (2147483647 : Int32)) % (200 : Int32)) ((p2 &&& (2147483647 : Int32)) % (200 : Int32)) q3 q4 q5 q6)))])) _
    refine XG.ldc2DoubleC hx hown (mvT hZ (hw _ (List.mem_of_getElem? (i := 22) rfl))) (g := (mkF m 147 #[.val (.int p1), .val (.int p2), .val (.long q3), .second, .val (.long q4), .second, .val (.long q5), .second, .val (.long q6), .second, .val (.ref b7), .val (.ref b8), .val (.int ((p1 &&& (2147483647 : Int32)) % (200 : Int32))), .val (.int ((p2 &&& (2147483647 : Int32)) % (200 : Int32))), .val (.ref b13), .val (.ref b15), .val (.int (own_agree ((p1 &&& (2147483647 : Int32)) % (200 : Int32)) ((p2 &&& (2147483647 : Int32)) % (200 : Int32)) q3 q4 q5 q6)), .unset, .unset] [(.double (FP.i2d (own_agree ((p1 &&& (2147483647 : Int32)) % (200 : Int32)) ((p2 &&& (2147483647 : Int32)) % (200 : Int32)) q3 q4 q5 q6)))])) rfl (hb hby at_147) _ ?_
    show Steps p.tables e below (TG.setTop (mkF m 150 #[.val (.int p1), .val (.int p2), .val (.long q3), .second, .val (.long q4), .second, .val (.long q5), .second, .val (.long q6), .second, .val (.ref b7), .val (.ref b8), .val (.int ((p1 &&& (2147483647 : Int32)) % (200 : Int32))), .val (.int ((p2 &&& (2147483647 : Int32)) % (200 : Int32))), .val (.ref b13), .val (.ref b15), .val (.int (own_agree ((p1 &&& (2147483647 : Int32)) % (200 : Int32)) ((p2 &&& (2147483647 : Int32)) % (200 : Int32)) q3 q4 q5 q6)), .unset, .unset] [(.double (4641240890982006784 : UInt64)), (.double (FP.i2d (own_agree ((p1 &&& (2147483647 : Int32)) % (200 : Int32)) ((p2 &&& (2147483647 : Int32)) % (200 : Int32)) q3 q4 q5 q6)))])) _
    refine XS.ddivS XG.here hx rfl (hb hby at_150) rfl (own_nn _) rfl ?_
    show Steps p.tables e below (TG.setTop (mkF m 151 #[.val (.int p1), .val (.int p2), .val (.long q3), .second, .val (.long q4), .second, .val (.long q5), .second, .val (.long q6), .second, .val (.ref b7), .val (.ref b8), .val (.int ((p1 &&& (2147483647 : Int32)) % (200 : Int32))), .val (.int ((p2 &&& (2147483647 : Int32)) % (200 : Int32))), .val (.ref b13), .val (.ref b15), .val (.int (own_agree ((p1 &&& (2147483647 : Int32)) % (200 : Int32)) ((p2 &&& (2147483647 : Int32)) % (200 : Int32)) q3 q4 q5 q6)), .unset, .unset] [(.double (FP.ddiv (FP.i2d (own_agree ((p1 &&& (2147483647 : Int32)) % (200 : Int32)) ((p2 &&& (2147483647 : Int32)) % (200 : Int32)) q3 q4 q5 q6)) (4641240890982006784 : UInt64)))])) _
    refine XS.dstore XG.here hx rfl (hb hby at_151) rfl (l' := #[.val (.int p1), .val (.int p2), .val (.long q3), .second, .val (.long q4), .second, .val (.long q5), .second, .val (.long q6), .second, .val (.ref b7), .val (.ref b8), .val (.int ((p1 &&& (2147483647 : Int32)) % (200 : Int32))), .val (.int ((p2 &&& (2147483647 : Int32)) % (200 : Int32))), .val (.ref b13), .val (.ref b15), .val (.int (own_agree ((p1 &&& (2147483647 : Int32)) % (200 : Int32)) ((p2 &&& (2147483647 : Int32)) % (200 : Int32)) q3 q4 q5 q6)), .val (.double (FP.ddiv (FP.i2d (own_agree ((p1 &&& (2147483647 : Int32)) % (200 : Int32)) ((p2 &&& (2147483647 : Int32)) % (200 : Int32)) q3 q4 q5 q6)) (4641240890982006784 : UInt64))), .second]) rfl ?_
    show Steps p.tables e below (TG.setTop (mkF m 153 #[.val (.int p1), .val (.int p2), .val (.long q3), .second, .val (.long q4), .second, .val (.long q5), .second, .val (.long q6), .second, .val (.ref b7), .val (.ref b8), .val (.int ((p1 &&& (2147483647 : Int32)) % (200 : Int32))), .val (.int ((p2 &&& (2147483647 : Int32)) % (200 : Int32))), .val (.ref b13), .val (.ref b15), .val (.int (own_agree ((p1 &&& (2147483647 : Int32)) % (200 : Int32)) ((p2 &&& (2147483647 : Int32)) % (200 : Int32)) q3 q4 q5 q6)), .val (.double (FP.ddiv (FP.i2d (own_agree ((p1 &&& (2147483647 : Int32)) % (200 : Int32)) ((p2 &&& (2147483647 : Int32)) % (200 : Int32)) q3 q4 q5 q6)) (4641240890982006784 : UInt64))), .second] [])) _
    refine XS.aload XG.here hx rfl (hb hby at_153) rfl rfl ?_
    show Steps p.tables e below (TG.setTop (mkF m 155 #[.val (.int p1), .val (.int p2), .val (.long q3), .second, .val (.long q4), .second, .val (.long q5), .second, .val (.long q6), .second, .val (.ref b7), .val (.ref b8), .val (.int ((p1 &&& (2147483647 : Int32)) % (200 : Int32))), .val (.int ((p2 &&& (2147483647 : Int32)) % (200 : Int32))), .val (.ref b13), .val (.ref b15), .val (.int (own_agree ((p1 &&& (2147483647 : Int32)) % (200 : Int32)) ((p2 &&& (2147483647 : Int32)) % (200 : Int32)) q3 q4 q5 q6)), .val (.double (FP.ddiv (FP.i2d (own_agree ((p1 &&& (2147483647 : Int32)) % (200 : Int32)) ((p2 &&& (2147483647 : Int32)) % (200 : Int32)) q3 q4 q5 q6)) (4641240890982006784 : UInt64))), .second] [(.ref b13)])) _
    refine XS.aload XG.here hx rfl (hb hby at_155) rfl rfl ?_
    show Steps p.tables e below (TG.setTop (mkF m 157 #[.val (.int p1), .val (.int p2), .val (.long q3), .second, .val (.long q4), .second, .val (.long q5), .second, .val (.long q6), .second, .val (.ref b7), .val (.ref b8), .val (.int ((p1 &&& (2147483647 : Int32)) % (200 : Int32))), .val (.int ((p2 &&& (2147483647 : Int32)) % (200 : Int32))), .val (.ref b13), .val (.ref b15), .val (.int (own_agree ((p1 &&& (2147483647 : Int32)) % (200 : Int32)) ((p2 &&& (2147483647 : Int32)) % (200 : Int32)) q3 q4 q5 q6)), .val (.double (FP.ddiv (FP.i2d (own_agree ((p1 &&& (2147483647 : Int32)) % (200 : Int32)) ((p2 &&& (2147483647 : Int32)) % (200 : Int32)) q3 q4 q5 q6)) (4641240890982006784 : UInt64))), .second] [(.ref b15), (.ref b13)])) _
    refine st17.trans ?_
    show Steps p.tables e below (T17.setTop (mkF m 160 #[.val (.int p1), .val (.int p2), .val (.long q3), .second, .val (.long q4), .second, .val (.long q5), .second, .val (.long q6), .second, .val (.ref b7), .val (.ref b8), .val (.int ((p1 &&& (2147483647 : Int32)) % (200 : Int32))), .val (.int ((p2 &&& (2147483647 : Int32)) % (200 : Int32))), .val (.ref b13), .val (.ref b15), .val (.int (own_agree ((p1 &&& (2147483647 : Int32)) % (200 : Int32)) ((p2 &&& (2147483647 : Int32)) % (200 : Int32)) q3 q4 q5 q6)), .val (.double (FP.ddiv (FP.i2d (own_agree ((p1 &&& (2147483647 : Int32)) % (200 : Int32)) ((p2 &&& (2147483647 : Int32)) % (200 : Int32)) q3 q4 q5 q6)) (4641240890982006784 : UInt64))), .second] [(.double (FP.ddiv (FP.i2d (Int32.ofNat (own_cnt (own_f ((p1 &&& (2147483647 : Int32)) % (200 : Int32)).toNatClampNeg ((p2 &&& (2147483647 : Int32)) % (200 : Int32)).toNatClampNeg q3 q5) (own_f ((p1 &&& (2147483647 : Int32)) % (200 : Int32)).toNatClampNeg ((p2 &&& (2147483647 : Int32)) % (200 : Int32)).toNatClampNeg q4 q6) 200))) (4641240890982006784 : UInt64)))])) _
    refine XS.dload X17.here hx rfl (hb hby at_160) rfl ?_
    show Steps p.tables e below (T17.setTop (mkF m 162 #[.val (.int p1), .val (.int p2), .val (.long q3), .second, .val (.long q4), .second, .val (.long q5), .second, .val (.long q6), .second, .val (.ref b7), .val (.ref b8), .val (.int ((p1 &&& (2147483647 : Int32)) % (200 : Int32))), .val (.int ((p2 &&& (2147483647 : Int32)) % (200 : Int32))), .val (.ref b13), .val (.ref b15), .val (.int (own_agree ((p1 &&& (2147483647 : Int32)) % (200 : Int32)) ((p2 &&& (2147483647 : Int32)) % (200 : Int32)) q3 q4 q5 q6)), .val (.double (FP.ddiv (FP.i2d (own_agree ((p1 &&& (2147483647 : Int32)) % (200 : Int32)) ((p2 &&& (2147483647 : Int32)) % (200 : Int32)) q3 q4 q5 q6)) (4641240890982006784 : UInt64))), .second] [(.double (FP.ddiv (FP.i2d (own_agree ((p1 &&& (2147483647 : Int32)) % (200 : Int32)) ((p2 &&& (2147483647 : Int32)) % (200 : Int32)) q3 q4 q5 q6)) (4641240890982006784 : UInt64))), (.double (FP.ddiv (FP.i2d (Int32.ofNat (own_cnt (own_f ((p1 &&& (2147483647 : Int32)) % (200 : Int32)).toNatClampNeg ((p2 &&& (2147483647 : Int32)) % (200 : Int32)).toNatClampNeg q3 q5) (own_f ((p1 &&& (2147483647 : Int32)) % (200 : Int32)).toNatClampNeg ((p2 &&& (2147483647 : Int32)) % (200 : Int32)).toNatClampNeg q4 q6) 200))) (4641240890982006784 : UInt64)))])) _
    refine XS.dcmpS X17.here hx rfl (hb hby at_162) rfl rfl ?_
    show Steps p.tables e below (T17.setTop (mkF m 163 #[.val (.int p1), .val (.int p2), .val (.long q3), .second, .val (.long q4), .second, .val (.long q5), .second, .val (.long q6), .second, .val (.ref b7), .val (.ref b8), .val (.int ((p1 &&& (2147483647 : Int32)) % (200 : Int32))), .val (.int ((p2 &&& (2147483647 : Int32)) % (200 : Int32))), .val (.ref b13), .val (.ref b15), .val (.int (own_agree ((p1 &&& (2147483647 : Int32)) % (200 : Int32)) ((p2 &&& (2147483647 : Int32)) % (200 : Int32)) q3 q4 q5 q6)), .val (.double (FP.ddiv (FP.i2d (own_agree ((p1 &&& (2147483647 : Int32)) % (200 : Int32)) ((p2 &&& (2147483647 : Int32)) % (200 : Int32)) q3 q4 q5 q6)) (4641240890982006784 : UInt64))), .second] [(.int (cmpValue (FP.dcmp (FP.ddiv (FP.i2d (Int32.ofNat (own_cnt (own_f ((p1 &&& (2147483647 : Int32)) % (200 : Int32)).toNatClampNeg ((p2 &&& (2147483647 : Int32)) % (200 : Int32)).toNatClampNeg q3 q5) (own_f ((p1 &&& (2147483647 : Int32)) % (200 : Int32)).toNatClampNeg ((p2 &&& (2147483647 : Int32)) % (200 : Int32)).toNatClampNeg q4 q6) 200))) (4641240890982006784 : UInt64)) (FP.ddiv (FP.i2d (own_agree ((p1 &&& (2147483647 : Int32)) % (200 : Int32)) ((p2 &&& (2147483647 : Int32)) % (200 : Int32)) q3 q4 q5 q6)) (4641240890982006784 : UInt64))) .l))])) _
    refine XS.ifNo X17.here hx rfl (hb hby at_163) rfl ((if0 _ _).trans (teq (dcmpV_eq (congrArg (fun z => FP.ddiv (FP.i2d z) (4641240890982006784 : UInt64)) (own_agrees p1 p2 q3 q4 q5 q6)) (own_nn _) .l)).2) ?_
    show Steps p.tables e below (T17.setTop (mkF m 166 #[.val (.int p1), .val (.int p2), .val (.long q3), .second, .val (.long q4), .second, .val (.long q5), .second, .val (.long q6), .second, .val (.ref b7), .val (.ref b8), .val (.int ((p1 &&& (2147483647 : Int32)) % (200 : Int32))), .val (.int ((p2 &&& (2147483647 : Int32)) % (200 : Int32))), .val (.ref b13), .val (.ref b15), .val (.int (own_agree ((p1 &&& (2147483647 : Int32)) % (200 : Int32)) ((p2 &&& (2147483647 : Int32)) % (200 : Int32)) q3 q4 q5 q6)), .val (.double (FP.ddiv (FP.i2d (own_agree ((p1 &&& (2147483647 : Int32)) % (200 : Int32)) ((p2 &&& (2147483647 : Int32)) % (200 : Int32)) q3 q4 q5 q6)) (4641240890982006784 : UInt64))), .second] [])) _
    refine XS.iconst X17.here hx rfl (hb hby at_166) ?_
    show Steps p.tables e below (T17.setTop (mkF m 167 #[.val (.int p1), .val (.int p2), .val (.long q3), .second, .val (.long q4), .second, .val (.long q5), .second, .val (.long q6), .second, .val (.ref b7), .val (.ref b8), .val (.int ((p1 &&& (2147483647 : Int32)) % (200 : Int32))), .val (.int ((p2 &&& (2147483647 : Int32)) % (200 : Int32))), .val (.ref b13), .val (.ref b15), .val (.int (own_agree ((p1 &&& (2147483647 : Int32)) % (200 : Int32)) ((p2 &&& (2147483647 : Int32)) % (200 : Int32)) q3 q4 q5 q6)), .val (.double (FP.ddiv (FP.i2d (own_agree ((p1 &&& (2147483647 : Int32)) % (200 : Int32)) ((p2 &&& (2147483647 : Int32)) % (200 : Int32)) q3 q4 q5 q6)) (4641240890982006784 : UInt64))), .second] [(.int (1 : Int32))])) _
    refine XS.goto X17.here hx rfl (pc0 := 167) (pc' := 171) rfl (hb hby at_167) (by decide) (by decide) ?_
    show Steps p.tables e below (T17.setTop (mkF m 171 #[.val (.int p1), .val (.int p2), .val (.long q3), .second, .val (.long q4), .second, .val (.long q5), .second, .val (.long q6), .second, .val (.ref b7), .val (.ref b8), .val (.int ((p1 &&& (2147483647 : Int32)) % (200 : Int32))), .val (.int ((p2 &&& (2147483647 : Int32)) % (200 : Int32))), .val (.ref b13), .val (.ref b15), .val (.int (own_agree ((p1 &&& (2147483647 : Int32)) % (200 : Int32)) ((p2 &&& (2147483647 : Int32)) % (200 : Int32)) q3 q4 q5 q6)), .val (.double (FP.ddiv (FP.i2d (own_agree ((p1 &&& (2147483647 : Int32)) % (200 : Int32)) ((p2 &&& (2147483647 : Int32)) % (200 : Int32)) q3 q4 q5 q6)) (4641240890982006784 : UInt64))), .second] [(.int (1 : Int32))])) _
    exact retN X17 hx (t := .boolean) Bd.returns (by simp) (hb hby at_171) hr
  · show Q0 Z p1 p2 q3 q4 q5 q6 h0 n0 _ T17.heap _
    exact ⟨rfl, N17⟩
set_option maxRecDepth 65536 in
set_option maxHeartbeats 40000000 in
theorem comes_1 {Post : Tables → Env → Array Value → State → Outcome → State → Prop} (hpost : ∀ tb e args s v u, (limb_1_1.after args s (.returned v) u = true ∧ limb_1_2.after args s (.returned v) u = true ∧ True) → FrameEnd s (.returned v) u (Jvm.fieldLocs frame_1_writes args s ++ Jvm.arrayLocs frame_1_arrays args s ++ Jvm.staticLocs frame_1_statics s) 24 1728 → Post tb e args s (.returned v) u) :
    ArmFor flags0 classFile x code maxLocals ret World_1 tables_1 room_1 Calls_1 rest_1 Pre_1 Post := by
  intro l hfl _ _ p e ha hc hk s m args below hf hA hF happ hP
  obtain ⟨hcalls, hrest, hpre⟩ := hP
  obtain ⟨-, -, -, hnamed, -, -, -, hat⟩ := (Spec.applies_iff hf).mp happ
  obtain ⟨hg, hn⟩ := and_e (Cond.before_iff.mp (show (Jvm.Cond.and given_1 narrow_1).before args s = true from hpre))
  obtain ⟨g18, g19⟩ := and_e hg
  obtain ⟨g20, g21⟩ := and_e g19
  obtain ⟨g22, g23⟩ := and_e g21
  obtain ⟨g24, g25⟩ := and_e g23
  obtain ⟨g26, g27⟩ := and_e g25
  obtain ⟨g28, g29⟩ := and_e g27
  obtain ⟨w0, w1, w2, w3, w4, w5, rfl⟩ : ∃ w0 w1 w2 w3 w4 w5 : Value, args = #[w0, w1, w2, w3, w4, w5] := by
    have hs : args.size = 6 := by simpa [Cond.value, given_1] using g18
    obtain ⟨L⟩ := args
    match L, hs with
    | [w0, w1, w2, w3, w4, w5], _ => exact ⟨w0, w1, w2, w3, w4, w5, rfl⟩
  have hw := fun d (hd : d ∈ tables_1) => atoms_spec (ws := Jvm.Cond.code x code maxLocals ret :: tables_1) hat d (List.mem_cons_of_mem _ hd)
  have hfit : Fit s := fun {y c} hc i hi => by
    obtain ⟨ha, rfl⟩ := Array.getElem?_eq_some_iff.mp hc
    have q := List.all_eq_true.mp ((Array.all_eq_true_iff_forall_mem.mp hF) _ (Array.getElem_mem ha)) i (List.mem_range.mpr hi)
    simpa [Array.getElem?_eq_getElem hi] using q
  obtain ⟨i0, ei0⟩ := is_v g20
  obtain rfl : w0 = (.int i0) := Option.some.inj ei0
  obtain ⟨i1, ei1⟩ := is_v g22
  obtain rfl : w1 = (.int i1) := Option.some.inj ei1
  obtain ⟨i2, ei2⟩ := isL_v g24
  obtain rfl : w2 = (.long i2) := Option.some.inj ei2
  obtain ⟨i3, ei3⟩ := isL_v g26
  obtain rfl : w3 = (.long i3) := Option.some.inj ei3
  obtain ⟨i4, ei4⟩ := isL_v g28
  obtain rfl : w4 = (.long i4) := Option.some.inj ei4
  obtain ⟨i5, ei5⟩ := isL_v g29
  obtain rfl : w5 = (.long i5) := Option.some.inj ei5
  obtain ⟨n, o, h1, h2, h3, _, L, rfl, ⟨rfl, N⟩, hq⟩ := rm0 l s _ hw tables_1 i0 i1 i2 i3 i4 i5 s.heap s.heap.size (Nat.le_refl _) p e ha hc hk s m _ below hf ((Spec.applies_iff_loose hf).mp happ).1 ⟨rfl, State.Warmed39.refl s, rfl⟩ trivial
  refine ⟨n, _, h1, h2, h3, hpost _ _ _ _ _ _ ⟨Cond.after_iff.mpr rfl, Cond.after_iff.mpr (eq_i res_at (Term.int_eval (1)) rfl), trivial⟩ ⟨hq.1, hq.2.1, (hq.2.2.sift fun y hy => Or.inr (N y hy)).mono (by decide) (by decide)⟩⟩
theorem main_1_1 : Claimed_1_1 := comes_1 fun _ _ _ _ _ _ h hF => ⟨h.1, hF⟩
theorem main_1_2 : Claimed_1_2 := comes_1 fun _ _ _ _ _ _ h hF => ⟨h.2.1, hF⟩

end Jvm.Pilot.@@N@@
namespace Jvm.Pilot.@@N@@
open Jvm Jvm.ClassFile Sem Op Lib Jvm.Free Jvm.Stand Jvm.Pilot.@@N@@.Jvm.D
/-! MADE BY PROGRAM (witnessworld.py) out of the Statement's table words and the real class files: 11 classes; the members and pool entries that the words name. The judged class is class 1, her method 1. -/
namespace start1
open Jvm.ClassFile
def u (s : String) : CpInfo := .utf8 (stringToUtf16 s)
/-- a pool by its gaps: so many unusable entries, then the entry; so many at the end -/
def gap : Nat → List CpInfo → List CpInfo
  | 0, r => r
  | n + 1, r => .unusable :: gap n r
def poolList (es : List (Nat × CpInfo)) (last : Nat) : List CpInfo := es.foldr (fun e r => gap e.1 (e.2 :: r)) (gap last [])
def pool (es : List (Nat × CpInfo)) (last : Nat) : Array CpInfo := ⟨poolList es last⟩
def fileOf (pool : Array CpInfo) (this : Nat) (attrs : Array Attribute := #[]) (ms : Array MethodInfo := #[]) (fl : Nat := 33) (sup : Nat := 0) (ifs : Array Nat := #[]) (fds : Array FieldInfo := #[]) : ClassFile where
  minorVersion := 0
  majorVersion := 65
  constantPool := pool
  accessFlags := fl
  thisClass := this
  superClass := sup
  interfaces := ifs
  fields := fds
  methods := ms
  attributes := attrs
def plain (name : String) (sup : Option ClassId) : Class where
  name := name
  kind := .ordinary
  loader := none
  accessFlags := 33
  super := sup
  interfaces := #[]
  cf := none
  fields := #[]
  methods := #[]
  instanceTypes := #[]
  staticTypes := #[]
  resolved := #[]
  callSites := []
  init := .initialized
  statics := none
  mirror := none

def pool0 : Array CpInfo := pool [(5, u "<init>"), (0, u "()V"), (1, .class_ 10), (1, u "java/lang/Object"), (85, u "clone"), (0, u "()Ljava/lang/Object;")] 26

def k0c0 : Code := { maxStack := 0, maxLocals := 1, code := object_method_1_code, exceptionTable := #[], attributes := #[] }
def k0m0 : Method := { name := "<init>", desc := "()V", sig := { parameters := [], returnType := none }, accessFlags := 1, code := some k0c0 }
def k0m1 : Method := { name := "clone", desc := "()Ljava/lang/Object;", sig := { parameters := [], returnType := some (.object "java/lang/Object") }, accessFlags := 260, code := none }
/-- java/lang/Object -/
def k0 : Class := { plain "java/lang/Object" none with
  accessFlags := 33
  interfaces := #[]
  cf := some (fileOf pool0 8 #[] #[{ accessFlags := 1, nameIndex := 5, descriptorIndex := 6, attributes := #[] }, { accessFlags := 260, nameIndex := 96, descriptorIndex := 97, attributes := #[] }] 33 0 #[] #[])
  fields := #[]
  methods := #[k0m0, k0m1]
  instanceTypes := #[]
  staticTypes := #[]
  resolved := Array.replicate 124 none
  statics := none }

def pool1 : Array CpInfo := pool [(2, .class_ 4), (1, u "java/lang/Object"), (0, u "<init>"), (0, u "()V"), (0, .integer 2147483647), (0, .class_ 9), (0, u "com/example/frontier/frontier/content/Sketch"), (0, .methodref 8 11), (0, .nameAndType 5 12), (0, u "([J)V"), (0, .double 4641240890982006784), (1, .methodref 8 16), (0, .nameAndType 17 18), (0, u "similarity"), (0, u "(Lcom/example/frontier/frontier/content/Sketch;)D"), (0, .class_ 20), (0, u "com/example/frontier/frontier/content/SketchSimilarityPinLaw"), (2, u "law"), (0, u "(IIJJJJ)Z")] 5

def k1m0 : Method := { name := "<init>", desc := "()V", sig := { parameters := [], returnType := none }, accessFlags := 1, code := none }
def k1c1 : Code := { maxStack := 5, maxLocals := 19, code := code, exceptionTable := #[], attributes := #[] }
def k1m1 : Method := { name := "law", desc := "(IIJJJJ)Z", sig := { parameters := [.int, .int, .long, .long, .long, .long], returnType := some .boolean }, accessFlags := 9, code := some k1c1 }
/-- com/example/frontier/frontier/content/SketchSimilarityPinLaw -/
def k1 : Class := { plain "com/example/frontier/frontier/content/SketchSimilarityPinLaw" (some 0) with
  accessFlags := 49
  interfaces := #[]
  cf := some (fileOf pool1 19 #[] #[{ accessFlags := 1, nameIndex := 5, descriptorIndex := 6, attributes := #[] }, { accessFlags := 9, nameIndex := 23, descriptorIndex := 24, attributes := #[] }] 49 2 #[] #[])
  fields := #[]
  methods := #[k1m0, k1m1]
  instanceTypes := #[]
  staticTypes := #[]
  resolved := Array.replicate 30 none
  statics := none }

def pool2 : Array CpInfo := pool [(1, .methodref 2 3), (0, .class_ 4), (0, .nameAndType 5 6), (0, u "java/lang/Object"), (0, u "<init>"), (0, u "()V"), (0, .class_ 8), (0, u "com/example/frontier/frontier/content/Sketch"), (9, .methodref 19 20), (0, .class_ 21), (0, .nameAndType 22 23), (0, u "[J"), (0, u "clone"), (0, u "()Ljava/lang/Object;"), (0, .fieldref 7 25), (0, .nameAndType 26 21), (0, u "values"), (32, u "MULTIPLIERS"), (2, u "INCREMENTS"), (6, u "([J)V"), (42, .double 4641240890982006784), (5, u "SIZE"), (0, u "I"), (2, u "SHINGLE_WORDS"), (1, u "FNV_OFFSET_BASIS"), (0, u "J"), (0, u "FNV_PRIME"), (0, u "GOLDEN_GAMMA"), (0, u "FUNCTIONS_SEED"), (17, u "similarity"), (0, u "(Lcom/example/frontier/frontier/content/Sketch;)D")] 18

def k2c0 : Code := { maxStack := 3, maxLocals := 2, code := prog_1_method_1_code, exceptionTable := #[], attributes := #[] }
def k2m0 : Method := { name := "<init>", desc := "([J)V", sig := { parameters := [(.array .long)], returnType := none }, accessFlags := 0, code := some k2c0 }
def k2c1 : Code := { maxStack := 4, maxLocals := 4, code := prog_1_method_10_code, exceptionTable := #[], attributes := #[] }
def k2m1 : Method := { name := "similarity", desc := "(Lcom/example/frontier/frontier/content/Sketch;)D", sig := { parameters := [(.object "com/example/frontier/frontier/content/Sketch")], returnType := some .double }, accessFlags := 1, code := some k2c1 }
/-- com/example/frontier/frontier/content/Sketch -/
def k2 : Class := { plain "com/example/frontier/frontier/content/Sketch" (some 0) with
  accessFlags := 49
  interfaces := #[]
  cf := some (fileOf pool2 7 #[] #[{ accessFlags := 0, nameIndex := 5, descriptorIndex := 69, attributes := #[] }, { accessFlags := 1, nameIndex := 146, descriptorIndex := 147, attributes := #[] }] 49 2 #[] #[{ accessFlags := 25, nameIndex := 118, descriptorIndex := 119, attributes := #[] }, { accessFlags := 25, nameIndex := 122, descriptorIndex := 119, attributes := #[] }, { accessFlags := 26, nameIndex := 124, descriptorIndex := 125, attributes := #[] }, { accessFlags := 26, nameIndex := 126, descriptorIndex := 125, attributes := #[] }, { accessFlags := 26, nameIndex := 127, descriptorIndex := 125, attributes := #[] }, { accessFlags := 26, nameIndex := 128, descriptorIndex := 125, attributes := #[] }, { accessFlags := 26, nameIndex := 59, descriptorIndex := 21, attributes := #[] }, { accessFlags := 26, nameIndex := 62, descriptorIndex := 21, attributes := #[] }, { accessFlags := 18, nameIndex := 26, descriptorIndex := 21, attributes := #[] }])
  fields := #[{ name := "SIZE", type := .int, accessFlags := 25, slot := 0, constantValue := 0 }, { name := "SHINGLE_WORDS", type := .int, accessFlags := 25, slot := 1, constantValue := 0 }, { name := "FNV_OFFSET_BASIS", type := .long, accessFlags := 26, slot := 2, constantValue := 0 }, { name := "FNV_PRIME", type := .long, accessFlags := 26, slot := 3, constantValue := 0 }, { name := "GOLDEN_GAMMA", type := .long, accessFlags := 26, slot := 4, constantValue := 0 }, { name := "FUNCTIONS_SEED", type := .long, accessFlags := 26, slot := 5, constantValue := 0 }, { name := "MULTIPLIERS", type := (.array .long), accessFlags := 26, slot := 6, constantValue := 0 }, { name := "INCREMENTS", type := (.array .long), accessFlags := 26, slot := 7, constantValue := 0 }, { name := "values", type := (.array .long), accessFlags := 18, slot := 0, constantValue := 0 }]
  methods := #[k2m0, k2m1]
  instanceTypes := #[(.array .long)]
  staticTypes := #[.int, .int, .long, .long, .long, .long, (.array .long), (.array .long)]
  resolved := Array.replicate 166 none
  statics := none }

def pool3 : Array CpInfo := pool [(1, .class_ 2), (0, u "java/lang/Cloneable"), (0, .class_ 4), (0, u "java/lang/Object")] 2

/-- java/lang/Cloneable -/
def k3 : Class := { plain "java/lang/Cloneable" (some 0) with
  accessFlags := 1537
  interfaces := #[]
  cf := some (fileOf pool3 1 #[] #[] 1537 3 #[] #[])
  fields := #[]
  methods := #[]
  instanceTypes := #[]
  staticTypes := #[]
  resolved := Array.replicate 7 none
  statics := none }

def pool4 : Array CpInfo := pool [(1, u "java/io/Serializable"), (0, .class_ 1), (0, u "java/lang/Object"), (0, .class_ 3)] 3

/-- java/io/Serializable -/
def k4 : Class := { plain "java/io/Serializable" (some 0) with
  accessFlags := 1537
  interfaces := #[]
  cf := some (fileOf pool4 2 #[] #[] 1537 4 #[] #[])
  fields := #[]
  methods := #[]
  instanceTypes := #[]
  staticTypes := #[]
  resolved := Array.replicate 8 none
  statics := none }

/-- the primitive byte -/
def k5 : Class := { plain "byte" none with kind := .primitive 'B', accessFlags := 0x411 }
/-- [B -/
def k6 : Class := { plain "[B" (some 0) with kind := .array 5 .byte, interfaces := #[3, 4], accessFlags := 1041 }

/-- the primitive int -/
def k7 : Class := { plain "int" none with kind := .primitive 'I', accessFlags := 0x411 }
/-- [I -/
def k8 : Class := { plain "[I" (some 0) with kind := .array 7 .int, interfaces := #[3, 4], accessFlags := 1041 }

/-- the primitive long -/
def k9 : Class := { plain "long" none with kind := .primitive 'J', accessFlags := 0x411 }
/-- [J -/
def k10 : Class := { plain "[J" (some 0) with kind := .array 9 .long, interfaces := #[3, 4], accessFlags := 1041 }

def heap : Heap := #[]
def classes : Array Class := #[k0, k1, k2, k3, k4, k5, k6, k7, k8, k9, k10]
def interned : List (Array UInt16 × Addr) := []
def slotsUsed : Nat := 0
def theMethod : MethodId := ⟨1, 1⟩
def args0 : Array Value := #[.int 3, .int 10, .long 4, .long 5, .long 6, .long 6]
def aboutOver (below : List Frame) : State where
  vm := { classes := classes, interned := interned.toArray }
  heap := heap
  slotsUsed := slotsUsed
  threads := #[{ frames := .invoking theMethod args0 :: below }]
def below0 : List Frame := [.native { method := ⟨0, 0⟩, args := #[] }]
def about1 : State := aboutOver below0
def p0 : Program := .bare "" "" ""
def e0 : Env := launch0.env 0 0 0
theorem w_frames : about1.frames = Frame.invoking theMethod args0 :: below0 := rfl
set_option maxRecDepth 65536 in
theorem w_args : argsFit about1.vm theMethod args0 = true := by decide +kernel
set_option maxRecDepth 65536 in
theorem w_heap : heapFits about1 = true := by decide +kernel
set_option maxRecDepth 65536 in
theorem w_runnable : about1.curStatus? = some .runnable := by decide +kernel
set_option maxRecDepth 65536 in
theorem w_alone : about1.alone = true := by decide +kernel
set_option maxRecDepth 65536 in
theorem w_named : about1.methodNamed? x = some theMethod := by decide +kernel
set_option maxRecDepth 65536 in
theorem w_hears : about1.hears theMethod below0 = true := by decide +kernel
set_option maxRecDepth 65536 in
theorem w_ripe : about1.ripe theMethod args0 below0 = true := by decide +kernel
theorem w_running : about1.status = .running := rfl
set_option maxRecDepth 65536 in
theorem w_room : about1.hasRoom e0.platform room_1 = true :=
  launch0.hasRoom_least _ room_1 (by decide +kernel) (by decide +kernel) (by decide +kernel) (by decide +kernel) (by decide +kernel) (by decide +kernel)
theorem allAtoms_all (ts : List Jvm.Cond) (a : Array Jvm.Value) (st : Jvm.State) : (allAtoms ts).before a st = ts.all (fun c => c.before a st) := by
  induction ts with
  | nil => rfl
  | cons c t ih =>
    show (Jvm.Cond.and c (allAtoms t)).before a st = _
    rw [Jvm.Cond.before_and, ih, List.all_cons]
def words1 : List Jvm.Cond := Jvm.Cond.code x code maxLocals ret :: tables_1
/-- a 'code' word, met by the world's own term for the bytes: nothing is compared byte by byte -/
theorem code_word {y : MethodName} {bytes : ByteArray} {mx : Nat} {rt : Option FieldType} {a : Array Value} {s : State} {m : MethodId} {meth : Method} {c : Code} (h1 : s.methodNamed? y = some m) (h2 : s.vm.method? m = some meth) (h3 : meth.code = some c) (h4 : c.code = bytes)
    (h5 : (c.maxLocals == mx && c.exceptionTable.isEmpty && decide (c.maxStack ≤ mostOperands) && decide (meth.sig.returnType = rt) && !meth.locks && decide (parseMethodDescriptor y.desc = some meth.sig)) = true) : (Jvm.Cond.code y bytes mx rt).before a s = true := by
  simp only [Bool.and_eq_true, beq_iff_eq, Bool.not_eq_true', decide_eq_true_eq] at h5
  obtain ⟨⟨⟨⟨⟨g1, g2⟩, g3⟩, g4⟩, g5⟩, g6⟩ := h5
  simp [Cond.before, Cond.holds, Cond.value, h1, h2, h3, h4, g1, g2, g3, g4, g5, g6]
def isCode : Jvm.Cond → Bool
  | .code _ _ _ _ => true
  | _ => false
theorem all_split {L : List Jvm.Cond} {P : Jvm.Cond → Bool} (h1 : L.all (fun c => isCode c || P c) = true) (h2 : ∀ c ∈ L.filter isCode, P c = true) : L.all P = true := by
  refine List.all_eq_true.mpr fun c hc => ?_
  have h := List.all_eq_true.mp h1 c hc
  rcases Bool.eq_false_or_eq_true (isCode c) with hi | hi
  · exact h2 c (List.mem_filter.mpr ⟨hc, hi⟩)
  · simpa [hi] using h
set_option maxRecDepth 65536 in
theorem w_c0 : (Jvm.Cond.code x code maxLocals ret).before args0 about1 = true := code_word (m := ⟨1, 1⟩) (meth := k1m1) (c := k1c1) (by decide +kernel) rfl rfl rfl (by decide +kernel)
set_option maxRecDepth 65536 in
theorem w_c1 : (Jvm.Cond.code ({ cls := "com/example/frontier/frontier/content/Sketch", name := "<init>", desc := "([J)V" } : Jvm.MethodName) prog_1_method_1_code (2 : Nat) (Option.none : Option Jvm.ClassFile.FieldType)).before args0 about1 = true := code_word (m := ⟨2, 0⟩) (meth := k2m0) (c := k2c0) (by decide +kernel) rfl rfl rfl (by decide +kernel)
set_option maxRecDepth 65536 in
theorem w_c2 : (Jvm.Cond.code ({ cls := "java/lang/Object", name := "<init>", desc := "()V" } : Jvm.MethodName) object_method_1_code (1 : Nat) (Option.none : Option Jvm.ClassFile.FieldType)).before args0 about1 = true := code_word (m := ⟨0, 0⟩) (meth := k0m0) (c := k0c0) (by decide +kernel) rfl rfl rfl (by decide +kernel)
set_option maxRecDepth 65536 in
theorem w_c3 : (Jvm.Cond.code ({ cls := "com/example/frontier/frontier/content/Sketch", name := "similarity", desc := "(Lcom/example/frontier/frontier/content/Sketch;)D" } : Jvm.MethodName) prog_1_method_10_code (4 : Nat) (Option.some Jvm.ClassFile.FieldType.double)).before args0 about1 = true := code_word (m := ⟨2, 1⟩) (meth := k2m1) (c := k2c1) (by decide +kernel) rfl rfl rfl (by decide +kernel)
def codes1 : List Jvm.Cond := [Jvm.Cond.code x code maxLocals ret, Jvm.Cond.code ({ cls := "com/example/frontier/frontier/content/Sketch", name := "<init>", desc := "([J)V" } : Jvm.MethodName) prog_1_method_1_code (2 : Nat) (Option.none : Option Jvm.ClassFile.FieldType), Jvm.Cond.code ({ cls := "java/lang/Object", name := "<init>", desc := "()V" } : Jvm.MethodName) object_method_1_code (1 : Nat) (Option.none : Option Jvm.ClassFile.FieldType), Jvm.Cond.code ({ cls := "com/example/frontier/frontier/content/Sketch", name := "similarity", desc := "(Lcom/example/frontier/frontier/content/Sketch;)D" } : Jvm.MethodName) prog_1_method_10_code (4 : Nat) (Option.some Jvm.ClassFile.FieldType.double)]
set_option maxRecDepth 65536 in
theorem codes_eq : words1.filter isCode = codes1 := rfl
theorem w_codes : ∀ c ∈ words1.filter isCode, c.before args0 about1 = true := by
  rw [codes_eq]
  intro c hc
  simp only [codes1, List.mem_cons, List.not_mem_nil, or_false] at hc
  rcases hc with rfl | rfl | rfl | rfl
  · exact w_c0
  · exact w_c1
  · exact w_c2
  · exact w_c3
set_option maxRecDepth 65536 in
theorem w_t1 : (words1.take 24).all (fun c => isCode c || c.before args0 about1) = true := by decide +kernel
set_option maxRecDepth 65536 in
theorem w_t2 : (words1.drop 24).all (fun c => isCode c || c.before args0 about1) = true := by decide +kernel
theorem w_tables : (allAtoms (Jvm.Cond.code x code maxLocals ret :: tables_1)).before args0 about1 = true := by
  rw [allAtoms_all]
  show words1.all (fun c => c.before args0 about1) = true
  refine all_split ?_ w_codes
  rw [← List.take_append_drop 24 words1, List.all_append, w_t1, w_t2]
  rfl
set_option maxRecDepth 65536 in
theorem w_case : (Jvm.Cond.and given_1 narrow_1).before args0 about1 = true := by decide +kernel
theorem w_applies : (headSpec (Jvm.Cond.code x code maxLocals ret :: tables_1) room_1).applies x e0.platform about1 = true :=
  (Spec.applies_iff w_frames).mpr ⟨w_running, w_runnable, w_alone, w_named, w_hears, w_ripe, w_room, w_tables⟩
theorem atStart : AtStart classFile x code maxLocals ret World_1 tables_1 room_1 Calls_1 rest_1 Pre_1 launch0 p0 e0 about1 theMethod args0 below0 :=
  ⟨lists_1, trivial, launch0.admits_env _ _ _, launch0.least_env, fairChoices_fair.cas, fairChoices_fair.clock, w_frames, w_args, w_heap, w_applies, trivial, trivial, w_case⟩
end start1
theorem witness_1 : WitnessClaimed_1 := ⟨start1.p0, start1.e0, start1.about1, start1.theMethod, start1.args0, start1.below0, start1.atStart⟩
end Jvm.Pilot.@@N@@

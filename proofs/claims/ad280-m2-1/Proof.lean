import JvmDerived
import JvmDerived.Pilot.@@N@@Statement
import JvmDerived.Pilot.@@N@@Code
set_option linter.unusedVariables false
set_option linter.unusedSimpArgs false
namespace Jvm.RoadKit
open Sem ClassFile Op Lib Jvm.Stand Jvm.Free Jvm.LawKit
section New
variable {p : Program} {l : Launch} {e : Env} {R : Room} {s : State} {m : MethodId} {args : Array Value} {below : List Frame} {meth : Method} {c : Code} {T : State} {locs : List Loc} {cells slots : Nat}
theorem retI (X : Stand p l e R s m args below meth c T locs cells slots) (hx : p.tables.exec = Jvm.exec) {pc : Nat} {Ls : Array Slot} {z : Int32} {rest : List Value} (hret : meth.sig.returnType = some .int) (hd : decode c.code pc = .ok (.ireturn, 1)) {fs : List Frame}
    (hl : ∀ (f : JFrame) (acts : List Action), f.method = m → f.locked = none → f.entered = [] → (doReturn e (T.setTop f) acts (some (.int z))).1 = T.setFrames fs) : Steps p.tables e below (T.setTop (mkF m pc Ls (.int z :: rest))) (T.setFrames fs) := by
  have hm' : T.vm.method? m = some meth := X.method'
  have hn : narrow .int (.int z) = .int z := rfl
  show Steps p.tables e below (T.setTop { method := m, pc := pc, locals := Ls, stack := _ :: rest, locked := none }) _
  jvm_step X.here [X.here.top, hx, hd, hm', hret, hn]
  first | (intro acts; rw [hl _ acts rfl rfl rfl]) | rw [hl _ _ rfl rfl rfl]
  exact Steps.refl _
end New
end Jvm.RoadKit
namespace Jvm.Pilot.@@N@@
open Jvm Jvm.ClassFile Sem Op Lib Jvm.Free Jvm.Stand Jvm.LawKit Jvm.RoadKit Bundle Jvm.Pilot.@@N@@.Jvm.D
theorem own_wS {Z : State} {a0 : Array Value} (hw : ∀ d ∈ tables_1, d.before a0 Z = true) : ∀ a ∈ Bundle.stringAtoms, a.before a0 Z = true := by
  intro a ha
  simp only [Bundle.stringAtoms, List.mem_cons, List.not_mem_nil, or_false] at ha
  rcases ha with rfl | rfl | rfl | rfl | rfl | rfl | rfl
  · exact hw _ (List.mem_of_getElem? (i := 16) rfl)
  · exact hw _ (List.mem_of_getElem? (i := 17) rfl)
  · exact hw _ (List.mem_of_getElem? (i := 18) rfl)
  · exact hw _ (List.mem_of_getElem? (i := 19) rfl)
  · exact hw _ (List.mem_of_getElem? (i := 20) rfl)
  · exact hw _ (List.mem_of_getElem? (i := 21) rfl)
  · exact hw _ (List.mem_of_getElem? (i := 22) rfl)
def own_td (w1 l1 w2 l2 : Int32) : Int32 := if w1.toInt64 * l2.toInt64 = w2.toInt64 * l1.toInt64 then 1 else 0
def own_e (md g : Int32) : Int32 := if md = 1 then g else 0
def own_f (md g : Int32) : Int32 := if md = 2 then g else 0
def own_ex (md n : Int32) : Int32 := if md = 0 ∨ (md = 2 ∧ n = 0) then 1 else 0
theorem own_m0 (x : Int32) : 0 ≤ (x &&& (32767 : Int32)).toInt ∧ (x &&& (32767 : Int32)).toInt ≤ 32767 := by
  have h := c_mask x 32767 15 (by decide) (by decide)
  rw [show ((2 ^ 15 : Nat) : Int) = 32768 from rfl] at h
  omega
theorem own_m1 (x : Int32) : 1 ≤ ((x &&& (32767 : Int32)) + (1 : Int32)).toInt ∧ ((x &&& (32767 : Int32)) + (1 : Int32)).toInt ≤ 32768 := by
  have h := own_m0 x
  have h2 := c_iadd (x &&& (32767 : Int32)) 1
  have r := rng32 ((x &&& (32767 : Int32)) + (1 : Int32))
  rw [show (1 : Int32).toInt = 1 from rfl] at h2
  omega
theorem own_md (x : Int32) : ((x &&& (3 : Int32)) % (3 : Int32)) = 0 ∨ ((x &&& (3 : Int32)) % (3 : Int32)) = 1 ∨ ((x &&& (3 : Int32)) % (3 : Int32)) = 2 := by
  have h := c_mask x 3 2 (by decide) (by decide)
  rw [show ((2 ^ 2 : Nat) : Int) = 4 from rfl] at h
  have q := (c_irem (x &&& (3 : Int32)) 3 3 rfl).1 (by omega)
  have u : ((x &&& (3 : Int32)) % (3 : Int32)).toInt = 0 ∨ ((x &&& (3 : Int32)) % (3 : Int32)).toInt = 1 ∨ ((x &&& (3 : Int32)) % (3 : Int32)).toInt = 2 := by omega
  rcases u with u | u | u
  · exact Or.inl (Int32.toInt_inj.mp u)
  · exact Or.inr (Or.inl (Int32.toInt_inj.mp u))
  · exact Or.inr (Or.inr (Int32.toInt_inj.mp u))
theorem own_mb {a b A B : Int} (h1 : 0 ≤ a) (h2 : a ≤ A) (h3 : 0 ≤ b) (h4 : b ≤ B) : 0 ≤ a * b ∧ a * b ≤ A * B :=
  ⟨Int.mul_nonneg h1 h3, Int.mul_le_mul h2 h4 h3 (Int.le_trans h1 h2)⟩
theorem own_mul {a b : Int32} (h1 : 0 ≤ a.toInt) (h2 : a.toInt ≤ 32768) (h3 : 0 ≤ b.toInt) (h4 : b.toInt ≤ 32768) : (a * b).toInt = a.toInt * b.toInt ∧ 0 ≤ a.toInt * b.toInt ∧ a.toInt * b.toInt ≤ 1073741824 := by
  have h := c_imul a b
  have r := rng32 (a * b)
  have m := own_mb h1 h2 h3 h4
  rw [show (32768 : Int) * 32768 = 1073741824 from rfl] at m
  generalize a.toInt * b.toInt = P at *
  omega
theorem own_lm {a b : Int32} (h1 : 0 ≤ a.toInt) (h2 : a.toInt ≤ 2000000000) (h3 : 0 ≤ b.toInt) (h4 : b.toInt ≤ 2000000000) : (a.toInt64 * b.toInt64).toInt = a.toInt * b.toInt := by
  have h := c_lmul a.toInt64 b.toInt64
  have r := rng64 (a.toInt64 * b.toInt64)
  have m := own_mb h1 h2 h3 h4
  rw [c_i2l, c_i2l] at h
  rw [show (2000000000 : Int) * 2000000000 = 4000000000000000000 from rfl] at m
  generalize a.toInt * b.toInt = P at *
  omega

theorem own_ring (N D K1 K2 E F : Int) : (N * K1) * (D * K2 + F) - (N * K2 + E) * (D * K1) = K1 * (N * F - E * D) := by
  simp only [Int.mul_add, Int.add_mul, Int.mul_sub, Int.mul_assoc, Int.mul_comm, Int.mul_left_comm]
  omega
theorem own_iff {N D K1 K2 E F : Int} (hk : 1 ≤ K1) : (N * K1) * (D * K2 + F) = (N * K2 + E) * (D * K1) ↔ N * F = E * D := by
  have h := own_ring N D K1 K2 E F
  constructor
  · intro q
    rw [q, Int.sub_self] at h
    rcases Int.mul_eq_zero.mp h.symm with u | u <;> omega
  · intro q
    rw [q, Int.sub_self, Int.mul_zero] at h
    omega
theorem own_cases {md n g : Int32} {D : Int} (hm : md = 0 ∨ md = 1 ∨ md = 2) (hn : 0 ≤ n.toInt) (hg : 1 ≤ g.toInt) (hD : 1 ≤ D) : own_ex md n = if n.toInt * (own_f md g).toInt = (own_e md g).toInt * D then 1 else 0 := by
  have z : (0 : Int32).toInt = 0 := rfl
  rcases hm with rfl | rfl | rfl
  · rw [show own_f 0 g = 0 from rfl, show own_e 0 g = 0 from rfl, z, Int.mul_zero, Int.zero_mul]; rfl
  · rw [show own_f 1 g = 0 from rfl, show own_e 1 g = g from rfl, z, Int.mul_zero, if_neg]
    · rfl
    · intro q
      have := Int.mul_pos (show 0 < g.toInt by omega) (show 0 < D by omega)
      omega
  · rw [show own_f 2 g = g from rfl, show own_e 2 g = 0 from rfl, z, Int.zero_mul]
    by_cases u : n = 0
    · rw [u, z, Int.zero_mul, if_pos rfl]; rfl
    · rw [if_neg]
      · unfold own_ex; rw [if_neg]; rintro (q | q)
        · exact absurd q (by decide)
        · exact u q.2
      · intro q
        rcases Int.mul_eq_zero.mp q with w | w
        · exact u (Int32.toInt_inj.mp w)
        · omega
theorem own_law {n d k1 k2 g md : Int32} (hn : 0 ≤ n.toInt ∧ n.toInt ≤ 32767) (hd : 1 ≤ d.toInt ∧ d.toInt ≤ 32768) (h1 : 1 ≤ k1.toInt ∧ k1.toInt ≤ 32768) (h2 : 1 ≤ k2.toInt ∧ k2.toInt ≤ 32768) (hg : 1 ≤ g.toInt ∧ g.toInt ≤ 32768) (hm : md = 0 ∨ md = 1 ∨ md = 2) :
    (0 ≤ (n * k1).toInt ∧ (n * k1).toInt ≤ 1073741824 ∧ 1 ≤ (d * k1).toInt ∧ (d * k1).toInt ≤ 1073741824) ∧ (0 ≤ (n * k2 + own_e md g).toInt ∧ (n * k2 + own_e md g).toInt ≤ 1200000000 ∧ 1 ≤ (d * k2 + own_f md g).toInt ∧ (d * k2 + own_f md g).toInt ≤ 1200000000) ∧
    own_td (n * k1) (d * k1) (n * k2 + own_e md g) (d * k2 + own_f md g) = own_ex md n ∧ own_td (n * k2 + own_e md g) (d * k2 + own_f md g) (n * k1) (d * k1) = own_ex md n := by
  have he : 0 ≤ (own_e md g).toInt ∧ (own_e md g).toInt ≤ 32768 := by
    unfold own_e; split
    · omega
    · decide
  have hf : 0 ≤ (own_f md g).toInt ∧ (own_f md g).toInt ≤ 32768 := by
    unfold own_f; split
    · omega
    · decide
  have hc := own_cases (D := d.toInt) hm hn.1 hg.1 hd.1
  generalize own_e md g = E at *
  generalize own_f md g = F at *
  obtain ⟨p1, p1', p1''⟩ := own_mul hn.1 (by omega : n.toInt ≤ 32768) (by omega : 0 ≤ k1.toInt) h1.2
  obtain ⟨p2, p2', p2''⟩ := own_mul (by omega : 0 ≤ d.toInt) hd.2 (by omega : 0 ≤ k1.toInt) h1.2
  obtain ⟨p3, p3', p3''⟩ := own_mul hn.1 (by omega : n.toInt ≤ 32768) (by omega : 0 ≤ k2.toInt) h2.2
  obtain ⟨p4, p4', p4''⟩ := own_mul (by omega : 0 ≤ d.toInt) hd.2 (by omega : 0 ≤ k2.toInt) h2.2
  have s2 : 1 ≤ d.toInt * k1.toInt := by have := Int.mul_pos (show 0 < d.toInt by omega) (show 0 < k1.toInt by omega); omega
  have s4 : 1 ≤ d.toInt * k2.toInt := by have := Int.mul_pos (show 0 < d.toInt by omega) (show 0 < k2.toInt by omega); omega
  have a1 : (n * k2 + E).toInt = n.toInt * k2.toInt + E.toInt := by
    have := c_iadd (n * k2) E
    have r := rng32 (n * k2 + E)
    rw [p3] at this
    omega
  have a2 : (d * k2 + F).toInt = d.toInt * k2.toInt + F.toInt := by
    have := c_iadd (d * k2) F
    have r := rng32 (d * k2 + F)
    rw [p4] at this
    omega
  have m1 := own_lm (a := n * k1) (b := d * k2 + F) (by omega) (by omega) (by omega) (by omega)
  have m2 := own_lm (a := n * k2 + E) (b := d * k1) (by omega) (by omega) (by omega) (by omega)
  rw [p1, a2] at m1
  rw [p2, a1] at m2
  have key : ((n * k1).toInt64 * (d * k2 + F).toInt64 = (n * k2 + E).toInt64 * (d * k1).toInt64) ↔ n.toInt * F.toInt = E.toInt * d.toInt := by
    rw [← Int64.toInt_inj, m1, m2]
    exact own_iff h1.1
  refine ⟨by omega, by omega, ?_, ?_⟩
  · rw [hc, own_td]; simp only [key]
  · have key2 : ((n * k2 + E).toInt64 * (d * k1).toInt64 = (n * k1).toInt64 * (d * k2 + F).toInt64) ↔ n.toInt * F.toInt = E.toInt * d.toInt := ⟨fun q => key.mp q.symm, fun q => (key.mpr q).symm⟩
    rw [hc, own_td]; simp only [key2]
theorem own_le {a : Int32} {n : Int} (h : n ≤ a.toInt) (b : Int32) (hb : b.toInt = n) : ¬ a < b := by rw [Int32.lt_iff_toInt_lt, hb]; omega
theorem own_max (a : Int32) : ¬ (2147483647 : Int32) < a := by rw [Int32.lt_iff_toInt_lt, show (2147483647 : Int32).toInt = 2147483647 from rfl]; have := rng32 a; omega
theorem own_self (w l : Int32) : ¬ own_td w l w l = 0 := by unfold own_td; rw [if_pos rfl]; decide
theorem d2_0 : decode jdk_30_method_1_code 0 = .ok (.aload_n 0, 1) := by decide +kernel
theorem d2_1 : decode jdk_30_method_1_code 1 = .ok (.invokespecial 1, 3) := by decide +kernel
theorem d2_4 : decode jdk_30_method_1_code 4 = .ok (.return_, 1) := by decide +kernel
theorem pn_2 : plainName "java/lang/Record" = true := by first | (simp [plainName, overriddenIn]; done) | decide +kernel
theorem ef_2 (m : MethodId) (x0 : Addr) : entryFrame m #[(.ref x0)] 1 = mkF m 0 #[.val (.ref x0)] [] := by first | (simp [entryFrame, mkF, argsToLocals, Value.category]; done) | rfl
def Q2 (Z : State) (a1 : Addr) (h0 : Heap) (n0 : Nat) (v : Option Value) (h : Heap) (L : List Loc) : Prop := v = none ∧ Fr n0 L ∧ h = h0
set_option maxRecDepth 65536 in
set_option maxHeartbeats 40000000 in
theorem rm2 (l : Launch) (Z : State) (a0 : Array Value) (hw : ∀ d ∈ tables_1, d.before a0 Z = true) (ws : List Jvm.Cond) (a1 : Addr) (h0 : Heap) (n0 : Nat) (Z0 : n0 ≤ h0.size) :
    MetFree l (⟨"java/lang/Record", "<init>", "()V"⟩ : MethodName) (head1 (Jvm.Cond.code (⟨"java/lang/Record", "<init>", "()V"⟩ : MethodName) jdk_30_method_1_code 1 none :: ws) ({ frames := 1, cells := 0, slots := 0, locals := 12 } : Room)) (fun a U => a = #[(.ref a1)] ∧ Z.Warmed39 U.vm ∧ U.heap = h0) (fun _ _ _ _ _ => True) (fun _ U o U' => ∃ v L, o = .returned v ∧ Q2 Z a1 h0 n0 v U'.heap L ∧ FrameEnd U o U' L ({ frames := 1, cells := 0, slots := 0, locals := 12 } : Room).cells ({ frames := 1, cells := 0, slots := 0, locals := 12 } : Room).slots) := by
  refine MetFree.of_bodySF (plainFor_of_name pn_2) hisR ?_
  intro p e s m args below meth c s₁ Bd hml0 hP hK
  obtain ⟨rfl, hZ, hh⟩ := hP
  have hx := Bd.exec
  have hby := Bd.bytes
  have hml : c.maxLocals = 1 := hml0
  have hown : s.vm.findClass "java/lang/Record" = some m.cls := findClass_of_methodNamed Bd.named
  have hnm := (name_of_methodNamed Bd.named Bd.method).1
  have X0 : Stand p l e ({ frames := 1, cells := 0, slots := 0, locals := 12 } : Room) s m #[(.ref a1)] below meth c s₁ [] 0 0 := Stand.of_body Bd
  have e0 : s₁.heap = h0 := by rw [← hh, Bd.state]; rfl
  have N0 := Fr.nil n0
  have go0 : ∀ t, Steps p.tables e below (s₁.setTop (mkF m 0 #[.val (.ref a1)] [])) t → Steps p.tables e below (s₁.setTop (entryFrame m #[(.ref a1)] 1)) t := fun t k => castTop (ef_2 m a1) k
  have go1 : ∀ t, Steps p.tables e below (s₁.setTop (mkF m 1 #[.val (.ref a1)] [(.ref a1)])) t → Steps p.tables e below (s₁.setTop (entryFrame m #[(.ref a1)] 1)) t := by
    intro t k
    refine go0 t ?_
    show Steps p.tables e below (s₁.setTop (mkF m 0 #[.val (.ref a1)] [])) _
    refine XS.aloadN X0.here hx rfl (hb hby d2_0) rfl rfl ?_
    exact k
  obtain ⟨T2, X2, e2, st2⟩ := initO X0 hx hZ hown (hw _ (List.mem_of_getElem? (i := 12) rfl)) (hw _ (List.mem_of_getElem? (i := 13) rfl)) (hw _ (List.mem_of_getElem? (i := 14) rfl)) e0 (g := (mkF m 1 #[.val (.ref a1)] [(.ref a1)])) rfl (by rw [hml]; rfl) rfl (hb hby d2_1) (by decide) (W := 0) (by show 2 * 0 + _ ≤ _; exact Nat.le_of_eq rfl) (by decide)
  have go3 : ∀ t, Steps p.tables e below (T2.setTop (mkF m 4 #[.val (.ref a1)] [])) t → Steps p.tables e below (s₁.setTop (entryFrame m #[(.ref a1)] 1)) t := fun t k => go1 t (st2 _ k)
  obtain ⟨fs, hr, hrun, hended, hW, hsame⟩ := X2.leave (v := none) (fun _ => rfl)
  refine ⟨_, _, go3 _ ?_, hrun, hended, _, _, rfl, ?_, ⟨_, rfl⟩, hW, hsame.mono (by decide) (by decide)⟩
  · show Steps p.tables e below (T2.setTop (mkF m 4 #[.val (.ref a1)] [])) _
    exact X2.returnOut hx Bd.returns (hb hby d2_4) hr
  · show Q2 Z a1 h0 n0 _ T2.heap _
    rw [e2]
    exact ⟨rfl, N0, rfl⟩
theorem d4_0 : decode prog_34_method_7_code 0 = .ok (.iload_n 1, 1) := by decide +kernel
theorem d4_1 : decode prog_34_method_7_code 1 = .ok (.ifCond .lt 8, 3) := by decide +kernel
theorem d4_4 : decode prog_34_method_7_code 4 = .ok (.iload_n 1, 1) := by decide +kernel
theorem d4_5 : decode prog_34_method_7_code 5 = .ok (.iload_n 2, 1) := by decide +kernel
theorem d4_6 : decode prog_34_method_7_code 6 = .ok (.if_icmp .le 19, 3) := by decide +kernel
theorem d4_25 : decode prog_34_method_7_code 25 = .ok (.return_, 1) := by decide +kernel
theorem pn_4 : plainName "com/example/body_text_extractor/bodytextextractor/TextStatistics" = true := by first | (simp [plainName, overriddenIn]; done) | decide +kernel
theorem ef_4 (m : MethodId) (x0 : Addr) (x1 : Int32) (x2 : Int32) : entryFrame m #[(.ref x0), (.int x1), (.int x2)] 3 = mkF m 0 #[.val (.ref x0), .val (.int x1), .val (.int x2)] [] := by first | (simp [entryFrame, mkF, argsToLocals, Value.category]; done) | rfl
def Q4 (Z : State) (a1 : Addr) (p2 : Int32) (p3 : Int32) (h0 : Heap) (n0 : Nat) (v : Option Value) (h : Heap) (L : List Loc) : Prop := v = none ∧ Fr n0 L ∧ h = h0
set_option maxRecDepth 65536 in
set_option maxHeartbeats 40000000 in
theorem rm4 (l : Launch) (Z : State) (a0 : Array Value) (hw : ∀ d ∈ tables_1, d.before a0 Z = true) (ws : List Jvm.Cond) (a1 : Addr) (p2 : Int32) (p3 : Int32) (h0 : Heap) (n0 : Nat) (Z0 : n0 ≤ h0.size) (hnn : ¬ p2 < (0 : Int32)) (hle : ¬ p3 < p2) :
    MetFree l (⟨"com/example/body_text_extractor/bodytextextractor/TextStatistics", "requireUpToWords", "(Ljava/lang/String;II)V"⟩ : MethodName) (head1 (Jvm.Cond.code (⟨"com/example/body_text_extractor/bodytextextractor/TextStatistics", "requireUpToWords", "(Ljava/lang/String;II)V"⟩ : MethodName) prog_34_method_7_code 3 none :: ws) ({ frames := 0, cells := 0, slots := 0, locals := 0 } : Room)) (fun a U => a = #[(.ref a1), (.int p2), (.int p3)] ∧ Z.Warmed39 U.vm ∧ U.heap = h0) (fun _ _ _ _ _ => True) (fun _ U o U' => ∃ v L, o = .returned v ∧ Q4 Z a1 p2 p3 h0 n0 v U'.heap L ∧ FrameEnd U o U' L ({ frames := 0, cells := 0, slots := 0, locals := 0 } : Room).cells ({ frames := 0, cells := 0, slots := 0, locals := 0 } : Room).slots) := by
  refine MetFree.of_bodySF (plainFor_of_name pn_4) hisR ?_
  intro p e s m args below meth c s₁ Bd hml0 hP hK
  obtain ⟨rfl, hZ, hh⟩ := hP
  have hx := Bd.exec
  have hby := Bd.bytes
  have hml : c.maxLocals = 3 := hml0
  have hown : s.vm.findClass "com/example/body_text_extractor/bodytextextractor/TextStatistics" = some m.cls := findClass_of_methodNamed Bd.named
  have hnm := (name_of_methodNamed Bd.named Bd.method).1
  have X0 : Stand p l e ({ frames := 0, cells := 0, slots := 0, locals := 0 } : Room) s m #[(.ref a1), (.int p2), (.int p3)] below meth c s₁ [] 0 0 := Stand.of_body Bd
  have e0 : s₁.heap = h0 := by rw [← hh, Bd.state]; rfl
  have N0 := Fr.nil n0
  have go0 : ∀ t, Steps p.tables e below (s₁.setTop (mkF m 0 #[.val (.ref a1), .val (.int p2), .val (.int p3)] [])) t → Steps p.tables e below (s₁.setTop (entryFrame m #[(.ref a1), (.int p2), (.int p3)] 3)) t := fun t k => castTop (ef_4 m a1 p2 p3) k
  have go1 : ∀ t, Steps p.tables e below (s₁.setTop (mkF m 25 #[.val (.ref a1), .val (.int p2), .val (.int p3)] [])) t → Steps p.tables e below (s₁.setTop (entryFrame m #[(.ref a1), (.int p2), (.int p3)] 3)) t := by
    intro t k
    refine go0 t ?_
    show Steps p.tables e below (s₁.setTop (mkF m 0 #[.val (.ref a1), .val (.int p2), .val (.int p3)] [])) _
    refine XS.iloadN X0.here hx rfl (hb hby d4_0) rfl ?_
    show Steps p.tables e below (s₁.setTop (mkF m 1 #[.val (.ref a1), .val (.int p2), .val (.int p3)] [(.int p2)])) _
    refine XS.ifNo X0.here hx rfl (hb hby d4_1) rfl ((if0 _ _).trans (flt hnn).1) ?_
    show Steps p.tables e below (s₁.setTop (mkF m 4 #[.val (.ref a1), .val (.int p2), .val (.int p3)] [])) _
    refine XS.iloadN X0.here hx rfl (hb hby d4_4) rfl ?_
    show Steps p.tables e below (s₁.setTop (mkF m 5 #[.val (.ref a1), .val (.int p2), .val (.int p3)] [(.int p2)])) _
    refine XS.iloadN X0.here hx rfl (hb hby d4_5) rfl ?_
    show Steps p.tables e below (s₁.setTop (mkF m 6 #[.val (.ref a1), .val (.int p2), .val (.int p3)] [(.int p3), (.int p2)])) _
    refine XS.icmpYes X0.here hx rfl (pc0 := 6) (pc' := 25) rfl (hb hby d4_6) rfl (flt hle).2.2.2 (by decide) (by decide) ?_
    exact k
  obtain ⟨fs, hr, hrun, hended, hW, hsame⟩ := X0.leave (v := none) (fun _ => rfl)
  refine ⟨_, _, go1 _ ?_, hrun, hended, _, _, rfl, ?_, ⟨_, rfl⟩, hW, hsame.mono (by decide) (by decide)⟩
  · show Steps p.tables e below (s₁.setTop (mkF m 25 #[.val (.ref a1), .val (.int p2), .val (.int p3)] [])) _
    exact X0.returnOut hx Bd.returns (hb hby d4_25) hr
  · show Q4 Z a1 p2 p3 h0 n0 _ s₁.heap _
    rw [e0]
    exact ⟨rfl, N0, rfl⟩
theorem d1_0 : decode prog_34_method_1_code 0 = .ok (.aload_n 0, 1) := by decide +kernel
theorem d1_1 : decode prog_34_method_1_code 1 = .ok (.invokespecial 1, 3) := by decide +kernel
theorem d1_4 : decode prog_34_method_1_code 4 = .ok (.ldc 7, 2) := by decide +kernel
theorem d1_6 : decode prog_34_method_1_code 6 = .ok (.iload_n 2, 1) := by decide +kernel
theorem d1_7 : decode prog_34_method_1_code 7 = .ok (.iload_n 1, 1) := by decide +kernel
theorem d1_8 : decode prog_34_method_1_code 8 = .ok (.invokestatic 9, 3) := by decide +kernel
theorem d1_11 : decode prog_34_method_1_code 11 = .ok (.ldc 15, 2) := by decide +kernel
theorem d1_13 : decode prog_34_method_1_code 13 = .ok (.iload_n 3, 1) := by decide +kernel
theorem d1_14 : decode prog_34_method_1_code 14 = .ok (.iload_n 1, 1) := by decide +kernel
theorem d1_15 : decode prog_34_method_1_code 15 = .ok (.invokestatic 9, 3) := by decide +kernel
theorem d1_18 : decode prog_34_method_1_code 18 = .ok (.iload 4, 2) := by decide +kernel
theorem d1_20 : decode prog_34_method_1_code 20 = .ok (.iconst 1, 1) := by decide +kernel
theorem d1_21 : decode prog_34_method_1_code 21 = .ok (.if_icmp .ge 18, 3) := by decide +kernel
theorem d1_39 : decode prog_34_method_1_code 39 = .ok (.aload_n 0, 1) := by decide +kernel
theorem d1_40 : decode prog_34_method_1_code 40 = .ok (.iload_n 1, 1) := by decide +kernel
theorem d1_41 : decode prog_34_method_1_code 41 = .ok (.putfield 26, 3) := by decide +kernel
theorem d1_44 : decode prog_34_method_1_code 44 = .ok (.aload_n 0, 1) := by decide +kernel
theorem d1_45 : decode prog_34_method_1_code 45 = .ok (.iload_n 2, 1) := by decide +kernel
theorem d1_46 : decode prog_34_method_1_code 46 = .ok (.putfield 30, 3) := by decide +kernel
theorem d1_49 : decode prog_34_method_1_code 49 = .ok (.aload_n 0, 1) := by decide +kernel
theorem d1_50 : decode prog_34_method_1_code 50 = .ok (.iload_n 3, 1) := by decide +kernel
theorem d1_51 : decode prog_34_method_1_code 51 = .ok (.putfield 33, 3) := by decide +kernel
theorem d1_54 : decode prog_34_method_1_code 54 = .ok (.aload_n 0, 1) := by decide +kernel
theorem d1_55 : decode prog_34_method_1_code 55 = .ok (.iload 4, 2) := by decide +kernel
theorem d1_57 : decode prog_34_method_1_code 57 = .ok (.putfield 36, 3) := by decide +kernel
theorem d1_60 : decode prog_34_method_1_code 60 = .ok (.return_, 1) := by decide +kernel
theorem pd_1_0 : parseMethodDescriptor "()V" = some ⟨[], none⟩ := by decide +kernel
theorem pd_1_1 : parseMethodDescriptor "(Ljava/lang/String;II)V" = some ⟨[(.object "java/lang/String"), .int, .int], none⟩ := by decide +kernel
theorem pn_1 : plainName "com/example/body_text_extractor/bodytextextractor/TextStatistics" = true := by first | (simp [plainName, overriddenIn]; done) | decide +kernel
theorem ef_1 (m : MethodId) (x0 : Addr) (x1 : Int32) (x2 : Int32) (x3 : Int32) (x4 : Int32) : entryFrame m #[(.ref x0), (.int x1), (.int x2), (.int x3), (.int x4)] 5 = mkF m 0 #[.val (.ref x0), .val (.int x1), .val (.int x2), .val (.int x3), .val (.int x4)] [] := by first | (simp [entryFrame, mkF, argsToLocals, Value.category]; done) | rfl
def Q1 (Z : State) (a1 : Addr) (p2 : Int32) (p3 : Int32) (p4 : Int32) (p5 : Int32) (u_words : Value) (u_linkedWords : Value) (u_wordsOnKeptLines : Value) (u_keptLines : Value) (h0 : Heap) (n0 : Nat) (v : Option Value) (h : Heap) (L : List Loc) : Prop := v = none ∧ Fr n0 L ∧ Keep h0 h [a1] ∧ Exa Z h a1 "com/example/body_text_extractor/bodytextextractor/TextStatistics" ∧ Fld Z h a1 "com/example/body_text_extractor/bodytextextractor/TextStatistics" "words" "I" (.int p2) ∧ Fld Z h a1 "com/example/body_text_extractor/bodytextextractor/TextStatistics" "linkedWords" "I" (.int p3) ∧ Fld Z h a1 "com/example/body_text_extractor/bodytextextractor/TextStatistics" "wordsOnKeptLines" "I" (.int p4) ∧ Fld Z h a1 "com/example/body_text_extractor/bodytextextractor/TextStatistics" "keptLines" "I" (.int p5)
set_option maxRecDepth 65536 in
set_option maxHeartbeats 40000000 in
theorem rm1 (l : Launch) (Z : State) (a0 : Array Value) (hw : ∀ d ∈ tables_1, d.before a0 Z = true) (ws : List Jvm.Cond) (a1 : Addr) (p2 : Int32) (p3 : Int32) (p4 : Int32) (p5 : Int32) (u_words : Value) (u_linkedWords : Value) (u_wordsOnKeptLines : Value) (u_keptLines : Value) (h0 : Heap) (n0 : Nat) (Z0 : n0 ≤ h0.size) (E_a1 : Exa Z h0 a1 "com/example/body_text_extractor/bodytextextractor/TextStatistics") (g_a1 : n0 ≤ a1) (F_words : Fld Z h0 a1 "com/example/body_text_extractor/bodytextextractor/TextStatistics" "words" "I" u_words) (F_linkedWords : Fld Z h0 a1 "com/example/body_text_extractor/bodytextextractor/TextStatistics" "linkedWords" "I" u_linkedWords) (F_wordsOnKeptLines : Fld Z h0 a1 "com/example/body_text_extractor/bodytextextractor/TextStatistics" "wordsOnKeptLines" "I" u_wordsOnKeptLines) (F_keptLines : Fld Z h0 a1 "com/example/body_text_extractor/bodytextextractor/TextStatistics" "keptLines" "I" u_keptLines) (hy3 : ¬ p3 < (0 : Int32)) (hy3' : ¬ p2 < p3) (hy4 : ¬ p4 < (0 : Int32)) (hy4' : ¬ p2 < p4) (hy5 : ¬ p5 < (1 : Int32)) :
    MetFree l (⟨"com/example/body_text_extractor/bodytextextractor/TextStatistics", "<init>", "(IIII)V"⟩ : MethodName) (head1 (Jvm.Cond.code (⟨"com/example/body_text_extractor/bodytextextractor/TextStatistics", "<init>", "(IIII)V"⟩ : MethodName) prog_34_method_1_code 5 none :: ws) ({ frames := 2, cells := 4, slots := 132, locals := 24 } : Room)) (fun a U => a = #[(.ref a1), (.int p2), (.int p3), (.int p4), (.int p5)] ∧ Z.Warmed39 U.vm ∧ U.heap = h0) (fun _ _ _ _ _ => True) (fun _ U o U' => ∃ v L, o = .returned v ∧ Q1 Z a1 p2 p3 p4 p5 u_words u_linkedWords u_wordsOnKeptLines u_keptLines h0 n0 v U'.heap L ∧ ReturnedEndW U o U' L ({ frames := 2, cells := 4, slots := 132, locals := 24 } : Room).cells ({ frames := 2, cells := 4, slots := 132, locals := 24 } : Room).slots) := by
  refine MetFree.of_bodySF (plainFor_of_name pn_1) hisR ?_
  intro p e s m args below meth c s₁ Bd hml0 hP hK
  obtain ⟨rfl, hZ, hh⟩ := hP
  have hx := Bd.exec
  have hby := Bd.bytes
  have hml : c.maxLocals = 5 := hml0
  have hown : s.vm.findClass "com/example/body_text_extractor/bodytextextractor/TextStatistics" = some m.cls := findClass_of_methodNamed Bd.named
  have hnm := (name_of_methodNamed Bd.named Bd.method).1
  have X0 : Stand p l e ({ frames := 2, cells := 4, slots := 132, locals := 24 } : Room) (s.setVm s.vm) m #[(.ref a1), (.int p2), (.int p3), (.int p4), (.int p5)] below meth c s₁ [] 0 0 := Stand.of_body Bd
  have e0 : s₁.heap = h0 := by rw [← hh, Bd.state]; rfl
  have N0 := Fr.nil n0
  have go0 : ∀ t, Steps p.tables e below (s₁.setTop (mkF m 0 #[.val (.ref a1), .val (.int p2), .val (.int p3), .val (.int p4), .val (.int p5)] [])) t → Steps p.tables e below (s₁.setTop (entryFrame m #[(.ref a1), (.int p2), (.int p3), (.int p4), (.int p5)] 5)) t := fun t k => castTop (ef_1 m a1 p2 p3 p4 p5) k
  have hS : s.Since s.vm h0.size := (State.WarmedH.refl s).since _
  have hZ : Z.Warmed39 (s.setVm s.vm).vm := hZ
  have hown : (s.setVm s.vm).vm.findClass "com/example/body_text_extractor/bodytextextractor/TextStatistics" = some m.cls := hown
  have K0 : Keep h0 h0 [a1] := Keep.refl h0 [a1]
  have go1 : ∀ t, Steps p.tables e below (s₁.setTop (mkF m 1 #[.val (.ref a1), .val (.int p2), .val (.int p3), .val (.int p4), .val (.int p5)] [(.ref a1)])) t → Steps p.tables e below (s₁.setTop (entryFrame m #[(.ref a1), (.int p2), (.int p3), (.int p4), (.int p5)] 5)) t := by
    intro t k
    refine go0 t ?_
    show Steps p.tables e below (s₁.setTop (mkF m 0 #[.val (.ref a1), .val (.int p2), .val (.int p3), .val (.int p4), .val (.int p5)] [])) _
    refine XS.aloadN X0.here hx rfl (hb hby d1_0) rfl rfl ?_
    exact k
  obtain ⟨_, _, ⟨T2, L2, k2, n2⟩, -, X2, ⟨Lc2, hQ2, l2, y2, z2⟩, st2⟩ := X0.specialBack hx (y := (⟨"java/lang/Record", "<init>", "()V"⟩ : MethodName)) rfl hown (mvT hZ (hw _ (List.mem_of_getElem? (i := 7) rfl))) (mvT hZ (hw _ (List.mem_of_getElem? (i := 8) rfl))) (mvT hZ (hw _ (List.mem_of_getElem? (i := 11) rfl))) (by decide) (backOf (W := 0) (rm2 l Z a0 hw [] a1 h0 n0 Z0) hZ (hw _ (List.mem_of_getElem? (i := 11) rfl)) (hw _ (List.mem_of_getElem? (i := 10) rfl)) (by decide) (by decide)) (g := (mkF m 1 #[.val (.ref a1), .val (.int p2), .val (.int p3), .val (.int p4), .val (.int p5)] [(.ref a1)])) rfl (by rw [hml]; rfl) (Steps.refl _) (a := a1) (argsL := []) (rest := []) (lenOf pd_1_0 rfl) rfl (by show 2 * 0 + _ ≤ _; exact Nat.le_of_eq rfl) (hb hby d1_1) (fun _ _ => ⟨rfl, e0, (by decide : 0 + 0 ≤ _), (by decide : 0 + 0 ≤ _)⟩)
  dsimp only [Pt.U, Pt.locs, Pt.cells, Pt.slots] at X2 l2 y2 z2 st2 hQ2
  subst l2 y2 z2
  obtain ⟨rfl, N2q, e2⟩ := hQ2
  have N2 := Fr.app N0 N2q
  have go3 : ∀ t, Steps p.tables e below (T2.setTop (mkF m 4 #[.val (.ref a1), .val (.int p2), .val (.int p3), .val (.int p4), .val (.int p5)] [])) t → Steps p.tables e below (s₁.setTop (entryFrame m #[(.ref a1), (.int p2), (.int p3), (.int p4), (.int p5)] 5)) t := fun t k => go1 t (st2.trans k)
  obtain ⟨sa4, T4, h4, k4, X4, e4, E4, hS, hk4, hZ, hown, st4⟩ := ldcS X2 hx hZ hown (text := "Linked words") (hw _ (List.mem_of_getElem? (i := 15) rfl)) (own_wS hw) e2 hS (Nat.le_refl _) (g := (mkF m 4 #[.val (.ref a1), .val (.int p2), .val (.int p3), .val (.int p4), .val (.int p5)] [])) rfl (hb hby d1_4) (n := 48) (by decide) (by decide) (by decide) (by decide)
  have Z4 : n0 ≤ h4.size := Nat.le_trans Z0 E4.1
  have c5 := E_a1.ext E4
  have c6 := F_words.ext E4
  have c7 := F_linkedWords.ext E4
  have c8 := F_wordsOnKeptLines.ext E4
  have c9 := F_keptLines.ext E4
  have K4 : Keep h0 h4 [a1] := K0.ext E4
  have go10 : ∀ t, Steps p.tables e below (T4.setTop (mkF m 6 #[.val (.ref a1), .val (.int p2), .val (.int p3), .val (.int p4), .val (.int p5)] [(.ref sa4)])) t → Steps p.tables e below (s₁.setTop (entryFrame m #[(.ref a1), (.int p2), (.int p3), (.int p4), (.int p5)] 5)) t := fun t k => go3 t (st4 _ k)
  have go11 : ∀ t, Steps p.tables e below (T4.setTop (mkF m 8 #[.val (.ref a1), .val (.int p2), .val (.int p3), .val (.int p4), .val (.int p5)] [(.int p2), (.int p3), (.ref sa4)])) t → Steps p.tables e below (s₁.setTop (entryFrame m #[(.ref a1), (.int p2), (.int p3), (.int p4), (.int p5)] 5)) t := by
    intro t k
    refine go10 t ?_
    show Steps p.tables e below (T4.setTop (mkF m 6 #[.val (.ref a1), .val (.int p2), .val (.int p3), .val (.int p4), .val (.int p5)] [(.ref sa4)])) _
    refine XS.iloadN X4.here hx rfl (hb hby d1_6) rfl ?_
    show Steps p.tables e below (T4.setTop (mkF m 7 #[.val (.ref a1), .val (.int p2), .val (.int p3), .val (.int p4), .val (.int p5)] [(.int p3), (.ref sa4)])) _
    refine XS.iloadN X4.here hx rfl (hb hby d1_7) rfl ?_
    exact k
  obtain ⟨_, _, ⟨T12, L12, k12, n12⟩, -, X12, ⟨Lc12, hQ12, l12, y12, z12⟩, st12⟩ := Jvm.LawKit.callS X4 hx (y := (⟨"com/example/body_text_extractor/bodytextextractor/TextStatistics", "requireUpToWords", "(Ljava/lang/String;II)V"⟩ : MethodName)) hown (mvT hZ (hw _ (List.mem_of_getElem? (i := 23) rfl))) (mvT hZ (hw _ (List.mem_of_getElem? (i := 24) rfl))) (mvT hZ (hw _ (List.mem_of_getElem? (i := 3) rfl))) (mvT hZ (hw _ (List.mem_of_getElem? (i := 25) rfl))) (by decide) (backOf (W := 0) (rm4 l Z a0 hw [] sa4 p3 p2 h4 n0 Z4 hy3 hy3') hZ (hw _ (List.mem_of_getElem? (i := 25) rfl)) (hw _ (List.mem_of_getElem? (i := 3) rfl)) (by decide) (by decide)) (g := (mkF m 8 #[.val (.ref a1), .val (.int p2), .val (.int p3), .val (.int p4), .val (.int p5)] [(.int p2), (.int p3), (.ref sa4)])) rfl (by rw [hml]; rfl) (argsL := [(.ref sa4), (.int p3), (.int p2)]) (rest := []) (lenOf pd_1_1 rfl) rfl (by show 2 * 0 + _ ≤ _; exact Nat.le_of_eq rfl) (hb hby d1_8) (fun _ _ => ⟨rfl, e4, (by decide : 2 + 0 ≤ _), (by decide : 52 + 0 ≤ _)⟩)
  dsimp only [Pt.U, Pt.locs, Pt.cells, Pt.slots] at X12 l12 y12 z12 st12 hQ12
  subst l12 y12 z12
  obtain ⟨rfl, N12q, e12⟩ := hQ12
  have N12 := Fr.app N2 N12q
  have go13 : ∀ t, Steps p.tables e below (T12.setTop (mkF m 11 #[.val (.ref a1), .val (.int p2), .val (.int p3), .val (.int p4), .val (.int p5)] [])) t → Steps p.tables e below (s₁.setTop (entryFrame m #[(.ref a1), (.int p2), (.int p3), (.int p4), (.int p5)] 5)) t := fun t k => go11 t (st12 _ k)
  obtain ⟨sa14, T14, h14, k14, X14, e14, E14, hS, hk14, hZ, hown, st14⟩ := ldcS X12 hx hZ hown (text := "Words on kept lines") (hw _ (List.mem_of_getElem? (i := 26) rfl)) (own_wS hw) e12 hS hk4 (g := (mkF m 11 #[.val (.ref a1), .val (.int p2), .val (.int p3), .val (.int p4), .val (.int p5)] [])) rfl (hb hby d1_11) (n := 76) (by decide) (by decide) (by decide) (by decide)
  have Z14 : n0 ≤ h14.size := Nat.le_trans Z4 E14.1
  have c15 := c5.ext E14
  have c16 := c6.ext E14
  have c17 := c7.ext E14
  have c18 := c8.ext E14
  have c19 := c9.ext E14
  have K14 : Keep h0 h14 [a1] := K4.ext E14
  have go20 : ∀ t, Steps p.tables e below (T14.setTop (mkF m 13 #[.val (.ref a1), .val (.int p2), .val (.int p3), .val (.int p4), .val (.int p5)] [(.ref sa14)])) t → Steps p.tables e below (s₁.setTop (entryFrame m #[(.ref a1), (.int p2), (.int p3), (.int p4), (.int p5)] 5)) t := fun t k => go13 t (st14 _ k)
  have go21 : ∀ t, Steps p.tables e below (T14.setTop (mkF m 15 #[.val (.ref a1), .val (.int p2), .val (.int p3), .val (.int p4), .val (.int p5)] [(.int p2), (.int p4), (.ref sa14)])) t → Steps p.tables e below (s₁.setTop (entryFrame m #[(.ref a1), (.int p2), (.int p3), (.int p4), (.int p5)] 5)) t := by
    intro t k
    refine go20 t ?_
    show Steps p.tables e below (T14.setTop (mkF m 13 #[.val (.ref a1), .val (.int p2), .val (.int p3), .val (.int p4), .val (.int p5)] [(.ref sa14)])) _
    refine XS.iloadN X14.here hx rfl (hb hby d1_13) rfl ?_
    show Steps p.tables e below (T14.setTop (mkF m 14 #[.val (.ref a1), .val (.int p2), .val (.int p3), .val (.int p4), .val (.int p5)] [(.int p4), (.ref sa14)])) _
    refine XS.iloadN X14.here hx rfl (hb hby d1_14) rfl ?_
    exact k
  obtain ⟨_, _, ⟨T22, L22, k22, n22⟩, -, X22, ⟨Lc22, hQ22, l22, y22, z22⟩, st22⟩ := Jvm.LawKit.callS X14 hx (y := (⟨"com/example/body_text_extractor/bodytextextractor/TextStatistics", "requireUpToWords", "(Ljava/lang/String;II)V"⟩ : MethodName)) hown (mvT hZ (hw _ (List.mem_of_getElem? (i := 23) rfl))) (mvT hZ (hw _ (List.mem_of_getElem? (i := 24) rfl))) (mvT hZ (hw _ (List.mem_of_getElem? (i := 3) rfl))) (mvT hZ (hw _ (List.mem_of_getElem? (i := 25) rfl))) (by decide) (backOf (W := 0) (rm4 l Z a0 hw [] sa14 p4 p2 h14 n0 Z14 hy4 hy4') hZ (hw _ (List.mem_of_getElem? (i := 25) rfl)) (hw _ (List.mem_of_getElem? (i := 3) rfl)) (by decide) (by decide)) (g := (mkF m 15 #[.val (.ref a1), .val (.int p2), .val (.int p3), .val (.int p4), .val (.int p5)] [(.int p2), (.int p4), (.ref sa14)])) rfl (by rw [hml]; rfl) (argsL := [(.ref sa14), (.int p4), (.int p2)]) (rest := []) (lenOf pd_1_1 rfl) rfl (by show 2 * 0 + _ ≤ _; exact Nat.le_of_eq rfl) (hb hby d1_15) (fun _ _ => ⟨rfl, e14, (by decide : 4 + 0 ≤ _), (by decide : 132 + 0 ≤ _)⟩)
  dsimp only [Pt.U, Pt.locs, Pt.cells, Pt.slots] at X22 l22 y22 z22 st22 hQ22
  subst l22 y22 z22
  obtain ⟨rfl, N22q, e22⟩ := hQ22
  have N22 := Fr.app N12 N22q
  have go23 : ∀ t, Steps p.tables e below (T22.setTop (mkF m 18 #[.val (.ref a1), .val (.int p2), .val (.int p3), .val (.int p4), .val (.int p5)] [])) t → Steps p.tables e below (s₁.setTop (entryFrame m #[(.ref a1), (.int p2), (.int p3), (.int p4), (.int p5)] 5)) t := fun t k => go21 t (st22 _ k)
  have go24 : ∀ t, Steps p.tables e below (T22.setTop (mkF m 41 #[.val (.ref a1), .val (.int p2), .val (.int p3), .val (.int p4), .val (.int p5)] [(.int p2), (.ref a1)])) t → Steps p.tables e below (s₁.setTop (entryFrame m #[(.ref a1), (.int p2), (.int p3), (.int p4), (.int p5)] 5)) t := by
    intro t k
    refine go23 t ?_
    show Steps p.tables e below (T22.setTop (mkF m 18 #[.val (.ref a1), .val (.int p2), .val (.int p3), .val (.int p4), .val (.int p5)] [])) _
    refine XS.iload X22.here hx rfl (hb hby d1_18) rfl ?_
    show Steps p.tables e below (T22.setTop (mkF m 20 #[.val (.ref a1), .val (.int p2), .val (.int p3), .val (.int p4), .val (.int p5)] [(.int p5)])) _
    refine XS.iconst X22.here hx rfl (hb hby d1_20) ?_
    show Steps p.tables e below (T22.setTop (mkF m 21 #[.val (.ref a1), .val (.int p2), .val (.int p3), .val (.int p4), .val (.int p5)] [(.int (1 : Int32)), (.int p5)])) _
    refine XS.icmpYes X22.here hx rfl (pc0 := 21) (pc' := 39) rfl (hb hby d1_21) rfl (flt hy5).2.1 (by decide) (by decide) ?_
    show Steps p.tables e below (T22.setTop (mkF m 39 #[.val (.ref a1), .val (.int p2), .val (.int p3), .val (.int p4), .val (.int p5)] [])) _
    refine XS.aloadN X22.here hx rfl (hb hby d1_39) rfl rfl ?_
    show Steps p.tables e below (T22.setTop (mkF m 40 #[.val (.ref a1), .val (.int p2), .val (.int p3), .val (.int p4), .val (.int p5)] [(.ref a1)])) _
    refine XS.iloadN X22.here hx rfl (hb hby d1_40) rfl ?_
    exact k
  obtain ⟨T25, h25, X25, e25, W25, st25⟩ := putF X22 hx hZ hown (host := "") (Or.inl (hw _ (List.mem_of_getElem? (i := 27) rfl))) Via.refl e22 c16 c15 (Or.inr ⟨(hw _ (List.mem_of_getElem? (i := 28) rfl)), rfl, hnm⟩) (hw _ (List.mem_of_getElem? (i := 2) rfl)) (ty := .int) (by decide) rfl rfl (g := (mkF m 41 #[.val (.ref a1), .val (.int p2), .val (.int p3), .val (.int p4), .val (.int p5)] [(.int p2), (.ref a1)])) rfl rfl (hb hby d1_41)
  have Fw25 := c16.same W25
  have c26 := c15.wr W25
  have c27 := c17.other W25 (Or.inr (slot_ne (Or.inr (hw _ (List.mem_of_getElem? (i := 30) rfl))) (Or.inr (hw _ (List.mem_of_getElem? (i := 28) rfl))) (by decide) (t := .int) (t' := .int) (by decide) (by decide)))
  have c28 := c18.other W25 (Or.inr (slot_ne (Or.inr (hw _ (List.mem_of_getElem? (i := 32) rfl))) (Or.inr (hw _ (List.mem_of_getElem? (i := 28) rfl))) (by decide) (t := .int) (t' := .int) (by decide) (by decide)))
  have c29 := c19.other W25 (Or.inr (slot_ne (Or.inr (hw _ (List.mem_of_getElem? (i := 34) rfl))) (Or.inr (hw _ (List.mem_of_getElem? (i := 28) rfl))) (by decide) (t := .int) (t' := .int) (by decide) (by decide)))
  have K25 : Keep h0 h25 [a1] := K14.wr W25 (Or.inl (List.mem_of_getElem? (i := 0) rfl))
  have Z25 : n0 ≤ h25.size := Nat.le_trans Z14 (Keep.of_wr W25).1
  have Ks25 := Nat.le_trans hk14 (Keep.of_wr W25).1
  have N25 := Fr.snoc X25 N22 g_a1
  have go30 : ∀ t, Steps p.tables e below (T25.setTop (mkF m 44 #[.val (.ref a1), .val (.int p2), .val (.int p3), .val (.int p4), .val (.int p5)] [])) t → Steps p.tables e below (s₁.setTop (entryFrame m #[(.ref a1), (.int p2), (.int p3), (.int p4), (.int p5)] 5)) t := fun t k => go24 t (st25 _ k)
  have go31 : ∀ t, Steps p.tables e below (T25.setTop (mkF m 46 #[.val (.ref a1), .val (.int p2), .val (.int p3), .val (.int p4), .val (.int p5)] [(.int p3), (.ref a1)])) t → Steps p.tables e below (s₁.setTop (entryFrame m #[(.ref a1), (.int p2), (.int p3), (.int p4), (.int p5)] 5)) t := by
    intro t k
    refine go30 t ?_
    show Steps p.tables e below (T25.setTop (mkF m 44 #[.val (.ref a1), .val (.int p2), .val (.int p3), .val (.int p4), .val (.int p5)] [])) _
    refine XS.aloadN X25.here hx rfl (hb hby d1_44) rfl rfl ?_
    show Steps p.tables e below (T25.setTop (mkF m 45 #[.val (.ref a1), .val (.int p2), .val (.int p3), .val (.int p4), .val (.int p5)] [(.ref a1)])) _
    refine XS.iloadN X25.here hx rfl (hb hby d1_45) rfl ?_
    exact k
  obtain ⟨T32, h32, X32, e32, W32, st32⟩ := putF X25 hx hZ hown (host := "") (Or.inl (hw _ (List.mem_of_getElem? (i := 29) rfl))) Via.refl e25 c27 c26 (Or.inr ⟨(hw _ (List.mem_of_getElem? (i := 30) rfl)), rfl, hnm⟩) (hw _ (List.mem_of_getElem? (i := 2) rfl)) (ty := .int) (by decide) rfl rfl (g := (mkF m 46 #[.val (.ref a1), .val (.int p2), .val (.int p3), .val (.int p4), .val (.int p5)] [(.int p3), (.ref a1)])) rfl rfl (hb hby d1_46)
  have Fw32 := c27.same W32
  have c33 := c26.wr W32
  have c34 := c28.other W32 (Or.inr (slot_ne (Or.inr (hw _ (List.mem_of_getElem? (i := 32) rfl))) (Or.inr (hw _ (List.mem_of_getElem? (i := 30) rfl))) (by decide) (t := .int) (t' := .int) (by decide) (by decide)))
  have c35 := c29.other W32 (Or.inr (slot_ne (Or.inr (hw _ (List.mem_of_getElem? (i := 34) rfl))) (Or.inr (hw _ (List.mem_of_getElem? (i := 30) rfl))) (by decide) (t := .int) (t' := .int) (by decide) (by decide)))
  have c36 := Fw25.other W32 (Or.inr (slot_ne (Or.inr (hw _ (List.mem_of_getElem? (i := 28) rfl))) (Or.inr (hw _ (List.mem_of_getElem? (i := 30) rfl))) (by decide) (t := .int) (t' := .int) (by decide) (by decide)))
  have K32 : Keep h0 h32 [a1] := K25.wr W32 (Or.inl (List.mem_of_getElem? (i := 0) rfl))
  have Z32 : n0 ≤ h32.size := Nat.le_trans Z25 (Keep.of_wr W32).1
  have Ks32 := Nat.le_trans Ks25 (Keep.of_wr W32).1
  have N32 := Fr.snoc X32 N25 g_a1
  have go37 : ∀ t, Steps p.tables e below (T32.setTop (mkF m 49 #[.val (.ref a1), .val (.int p2), .val (.int p3), .val (.int p4), .val (.int p5)] [])) t → Steps p.tables e below (s₁.setTop (entryFrame m #[(.ref a1), (.int p2), (.int p3), (.int p4), (.int p5)] 5)) t := fun t k => go31 t (st32 _ k)
  have go38 : ∀ t, Steps p.tables e below (T32.setTop (mkF m 51 #[.val (.ref a1), .val (.int p2), .val (.int p3), .val (.int p4), .val (.int p5)] [(.int p4), (.ref a1)])) t → Steps p.tables e below (s₁.setTop (entryFrame m #[(.ref a1), (.int p2), (.int p3), (.int p4), (.int p5)] 5)) t := by
    intro t k
    refine go37 t ?_
    show Steps p.tables e below (T32.setTop (mkF m 49 #[.val (.ref a1), .val (.int p2), .val (.int p3), .val (.int p4), .val (.int p5)] [])) _
    refine XS.aloadN X32.here hx rfl (hb hby d1_49) rfl rfl ?_
    show Steps p.tables e below (T32.setTop (mkF m 50 #[.val (.ref a1), .val (.int p2), .val (.int p3), .val (.int p4), .val (.int p5)] [(.ref a1)])) _
    refine XS.iloadN X32.here hx rfl (hb hby d1_50) rfl ?_
    exact k
  obtain ⟨T39, h39, X39, e39, W39, st39⟩ := putF X32 hx hZ hown (host := "") (Or.inl (hw _ (List.mem_of_getElem? (i := 31) rfl))) Via.refl e32 c34 c33 (Or.inr ⟨(hw _ (List.mem_of_getElem? (i := 32) rfl)), rfl, hnm⟩) (hw _ (List.mem_of_getElem? (i := 2) rfl)) (ty := .int) (by decide) rfl rfl (g := (mkF m 51 #[.val (.ref a1), .val (.int p2), .val (.int p3), .val (.int p4), .val (.int p5)] [(.int p4), (.ref a1)])) rfl rfl (hb hby d1_51)
  have Fw39 := c34.same W39
  have c40 := c33.wr W39
  have c41 := c35.other W39 (Or.inr (slot_ne (Or.inr (hw _ (List.mem_of_getElem? (i := 34) rfl))) (Or.inr (hw _ (List.mem_of_getElem? (i := 32) rfl))) (by decide) (t := .int) (t' := .int) (by decide) (by decide)))
  have c42 := c36.other W39 (Or.inr (slot_ne (Or.inr (hw _ (List.mem_of_getElem? (i := 28) rfl))) (Or.inr (hw _ (List.mem_of_getElem? (i := 32) rfl))) (by decide) (t := .int) (t' := .int) (by decide) (by decide)))
  have c43 := Fw32.other W39 (Or.inr (slot_ne (Or.inr (hw _ (List.mem_of_getElem? (i := 30) rfl))) (Or.inr (hw _ (List.mem_of_getElem? (i := 32) rfl))) (by decide) (t := .int) (t' := .int) (by decide) (by decide)))
  have K39 : Keep h0 h39 [a1] := K32.wr W39 (Or.inl (List.mem_of_getElem? (i := 0) rfl))
  have Z39 : n0 ≤ h39.size := Nat.le_trans Z32 (Keep.of_wr W39).1
  have Ks39 := Nat.le_trans Ks32 (Keep.of_wr W39).1
  have N39 := Fr.snoc X39 N32 g_a1
  have go44 : ∀ t, Steps p.tables e below (T39.setTop (mkF m 54 #[.val (.ref a1), .val (.int p2), .val (.int p3), .val (.int p4), .val (.int p5)] [])) t → Steps p.tables e below (s₁.setTop (entryFrame m #[(.ref a1), (.int p2), (.int p3), (.int p4), (.int p5)] 5)) t := fun t k => go38 t (st39 _ k)
  have go45 : ∀ t, Steps p.tables e below (T39.setTop (mkF m 57 #[.val (.ref a1), .val (.int p2), .val (.int p3), .val (.int p4), .val (.int p5)] [(.int p5), (.ref a1)])) t → Steps p.tables e below (s₁.setTop (entryFrame m #[(.ref a1), (.int p2), (.int p3), (.int p4), (.int p5)] 5)) t := by
    intro t k
    refine go44 t ?_
    show Steps p.tables e below (T39.setTop (mkF m 54 #[.val (.ref a1), .val (.int p2), .val (.int p3), .val (.int p4), .val (.int p5)] [])) _
    refine XS.aloadN X39.here hx rfl (hb hby d1_54) rfl rfl ?_
    show Steps p.tables e below (T39.setTop (mkF m 55 #[.val (.ref a1), .val (.int p2), .val (.int p3), .val (.int p4), .val (.int p5)] [(.ref a1)])) _
    refine XS.iload X39.here hx rfl (hb hby d1_55) rfl ?_
    exact k
  obtain ⟨T46, h46, X46, e46, W46, st46⟩ := putF X39 hx hZ hown (host := "") (Or.inl (hw _ (List.mem_of_getElem? (i := 33) rfl))) Via.refl e39 c41 c40 (Or.inr ⟨(hw _ (List.mem_of_getElem? (i := 34) rfl)), rfl, hnm⟩) (hw _ (List.mem_of_getElem? (i := 2) rfl)) (ty := .int) (by decide) rfl rfl (g := (mkF m 57 #[.val (.ref a1), .val (.int p2), .val (.int p3), .val (.int p4), .val (.int p5)] [(.int p5), (.ref a1)])) rfl rfl (hb hby d1_57)
  have Fw46 := c41.same W46
  have c47 := c40.wr W46
  have c48 := c42.other W46 (Or.inr (slot_ne (Or.inr (hw _ (List.mem_of_getElem? (i := 28) rfl))) (Or.inr (hw _ (List.mem_of_getElem? (i := 34) rfl))) (by decide) (t := .int) (t' := .int) (by decide) (by decide)))
  have c49 := c43.other W46 (Or.inr (slot_ne (Or.inr (hw _ (List.mem_of_getElem? (i := 30) rfl))) (Or.inr (hw _ (List.mem_of_getElem? (i := 34) rfl))) (by decide) (t := .int) (t' := .int) (by decide) (by decide)))
  have c50 := Fw39.other W46 (Or.inr (slot_ne (Or.inr (hw _ (List.mem_of_getElem? (i := 32) rfl))) (Or.inr (hw _ (List.mem_of_getElem? (i := 34) rfl))) (by decide) (t := .int) (t' := .int) (by decide) (by decide)))
  have K46 : Keep h0 h46 [a1] := K39.wr W46 (Or.inl (List.mem_of_getElem? (i := 0) rfl))
  have Z46 : n0 ≤ h46.size := Nat.le_trans Z39 (Keep.of_wr W46).1
  have Ks46 := Nat.le_trans Ks39 (Keep.of_wr W46).1
  have N46 := Fr.snoc X46 N39 g_a1
  have go51 : ∀ t, Steps p.tables e below (T46.setTop (mkF m 60 #[.val (.ref a1), .val (.int p2), .val (.int p3), .val (.int p4), .val (.int p5)] [])) t → Steps p.tables e below (s₁.setTop (entryFrame m #[(.ref a1), (.int p2), (.int p3), (.int p4), (.int p5)] 5)) t := fun t k => go45 t (st46 _ k)
  obtain ⟨fs, hr, hrun, hended, hW⟩ := X46.leaveW hS (by rw [e46]; exact Ks46) (v := none) (fun _ => rfl)
  refine ⟨_, _, go51 _ ?_, hrun, hended, _, _, rfl, ?_, hW.1, hW.2.1, hW.2.2.1, hW.2.2.2.mono (by decide) (by decide)⟩
  · show Steps p.tables e below (T46.setTop (mkF m 60 #[.val (.ref a1), .val (.int p2), .val (.int p3), .val (.int p4), .val (.int p5)] [])) _
    exact X46.returnOut hx Bd.returns (hb hby d1_60) hr
  · show Q1 Z a1 p2 p3 p4 p5 u_words u_linkedWords u_wordsOnKeptLines u_keptLines h0 n0 _ T46.heap _
    rw [e46]
    exact ⟨rfl, N46, K46, c47, c48, c49, c50, Fw46⟩
theorem d5_0 : decode prog_34_method_6_code 0 = .ok (.aload_n 0, 1) := by decide +kernel
theorem d5_1 : decode prog_34_method_6_code 1 = .ok (.getfield 33, 3) := by decide +kernel
theorem d5_4 : decode prog_34_method_6_code 4 = .ok (.i2l, 1) := by decide +kernel
theorem d5_5 : decode prog_34_method_6_code 5 = .ok (.aload_n 1, 1) := by decide +kernel
theorem d5_6 : decode prog_34_method_6_code 6 = .ok (.getfield 36, 3) := by decide +kernel
theorem d5_9 : decode prog_34_method_6_code 9 = .ok (.i2l, 1) := by decide +kernel
theorem d5_10 : decode prog_34_method_6_code 10 = .ok (.lmul, 1) := by decide +kernel
theorem d5_11 : decode prog_34_method_6_code 11 = .ok (.aload_n 1, 1) := by decide +kernel
theorem d5_12 : decode prog_34_method_6_code 12 = .ok (.getfield 33, 3) := by decide +kernel
theorem d5_15 : decode prog_34_method_6_code 15 = .ok (.i2l, 1) := by decide +kernel
theorem d5_16 : decode prog_34_method_6_code 16 = .ok (.aload_n 0, 1) := by decide +kernel
theorem d5_17 : decode prog_34_method_6_code 17 = .ok (.getfield 36, 3) := by decide +kernel
theorem d5_20 : decode prog_34_method_6_code 20 = .ok (.i2l, 1) := by decide +kernel
theorem d5_21 : decode prog_34_method_6_code 21 = .ok (.lmul, 1) := by decide +kernel
theorem d5_22 : decode prog_34_method_6_code 22 = .ok (.lcmp, 1) := by decide +kernel
theorem d5_23 : decode prog_34_method_6_code 23 = .ok (.ifCond .ne 7, 3) := by decide +kernel
theorem d5_26 : decode prog_34_method_6_code 26 = .ok (.iconst 1, 1) := by decide +kernel
theorem d5_27 : decode prog_34_method_6_code 27 = .ok (.goto 4, 3) := by decide +kernel
theorem d5_30 : decode prog_34_method_6_code 30 = .ok (.iconst 0, 1) := by decide +kernel
theorem d5_31 : decode prog_34_method_6_code 31 = .ok (.ireturn, 1) := by decide +kernel
theorem pn_5 : plainName "com/example/body_text_extractor/bodytextextractor/TextStatistics" = true := by first | (simp [plainName, overriddenIn]; done) | decide +kernel
theorem ef_5 (m : MethodId) (x0 : Addr) (x1 : Addr) : entryFrame m #[(.ref x0), (.ref x1)] 2 = mkF m 0 #[.val (.ref x0), .val (.ref x1)] [] := by first | (simp [entryFrame, mkF, argsToLocals, Value.category]; done) | rfl
def Q5 (Z : State) (a1 : Addr) (a2 : Addr) (w1 : Int32) (l1 : Int32) (w2 : Int32) (l2 : Int32) (h0 : Heap) (n0 : Nat) (v : Option Value) (h : Heap) (L : List Loc) : Prop := v = some (.int (own_td w1 l1 w2 l2)) ∧ Fr n0 L ∧ h = h0
set_option maxRecDepth 65536 in
set_option maxHeartbeats 40000000 in
theorem rm5 (l : Launch) (Z : State) (a0 : Array Value) (hw : ∀ d ∈ tables_1, d.before a0 Z = true) (ws : List Jvm.Cond) (a1 : Addr) (a2 : Addr) (w1 : Int32) (l1 : Int32) (w2 : Int32) (l2 : Int32) (h0 : Heap) (n0 : Nat) (Z0 : n0 ≤ h0.size) (W1 : Fld Z h0 a1 "com/example/body_text_extractor/bodytextextractor/TextStatistics" "wordsOnKeptLines" "I" (.int w1)) (L1 : Fld Z h0 a1 "com/example/body_text_extractor/bodytextextractor/TextStatistics" "keptLines" "I" (.int l1)) (W2 : Fld Z h0 a2 "com/example/body_text_extractor/bodytextextractor/TextStatistics" "wordsOnKeptLines" "I" (.int w2)) (L2 : Fld Z h0 a2 "com/example/body_text_extractor/bodytextextractor/TextStatistics" "keptLines" "I" (.int l2)) :
    MetFree l (⟨"com/example/body_text_extractor/bodytextextractor/TextStatistics", "hasTextDensityOf", "(Lcom/example/body_text_extractor/bodytextextractor/TextStatistics;)Z"⟩ : MethodName) (head1 (Jvm.Cond.code (⟨"com/example/body_text_extractor/bodytextextractor/TextStatistics", "hasTextDensityOf", "(Lcom/example/body_text_extractor/bodytextextractor/TextStatistics;)Z"⟩ : MethodName) prog_34_method_6_code 2 (some .boolean) :: ws) ({ frames := 0, cells := 0, slots := 0, locals := 0 } : Room)) (fun a U => a = #[(.ref a1), (.ref a2)] ∧ Z.Warmed39 U.vm ∧ U.heap = h0) (fun _ _ _ _ _ => True) (fun _ U o U' => ∃ v L, o = .returned v ∧ Q5 Z a1 a2 w1 l1 w2 l2 h0 n0 v U'.heap L ∧ FrameEnd U o U' L ({ frames := 0, cells := 0, slots := 0, locals := 0 } : Room).cells ({ frames := 0, cells := 0, slots := 0, locals := 0 } : Room).slots) := by
  refine MetFree.of_bodySF (plainFor_of_name pn_5) hisR ?_
  intro p e s m args below meth c s₁ Bd hml0 hP hK
  obtain ⟨rfl, hZ, hh⟩ := hP
  have hx := Bd.exec
  have hby := Bd.bytes
  have hml : c.maxLocals = 2 := hml0
  have hown : s.vm.findClass "com/example/body_text_extractor/bodytextextractor/TextStatistics" = some m.cls := findClass_of_methodNamed Bd.named
  have hnm := (name_of_methodNamed Bd.named Bd.method).1
  have X0 : Stand p l e ({ frames := 0, cells := 0, slots := 0, locals := 0 } : Room) s m #[(.ref a1), (.ref a2)] below meth c s₁ [] 0 0 := Stand.of_body Bd
  have e0 : s₁.heap = h0 := by rw [← hh, Bd.state]; rfl
  have N0 := Fr.nil n0
  have go0 : ∀ t, Steps p.tables e below (s₁.setTop (mkF m 0 #[.val (.ref a1), .val (.ref a2)] [])) t → Steps p.tables e below (s₁.setTop (entryFrame m #[(.ref a1), (.ref a2)] 2)) t := fun t k => castTop (ef_5 m a1 a2) k
  have go1 : ∀ t, Steps p.tables e below (s₁.setTop (mkF m 1 #[.val (.ref a1), .val (.ref a2)] [(.ref a1)])) t → Steps p.tables e below (s₁.setTop (entryFrame m #[(.ref a1), (.ref a2)] 2)) t := by
    intro t k
    refine go0 t ?_
    show Steps p.tables e below (s₁.setTop (mkF m 0 #[.val (.ref a1), .val (.ref a2)] [])) _
    refine XS.aloadN X0.here hx rfl (hb hby d5_0) rfl rfl ?_
    exact k
  obtain ⟨T2, X2, e2, st2⟩ := getF X0 hx hZ hown (host := "") (Or.inl (hw _ (List.mem_of_getElem? (i := 31) rfl))) Via.refl e0 W1 (g := (mkF m 1 #[.val (.ref a1), .val (.ref a2)] [(.ref a1)])) rfl rfl (hb hby d5_1)
  have go3 : ∀ t, Steps p.tables e below (T2.setTop (mkF m 4 #[.val (.ref a1), .val (.ref a2)] [(.int w1)])) t → Steps p.tables e below (s₁.setTop (entryFrame m #[(.ref a1), (.ref a2)] 2)) t := fun t k => go1 t (st2 _ k)
  have go4 : ∀ t, Steps p.tables e below (T2.setTop (mkF m 6 #[.val (.ref a1), .val (.ref a2)] [(.ref a2), (.long (w1.toInt64))])) t → Steps p.tables e below (s₁.setTop (entryFrame m #[(.ref a1), (.ref a2)] 2)) t := by
    intro t k
    refine go3 t ?_
    show Steps p.tables e below (T2.setTop (mkF m 4 #[.val (.ref a1), .val (.ref a2)] [(.int w1)])) _
    refine XS.i2l X2.here hx rfl (hb hby d5_4) rfl ?_
    show Steps p.tables e below (T2.setTop (mkF m 5 #[.val (.ref a1), .val (.ref a2)] [(.long (w1.toInt64))])) _
    refine XS.aloadN X2.here hx rfl (hb hby d5_5) rfl rfl ?_
    exact k
  obtain ⟨T5, X5, e5, st5⟩ := getF X2 hx hZ hown (host := "") (Or.inl (hw _ (List.mem_of_getElem? (i := 33) rfl))) Via.refl e2 L2 (g := (mkF m 6 #[.val (.ref a1), .val (.ref a2)] [(.ref a2), (.long (w1.toInt64))])) rfl rfl (hb hby d5_6)
  have go6 : ∀ t, Steps p.tables e below (T5.setTop (mkF m 9 #[.val (.ref a1), .val (.ref a2)] [(.int l2), (.long (w1.toInt64))])) t → Steps p.tables e below (s₁.setTop (entryFrame m #[(.ref a1), (.ref a2)] 2)) t := fun t k => go4 t (st5 _ k)
  have go7 : ∀ t, Steps p.tables e below (T5.setTop (mkF m 12 #[.val (.ref a1), .val (.ref a2)] [(.ref a2), (.long ((w1.toInt64) * (l2.toInt64)))])) t → Steps p.tables e below (s₁.setTop (entryFrame m #[(.ref a1), (.ref a2)] 2)) t := by
    intro t k
    refine go6 t ?_
    show Steps p.tables e below (T5.setTop (mkF m 9 #[.val (.ref a1), .val (.ref a2)] [(.int l2), (.long (w1.toInt64))])) _
    refine XS.i2l X5.here hx rfl (hb hby d5_9) rfl ?_
    show Steps p.tables e below (T5.setTop (mkF m 10 #[.val (.ref a1), .val (.ref a2)] [(.long (l2.toInt64)), (.long (w1.toInt64))])) _
    refine XS.lmul X5.here hx rfl (hb hby d5_10) rfl ?_
    show Steps p.tables e below (T5.setTop (mkF m 11 #[.val (.ref a1), .val (.ref a2)] [(.long ((w1.toInt64) * (l2.toInt64)))])) _
    refine XS.aloadN X5.here hx rfl (hb hby d5_11) rfl rfl ?_
    exact k
  obtain ⟨T8, X8, e8, st8⟩ := getF X5 hx hZ hown (host := "") (Or.inl (hw _ (List.mem_of_getElem? (i := 31) rfl))) Via.refl e5 W2 (g := (mkF m 12 #[.val (.ref a1), .val (.ref a2)] [(.ref a2), (.long ((w1.toInt64) * (l2.toInt64)))])) rfl rfl (hb hby d5_12)
  have go9 : ∀ t, Steps p.tables e below (T8.setTop (mkF m 15 #[.val (.ref a1), .val (.ref a2)] [(.int w2), (.long ((w1.toInt64) * (l2.toInt64)))])) t → Steps p.tables e below (s₁.setTop (entryFrame m #[(.ref a1), (.ref a2)] 2)) t := fun t k => go7 t (st8 _ k)
  have go10 : ∀ t, Steps p.tables e below (T8.setTop (mkF m 17 #[.val (.ref a1), .val (.ref a2)] [(.ref a1), (.long (w2.toInt64)), (.long ((w1.toInt64) * (l2.toInt64)))])) t → Steps p.tables e below (s₁.setTop (entryFrame m #[(.ref a1), (.ref a2)] 2)) t := by
    intro t k
    refine go9 t ?_
    show Steps p.tables e below (T8.setTop (mkF m 15 #[.val (.ref a1), .val (.ref a2)] [(.int w2), (.long ((w1.toInt64) * (l2.toInt64)))])) _
    refine XS.i2l X8.here hx rfl (hb hby d5_15) rfl ?_
    show Steps p.tables e below (T8.setTop (mkF m 16 #[.val (.ref a1), .val (.ref a2)] [(.long (w2.toInt64)), (.long ((w1.toInt64) * (l2.toInt64)))])) _
    refine XS.aloadN X8.here hx rfl (hb hby d5_16) rfl rfl ?_
    exact k
  obtain ⟨T11, X11, e11, st11⟩ := getF X8 hx hZ hown (host := "") (Or.inl (hw _ (List.mem_of_getElem? (i := 33) rfl))) Via.refl e8 L1 (g := (mkF m 17 #[.val (.ref a1), .val (.ref a2)] [(.ref a1), (.long (w2.toInt64)), (.long ((w1.toInt64) * (l2.toInt64)))])) rfl rfl (hb hby d5_17)
  have go12 : ∀ t, Steps p.tables e below (T11.setTop (mkF m 20 #[.val (.ref a1), .val (.ref a2)] [(.int l1), (.long (w2.toInt64)), (.long ((w1.toInt64) * (l2.toInt64)))])) t → Steps p.tables e below (s₁.setTop (entryFrame m #[(.ref a1), (.ref a2)] 2)) t := fun t k => go10 t (st11 _ k)
  have go13 : ∀ t, Steps p.tables e below (T11.setTop (mkF m 23 #[.val (.ref a1), .val (.ref a2)] [(.int (lcmpW ((w1.toInt64) * (l2.toInt64)) ((w2.toInt64) * (l1.toInt64))))])) t → Steps p.tables e below (s₁.setTop (entryFrame m #[(.ref a1), (.ref a2)] 2)) t := by
    intro t k
    refine go12 t ?_
    show Steps p.tables e below (T11.setTop (mkF m 20 #[.val (.ref a1), .val (.ref a2)] [(.int l1), (.long (w2.toInt64)), (.long ((w1.toInt64) * (l2.toInt64)))])) _
    refine XS.i2l X11.here hx rfl (hb hby d5_20) rfl ?_
    show Steps p.tables e below (T11.setTop (mkF m 21 #[.val (.ref a1), .val (.ref a2)] [(.long (l1.toInt64)), (.long (w2.toInt64)), (.long ((w1.toInt64) * (l2.toInt64)))])) _
    refine XS.lmul X11.here hx rfl (hb hby d5_21) rfl ?_
    show Steps p.tables e below (T11.setTop (mkF m 22 #[.val (.ref a1), .val (.ref a2)] [(.long ((w2.toInt64) * (l1.toInt64))), (.long ((w1.toInt64) * (l2.toInt64)))])) _
    refine XS.lcmp X11.here hx rfl (hb hby d5_22) rfl ?_
    exact k
  by_cases hc23 : (lcmpW ((w1.toInt64) * (l2.toInt64)) ((w2.toInt64) * (l1.toInt64))) = (0 : Int32)
  · skip
    have go14 : ∀ t, Steps p.tables e below (T11.setTop (mkF m 31 #[.val (.ref a1), .val (.ref a2)] [(.int (1 : Int32))])) t → Steps p.tables e below (s₁.setTop (entryFrame m #[(.ref a1), (.ref a2)] 2)) t := by
      intro t k
      refine go13 t ?_
      show Steps p.tables e below (T11.setTop (mkF m 23 #[.val (.ref a1), .val (.ref a2)] [(.int (lcmpW ((w1.toInt64) * (l2.toInt64)) ((w2.toInt64) * (l1.toInt64))))])) _
      refine XS.ifNo X11.here hx rfl (hb hby d5_23) rfl ((if0 _ _).trans (teq hc23).2) ?_
      show Steps p.tables e below (T11.setTop (mkF m 26 #[.val (.ref a1), .val (.ref a2)] [])) _
      refine XS.iconst X11.here hx rfl (hb hby d5_26) ?_
      show Steps p.tables e below (T11.setTop (mkF m 27 #[.val (.ref a1), .val (.ref a2)] [(.int (1 : Int32))])) _
      refine XS.goto X11.here hx rfl (pc0 := 27) (pc' := 31) rfl (hb hby d5_27) (by decide) (by decide) ?_
      exact k
    obtain ⟨fs, hr, hrun, hended, hW, hsame⟩ := X11.leave (v := some (.int (1 : Int32))) (fun h => by rw [Bd.returns] at h; cases h)
    refine ⟨_, _, go14 _ ?_, hrun, hended, _, _, rfl, ?_, ⟨_, rfl⟩, hW, hsame.mono (by decide) (by decide)⟩
    · show Steps p.tables e below (T11.setTop (mkF m 31 #[.val (.ref a1), .val (.ref a2)] [(.int (1 : Int32))])) _
      exact retN X11 hx (t := .boolean) Bd.returns (by simp) (hb hby d5_31) hr
    · show Q5 Z a1 a2 w1 l1 w2 l2 h0 n0 _ T11.heap _
      rw [e11]
      exact ⟨congrArg (fun z => some (Value.int z)) (if_pos ((lw_eq _ _).mp hc23)).symm, N0, rfl⟩
  · skip
    have go15 : ∀ t, Steps p.tables e below (T11.setTop (mkF m 31 #[.val (.ref a1), .val (.ref a2)] [(.int (0 : Int32))])) t → Steps p.tables e below (s₁.setTop (entryFrame m #[(.ref a1), (.ref a2)] 2)) t := by
      intro t k
      refine go13 t ?_
      show Steps p.tables e below (T11.setTop (mkF m 23 #[.val (.ref a1), .val (.ref a2)] [(.int (lcmpW ((w1.toInt64) * (l2.toInt64)) ((w2.toInt64) * (l1.toInt64))))])) _
      refine XS.ifYes X11.here hx rfl (pc0 := 23) (pc' := 30) rfl (hb hby d5_23) rfl ((if0 _ _).trans (feq hc23).2) (by decide) (by decide) ?_
      show Steps p.tables e below (T11.setTop (mkF m 30 #[.val (.ref a1), .val (.ref a2)] [])) _
      refine XS.iconst X11.here hx rfl (hb hby d5_30) ?_
      exact k
    obtain ⟨fs, hr, hrun, hended, hW, hsame⟩ := X11.leave (v := some (.int (0 : Int32))) (fun h => by rw [Bd.returns] at h; cases h)
    refine ⟨_, _, go15 _ ?_, hrun, hended, _, _, rfl, ?_, ⟨_, rfl⟩, hW, hsame.mono (by decide) (by decide)⟩
    · show Steps p.tables e below (T11.setTop (mkF m 31 #[.val (.ref a1), .val (.ref a2)] [(.int (0 : Int32))])) _
      exact retN X11 hx (t := .boolean) Bd.returns (by simp) (hb hby d5_31) hr
    · show Q5 Z a1 a2 w1 l1 w2 l2 h0 n0 _ T11.heap _
      rw [e11]
      exact ⟨congrArg (fun z => some (Value.int z)) (if_neg (fun u => hc23 ((lw_eq _ _).mpr u))).symm, N0, rfl⟩
theorem pd_0_0 : parseMethodDescriptor "(IIII)V" = some ⟨[.int, .int, .int, .int], none⟩ := by decide +kernel
theorem pd_0_1 : parseMethodDescriptor "(Lcom/example/body_text_extractor/bodytextextractor/TextStatistics;)Z" = some ⟨[(.object "com/example/body_text_extractor/bodytextextractor/TextStatistics")], some .boolean⟩ := by decide +kernel
theorem pn_0 : plainName "com/example/body_text_extractor/bodytextextractor/TextStatisticsHasTextDensityOfPinLaw" = true := by first | (simp [plainName, overriddenIn]; done) | decide +kernel
theorem ef_0 (m : MethodId) (x0 : Int32) (x1 : Int32) (x2 : Int32) (x3 : Int32) (x4 : Int32) (x5 : Int32) : entryFrame m #[(.int x0), (.int x1), (.int x2), (.int x3), (.int x4), (.int x5)] maxLocals = mkF m 0 #[.val (.int x0), .val (.int x1), .val (.int x2), .val (.int x3), .val (.int x4), .val (.int x5), .unset, .unset, .unset, .unset, .unset, .unset, .unset, .unset, .unset, .unset, .unset, .unset] [] := by first | (simp [entryFrame, mkF, argsToLocals, Value.category, maxLocals]; done) | rfl
def Q0 (Z : State) (x0 : Int32) (x1 : Int32) (x2 : Int32) (x3 : Int32) (x4 : Int32) (sel : Int32) (h0 : Heap) (n0 : Nat) (v : Option Value) (h : Heap) (L : List Loc) : Prop := v = some (.int (1 : Int32)) ∧ Fr n0 L
set_option maxRecDepth 65536 in
set_option maxHeartbeats 40000000 in
theorem rm0 (l : Launch) (Z : State) (a0 : Array Value) (hw : ∀ d ∈ tables_1, d.before a0 Z = true) (ws : List Jvm.Cond) (x0 : Int32) (x1 : Int32) (x2 : Int32) (x3 : Int32) (x4 : Int32) (sel : Int32) (h0 : Heap) (n0 : Nat) (Z0 : n0 ≤ h0.size) :
    MetFree l x (head1 (Jvm.Cond.code x code maxLocals ret :: ws) room_1) (fun a U => a = #[(.int x0), (.int x1), (.int x2), (.int x3), (.int x4), (.int sel)] ∧ Z.Warmed39 U.vm ∧ U.heap = h0) (fun _ _ _ _ _ => True) (fun _ U o U' => ∃ v L, o = .returned v ∧ Q0 Z x0 x1 x2 x3 x4 sel h0 n0 v U'.heap L ∧ ReturnedEndW U o U' L room_1.cells room_1.slots) := by
  refine MetFree.of_bodySF (plainFor_of_name pn_0) hisR ?_
  intro p e s m args below meth c s₁ Bd hml0 hP hK
  obtain ⟨rfl, hZ, hh⟩ := hP
  have hx := Bd.exec
  have hby := Bd.bytes
  have hml : c.maxLocals = 18 := hml0
  have hown : s.vm.findClass "com/example/body_text_extractor/bodytextextractor/TextStatisticsHasTextDensityOfPinLaw" = some m.cls := findClass_of_methodNamed Bd.named
  have hnm := (name_of_methodNamed Bd.named Bd.method).1
  have X0 : Stand p l e room_1 (s.setVm s.vm) m #[(.int x0), (.int x1), (.int x2), (.int x3), (.int x4), (.int sel)] below meth c s₁ [] 0 0 := Stand.of_body Bd
  have e0 : s₁.heap = h0 := by rw [← hh, Bd.state]; rfl
  have N0 := Fr.nil n0
  have go0 : ∀ t, Steps p.tables e below (s₁.setTop (mkF m 0 #[.val (.int x0), .val (.int x1), .val (.int x2), .val (.int x3), .val (.int x4), .val (.int sel), .unset, .unset, .unset, .unset, .unset, .unset, .unset, .unset, .unset, .unset, .unset, .unset] [])) t → Steps p.tables e below (s₁.setTop (entryFrame m #[(.int x0), (.int x1), (.int x2), (.int x3), (.int x4), (.int sel)] maxLocals)) t := fun t k => castTop (ef_0 m x0 x1 x2 x3 x4 sel) k
  have hS : s.Since s.vm h0.size := (State.WarmedH.refl s).since _
  have hZ : Z.Warmed39 (s.setVm s.vm).vm := hZ
  have hown : (s.setVm s.vm).vm.findClass "com/example/body_text_extractor/bodytextextractor/TextStatisticsHasTextDensityOfPinLaw" = some m.cls := hown
  obtain ⟨nn, h_nn⟩ : ∃ z : Int32, z = (x0 &&& (32767 : Int32)) := ⟨_, rfl⟩
  have go1 : ∀ t, Steps p.tables e below (s₁.setTop (mkF m 7 #[.val (.int x0), .val (.int x1), .val (.int x2), .val (.int x3), .val (.int x4), .val (.int sel), .val (.int nn), .unset, .unset, .unset, .unset, .unset, .unset, .unset, .unset, .unset, .unset, .unset] [])) t → Steps p.tables e below (s₁.setTop (entryFrame m #[(.int x0), (.int x1), (.int x2), (.int x3), (.int x4), (.int sel)] maxLocals)) t := by
    intro t k
    rw [h_nn] at k
    refine go0 t ?_
    show Steps p.tables e below (s₁.setTop (mkF m 0 #[.val (.int x0), .val (.int x1), .val (.int x2), .val (.int x3), .val (.int x4), .val (.int sel), .unset, .unset, .unset, .unset, .unset, .unset, .unset, .unset, .unset, .unset, .unset, .unset] [])) _
    refine XS.iloadN X0.here hx rfl (hb hby at_0) rfl ?_
    show Steps p.tables e below (s₁.setTop (mkF m 1 #[.val (.int x0), .val (.int x1), .val (.int x2), .val (.int x3), .val (.int x4), .val (.int sel), .unset, .unset, .unset, .unset, .unset, .unset, .unset, .unset, .unset, .unset, .unset, .unset] [(.int x0)])) _
    refine XS.sipush X0.here hx rfl (hb hby at_1) ?_
    show Steps p.tables e below (s₁.setTop (mkF m 4 #[.val (.int x0), .val (.int x1), .val (.int x2), .val (.int x3), .val (.int x4), .val (.int sel), .unset, .unset, .unset, .unset, .unset, .unset, .unset, .unset, .unset, .unset, .unset, .unset] [(.int (32767 : Int32)), (.int x0)])) _
    refine XS.iand X0.here hx rfl (hb hby at_4) rfl ?_
    show Steps p.tables e below (s₁.setTop (mkF m 5 #[.val (.int x0), .val (.int x1), .val (.int x2), .val (.int x3), .val (.int x4), .val (.int sel), .unset, .unset, .unset, .unset, .unset, .unset, .unset, .unset, .unset, .unset, .unset, .unset] [(.int (x0 &&& (32767 : Int32)))])) _
    refine XS.istore X0.here hx rfl (hb hby at_5) rfl (l' := #[.val (.int x0), .val (.int x1), .val (.int x2), .val (.int x3), .val (.int x4), .val (.int sel), .val (.int (x0 &&& (32767 : Int32))), .unset, .unset, .unset, .unset, .unset, .unset, .unset, .unset, .unset, .unset, .unset]) rfl ?_
    exact k
  obtain ⟨dd, h_dd⟩ : ∃ z : Int32, z = ((x1 &&& (32767 : Int32)) + (1 : Int32)) := ⟨_, rfl⟩
  have go2 : ∀ t, Steps p.tables e below (s₁.setTop (mkF m 16 #[.val (.int x0), .val (.int x1), .val (.int x2), .val (.int x3), .val (.int x4), .val (.int sel), .val (.int nn), .val (.int dd), .unset, .unset, .unset, .unset, .unset, .unset, .unset, .unset, .unset, .unset] [])) t → Steps p.tables e below (s₁.setTop (entryFrame m #[(.int x0), (.int x1), (.int x2), (.int x3), (.int x4), (.int sel)] maxLocals)) t := by
    intro t k
    rw [h_dd] at k
    refine go1 t ?_
    show Steps p.tables e below (s₁.setTop (mkF m 7 #[.val (.int x0), .val (.int x1), .val (.int x2), .val (.int x3), .val (.int x4), .val (.int sel), .val (.int nn), .unset, .unset, .unset, .unset, .unset, .unset, .unset, .unset, .unset, .unset, .unset] [])) _
    refine XS.iloadN X0.here hx rfl (hb hby at_7) rfl ?_
    show Steps p.tables e below (s₁.setTop (mkF m 8 #[.val (.int x0), .val (.int x1), .val (.int x2), .val (.int x3), .val (.int x4), .val (.int sel), .val (.int nn), .unset, .unset, .unset, .unset, .unset, .unset, .unset, .unset, .unset, .unset, .unset] [(.int x1)])) _
    refine XS.sipush X0.here hx rfl (hb hby at_8) ?_
    show Steps p.tables e below (s₁.setTop (mkF m 11 #[.val (.int x0), .val (.int x1), .val (.int x2), .val (.int x3), .val (.int x4), .val (.int sel), .val (.int nn), .unset, .unset, .unset, .unset, .unset, .unset, .unset, .unset, .unset, .unset, .unset] [(.int (32767 : Int32)), (.int x1)])) _
    refine XS.iand X0.here hx rfl (hb hby at_11) rfl ?_
    show Steps p.tables e below (s₁.setTop (mkF m 12 #[.val (.int x0), .val (.int x1), .val (.int x2), .val (.int x3), .val (.int x4), .val (.int sel), .val (.int nn), .unset, .unset, .unset, .unset, .unset, .unset, .unset, .unset, .unset, .unset, .unset] [(.int (x1 &&& (32767 : Int32)))])) _
    refine XS.iconst X0.here hx rfl (hb hby at_12) ?_
    show Steps p.tables e below (s₁.setTop (mkF m 13 #[.val (.int x0), .val (.int x1), .val (.int x2), .val (.int x3), .val (.int x4), .val (.int sel), .val (.int nn), .unset, .unset, .unset, .unset, .unset, .unset, .unset, .unset, .unset, .unset, .unset] [(.int (1 : Int32)), (.int (x1 &&& (32767 : Int32)))])) _
    refine XS.iadd X0.here hx rfl (hb hby at_13) rfl ?_
    show Steps p.tables e below (s₁.setTop (mkF m 14 #[.val (.int x0), .val (.int x1), .val (.int x2), .val (.int x3), .val (.int x4), .val (.int sel), .val (.int nn), .unset, .unset, .unset, .unset, .unset, .unset, .unset, .unset, .unset, .unset, .unset] [(.int ((x1 &&& (32767 : Int32)) + (1 : Int32)))])) _
    refine XS.istore X0.here hx rfl (hb hby at_14) rfl (l' := #[.val (.int x0), .val (.int x1), .val (.int x2), .val (.int x3), .val (.int x4), .val (.int sel), .val (.int nn), .val (.int ((x1 &&& (32767 : Int32)) + (1 : Int32))), .unset, .unset, .unset, .unset, .unset, .unset, .unset, .unset, .unset, .unset]) rfl ?_
    exact k
  obtain ⟨k_1, h_k_1⟩ : ∃ z : Int32, z = ((x2 &&& (32767 : Int32)) + (1 : Int32)) := ⟨_, rfl⟩
  have go3 : ∀ t, Steps p.tables e below (s₁.setTop (mkF m 25 #[.val (.int x0), .val (.int x1), .val (.int x2), .val (.int x3), .val (.int x4), .val (.int sel), .val (.int nn), .val (.int dd), .val (.int k_1), .unset, .unset, .unset, .unset, .unset, .unset, .unset, .unset, .unset] [])) t → Steps p.tables e below (s₁.setTop (entryFrame m #[(.int x0), (.int x1), (.int x2), (.int x3), (.int x4), (.int sel)] maxLocals)) t := by
    intro t k
    rw [h_k_1] at k
    refine go2 t ?_
    show Steps p.tables e below (s₁.setTop (mkF m 16 #[.val (.int x0), .val (.int x1), .val (.int x2), .val (.int x3), .val (.int x4), .val (.int sel), .val (.int nn), .val (.int dd), .unset, .unset, .unset, .unset, .unset, .unset, .unset, .unset, .unset, .unset] [])) _
    refine XS.iloadN X0.here hx rfl (hb hby at_16) rfl ?_
    show Steps p.tables e below (s₁.setTop (mkF m 17 #[.val (.int x0), .val (.int x1), .val (.int x2), .val (.int x3), .val (.int x4), .val (.int sel), .val (.int nn), .val (.int dd), .unset, .unset, .unset, .unset, .unset, .unset, .unset, .unset, .unset, .unset] [(.int x2)])) _
    refine XS.sipush X0.here hx rfl (hb hby at_17) ?_
    show Steps p.tables e below (s₁.setTop (mkF m 20 #[.val (.int x0), .val (.int x1), .val (.int x2), .val (.int x3), .val (.int x4), .val (.int sel), .val (.int nn), .val (.int dd), .unset, .unset, .unset, .unset, .unset, .unset, .unset, .unset, .unset, .unset] [(.int (32767 : Int32)), (.int x2)])) _
    refine XS.iand X0.here hx rfl (hb hby at_20) rfl ?_
    show Steps p.tables e below (s₁.setTop (mkF m 21 #[.val (.int x0), .val (.int x1), .val (.int x2), .val (.int x3), .val (.int x4), .val (.int sel), .val (.int nn), .val (.int dd), .unset, .unset, .unset, .unset, .unset, .unset, .unset, .unset, .unset, .unset] [(.int (x2 &&& (32767 : Int32)))])) _
    refine XS.iconst X0.here hx rfl (hb hby at_21) ?_
    show Steps p.tables e below (s₁.setTop (mkF m 22 #[.val (.int x0), .val (.int x1), .val (.int x2), .val (.int x3), .val (.int x4), .val (.int sel), .val (.int nn), .val (.int dd), .unset, .unset, .unset, .unset, .unset, .unset, .unset, .unset, .unset, .unset] [(.int (1 : Int32)), (.int (x2 &&& (32767 : Int32)))])) _
    refine XS.iadd X0.here hx rfl (hb hby at_22) rfl ?_
    show Steps p.tables e below (s₁.setTop (mkF m 23 #[.val (.int x0), .val (.int x1), .val (.int x2), .val (.int x3), .val (.int x4), .val (.int sel), .val (.int nn), .val (.int dd), .unset, .unset, .unset, .unset, .unset, .unset, .unset, .unset, .unset, .unset] [(.int ((x2 &&& (32767 : Int32)) + (1 : Int32)))])) _
    refine XS.istore X0.here hx rfl (hb hby at_23) rfl (l' := #[.val (.int x0), .val (.int x1), .val (.int x2), .val (.int x3), .val (.int x4), .val (.int sel), .val (.int nn), .val (.int dd), .val (.int ((x2 &&& (32767 : Int32)) + (1 : Int32))), .unset, .unset, .unset, .unset, .unset, .unset, .unset, .unset, .unset]) rfl ?_
    exact k
  obtain ⟨k_2, h_k_2⟩ : ∃ z : Int32, z = ((x3 &&& (32767 : Int32)) + (1 : Int32)) := ⟨_, rfl⟩
  have go4 : ∀ t, Steps p.tables e below (s₁.setTop (mkF m 34 #[.val (.int x0), .val (.int x1), .val (.int x2), .val (.int x3), .val (.int x4), .val (.int sel), .val (.int nn), .val (.int dd), .val (.int k_1), .val (.int k_2), .unset, .unset, .unset, .unset, .unset, .unset, .unset, .unset] [])) t → Steps p.tables e below (s₁.setTop (entryFrame m #[(.int x0), (.int x1), (.int x2), (.int x3), (.int x4), (.int sel)] maxLocals)) t := by
    intro t k
    rw [h_k_2] at k
    refine go3 t ?_
    show Steps p.tables e below (s₁.setTop (mkF m 25 #[.val (.int x0), .val (.int x1), .val (.int x2), .val (.int x3), .val (.int x4), .val (.int sel), .val (.int nn), .val (.int dd), .val (.int k_1), .unset, .unset, .unset, .unset, .unset, .unset, .unset, .unset, .unset] [])) _
    refine XS.iloadN X0.here hx rfl (hb hby at_25) rfl ?_
    show Steps p.tables e below (s₁.setTop (mkF m 26 #[.val (.int x0), .val (.int x1), .val (.int x2), .val (.int x3), .val (.int x4), .val (.int sel), .val (.int nn), .val (.int dd), .val (.int k_1), .unset, .unset, .unset, .unset, .unset, .unset, .unset, .unset, .unset] [(.int x3)])) _
    refine XS.sipush X0.here hx rfl (hb hby at_26) ?_
    show Steps p.tables e below (s₁.setTop (mkF m 29 #[.val (.int x0), .val (.int x1), .val (.int x2), .val (.int x3), .val (.int x4), .val (.int sel), .val (.int nn), .val (.int dd), .val (.int k_1), .unset, .unset, .unset, .unset, .unset, .unset, .unset, .unset, .unset] [(.int (32767 : Int32)), (.int x3)])) _
    refine XS.iand X0.here hx rfl (hb hby at_29) rfl ?_
    show Steps p.tables e below (s₁.setTop (mkF m 30 #[.val (.int x0), .val (.int x1), .val (.int x2), .val (.int x3), .val (.int x4), .val (.int sel), .val (.int nn), .val (.int dd), .val (.int k_1), .unset, .unset, .unset, .unset, .unset, .unset, .unset, .unset, .unset] [(.int (x3 &&& (32767 : Int32)))])) _
    refine XS.iconst X0.here hx rfl (hb hby at_30) ?_
    show Steps p.tables e below (s₁.setTop (mkF m 31 #[.val (.int x0), .val (.int x1), .val (.int x2), .val (.int x3), .val (.int x4), .val (.int sel), .val (.int nn), .val (.int dd), .val (.int k_1), .unset, .unset, .unset, .unset, .unset, .unset, .unset, .unset, .unset] [(.int (1 : Int32)), (.int (x3 &&& (32767 : Int32)))])) _
    refine XS.iadd X0.here hx rfl (hb hby at_31) rfl ?_
    show Steps p.tables e below (s₁.setTop (mkF m 32 #[.val (.int x0), .val (.int x1), .val (.int x2), .val (.int x3), .val (.int x4), .val (.int sel), .val (.int nn), .val (.int dd), .val (.int k_1), .unset, .unset, .unset, .unset, .unset, .unset, .unset, .unset, .unset] [(.int ((x3 &&& (32767 : Int32)) + (1 : Int32)))])) _
    refine XS.istore X0.here hx rfl (hb hby at_32) rfl (l' := #[.val (.int x0), .val (.int x1), .val (.int x2), .val (.int x3), .val (.int x4), .val (.int sel), .val (.int nn), .val (.int dd), .val (.int k_1), .val (.int ((x3 &&& (32767 : Int32)) + (1 : Int32))), .unset, .unset, .unset, .unset, .unset, .unset, .unset, .unset]) rfl ?_
    exact k
  obtain ⟨gg, h_gg⟩ : ∃ z : Int32, z = ((x4 &&& (32767 : Int32)) + (1 : Int32)) := ⟨_, rfl⟩
  have go5 : ∀ t, Steps p.tables e below (s₁.setTop (mkF m 44 #[.val (.int x0), .val (.int x1), .val (.int x2), .val (.int x3), .val (.int x4), .val (.int sel), .val (.int nn), .val (.int dd), .val (.int k_1), .val (.int k_2), .val (.int gg), .unset, .unset, .unset, .unset, .unset, .unset, .unset] [])) t → Steps p.tables e below (s₁.setTop (entryFrame m #[(.int x0), (.int x1), (.int x2), (.int x3), (.int x4), (.int sel)] maxLocals)) t := by
    intro t k
    rw [h_gg] at k
    refine go4 t ?_
    show Steps p.tables e below (s₁.setTop (mkF m 34 #[.val (.int x0), .val (.int x1), .val (.int x2), .val (.int x3), .val (.int x4), .val (.int sel), .val (.int nn), .val (.int dd), .val (.int k_1), .val (.int k_2), .unset, .unset, .unset, .unset, .unset, .unset, .unset, .unset] [])) _
    refine XS.iload X0.here hx rfl (hb hby at_34) rfl ?_
    show Steps p.tables e below (s₁.setTop (mkF m 36 #[.val (.int x0), .val (.int x1), .val (.int x2), .val (.int x3), .val (.int x4), .val (.int sel), .val (.int nn), .val (.int dd), .val (.int k_1), .val (.int k_2), .unset, .unset, .unset, .unset, .unset, .unset, .unset, .unset] [(.int x4)])) _
    refine XS.sipush X0.here hx rfl (hb hby at_36) ?_
    show Steps p.tables e below (s₁.setTop (mkF m 39 #[.val (.int x0), .val (.int x1), .val (.int x2), .val (.int x3), .val (.int x4), .val (.int sel), .val (.int nn), .val (.int dd), .val (.int k_1), .val (.int k_2), .unset, .unset, .unset, .unset, .unset, .unset, .unset, .unset] [(.int (32767 : Int32)), (.int x4)])) _
    refine XS.iand X0.here hx rfl (hb hby at_39) rfl ?_
    show Steps p.tables e below (s₁.setTop (mkF m 40 #[.val (.int x0), .val (.int x1), .val (.int x2), .val (.int x3), .val (.int x4), .val (.int sel), .val (.int nn), .val (.int dd), .val (.int k_1), .val (.int k_2), .unset, .unset, .unset, .unset, .unset, .unset, .unset, .unset] [(.int (x4 &&& (32767 : Int32)))])) _
    refine XS.iconst X0.here hx rfl (hb hby at_40) ?_
    show Steps p.tables e below (s₁.setTop (mkF m 41 #[.val (.int x0), .val (.int x1), .val (.int x2), .val (.int x3), .val (.int x4), .val (.int sel), .val (.int nn), .val (.int dd), .val (.int k_1), .val (.int k_2), .unset, .unset, .unset, .unset, .unset, .unset, .unset, .unset] [(.int (1 : Int32)), (.int (x4 &&& (32767 : Int32)))])) _
    refine XS.iadd X0.here hx rfl (hb hby at_41) rfl ?_
    show Steps p.tables e below (s₁.setTop (mkF m 42 #[.val (.int x0), .val (.int x1), .val (.int x2), .val (.int x3), .val (.int x4), .val (.int sel), .val (.int nn), .val (.int dd), .val (.int k_1), .val (.int k_2), .unset, .unset, .unset, .unset, .unset, .unset, .unset, .unset] [(.int ((x4 &&& (32767 : Int32)) + (1 : Int32)))])) _
    refine XS.istore X0.here hx rfl (hb hby at_42) rfl (l' := #[.val (.int x0), .val (.int x1), .val (.int x2), .val (.int x3), .val (.int x4), .val (.int sel), .val (.int nn), .val (.int dd), .val (.int k_1), .val (.int k_2), .val (.int ((x4 &&& (32767 : Int32)) + (1 : Int32))), .unset, .unset, .unset, .unset, .unset, .unset, .unset]) rfl ?_
    exact k
  obtain ⟨md, h_md⟩ : ∃ z : Int32, z = ((sel &&& (3 : Int32)) % (3 : Int32)) := ⟨_, rfl⟩
  have go6 : ∀ t, Steps p.tables e below (s₁.setTop (mkF m 52 #[.val (.int x0), .val (.int x1), .val (.int x2), .val (.int x3), .val (.int x4), .val (.int sel), .val (.int nn), .val (.int dd), .val (.int k_1), .val (.int k_2), .val (.int gg), .val (.int md), .unset, .unset, .unset, .unset, .unset, .unset] [])) t → Steps p.tables e below (s₁.setTop (entryFrame m #[(.int x0), (.int x1), (.int x2), (.int x3), (.int x4), (.int sel)] maxLocals)) t := by
    intro t k
    rw [h_md] at k
    refine go5 t ?_
    show Steps p.tables e below (s₁.setTop (mkF m 44 #[.val (.int x0), .val (.int x1), .val (.int x2), .val (.int x3), .val (.int x4), .val (.int sel), .val (.int nn), .val (.int dd), .val (.int k_1), .val (.int k_2), .val (.int gg), .unset, .unset, .unset, .unset, .unset, .unset, .unset] [])) _
    refine XS.iload X0.here hx rfl (hb hby at_44) rfl ?_
    show Steps p.tables e below (s₁.setTop (mkF m 46 #[.val (.int x0), .val (.int x1), .val (.int x2), .val (.int x3), .val (.int x4), .val (.int sel), .val (.int nn), .val (.int dd), .val (.int k_1), .val (.int k_2), .val (.int gg), .unset, .unset, .unset, .unset, .unset, .unset, .unset] [(.int sel)])) _
    refine XS.iconst X0.here hx rfl (hb hby at_46) ?_
    show Steps p.tables e below (s₁.setTop (mkF m 47 #[.val (.int x0), .val (.int x1), .val (.int x2), .val (.int x3), .val (.int x4), .val (.int sel), .val (.int nn), .val (.int dd), .val (.int k_1), .val (.int k_2), .val (.int gg), .unset, .unset, .unset, .unset, .unset, .unset, .unset] [(.int (3 : Int32)), (.int sel)])) _
    refine XS.iand X0.here hx rfl (hb hby at_47) rfl ?_
    show Steps p.tables e below (s₁.setTop (mkF m 48 #[.val (.int x0), .val (.int x1), .val (.int x2), .val (.int x3), .val (.int x4), .val (.int sel), .val (.int nn), .val (.int dd), .val (.int k_1), .val (.int k_2), .val (.int gg), .unset, .unset, .unset, .unset, .unset, .unset, .unset] [(.int (sel &&& (3 : Int32)))])) _
    refine XS.iconst X0.here hx rfl (hb hby at_48) ?_
    show Steps p.tables e below (s₁.setTop (mkF m 49 #[.val (.int x0), .val (.int x1), .val (.int x2), .val (.int x3), .val (.int x4), .val (.int sel), .val (.int nn), .val (.int dd), .val (.int k_1), .val (.int k_2), .val (.int gg), .unset, .unset, .unset, .unset, .unset, .unset, .unset] [(.int (3 : Int32)), (.int (sel &&& (3 : Int32)))])) _
    refine iremM X0 hx rfl (hb hby at_49) rfl (by decide) ?_
    show Steps p.tables e below (s₁.setTop (mkF m 50 #[.val (.int x0), .val (.int x1), .val (.int x2), .val (.int x3), .val (.int x4), .val (.int sel), .val (.int nn), .val (.int dd), .val (.int k_1), .val (.int k_2), .val (.int gg), .unset, .unset, .unset, .unset, .unset, .unset, .unset] [(.int ((sel &&& (3 : Int32)) % (3 : Int32)))])) _
    refine XS.istore X0.here hx rfl (hb hby at_50) rfl (l' := #[.val (.int x0), .val (.int x1), .val (.int x2), .val (.int x3), .val (.int x4), .val (.int sel), .val (.int nn), .val (.int dd), .val (.int k_1), .val (.int k_2), .val (.int gg), .val (.int ((sel &&& (3 : Int32)) % (3 : Int32))), .unset, .unset, .unset, .unset, .unset, .unset]) rfl ?_
    exact k
  obtain ⟨ee, hp8, go7⟩ : ∃ (ee : Int32), (ee = own_e md gg) ∧ (∀ t, Steps p.tables e below (s₁.setTop (mkF m 66 #[.val (.int x0), .val (.int x1), .val (.int x2), .val (.int x3), .val (.int x4), .val (.int sel), .val (.int nn), .val (.int dd), .val (.int k_1), .val (.int k_2), .val (.int gg), .val (.int md), .val (.int ee), .unset, .unset, .unset, .unset, .unset] [])) t → Steps p.tables e below (s₁.setTop (entryFrame m #[(.int x0), (.int x1), (.int x2), (.int x3), (.int x4), (.int sel)] maxLocals)) t) := by
    by_cases hc55 : md = (1 : Int32)
    · skip
      refine ⟨gg, (if_pos hc55).symm, fun t k => go6 t ?_⟩
      show Steps p.tables e below (s₁.setTop (mkF m 52 #[.val (.int x0), .val (.int x1), .val (.int x2), .val (.int x3), .val (.int x4), .val (.int sel), .val (.int nn), .val (.int dd), .val (.int k_1), .val (.int k_2), .val (.int gg), .val (.int md), .unset, .unset, .unset, .unset, .unset, .unset] [])) _
      refine XS.iload X0.here hx rfl (hb hby at_52) rfl ?_
      show Steps p.tables e below (s₁.setTop (mkF m 54 #[.val (.int x0), .val (.int x1), .val (.int x2), .val (.int x3), .val (.int x4), .val (.int sel), .val (.int nn), .val (.int dd), .val (.int k_1), .val (.int k_2), .val (.int gg), .val (.int md), .unset, .unset, .unset, .unset, .unset, .unset] [(.int md)])) _
      refine XS.iconst X0.here hx rfl (hb hby at_54) ?_
      show Steps p.tables e below (s₁.setTop (mkF m 55 #[.val (.int x0), .val (.int x1), .val (.int x2), .val (.int x3), .val (.int x4), .val (.int sel), .val (.int nn), .val (.int dd), .val (.int k_1), .val (.int k_2), .val (.int gg), .val (.int md), .unset, .unset, .unset, .unset, .unset, .unset] [(.int (1 : Int32)), (.int md)])) _
      refine XS.icmpNo X0.here hx rfl (hb hby at_55) rfl (teq hc55).2 ?_
      show Steps p.tables e below (s₁.setTop (mkF m 58 #[.val (.int x0), .val (.int x1), .val (.int x2), .val (.int x3), .val (.int x4), .val (.int sel), .val (.int nn), .val (.int dd), .val (.int k_1), .val (.int k_2), .val (.int gg), .val (.int md), .unset, .unset, .unset, .unset, .unset, .unset] [])) _
      refine XS.iload X0.here hx rfl (hb hby at_58) rfl ?_
      show Steps p.tables e below (s₁.setTop (mkF m 60 #[.val (.int x0), .val (.int x1), .val (.int x2), .val (.int x3), .val (.int x4), .val (.int sel), .val (.int nn), .val (.int dd), .val (.int k_1), .val (.int k_2), .val (.int gg), .val (.int md), .unset, .unset, .unset, .unset, .unset, .unset] [(.int gg)])) _
      refine XS.goto X0.here hx rfl (pc0 := 60) (pc' := 64) rfl (hb hby at_60) (by decide) (by decide) ?_
      show Steps p.tables e below (s₁.setTop (mkF m 64 #[.val (.int x0), .val (.int x1), .val (.int x2), .val (.int x3), .val (.int x4), .val (.int sel), .val (.int nn), .val (.int dd), .val (.int k_1), .val (.int k_2), .val (.int gg), .val (.int md), .unset, .unset, .unset, .unset, .unset, .unset] [(.int gg)])) _
      refine XS.istore X0.here hx rfl (hb hby at_64) rfl (l' := #[.val (.int x0), .val (.int x1), .val (.int x2), .val (.int x3), .val (.int x4), .val (.int sel), .val (.int nn), .val (.int dd), .val (.int k_1), .val (.int k_2), .val (.int gg), .val (.int md), .val (.int gg), .unset, .unset, .unset, .unset, .unset]) rfl ?_
      exact k
    · skip
      refine ⟨(0 : Int32), (if_neg hc55).symm, fun t k => go6 t ?_⟩
      show Steps p.tables e below (s₁.setTop (mkF m 52 #[.val (.int x0), .val (.int x1), .val (.int x2), .val (.int x3), .val (.int x4), .val (.int sel), .val (.int nn), .val (.int dd), .val (.int k_1), .val (.int k_2), .val (.int gg), .val (.int md), .unset, .unset, .unset, .unset, .unset, .unset] [])) _
      refine XS.iload X0.here hx rfl (hb hby at_52) rfl ?_
      show Steps p.tables e below (s₁.setTop (mkF m 54 #[.val (.int x0), .val (.int x1), .val (.int x2), .val (.int x3), .val (.int x4), .val (.int sel), .val (.int nn), .val (.int dd), .val (.int k_1), .val (.int k_2), .val (.int gg), .val (.int md), .unset, .unset, .unset, .unset, .unset, .unset] [(.int md)])) _
      refine XS.iconst X0.here hx rfl (hb hby at_54) ?_
      show Steps p.tables e below (s₁.setTop (mkF m 55 #[.val (.int x0), .val (.int x1), .val (.int x2), .val (.int x3), .val (.int x4), .val (.int sel), .val (.int nn), .val (.int dd), .val (.int k_1), .val (.int k_2), .val (.int gg), .val (.int md), .unset, .unset, .unset, .unset, .unset, .unset] [(.int (1 : Int32)), (.int md)])) _
      refine XS.icmpYes X0.here hx rfl (pc0 := 55) (pc' := 63) rfl (hb hby at_55) rfl (feq hc55).2 (by decide) (by decide) ?_
      show Steps p.tables e below (s₁.setTop (mkF m 63 #[.val (.int x0), .val (.int x1), .val (.int x2), .val (.int x3), .val (.int x4), .val (.int sel), .val (.int nn), .val (.int dd), .val (.int k_1), .val (.int k_2), .val (.int gg), .val (.int md), .unset, .unset, .unset, .unset, .unset, .unset] [])) _
      refine XS.iconst X0.here hx rfl (hb hby at_63) ?_
      show Steps p.tables e below (s₁.setTop (mkF m 64 #[.val (.int x0), .val (.int x1), .val (.int x2), .val (.int x3), .val (.int x4), .val (.int sel), .val (.int nn), .val (.int dd), .val (.int k_1), .val (.int k_2), .val (.int gg), .val (.int md), .unset, .unset, .unset, .unset, .unset, .unset] [(.int (0 : Int32))])) _
      refine XS.istore X0.here hx rfl (hb hby at_64) rfl (l' := #[.val (.int x0), .val (.int x1), .val (.int x2), .val (.int x3), .val (.int x4), .val (.int sel), .val (.int nn), .val (.int dd), .val (.int k_1), .val (.int k_2), .val (.int gg), .val (.int md), .val (.int (0 : Int32)), .unset, .unset, .unset, .unset, .unset]) rfl ?_
      exact k
  obtain ⟨ff, hp10, go9⟩ : ∃ (ff : Int32), (ff = own_f md gg) ∧ (∀ t, Steps p.tables e below (s₁.setTop (mkF m 80 #[.val (.int x0), .val (.int x1), .val (.int x2), .val (.int x3), .val (.int x4), .val (.int sel), .val (.int nn), .val (.int dd), .val (.int k_1), .val (.int k_2), .val (.int gg), .val (.int md), .val (.int ee), .val (.int ff), .unset, .unset, .unset, .unset] [])) t → Steps p.tables e below (s₁.setTop (entryFrame m #[(.int x0), (.int x1), (.int x2), (.int x3), (.int x4), (.int sel)] maxLocals)) t) := by
    by_cases hc69 : md = (2 : Int32)
    · skip
      refine ⟨gg, (if_pos hc69).symm, fun t k => go7 t ?_⟩
      show Steps p.tables e below (s₁.setTop (mkF m 66 #[.val (.int x0), .val (.int x1), .val (.int x2), .val (.int x3), .val (.int x4), .val (.int sel), .val (.int nn), .val (.int dd), .val (.int k_1), .val (.int k_2), .val (.int gg), .val (.int md), .val (.int ee), .unset, .unset, .unset, .unset, .unset] [])) _
      refine XS.iload X0.here hx rfl (hb hby at_66) rfl ?_
      show Steps p.tables e below (s₁.setTop (mkF m 68 #[.val (.int x0), .val (.int x1), .val (.int x2), .val (.int x3), .val (.int x4), .val (.int sel), .val (.int nn), .val (.int dd), .val (.int k_1), .val (.int k_2), .val (.int gg), .val (.int md), .val (.int ee), .unset, .unset, .unset, .unset, .unset] [(.int md)])) _
      refine XS.iconst X0.here hx rfl (hb hby at_68) ?_
      show Steps p.tables e below (s₁.setTop (mkF m 69 #[.val (.int x0), .val (.int x1), .val (.int x2), .val (.int x3), .val (.int x4), .val (.int sel), .val (.int nn), .val (.int dd), .val (.int k_1), .val (.int k_2), .val (.int gg), .val (.int md), .val (.int ee), .unset, .unset, .unset, .unset, .unset] [(.int (2 : Int32)), (.int md)])) _
      refine XS.icmpNo X0.here hx rfl (hb hby at_69) rfl (teq hc69).2 ?_
      show Steps p.tables e below (s₁.setTop (mkF m 72 #[.val (.int x0), .val (.int x1), .val (.int x2), .val (.int x3), .val (.int x4), .val (.int sel), .val (.int nn), .val (.int dd), .val (.int k_1), .val (.int k_2), .val (.int gg), .val (.int md), .val (.int ee), .unset, .unset, .unset, .unset, .unset] [])) _
      refine XS.iload X0.here hx rfl (hb hby at_72) rfl ?_
      show Steps p.tables e below (s₁.setTop (mkF m 74 #[.val (.int x0), .val (.int x1), .val (.int x2), .val (.int x3), .val (.int x4), .val (.int sel), .val (.int nn), .val (.int dd), .val (.int k_1), .val (.int k_2), .val (.int gg), .val (.int md), .val (.int ee), .unset, .unset, .unset, .unset, .unset] [(.int gg)])) _
      refine XS.goto X0.here hx rfl (pc0 := 74) (pc' := 78) rfl (hb hby at_74) (by decide) (by decide) ?_
      show Steps p.tables e below (s₁.setTop (mkF m 78 #[.val (.int x0), .val (.int x1), .val (.int x2), .val (.int x3), .val (.int x4), .val (.int sel), .val (.int nn), .val (.int dd), .val (.int k_1), .val (.int k_2), .val (.int gg), .val (.int md), .val (.int ee), .unset, .unset, .unset, .unset, .unset] [(.int gg)])) _
      refine XS.istore X0.here hx rfl (hb hby at_78) rfl (l' := #[.val (.int x0), .val (.int x1), .val (.int x2), .val (.int x3), .val (.int x4), .val (.int sel), .val (.int nn), .val (.int dd), .val (.int k_1), .val (.int k_2), .val (.int gg), .val (.int md), .val (.int ee), .val (.int gg), .unset, .unset, .unset, .unset]) rfl ?_
      exact k
    · skip
      refine ⟨(0 : Int32), (if_neg hc69).symm, fun t k => go7 t ?_⟩
      show Steps p.tables e below (s₁.setTop (mkF m 66 #[.val (.int x0), .val (.int x1), .val (.int x2), .val (.int x3), .val (.int x4), .val (.int sel), .val (.int nn), .val (.int dd), .val (.int k_1), .val (.int k_2), .val (.int gg), .val (.int md), .val (.int ee), .unset, .unset, .unset, .unset, .unset] [])) _
      refine XS.iload X0.here hx rfl (hb hby at_66) rfl ?_
      show Steps p.tables e below (s₁.setTop (mkF m 68 #[.val (.int x0), .val (.int x1), .val (.int x2), .val (.int x3), .val (.int x4), .val (.int sel), .val (.int nn), .val (.int dd), .val (.int k_1), .val (.int k_2), .val (.int gg), .val (.int md), .val (.int ee), .unset, .unset, .unset, .unset, .unset] [(.int md)])) _
      refine XS.iconst X0.here hx rfl (hb hby at_68) ?_
      show Steps p.tables e below (s₁.setTop (mkF m 69 #[.val (.int x0), .val (.int x1), .val (.int x2), .val (.int x3), .val (.int x4), .val (.int sel), .val (.int nn), .val (.int dd), .val (.int k_1), .val (.int k_2), .val (.int gg), .val (.int md), .val (.int ee), .unset, .unset, .unset, .unset, .unset] [(.int (2 : Int32)), (.int md)])) _
      refine XS.icmpYes X0.here hx rfl (pc0 := 69) (pc' := 77) rfl (hb hby at_69) rfl (feq hc69).2 (by decide) (by decide) ?_
      show Steps p.tables e below (s₁.setTop (mkF m 77 #[.val (.int x0), .val (.int x1), .val (.int x2), .val (.int x3), .val (.int x4), .val (.int sel), .val (.int nn), .val (.int dd), .val (.int k_1), .val (.int k_2), .val (.int gg), .val (.int md), .val (.int ee), .unset, .unset, .unset, .unset, .unset] [])) _
      refine XS.iconst X0.here hx rfl (hb hby at_77) ?_
      show Steps p.tables e below (s₁.setTop (mkF m 78 #[.val (.int x0), .val (.int x1), .val (.int x2), .val (.int x3), .val (.int x4), .val (.int sel), .val (.int nn), .val (.int dd), .val (.int k_1), .val (.int k_2), .val (.int gg), .val (.int md), .val (.int ee), .unset, .unset, .unset, .unset, .unset] [(.int (0 : Int32))])) _
      refine XS.istore X0.here hx rfl (hb hby at_78) rfl (l' := #[.val (.int x0), .val (.int x1), .val (.int x2), .val (.int x3), .val (.int x4), .val (.int sel), .val (.int nn), .val (.int dd), .val (.int k_1), .val (.int k_2), .val (.int gg), .val (.int md), .val (.int ee), .val (.int (0 : Int32)), .unset, .unset, .unset, .unset]) rfl ?_
      exact k
  obtain ⟨ex, hp12, go11⟩ : ∃ (ex : Int32), (ex = own_ex md nn) ∧ (∀ t, Steps p.tables e below (s₁.setTop (mkF m 103 #[.val (.int x0), .val (.int x1), .val (.int x2), .val (.int x3), .val (.int x4), .val (.int sel), .val (.int nn), .val (.int dd), .val (.int k_1), .val (.int k_2), .val (.int gg), .val (.int md), .val (.int ee), .val (.int ff), .val (.int ex), .unset, .unset, .unset] [])) t → Steps p.tables e below (s₁.setTop (entryFrame m #[(.int x0), (.int x1), (.int x2), (.int x3), (.int x4), (.int sel)] maxLocals)) t) := by
    by_cases hc82 : md = (0 : Int32)
    · skip
      refine ⟨(1 : Int32), (if_pos (Or.inl hc82)).symm, fun t k => go9 t ?_⟩
      show Steps p.tables e below (s₁.setTop (mkF m 80 #[.val (.int x0), .val (.int x1), .val (.int x2), .val (.int x3), .val (.int x4), .val (.int sel), .val (.int nn), .val (.int dd), .val (.int k_1), .val (.int k_2), .val (.int gg), .val (.int md), .val (.int ee), .val (.int ff), .unset, .unset, .unset, .unset] [])) _
      refine XS.iload X0.here hx rfl (hb hby at_80) rfl ?_
      show Steps p.tables e below (s₁.setTop (mkF m 82 #[.val (.int x0), .val (.int x1), .val (.int x2), .val (.int x3), .val (.int x4), .val (.int sel), .val (.int nn), .val (.int dd), .val (.int k_1), .val (.int k_2), .val (.int gg), .val (.int md), .val (.int ee), .val (.int ff), .unset, .unset, .unset, .unset] [(.int md)])) _
      refine XS.ifYes X0.here hx rfl (pc0 := 82) (pc' := 96) rfl (hb hby at_82) rfl ((if0 _ _).trans (teq hc82).1) (by decide) (by decide) ?_
      show Steps p.tables e below (s₁.setTop (mkF m 96 #[.val (.int x0), .val (.int x1), .val (.int x2), .val (.int x3), .val (.int x4), .val (.int sel), .val (.int nn), .val (.int dd), .val (.int k_1), .val (.int k_2), .val (.int gg), .val (.int md), .val (.int ee), .val (.int ff), .unset, .unset, .unset, .unset] [])) _
      refine XS.iconst X0.here hx rfl (hb hby at_96) ?_
      show Steps p.tables e below (s₁.setTop (mkF m 97 #[.val (.int x0), .val (.int x1), .val (.int x2), .val (.int x3), .val (.int x4), .val (.int sel), .val (.int nn), .val (.int dd), .val (.int k_1), .val (.int k_2), .val (.int gg), .val (.int md), .val (.int ee), .val (.int ff), .unset, .unset, .unset, .unset] [(.int (1 : Int32))])) _
      refine XS.goto X0.here hx rfl (pc0 := 97) (pc' := 101) rfl (hb hby at_97) (by decide) (by decide) ?_
      show Steps p.tables e below (s₁.setTop (mkF m 101 #[.val (.int x0), .val (.int x1), .val (.int x2), .val (.int x3), .val (.int x4), .val (.int sel), .val (.int nn), .val (.int dd), .val (.int k_1), .val (.int k_2), .val (.int gg), .val (.int md), .val (.int ee), .val (.int ff), .unset, .unset, .unset, .unset] [(.int (1 : Int32))])) _
      refine XS.istore X0.here hx rfl (hb hby at_101) rfl (l' := #[.val (.int x0), .val (.int x1), .val (.int x2), .val (.int x3), .val (.int x4), .val (.int sel), .val (.int nn), .val (.int dd), .val (.int k_1), .val (.int k_2), .val (.int gg), .val (.int md), .val (.int ee), .val (.int ff), .val (.int (1 : Int32)), .unset, .unset, .unset]) rfl ?_
      exact k
    · skip
      by_cases hc88 : md = (2 : Int32)
      · skip
        by_cases hc93 : nn = (0 : Int32)
        · skip
          refine ⟨(1 : Int32), (if_pos (Or.inr ⟨hc88, hc93⟩)).symm, fun t k => go9 t ?_⟩
          show Steps p.tables e below (s₁.setTop (mkF m 80 #[.val (.int x0), .val (.int x1), .val (.int x2), .val (.int x3), .val (.int x4), .val (.int sel), .val (.int nn), .val (.int dd), .val (.int k_1), .val (.int k_2), .val (.int gg), .val (.int md), .val (.int ee), .val (.int ff), .unset, .unset, .unset, .unset] [])) _
          refine XS.iload X0.here hx rfl (hb hby at_80) rfl ?_
          show Steps p.tables e below (s₁.setTop (mkF m 82 #[.val (.int x0), .val (.int x1), .val (.int x2), .val (.int x3), .val (.int x4), .val (.int sel), .val (.int nn), .val (.int dd), .val (.int k_1), .val (.int k_2), .val (.int gg), .val (.int md), .val (.int ee), .val (.int ff), .unset, .unset, .unset, .unset] [(.int md)])) _
          refine XS.ifNo X0.here hx rfl (hb hby at_82) rfl ((if0 _ _).trans (feq hc82).1) ?_
          show Steps p.tables e below (s₁.setTop (mkF m 85 #[.val (.int x0), .val (.int x1), .val (.int x2), .val (.int x3), .val (.int x4), .val (.int sel), .val (.int nn), .val (.int dd), .val (.int k_1), .val (.int k_2), .val (.int gg), .val (.int md), .val (.int ee), .val (.int ff), .unset, .unset, .unset, .unset] [])) _
          refine XS.iload X0.here hx rfl (hb hby at_85) rfl ?_
          show Steps p.tables e below (s₁.setTop (mkF m 87 #[.val (.int x0), .val (.int x1), .val (.int x2), .val (.int x3), .val (.int x4), .val (.int sel), .val (.int nn), .val (.int dd), .val (.int k_1), .val (.int k_2), .val (.int gg), .val (.int md), .val (.int ee), .val (.int ff), .unset, .unset, .unset, .unset] [(.int md)])) _
          refine XS.iconst X0.here hx rfl (hb hby at_87) ?_
          show Steps p.tables e below (s₁.setTop (mkF m 88 #[.val (.int x0), .val (.int x1), .val (.int x2), .val (.int x3), .val (.int x4), .val (.int sel), .val (.int nn), .val (.int dd), .val (.int k_1), .val (.int k_2), .val (.int gg), .val (.int md), .val (.int ee), .val (.int ff), .unset, .unset, .unset, .unset] [(.int (2 : Int32)), (.int md)])) _
          refine XS.icmpNo X0.here hx rfl (hb hby at_88) rfl (teq hc88).2 ?_
          show Steps p.tables e below (s₁.setTop (mkF m 91 #[.val (.int x0), .val (.int x1), .val (.int x2), .val (.int x3), .val (.int x4), .val (.int sel), .val (.int nn), .val (.int dd), .val (.int k_1), .val (.int k_2), .val (.int gg), .val (.int md), .val (.int ee), .val (.int ff), .unset, .unset, .unset, .unset] [])) _
          refine XS.iload X0.here hx rfl (hb hby at_91) rfl ?_
          show Steps p.tables e below (s₁.setTop (mkF m 93 #[.val (.int x0), .val (.int x1), .val (.int x2), .val (.int x3), .val (.int x4), .val (.int sel), .val (.int nn), .val (.int dd), .val (.int k_1), .val (.int k_2), .val (.int gg), .val (.int md), .val (.int ee), .val (.int ff), .unset, .unset, .unset, .unset] [(.int nn)])) _
          refine XS.ifNo X0.here hx rfl (hb hby at_93) rfl ((if0 _ _).trans (teq hc93).2) ?_
          show Steps p.tables e below (s₁.setTop (mkF m 96 #[.val (.int x0), .val (.int x1), .val (.int x2), .val (.int x3), .val (.int x4), .val (.int sel), .val (.int nn), .val (.int dd), .val (.int k_1), .val (.int k_2), .val (.int gg), .val (.int md), .val (.int ee), .val (.int ff), .unset, .unset, .unset, .unset] [])) _
          refine XS.iconst X0.here hx rfl (hb hby at_96) ?_
          show Steps p.tables e below (s₁.setTop (mkF m 97 #[.val (.int x0), .val (.int x1), .val (.int x2), .val (.int x3), .val (.int x4), .val (.int sel), .val (.int nn), .val (.int dd), .val (.int k_1), .val (.int k_2), .val (.int gg), .val (.int md), .val (.int ee), .val (.int ff), .unset, .unset, .unset, .unset] [(.int (1 : Int32))])) _
          refine XS.goto X0.here hx rfl (pc0 := 97) (pc' := 101) rfl (hb hby at_97) (by decide) (by decide) ?_
          show Steps p.tables e below (s₁.setTop (mkF m 101 #[.val (.int x0), .val (.int x1), .val (.int x2), .val (.int x3), .val (.int x4), .val (.int sel), .val (.int nn), .val (.int dd), .val (.int k_1), .val (.int k_2), .val (.int gg), .val (.int md), .val (.int ee), .val (.int ff), .unset, .unset, .unset, .unset] [(.int (1 : Int32))])) _
          refine XS.istore X0.here hx rfl (hb hby at_101) rfl (l' := #[.val (.int x0), .val (.int x1), .val (.int x2), .val (.int x3), .val (.int x4), .val (.int sel), .val (.int nn), .val (.int dd), .val (.int k_1), .val (.int k_2), .val (.int gg), .val (.int md), .val (.int ee), .val (.int ff), .val (.int (1 : Int32)), .unset, .unset, .unset]) rfl ?_
          exact k
        · skip
          refine ⟨(0 : Int32), (if_neg (fun u => u.elim hc82 (fun w => hc93 w.2))).symm, fun t k => go9 t ?_⟩
          show Steps p.tables e below (s₁.setTop (mkF m 80 #[.val (.int x0), .val (.int x1), .val (.int x2), .val (.int x3), .val (.int x4), .val (.int sel), .val (.int nn), .val (.int dd), .val (.int k_1), .val (.int k_2), .val (.int gg), .val (.int md), .val (.int ee), .val (.int ff), .unset, .unset, .unset, .unset] [])) _
          refine XS.iload X0.here hx rfl (hb hby at_80) rfl ?_
          show Steps p.tables e below (s₁.setTop (mkF m 82 #[.val (.int x0), .val (.int x1), .val (.int x2), .val (.int x3), .val (.int x4), .val (.int sel), .val (.int nn), .val (.int dd), .val (.int k_1), .val (.int k_2), .val (.int gg), .val (.int md), .val (.int ee), .val (.int ff), .unset, .unset, .unset, .unset] [(.int md)])) _
          refine XS.ifNo X0.here hx rfl (hb hby at_82) rfl ((if0 _ _).trans (feq hc82).1) ?_
          show Steps p.tables e below (s₁.setTop (mkF m 85 #[.val (.int x0), .val (.int x1), .val (.int x2), .val (.int x3), .val (.int x4), .val (.int sel), .val (.int nn), .val (.int dd), .val (.int k_1), .val (.int k_2), .val (.int gg), .val (.int md), .val (.int ee), .val (.int ff), .unset, .unset, .unset, .unset] [])) _
          refine XS.iload X0.here hx rfl (hb hby at_85) rfl ?_
          show Steps p.tables e below (s₁.setTop (mkF m 87 #[.val (.int x0), .val (.int x1), .val (.int x2), .val (.int x3), .val (.int x4), .val (.int sel), .val (.int nn), .val (.int dd), .val (.int k_1), .val (.int k_2), .val (.int gg), .val (.int md), .val (.int ee), .val (.int ff), .unset, .unset, .unset, .unset] [(.int md)])) _
          refine XS.iconst X0.here hx rfl (hb hby at_87) ?_
          show Steps p.tables e below (s₁.setTop (mkF m 88 #[.val (.int x0), .val (.int x1), .val (.int x2), .val (.int x3), .val (.int x4), .val (.int sel), .val (.int nn), .val (.int dd), .val (.int k_1), .val (.int k_2), .val (.int gg), .val (.int md), .val (.int ee), .val (.int ff), .unset, .unset, .unset, .unset] [(.int (2 : Int32)), (.int md)])) _
          refine XS.icmpNo X0.here hx rfl (hb hby at_88) rfl (teq hc88).2 ?_
          show Steps p.tables e below (s₁.setTop (mkF m 91 #[.val (.int x0), .val (.int x1), .val (.int x2), .val (.int x3), .val (.int x4), .val (.int sel), .val (.int nn), .val (.int dd), .val (.int k_1), .val (.int k_2), .val (.int gg), .val (.int md), .val (.int ee), .val (.int ff), .unset, .unset, .unset, .unset] [])) _
          refine XS.iload X0.here hx rfl (hb hby at_91) rfl ?_
          show Steps p.tables e below (s₁.setTop (mkF m 93 #[.val (.int x0), .val (.int x1), .val (.int x2), .val (.int x3), .val (.int x4), .val (.int sel), .val (.int nn), .val (.int dd), .val (.int k_1), .val (.int k_2), .val (.int gg), .val (.int md), .val (.int ee), .val (.int ff), .unset, .unset, .unset, .unset] [(.int nn)])) _
          refine XS.ifYes X0.here hx rfl (pc0 := 93) (pc' := 100) rfl (hb hby at_93) rfl ((if0 _ _).trans (feq hc93).2) (by decide) (by decide) ?_
          show Steps p.tables e below (s₁.setTop (mkF m 100 #[.val (.int x0), .val (.int x1), .val (.int x2), .val (.int x3), .val (.int x4), .val (.int sel), .val (.int nn), .val (.int dd), .val (.int k_1), .val (.int k_2), .val (.int gg), .val (.int md), .val (.int ee), .val (.int ff), .unset, .unset, .unset, .unset] [])) _
          refine XS.iconst X0.here hx rfl (hb hby at_100) ?_
          show Steps p.tables e below (s₁.setTop (mkF m 101 #[.val (.int x0), .val (.int x1), .val (.int x2), .val (.int x3), .val (.int x4), .val (.int sel), .val (.int nn), .val (.int dd), .val (.int k_1), .val (.int k_2), .val (.int gg), .val (.int md), .val (.int ee), .val (.int ff), .unset, .unset, .unset, .unset] [(.int (0 : Int32))])) _
          refine XS.istore X0.here hx rfl (hb hby at_101) rfl (l' := #[.val (.int x0), .val (.int x1), .val (.int x2), .val (.int x3), .val (.int x4), .val (.int sel), .val (.int nn), .val (.int dd), .val (.int k_1), .val (.int k_2), .val (.int gg), .val (.int md), .val (.int ee), .val (.int ff), .val (.int (0 : Int32)), .unset, .unset, .unset]) rfl ?_
          exact k
      · skip
        refine ⟨(0 : Int32), (if_neg (fun u => u.elim hc82 (fun w => hc88 w.1))).symm, fun t k => go9 t ?_⟩
        show Steps p.tables e below (s₁.setTop (mkF m 80 #[.val (.int x0), .val (.int x1), .val (.int x2), .val (.int x3), .val (.int x4), .val (.int sel), .val (.int nn), .val (.int dd), .val (.int k_1), .val (.int k_2), .val (.int gg), .val (.int md), .val (.int ee), .val (.int ff), .unset, .unset, .unset, .unset] [])) _
        refine XS.iload X0.here hx rfl (hb hby at_80) rfl ?_
        show Steps p.tables e below (s₁.setTop (mkF m 82 #[.val (.int x0), .val (.int x1), .val (.int x2), .val (.int x3), .val (.int x4), .val (.int sel), .val (.int nn), .val (.int dd), .val (.int k_1), .val (.int k_2), .val (.int gg), .val (.int md), .val (.int ee), .val (.int ff), .unset, .unset, .unset, .unset] [(.int md)])) _
        refine XS.ifNo X0.here hx rfl (hb hby at_82) rfl ((if0 _ _).trans (feq hc82).1) ?_
        show Steps p.tables e below (s₁.setTop (mkF m 85 #[.val (.int x0), .val (.int x1), .val (.int x2), .val (.int x3), .val (.int x4), .val (.int sel), .val (.int nn), .val (.int dd), .val (.int k_1), .val (.int k_2), .val (.int gg), .val (.int md), .val (.int ee), .val (.int ff), .unset, .unset, .unset, .unset] [])) _
        refine XS.iload X0.here hx rfl (hb hby at_85) rfl ?_
        show Steps p.tables e below (s₁.setTop (mkF m 87 #[.val (.int x0), .val (.int x1), .val (.int x2), .val (.int x3), .val (.int x4), .val (.int sel), .val (.int nn), .val (.int dd), .val (.int k_1), .val (.int k_2), .val (.int gg), .val (.int md), .val (.int ee), .val (.int ff), .unset, .unset, .unset, .unset] [(.int md)])) _
        refine XS.iconst X0.here hx rfl (hb hby at_87) ?_
        show Steps p.tables e below (s₁.setTop (mkF m 88 #[.val (.int x0), .val (.int x1), .val (.int x2), .val (.int x3), .val (.int x4), .val (.int sel), .val (.int nn), .val (.int dd), .val (.int k_1), .val (.int k_2), .val (.int gg), .val (.int md), .val (.int ee), .val (.int ff), .unset, .unset, .unset, .unset] [(.int (2 : Int32)), (.int md)])) _
        refine XS.icmpYes X0.here hx rfl (pc0 := 88) (pc' := 100) rfl (hb hby at_88) rfl (feq hc88).2 (by decide) (by decide) ?_
        show Steps p.tables e below (s₁.setTop (mkF m 100 #[.val (.int x0), .val (.int x1), .val (.int x2), .val (.int x3), .val (.int x4), .val (.int sel), .val (.int nn), .val (.int dd), .val (.int k_1), .val (.int k_2), .val (.int gg), .val (.int md), .val (.int ee), .val (.int ff), .unset, .unset, .unset, .unset] [])) _
        refine XS.iconst X0.here hx rfl (hb hby at_100) ?_
        show Steps p.tables e below (s₁.setTop (mkF m 101 #[.val (.int x0), .val (.int x1), .val (.int x2), .val (.int x3), .val (.int x4), .val (.int sel), .val (.int nn), .val (.int dd), .val (.int k_1), .val (.int k_2), .val (.int gg), .val (.int md), .val (.int ee), .val (.int ff), .unset, .unset, .unset, .unset] [(.int (0 : Int32))])) _
        refine XS.istore X0.here hx rfl (hb hby at_101) rfl (l' := #[.val (.int x0), .val (.int x1), .val (.int x2), .val (.int x3), .val (.int x4), .val (.int sel), .val (.int nn), .val (.int dd), .val (.int k_1), .val (.int k_2), .val (.int gg), .val (.int md), .val (.int ee), .val (.int ff), .val (.int (0 : Int32)), .unset, .unset, .unset]) rfl ?_
        exact k
  have ql := own_law (n := nn) (d := dd) (k1 := k_1) (k2 := k_2) (g := gg) (md := md) (by rw [h_nn]; exact own_m0 _) (by rw [h_dd]; exact own_m1 _) (by rw [h_k_1]; exact own_m1 _) (by rw [h_k_2]; exact own_m1 _) (by rw [h_gg]; exact own_m1 _) (by rw [h_md]; exact own_md _)
  rw [← hp8, ← hp10, ← hp12] at ql
  obtain ⟨q1, q2, q3, q4⟩ := ql
  have go13 : ∀ t, Steps p.tables e below (s₁.setTop (mkF m 107 #[.val (.int x0), .val (.int x1), .val (.int x2), .val (.int x3), .val (.int x4), .val (.int sel), .val (.int nn), .val (.int dd), .val (.int k_1), .val (.int k_2), .val (.int gg), .val (.int md), .val (.int ee), .val (.int ff), .val (.int ex), .val (.int (2147483647 : Int32)), .unset, .unset] [])) t → Steps p.tables e below (s₁.setTop (entryFrame m #[(.int x0), (.int x1), (.int x2), (.int x3), (.int x4), (.int sel)] maxLocals)) t := by
    intro t k
    refine go11 t ?_
    show Steps p.tables e below (s₁.setTop (mkF m 103 #[.val (.int x0), .val (.int x1), .val (.int x2), .val (.int x3), .val (.int x4), .val (.int sel), .val (.int nn), .val (.int dd), .val (.int k_1), .val (.int k_2), .val (.int gg), .val (.int md), .val (.int ee), .val (.int ff), .val (.int ex), .unset, .unset, .unset] [])) _
    refine X0.ldcInt hx hown (mvT hZ (hw _ (List.mem_of_getElem? (i := 0) rfl))) (g := (mkF m 103 #[.val (.int x0), .val (.int x1), .val (.int x2), .val (.int x3), .val (.int x4), .val (.int sel), .val (.int nn), .val (.int dd), .val (.int k_1), .val (.int k_2), .val (.int gg), .val (.int md), .val (.int ee), .val (.int ff), .val (.int ex), .unset, .unset, .unset] [])) rfl (hb hby at_103) _ ?_
    show Steps p.tables e below (s₁.setTop (mkF m 105 #[.val (.int x0), .val (.int x1), .val (.int x2), .val (.int x3), .val (.int x4), .val (.int sel), .val (.int nn), .val (.int dd), .val (.int k_1), .val (.int k_2), .val (.int gg), .val (.int md), .val (.int ee), .val (.int ff), .val (.int ex), .unset, .unset, .unset] [(.int (2147483647 : Int32))])) _
    refine XS.istore X0.here hx rfl (hb hby at_105) rfl (l' := #[.val (.int x0), .val (.int x1), .val (.int x2), .val (.int x3), .val (.int x4), .val (.int sel), .val (.int nn), .val (.int dd), .val (.int k_1), .val (.int k_2), .val (.int gg), .val (.int md), .val (.int ee), .val (.int ff), .val (.int ex), .val (.int (2147483647 : Int32)), .unset, .unset]) rfl ?_
    exact k
  obtain ⟨T14, h14, X14, e14, E14, A14, D14, -, st14⟩ := newO X0 hx hZ hown (hw _ (List.mem_of_getElem? (i := 1) rfl)) (hw _ (List.mem_of_getElem? (i := 2) rfl)) (hw _ (List.mem_of_getElem? (i := 3) rfl)) e0 (g := (mkF m 107 #[.val (.int x0), .val (.int x1), .val (.int x2), .val (.int x3), .val (.int x4), .val (.int sel), .val (.int nn), .val (.int dd), .val (.int k_1), .val (.int k_2), .val (.int gg), .val (.int md), .val (.int ee), .val (.int ff), .val (.int ex), .val (.int (2147483647 : Int32)), .unset, .unset] [])) rfl (hb hby at_107) (by decide) (by decide)
  obtain ⟨b14, g14⟩ : ∃ z, z = h0.size := ⟨_, rfl⟩
  rw [← g14] at A14 D14 st14
  have g_b14 : n0 ≤ b14 := Nat.le_trans Z0 (Nat.le_of_eq g14.symm)
  have Z14 : n0 ≤ h14.size := Nat.le_trans Z0 E14.1
  have Ks14 := Nat.le_trans (Nat.le_refl _) E14.1
  have F_words_b14 : Fld Z h14 b14 "com/example/body_text_extractor/bodytextextractor/TextStatistics" "words" "I" (.int (0 : Int32)) := D14 (Or.inr (hw _ (List.mem_of_getElem? (i := 28) rfl))) (ty := .int) (by decide)
  have F_linkedWords_b14 : Fld Z h14 b14 "com/example/body_text_extractor/bodytextextractor/TextStatistics" "linkedWords" "I" (.int (0 : Int32)) := D14 (Or.inr (hw _ (List.mem_of_getElem? (i := 30) rfl))) (ty := .int) (by decide)
  have F_wordsOnKeptLines_b14 : Fld Z h14 b14 "com/example/body_text_extractor/bodytextextractor/TextStatistics" "wordsOnKeptLines" "I" (.int (0 : Int32)) := D14 (Or.inr (hw _ (List.mem_of_getElem? (i := 32) rfl))) (ty := .int) (by decide)
  have F_keptLines_b14 : Fld Z h14 b14 "com/example/body_text_extractor/bodytextextractor/TextStatistics" "keptLines" "I" (.int (0 : Int32)) := D14 (Or.inr (hw _ (List.mem_of_getElem? (i := 34) rfl))) (ty := .int) (by decide)
  have go15 : ∀ t, Steps p.tables e below (T14.setTop (mkF m 110 #[.val (.int x0), .val (.int x1), .val (.int x2), .val (.int x3), .val (.int x4), .val (.int sel), .val (.int nn), .val (.int dd), .val (.int k_1), .val (.int k_2), .val (.int gg), .val (.int md), .val (.int ee), .val (.int ff), .val (.int ex), .val (.int (2147483647 : Int32)), .unset, .unset] [(.ref b14)])) t → Steps p.tables e below (s₁.setTop (entryFrame m #[(.int x0), (.int x1), (.int x2), (.int x3), (.int x4), (.int sel)] maxLocals)) t := fun t k => go13 t (st14 _ k)
  have go16 : ∀ t, Steps p.tables e below (T14.setTop (mkF m 124 #[.val (.int x0), .val (.int x1), .val (.int x2), .val (.int x3), .val (.int x4), .val (.int sel), .val (.int nn), .val (.int dd), .val (.int k_1), .val (.int k_2), .val (.int gg), .val (.int md), .val (.int ee), .val (.int ff), .val (.int ex), .val (.int (2147483647 : Int32)), .unset, .unset] [(.int (dd * k_1)), (.int (nn * k_1)), (.int (0 : Int32)), (.int (2147483647 : Int32)), (.ref b14), (.ref b14)])) t → Steps p.tables e below (s₁.setTop (entryFrame m #[(.int x0), (.int x1), (.int x2), (.int x3), (.int x4), (.int sel)] maxLocals)) t := by
    intro t k
    refine go15 t ?_
    show Steps p.tables e below (T14.setTop (mkF m 110 #[.val (.int x0), .val (.int x1), .val (.int x2), .val (.int x3), .val (.int x4), .val (.int sel), .val (.int nn), .val (.int dd), .val (.int k_1), .val (.int k_2), .val (.int gg), .val (.int md), .val (.int ee), .val (.int ff), .val (.int ex), .val (.int (2147483647 : Int32)), .unset, .unset] [(.ref b14)])) _
    refine XS.dup X14.here hx rfl (hb hby at_110) rfl rfl ?_
    show Steps p.tables e below (T14.setTop (mkF m 111 #[.val (.int x0), .val (.int x1), .val (.int x2), .val (.int x3), .val (.int x4), .val (.int sel), .val (.int nn), .val (.int dd), .val (.int k_1), .val (.int k_2), .val (.int gg), .val (.int md), .val (.int ee), .val (.int ff), .val (.int ex), .val (.int (2147483647 : Int32)), .unset, .unset] [(.ref b14), (.ref b14)])) _
    refine XS.iload X14.here hx rfl (hb hby at_111) rfl ?_
    show Steps p.tables e below (T14.setTop (mkF m 113 #[.val (.int x0), .val (.int x1), .val (.int x2), .val (.int x3), .val (.int x4), .val (.int sel), .val (.int nn), .val (.int dd), .val (.int k_1), .val (.int k_2), .val (.int gg), .val (.int md), .val (.int ee), .val (.int ff), .val (.int ex), .val (.int (2147483647 : Int32)), .unset, .unset] [(.int (2147483647 : Int32)), (.ref b14), (.ref b14)])) _
    refine XS.iconst X14.here hx rfl (hb hby at_113) ?_
    show Steps p.tables e below (T14.setTop (mkF m 114 #[.val (.int x0), .val (.int x1), .val (.int x2), .val (.int x3), .val (.int x4), .val (.int sel), .val (.int nn), .val (.int dd), .val (.int k_1), .val (.int k_2), .val (.int gg), .val (.int md), .val (.int ee), .val (.int ff), .val (.int ex), .val (.int (2147483647 : Int32)), .unset, .unset] [(.int (0 : Int32)), (.int (2147483647 : Int32)), (.ref b14), (.ref b14)])) _
    refine XS.iload X14.here hx rfl (hb hby at_114) rfl ?_
    show Steps p.tables e below (T14.setTop (mkF m 116 #[.val (.int x0), .val (.int x1), .val (.int x2), .val (.int x3), .val (.int x4), .val (.int sel), .val (.int nn), .val (.int dd), .val (.int k_1), .val (.int k_2), .val (.int gg), .val (.int md), .val (.int ee), .val (.int ff), .val (.int ex), .val (.int (2147483647 : Int32)), .unset, .unset] [(.int nn), (.int (0 : Int32)), (.int (2147483647 : Int32)), (.ref b14), (.ref b14)])) _
    refine XS.iload X14.here hx rfl (hb hby at_116) rfl ?_
    show Steps p.tables e below (T14.setTop (mkF m 118 #[.val (.int x0), .val (.int x1), .val (.int x2), .val (.int x3), .val (.int x4), .val (.int sel), .val (.int nn), .val (.int dd), .val (.int k_1), .val (.int k_2), .val (.int gg), .val (.int md), .val (.int ee), .val (.int ff), .val (.int ex), .val (.int (2147483647 : Int32)), .unset, .unset] [(.int k_1), (.int nn), (.int (0 : Int32)), (.int (2147483647 : Int32)), (.ref b14), (.ref b14)])) _
    refine XS.imul X14.here hx rfl (hb hby at_118) rfl ?_
    show Steps p.tables e below (T14.setTop (mkF m 119 #[.val (.int x0), .val (.int x1), .val (.int x2), .val (.int x3), .val (.int x4), .val (.int sel), .val (.int nn), .val (.int dd), .val (.int k_1), .val (.int k_2), .val (.int gg), .val (.int md), .val (.int ee), .val (.int ff), .val (.int ex), .val (.int (2147483647 : Int32)), .unset, .unset] [(.int (nn * k_1)), (.int (0 : Int32)), (.int (2147483647 : Int32)), (.ref b14), (.ref b14)])) _
    refine XS.iload X14.here hx rfl (hb hby at_119) rfl ?_
    show Steps p.tables e below (T14.setTop (mkF m 121 #[.val (.int x0), .val (.int x1), .val (.int x2), .val (.int x3), .val (.int x4), .val (.int sel), .val (.int nn), .val (.int dd), .val (.int k_1), .val (.int k_2), .val (.int gg), .val (.int md), .val (.int ee), .val (.int ff), .val (.int ex), .val (.int (2147483647 : Int32)), .unset, .unset] [(.int dd), (.int (nn * k_1)), (.int (0 : Int32)), (.int (2147483647 : Int32)), (.ref b14), (.ref b14)])) _
    refine XS.iload X14.here hx rfl (hb hby at_121) rfl ?_
    show Steps p.tables e below (T14.setTop (mkF m 123 #[.val (.int x0), .val (.int x1), .val (.int x2), .val (.int x3), .val (.int x4), .val (.int sel), .val (.int nn), .val (.int dd), .val (.int k_1), .val (.int k_2), .val (.int gg), .val (.int md), .val (.int ee), .val (.int ff), .val (.int ex), .val (.int (2147483647 : Int32)), .unset, .unset] [(.int k_1), (.int dd), (.int (nn * k_1)), (.int (0 : Int32)), (.int (2147483647 : Int32)), (.ref b14), (.ref b14)])) _
    refine XS.imul X14.here hx rfl (hb hby at_123) rfl ?_
    exact k
  obtain ⟨_, _, ⟨T17, L17, k17, n17⟩, -, X17, hs17, hg17, ⟨Lc17, hQ17, l17, y17, z17⟩, st17⟩ := X14.specialBackS hx (y := (⟨"com/example/body_text_extractor/bodytextextractor/TextStatistics", "<init>", "(IIII)V"⟩ : MethodName)) rfl hown (mvT hZ (hw _ (List.mem_of_getElem? (i := 4) rfl))) (mvT hZ (hw _ (List.mem_of_getElem? (i := 5) rfl))) (mvT hZ (hw _ (List.mem_of_getElem? (i := 6) rfl))) (by decide) (backOfS (W := 1) (rm1 l Z a0 hw [] b14 (2147483647 : Int32) (0 : Int32) (nn * k_1) (dd * k_1) (.int 0) (.int 0) (.int 0) (.int 0) h14 n0 Z14 A14 g_b14 F_words_b14 F_linkedWords_b14 F_wordsOnKeptLines_b14 F_keptLines_b14 (by decide) (by decide) (own_le q1.1 0 rfl) (own_max _) (own_le q1.2.2.1 1 rfl)) hZ (hw _ (List.mem_of_getElem? (i := 6) rfl)) (hw _ (List.mem_of_getElem? (i := 3) rfl)) (by decide) (by decide)) (g := (mkF m 124 #[.val (.int x0), .val (.int x1), .val (.int x2), .val (.int x3), .val (.int x4), .val (.int sel), .val (.int nn), .val (.int dd), .val (.int k_1), .val (.int k_2), .val (.int gg), .val (.int md), .val (.int ee), .val (.int ff), .val (.int ex), .val (.int (2147483647 : Int32)), .unset, .unset] [(.int (dd * k_1)), (.int (nn * k_1)), (.int (0 : Int32)), (.int (2147483647 : Int32)), (.ref b14), (.ref b14)])) rfl (by rw [hml]; rfl) (Steps.refl _) (a := b14) (argsL := [(.int (2147483647 : Int32)), (.int (0 : Int32)), (.int (nn * k_1)), (.int (dd * k_1))]) (rest := [(.ref b14)]) (lenOf pd_0_0 rfl) rfl (by show 2 * 0 + _ ≤ _; exact Nat.le_of_eq rfl) (hb hby at_124) (fun _ _ => ⟨rfl, e14, (by decide : 1 + 4 ≤ _), (by decide : 4 + 132 ≤ _)⟩)
  dsimp only [Pt.U, Pt.locs, Pt.cells, Pt.slots] at X17 hs17 hg17
  obtain ⟨X17, hS, hZ, hown⟩ := rebS hS (by rw [e14]; exact Ks14) X17 hs17 hg17 hZ hown
  dsimp only [Pt.U, Pt.locs, Pt.cells, Pt.slots] at X17 l17 y17 z17 st17 hQ17
  subst l17 y17 z17
  obtain ⟨rfl, N17q, K17, E17b, F17_0, F17_1, F17_2, F17_3⟩ := hQ17
  have Z17 : n0 ≤ T17.heap.size := Nat.le_trans Z14 K17.1
  have N17 := Fr.app N0 N17q
  have go18 : ∀ t, Steps p.tables e below (T17.setTop (mkF m 127 #[.val (.int x0), .val (.int x1), .val (.int x2), .val (.int x3), .val (.int x4), .val (.int sel), .val (.int nn), .val (.int dd), .val (.int k_1), .val (.int k_2), .val (.int gg), .val (.int md), .val (.int ee), .val (.int ff), .val (.int ex), .val (.int (2147483647 : Int32)), .unset, .unset] [(.ref b14)])) t → Steps p.tables e below (s₁.setTop (entryFrame m #[(.int x0), (.int x1), (.int x2), (.int x3), (.int x4), (.int sel)] maxLocals)) t := fun t k => go16 t (st17.trans k)
  have go19 : ∀ t, Steps p.tables e below (T17.setTop (mkF m 129 #[.val (.int x0), .val (.int x1), .val (.int x2), .val (.int x3), .val (.int x4), .val (.int sel), .val (.int nn), .val (.int dd), .val (.int k_1), .val (.int k_2), .val (.int gg), .val (.int md), .val (.int ee), .val (.int ff), .val (.int ex), .val (.int (2147483647 : Int32)), .val (.ref b14), .unset] [])) t → Steps p.tables e below (s₁.setTop (entryFrame m #[(.int x0), (.int x1), (.int x2), (.int x3), (.int x4), (.int sel)] maxLocals)) t := by
    intro t k
    refine go18 t ?_
    show Steps p.tables e below (T17.setTop (mkF m 127 #[.val (.int x0), .val (.int x1), .val (.int x2), .val (.int x3), .val (.int x4), .val (.int sel), .val (.int nn), .val (.int dd), .val (.int k_1), .val (.int k_2), .val (.int gg), .val (.int md), .val (.int ee), .val (.int ff), .val (.int ex), .val (.int (2147483647 : Int32)), .unset, .unset] [(.ref b14)])) _
    refine XS.astore X17.here hx rfl (hb hby at_127) rfl rfl (l' := #[.val (.int x0), .val (.int x1), .val (.int x2), .val (.int x3), .val (.int x4), .val (.int sel), .val (.int nn), .val (.int dd), .val (.int k_1), .val (.int k_2), .val (.int gg), .val (.int md), .val (.int ee), .val (.int ff), .val (.int ex), .val (.int (2147483647 : Int32)), .val (.ref b14), .unset]) rfl ?_
    exact k
  obtain ⟨T20, h20, X20, e20, E20, A20, D20, -, st20⟩ := newO X17 hx hZ hown (hw _ (List.mem_of_getElem? (i := 1) rfl)) (hw _ (List.mem_of_getElem? (i := 2) rfl)) (hw _ (List.mem_of_getElem? (i := 3) rfl)) rfl (g := (mkF m 129 #[.val (.int x0), .val (.int x1), .val (.int x2), .val (.int x3), .val (.int x4), .val (.int sel), .val (.int nn), .val (.int dd), .val (.int k_1), .val (.int k_2), .val (.int gg), .val (.int md), .val (.int ee), .val (.int ff), .val (.int ex), .val (.int (2147483647 : Int32)), .val (.ref b14), .unset] [])) rfl (hb hby at_129) (by decide) (by decide)
  obtain ⟨b20, g20⟩ : ∃ z, z = T17.heap.size := ⟨_, rfl⟩
  rw [← g20] at A20 D20 st20
  have g_b20 : n0 ≤ b20 := Nat.le_trans Z17 (Nat.le_of_eq g20.symm)
  have Z20 : n0 ≤ h20.size := Nat.le_trans Z17 E20.1
  have Ks20 := Nat.le_trans (Nat.le_refl _) E20.1
  have ne_b14_b20 : b14 ≠ b20 := Nat.ne_of_lt (Nat.lt_of_lt_of_le E17b.lt (Nat.le_of_eq g20.symm))
  have ne_b20_b14 : b20 ≠ b14 := Ne.symm ne_b14_b20
  have c21 := E17b.ext E20
  have c22 := F17_0.ext E20
  have c23 := F17_1.ext E20
  have c24 := F17_2.ext E20
  have c25 := F17_3.ext E20
  have F_words_b20 : Fld Z h20 b20 "com/example/body_text_extractor/bodytextextractor/TextStatistics" "words" "I" (.int (0 : Int32)) := D20 (Or.inr (hw _ (List.mem_of_getElem? (i := 28) rfl))) (ty := .int) (by decide)
  have F_linkedWords_b20 : Fld Z h20 b20 "com/example/body_text_extractor/bodytextextractor/TextStatistics" "linkedWords" "I" (.int (0 : Int32)) := D20 (Or.inr (hw _ (List.mem_of_getElem? (i := 30) rfl))) (ty := .int) (by decide)
  have F_wordsOnKeptLines_b20 : Fld Z h20 b20 "com/example/body_text_extractor/bodytextextractor/TextStatistics" "wordsOnKeptLines" "I" (.int (0 : Int32)) := D20 (Or.inr (hw _ (List.mem_of_getElem? (i := 32) rfl))) (ty := .int) (by decide)
  have F_keptLines_b20 : Fld Z h20 b20 "com/example/body_text_extractor/bodytextextractor/TextStatistics" "keptLines" "I" (.int (0 : Int32)) := D20 (Or.inr (hw _ (List.mem_of_getElem? (i := 34) rfl))) (ty := .int) (by decide)
  have go26 : ∀ t, Steps p.tables e below (T20.setTop (mkF m 132 #[.val (.int x0), .val (.int x1), .val (.int x2), .val (.int x3), .val (.int x4), .val (.int sel), .val (.int nn), .val (.int dd), .val (.int k_1), .val (.int k_2), .val (.int gg), .val (.int md), .val (.int ee), .val (.int ff), .val (.int ex), .val (.int (2147483647 : Int32)), .val (.ref b14), .unset] [(.ref b20)])) t → Steps p.tables e below (s₁.setTop (entryFrame m #[(.int x0), (.int x1), (.int x2), (.int x3), (.int x4), (.int sel)] maxLocals)) t := fun t k => go19 t (st20 _ k)
  have go27 : ∀ t, Steps p.tables e below (T20.setTop (mkF m 152 #[.val (.int x0), .val (.int x1), .val (.int x2), .val (.int x3), .val (.int x4), .val (.int sel), .val (.int nn), .val (.int dd), .val (.int k_1), .val (.int k_2), .val (.int gg), .val (.int md), .val (.int ee), .val (.int ff), .val (.int ex), .val (.int (2147483647 : Int32)), .val (.ref b14), .unset] [(.int ((dd * k_2) + ff)), (.int ((nn * k_2) + ee)), (.int (0 : Int32)), (.int (2147483647 : Int32)), (.ref b20), (.ref b20)])) t → Steps p.tables e below (s₁.setTop (entryFrame m #[(.int x0), (.int x1), (.int x2), (.int x3), (.int x4), (.int sel)] maxLocals)) t := by
    intro t k
    refine go26 t ?_
    show Steps p.tables e below (T20.setTop (mkF m 132 #[.val (.int x0), .val (.int x1), .val (.int x2), .val (.int x3), .val (.int x4), .val (.int sel), .val (.int nn), .val (.int dd), .val (.int k_1), .val (.int k_2), .val (.int gg), .val (.int md), .val (.int ee), .val (.int ff), .val (.int ex), .val (.int (2147483647 : Int32)), .val (.ref b14), .unset] [(.ref b20)])) _
    refine XS.dup X20.here hx rfl (hb hby at_132) rfl rfl ?_
    show Steps p.tables e below (T20.setTop (mkF m 133 #[.val (.int x0), .val (.int x1), .val (.int x2), .val (.int x3), .val (.int x4), .val (.int sel), .val (.int nn), .val (.int dd), .val (.int k_1), .val (.int k_2), .val (.int gg), .val (.int md), .val (.int ee), .val (.int ff), .val (.int ex), .val (.int (2147483647 : Int32)), .val (.ref b14), .unset] [(.ref b20), (.ref b20)])) _
    refine XS.iload X20.here hx rfl (hb hby at_133) rfl ?_
    show Steps p.tables e below (T20.setTop (mkF m 135 #[.val (.int x0), .val (.int x1), .val (.int x2), .val (.int x3), .val (.int x4), .val (.int sel), .val (.int nn), .val (.int dd), .val (.int k_1), .val (.int k_2), .val (.int gg), .val (.int md), .val (.int ee), .val (.int ff), .val (.int ex), .val (.int (2147483647 : Int32)), .val (.ref b14), .unset] [(.int (2147483647 : Int32)), (.ref b20), (.ref b20)])) _
    refine XS.iconst X20.here hx rfl (hb hby at_135) ?_
    show Steps p.tables e below (T20.setTop (mkF m 136 #[.val (.int x0), .val (.int x1), .val (.int x2), .val (.int x3), .val (.int x4), .val (.int sel), .val (.int nn), .val (.int dd), .val (.int k_1), .val (.int k_2), .val (.int gg), .val (.int md), .val (.int ee), .val (.int ff), .val (.int ex), .val (.int (2147483647 : Int32)), .val (.ref b14), .unset] [(.int (0 : Int32)), (.int (2147483647 : Int32)), (.ref b20), (.ref b20)])) _
    refine XS.iload X20.here hx rfl (hb hby at_136) rfl ?_
    show Steps p.tables e below (T20.setTop (mkF m 138 #[.val (.int x0), .val (.int x1), .val (.int x2), .val (.int x3), .val (.int x4), .val (.int sel), .val (.int nn), .val (.int dd), .val (.int k_1), .val (.int k_2), .val (.int gg), .val (.int md), .val (.int ee), .val (.int ff), .val (.int ex), .val (.int (2147483647 : Int32)), .val (.ref b14), .unset] [(.int nn), (.int (0 : Int32)), (.int (2147483647 : Int32)), (.ref b20), (.ref b20)])) _
    refine XS.iload X20.here hx rfl (hb hby at_138) rfl ?_
    show Steps p.tables e below (T20.setTop (mkF m 140 #[.val (.int x0), .val (.int x1), .val (.int x2), .val (.int x3), .val (.int x4), .val (.int sel), .val (.int nn), .val (.int dd), .val (.int k_1), .val (.int k_2), .val (.int gg), .val (.int md), .val (.int ee), .val (.int ff), .val (.int ex), .val (.int (2147483647 : Int32)), .val (.ref b14), .unset] [(.int k_2), (.int nn), (.int (0 : Int32)), (.int (2147483647 : Int32)), (.ref b20), (.ref b20)])) _
    refine XS.imul X20.here hx rfl (hb hby at_140) rfl ?_
    show Steps p.tables e below (T20.setTop (mkF m 141 #[.val (.int x0), .val (.int x1), .val (.int x2), .val (.int x3), .val (.int x4), .val (.int sel), .val (.int nn), .val (.int dd), .val (.int k_1), .val (.int k_2), .val (.int gg), .val (.int md), .val (.int ee), .val (.int ff), .val (.int ex), .val (.int (2147483647 : Int32)), .val (.ref b14), .unset] [(.int (nn * k_2)), (.int (0 : Int32)), (.int (2147483647 : Int32)), (.ref b20), (.ref b20)])) _
    refine XS.iload X20.here hx rfl (hb hby at_141) rfl ?_
    show Steps p.tables e below (T20.setTop (mkF m 143 #[.val (.int x0), .val (.int x1), .val (.int x2), .val (.int x3), .val (.int x4), .val (.int sel), .val (.int nn), .val (.int dd), .val (.int k_1), .val (.int k_2), .val (.int gg), .val (.int md), .val (.int ee), .val (.int ff), .val (.int ex), .val (.int (2147483647 : Int32)), .val (.ref b14), .unset] [(.int ee), (.int (nn * k_2)), (.int (0 : Int32)), (.int (2147483647 : Int32)), (.ref b20), (.ref b20)])) _
    refine XS.iadd X20.here hx rfl (hb hby at_143) rfl ?_
    show Steps p.tables e below (T20.setTop (mkF m 144 #[.val (.int x0), .val (.int x1), .val (.int x2), .val (.int x3), .val (.int x4), .val (.int sel), .val (.int nn), .val (.int dd), .val (.int k_1), .val (.int k_2), .val (.int gg), .val (.int md), .val (.int ee), .val (.int ff), .val (.int ex), .val (.int (2147483647 : Int32)), .val (.ref b14), .unset] [(.int ((nn * k_2) + ee)), (.int (0 : Int32)), (.int (2147483647 : Int32)), (.ref b20), (.ref b20)])) _
    refine XS.iload X20.here hx rfl (hb hby at_144) rfl ?_
    show Steps p.tables e below (T20.setTop (mkF m 146 #[.val (.int x0), .val (.int x1), .val (.int x2), .val (.int x3), .val (.int x4), .val (.int sel), .val (.int nn), .val (.int dd), .val (.int k_1), .val (.int k_2), .val (.int gg), .val (.int md), .val (.int ee), .val (.int ff), .val (.int ex), .val (.int (2147483647 : Int32)), .val (.ref b14), .unset] [(.int dd), (.int ((nn * k_2) + ee)), (.int (0 : Int32)), (.int (2147483647 : Int32)), (.ref b20), (.ref b20)])) _
    refine XS.iload X20.here hx rfl (hb hby at_146) rfl ?_
    show Steps p.tables e below (T20.setTop (mkF m 148 #[.val (.int x0), .val (.int x1), .val (.int x2), .val (.int x3), .val (.int x4), .val (.int sel), .val (.int nn), .val (.int dd), .val (.int k_1), .val (.int k_2), .val (.int gg), .val (.int md), .val (.int ee), .val (.int ff), .val (.int ex), .val (.int (2147483647 : Int32)), .val (.ref b14), .unset] [(.int k_2), (.int dd), (.int ((nn * k_2) + ee)), (.int (0 : Int32)), (.int (2147483647 : Int32)), (.ref b20), (.ref b20)])) _
    refine XS.imul X20.here hx rfl (hb hby at_148) rfl ?_
    show Steps p.tables e below (T20.setTop (mkF m 149 #[.val (.int x0), .val (.int x1), .val (.int x2), .val (.int x3), .val (.int x4), .val (.int sel), .val (.int nn), .val (.int dd), .val (.int k_1), .val (.int k_2), .val (.int gg), .val (.int md), .val (.int ee), .val (.int ff), .val (.int ex), .val (.int (2147483647 : Int32)), .val (.ref b14), .unset] [(.int (dd * k_2)), (.int ((nn * k_2) + ee)), (.int (0 : Int32)), (.int (2147483647 : Int32)), (.ref b20), (.ref b20)])) _
    refine XS.iload X20.here hx rfl (hb hby at_149) rfl ?_
    show Steps p.tables e below (T20.setTop (mkF m 151 #[.val (.int x0), .val (.int x1), .val (.int x2), .val (.int x3), .val (.int x4), .val (.int sel), .val (.int nn), .val (.int dd), .val (.int k_1), .val (.int k_2), .val (.int gg), .val (.int md), .val (.int ee), .val (.int ff), .val (.int ex), .val (.int (2147483647 : Int32)), .val (.ref b14), .unset] [(.int ff), (.int (dd * k_2)), (.int ((nn * k_2) + ee)), (.int (0 : Int32)), (.int (2147483647 : Int32)), (.ref b20), (.ref b20)])) _
    refine XS.iadd X20.here hx rfl (hb hby at_151) rfl ?_
    exact k
  obtain ⟨_, _, ⟨T28, L28, k28, n28⟩, -, X28, hs28, hg28, ⟨Lc28, hQ28, l28, y28, z28⟩, st28⟩ := X20.specialBackS hx (y := (⟨"com/example/body_text_extractor/bodytextextractor/TextStatistics", "<init>", "(IIII)V"⟩ : MethodName)) rfl hown (mvT hZ (hw _ (List.mem_of_getElem? (i := 4) rfl))) (mvT hZ (hw _ (List.mem_of_getElem? (i := 5) rfl))) (mvT hZ (hw _ (List.mem_of_getElem? (i := 6) rfl))) (by decide) (backOfS (W := 1) (rm1 l Z a0 hw [] b20 (2147483647 : Int32) (0 : Int32) ((nn * k_2) + ee) ((dd * k_2) + ff) (.int 0) (.int 0) (.int 0) (.int 0) h20 n0 Z20 A20 g_b20 F_words_b20 F_linkedWords_b20 F_wordsOnKeptLines_b20 F_keptLines_b20 (by decide) (by decide) (own_le q2.1 0 rfl) (own_max _) (own_le q2.2.2.1 1 rfl)) hZ (hw _ (List.mem_of_getElem? (i := 6) rfl)) (hw _ (List.mem_of_getElem? (i := 3) rfl)) (by decide) (by decide)) (g := (mkF m 152 #[.val (.int x0), .val (.int x1), .val (.int x2), .val (.int x3), .val (.int x4), .val (.int sel), .val (.int nn), .val (.int dd), .val (.int k_1), .val (.int k_2), .val (.int gg), .val (.int md), .val (.int ee), .val (.int ff), .val (.int ex), .val (.int (2147483647 : Int32)), .val (.ref b14), .unset] [(.int ((dd * k_2) + ff)), (.int ((nn * k_2) + ee)), (.int (0 : Int32)), (.int (2147483647 : Int32)), (.ref b20), (.ref b20)])) rfl (by rw [hml]; rfl) (Steps.refl _) (a := b20) (argsL := [(.int (2147483647 : Int32)), (.int (0 : Int32)), (.int ((nn * k_2) + ee)), (.int ((dd * k_2) + ff))]) (rest := [(.ref b20)]) (lenOf pd_0_0 rfl) rfl (by show 2 * 0 + _ ≤ _; exact Nat.le_of_eq rfl) (hb hby at_152) (fun _ _ => ⟨rfl, e20, (by decide : 6 + 4 ≤ _), (by decide : 140 + 132 ≤ _)⟩)
  dsimp only [Pt.U, Pt.locs, Pt.cells, Pt.slots] at X28 hs28 hg28
  obtain ⟨X28, hS, hZ, hown⟩ := rebS hS (by rw [e20]; exact Ks20) X28 hs28 hg28 hZ hown
  dsimp only [Pt.U, Pt.locs, Pt.cells, Pt.slots] at X28 l28 y28 z28 st28 hQ28
  subst l28 y28 z28
  obtain ⟨rfl, N28q, K28, E28b, F28_0, F28_1, F28_2, F28_3⟩ := hQ28
  have Z28 : n0 ≤ T28.heap.size := Nat.le_trans Z20 K28.1
  have c29 := c21.keep K28
  have c30 := c22.keep K28 (fun hm => ne_b14_b20 (List.mem_singleton.mp hm))
  have c31 := c23.keep K28 (fun hm => ne_b14_b20 (List.mem_singleton.mp hm))
  have c32 := c24.keep K28 (fun hm => ne_b14_b20 (List.mem_singleton.mp hm))
  have c33 := c25.keep K28 (fun hm => ne_b14_b20 (List.mem_singleton.mp hm))
  have N28 := Fr.app N17 N28q
  have go34 : ∀ t, Steps p.tables e below (T28.setTop (mkF m 155 #[.val (.int x0), .val (.int x1), .val (.int x2), .val (.int x3), .val (.int x4), .val (.int sel), .val (.int nn), .val (.int dd), .val (.int k_1), .val (.int k_2), .val (.int gg), .val (.int md), .val (.int ee), .val (.int ff), .val (.int ex), .val (.int (2147483647 : Int32)), .val (.ref b14), .unset] [(.ref b20)])) t → Steps p.tables e below (s₁.setTop (entryFrame m #[(.int x0), (.int x1), (.int x2), (.int x3), (.int x4), (.int sel)] maxLocals)) t := fun t k => go27 t (st28.trans k)
  have go35 : ∀ t, Steps p.tables e below (T28.setTop (mkF m 161 #[.val (.int x0), .val (.int x1), .val (.int x2), .val (.int x3), .val (.int x4), .val (.int sel), .val (.int nn), .val (.int dd), .val (.int k_1), .val (.int k_2), .val (.int gg), .val (.int md), .val (.int ee), .val (.int ff), .val (.int ex), .val (.int (2147483647 : Int32)), .val (.ref b14), .val (.ref b20)] [(.ref b20), (.ref b14)])) t → Steps p.tables e below (s₁.setTop (entryFrame m #[(.int x0), (.int x1), (.int x2), (.int x3), (.int x4), (.int sel)] maxLocals)) t := by
    intro t k
    refine go34 t ?_
    show Steps p.tables e below (T28.setTop (mkF m 155 #[.val (.int x0), .val (.int x1), .val (.int x2), .val (.int x3), .val (.int x4), .val (.int sel), .val (.int nn), .val (.int dd), .val (.int k_1), .val (.int k_2), .val (.int gg), .val (.int md), .val (.int ee), .val (.int ff), .val (.int ex), .val (.int (2147483647 : Int32)), .val (.ref b14), .unset] [(.ref b20)])) _
    refine XS.astore X28.here hx rfl (hb hby at_155) rfl rfl (l' := #[.val (.int x0), .val (.int x1), .val (.int x2), .val (.int x3), .val (.int x4), .val (.int sel), .val (.int nn), .val (.int dd), .val (.int k_1), .val (.int k_2), .val (.int gg), .val (.int md), .val (.int ee), .val (.int ff), .val (.int ex), .val (.int (2147483647 : Int32)), .val (.ref b14), .val (.ref b20)]) rfl ?_
    show Steps p.tables e below (T28.setTop (mkF m 157 #[.val (.int x0), .val (.int x1), .val (.int x2), .val (.int x3), .val (.int x4), .val (.int sel), .val (.int nn), .val (.int dd), .val (.int k_1), .val (.int k_2), .val (.int gg), .val (.int md), .val (.int ee), .val (.int ff), .val (.int ex), .val (.int (2147483647 : Int32)), .val (.ref b14), .val (.ref b20)] [])) _
    refine XS.aload X28.here hx rfl (hb hby at_157) rfl rfl ?_
    show Steps p.tables e below (T28.setTop (mkF m 159 #[.val (.int x0), .val (.int x1), .val (.int x2), .val (.int x3), .val (.int x4), .val (.int sel), .val (.int nn), .val (.int dd), .val (.int k_1), .val (.int k_2), .val (.int gg), .val (.int md), .val (.int ee), .val (.int ff), .val (.int ex), .val (.int (2147483647 : Int32)), .val (.ref b14), .val (.ref b20)] [(.ref b14)])) _
    refine XS.aload X28.here hx rfl (hb hby at_159) rfl rfl ?_
    exact k
  obtain ⟨cq36, kq36, q36a, q36b, q36c⟩ := isOf hZ rfl c29
  obtain ⟨_, _, ⟨T36, L36, k36, n36⟩, -, X36, ⟨Lc36, hQ36, l36, y36, z36⟩, st36⟩ := X28.virtualBack hx (y := (⟨"com/example/body_text_extractor/bodytextextractor/TextStatistics", "hasTextDensityOf", "(Lcom/example/body_text_extractor/bodytextextractor/TextStatistics;)Z"⟩ : MethodName)) (z := (⟨"com/example/body_text_extractor/bodytextextractor/TextStatistics", "hasTextDensityOf", "(Lcom/example/body_text_extractor/bodytextextractor/TextStatistics;)Z"⟩ : MethodName)) hown (mvT hZ (hw _ (List.mem_of_getElem? (i := 35) rfl))) (mvT hZ (hw _ (List.mem_of_getElem? (i := 36) rfl))) (notFace_of_selects (args := #[]) (mvT hZ (hw _ (List.mem_of_getElem? (i := 38) rfl)))) (mvT hZ (hw _ (List.mem_of_getElem? (i := 38) rfl))) (mvT hZ (hw _ (List.mem_of_getElem? (i := 37) rfl))) (by decide) (backOf (W := 0) (rm5 l Z a0 hw [] b14 b20 (nn * k_1) (dd * k_1) ((nn * k_2) + ee) ((dd * k_2) + ff) T28.heap n0 Z28 c32 c33 F28_2 F28_3) hZ (hw _ (List.mem_of_getElem? (i := 39) rfl)) (hw _ (List.mem_of_getElem? (i := 3) rfl)) (by decide) (by decide)) q36a q36c (g := (mkF m 161 #[.val (.int x0), .val (.int x1), .val (.int x2), .val (.int x3), .val (.int x4), .val (.int sel), .val (.int nn), .val (.int dd), .val (.int k_1), .val (.int k_2), .val (.int gg), .val (.int md), .val (.int ee), .val (.int ff), .val (.int ex), .val (.int (2147483647 : Int32)), .val (.ref b14), .val (.ref b20)] [(.ref b20), (.ref b14)])) rfl (by rw [hml]; rfl) (Steps.refl _) (argsL := [(.ref b20)]) (rest := []) (lenOf pd_0_1 rfl) rfl (by show 2 * 0 + _ ≤ _; exact Nat.le_of_eq rfl) (hb hby at_161) (fun _ _ => ⟨rfl, rfl, (by decide : 10 + 0 ≤ _), (by decide : 272 + 0 ≤ _)⟩)
  dsimp only [Pt.U, Pt.locs, Pt.cells, Pt.slots] at X36 l36 y36 z36 st36 hQ36
  subst l36 y36 z36
  obtain ⟨rfl, N36q, e36⟩ := hQ36
  have N36 := Fr.app N28 N36q
  have go37 : ∀ t, Steps p.tables e below (T36.setTop (mkF m 164 #[.val (.int x0), .val (.int x1), .val (.int x2), .val (.int x3), .val (.int x4), .val (.int sel), .val (.int nn), .val (.int dd), .val (.int k_1), .val (.int k_2), .val (.int gg), .val (.int md), .val (.int ee), .val (.int ff), .val (.int ex), .val (.int (2147483647 : Int32)), .val (.ref b14), .val (.ref b20)] [(.int (own_td (nn * k_1) (dd * k_1) ((nn * k_2) + ee) ((dd * k_2) + ff)))])) t → Steps p.tables e below (s₁.setTop (entryFrame m #[(.int x0), (.int x1), (.int x2), (.int x3), (.int x4), (.int sel)] maxLocals)) t := fun t k => go35 t (st36.trans k)
  have go38 : ∀ t, Steps p.tables e below (T36.setTop (mkF m 173 #[.val (.int x0), .val (.int x1), .val (.int x2), .val (.int x3), .val (.int x4), .val (.int sel), .val (.int nn), .val (.int dd), .val (.int k_1), .val (.int k_2), .val (.int gg), .val (.int md), .val (.int ee), .val (.int ff), .val (.int ex), .val (.int (2147483647 : Int32)), .val (.ref b14), .val (.ref b20)] [(.ref b14), (.ref b20)])) t → Steps p.tables e below (s₁.setTop (entryFrame m #[(.int x0), (.int x1), (.int x2), (.int x3), (.int x4), (.int sel)] maxLocals)) t := by
    intro t k
    refine go37 t ?_
    show Steps p.tables e below (T36.setTop (mkF m 164 #[.val (.int x0), .val (.int x1), .val (.int x2), .val (.int x3), .val (.int x4), .val (.int sel), .val (.int nn), .val (.int dd), .val (.int k_1), .val (.int k_2), .val (.int gg), .val (.int md), .val (.int ee), .val (.int ff), .val (.int ex), .val (.int (2147483647 : Int32)), .val (.ref b14), .val (.ref b20)] [(.int (own_td (nn * k_1) (dd * k_1) ((nn * k_2) + ee) ((dd * k_2) + ff)))])) _
    refine XS.iload X36.here hx rfl (hb hby at_164) rfl ?_
    show Steps p.tables e below (T36.setTop (mkF m 166 #[.val (.int x0), .val (.int x1), .val (.int x2), .val (.int x3), .val (.int x4), .val (.int sel), .val (.int nn), .val (.int dd), .val (.int k_1), .val (.int k_2), .val (.int gg), .val (.int md), .val (.int ee), .val (.int ff), .val (.int ex), .val (.int (2147483647 : Int32)), .val (.ref b14), .val (.ref b20)] [(.int ex), (.int (own_td (nn * k_1) (dd * k_1) ((nn * k_2) + ee) ((dd * k_2) + ff)))])) _
    refine XS.icmpNo X36.here hx rfl (hb hby at_166) rfl (teq q3).2 ?_
    show Steps p.tables e below (T36.setTop (mkF m 169 #[.val (.int x0), .val (.int x1), .val (.int x2), .val (.int x3), .val (.int x4), .val (.int sel), .val (.int nn), .val (.int dd), .val (.int k_1), .val (.int k_2), .val (.int gg), .val (.int md), .val (.int ee), .val (.int ff), .val (.int ex), .val (.int (2147483647 : Int32)), .val (.ref b14), .val (.ref b20)] [])) _
    refine XS.aload X36.here hx rfl (hb hby at_169) rfl rfl ?_
    show Steps p.tables e below (T36.setTop (mkF m 171 #[.val (.int x0), .val (.int x1), .val (.int x2), .val (.int x3), .val (.int x4), .val (.int sel), .val (.int nn), .val (.int dd), .val (.int k_1), .val (.int k_2), .val (.int gg), .val (.int md), .val (.int ee), .val (.int ff), .val (.int ex), .val (.int (2147483647 : Int32)), .val (.ref b14), .val (.ref b20)] [(.ref b20)])) _
    refine XS.aload X36.here hx rfl (hb hby at_171) rfl rfl ?_
    exact k
  obtain ⟨cq39, kq39, q39a, q39b, q39c⟩ := isOf hZ e36 E28b
  obtain ⟨_, _, ⟨T39, L39, k39, n39⟩, -, X39, ⟨Lc39, hQ39, l39, y39, z39⟩, st39⟩ := X36.virtualBack hx (y := (⟨"com/example/body_text_extractor/bodytextextractor/TextStatistics", "hasTextDensityOf", "(Lcom/example/body_text_extractor/bodytextextractor/TextStatistics;)Z"⟩ : MethodName)) (z := (⟨"com/example/body_text_extractor/bodytextextractor/TextStatistics", "hasTextDensityOf", "(Lcom/example/body_text_extractor/bodytextextractor/TextStatistics;)Z"⟩ : MethodName)) hown (mvT hZ (hw _ (List.mem_of_getElem? (i := 35) rfl))) (mvT hZ (hw _ (List.mem_of_getElem? (i := 36) rfl))) (notFace_of_selects (args := #[]) (mvT hZ (hw _ (List.mem_of_getElem? (i := 38) rfl)))) (mvT hZ (hw _ (List.mem_of_getElem? (i := 38) rfl))) (mvT hZ (hw _ (List.mem_of_getElem? (i := 37) rfl))) (by decide) (backOf (W := 0) (rm5 l Z a0 hw [] b20 b14 ((nn * k_2) + ee) ((dd * k_2) + ff) (nn * k_1) (dd * k_1) T28.heap n0 Z28 F28_2 F28_3 c32 c33) hZ (hw _ (List.mem_of_getElem? (i := 39) rfl)) (hw _ (List.mem_of_getElem? (i := 3) rfl)) (by decide) (by decide)) q39a q39c (g := (mkF m 173 #[.val (.int x0), .val (.int x1), .val (.int x2), .val (.int x3), .val (.int x4), .val (.int sel), .val (.int nn), .val (.int dd), .val (.int k_1), .val (.int k_2), .val (.int gg), .val (.int md), .val (.int ee), .val (.int ff), .val (.int ex), .val (.int (2147483647 : Int32)), .val (.ref b14), .val (.ref b20)] [(.ref b14), (.ref b20)])) rfl (by rw [hml]; rfl) (Steps.refl _) (argsL := [(.ref b14)]) (rest := []) (lenOf pd_0_1 rfl) rfl (by show 2 * 0 + _ ≤ _; exact Nat.le_of_eq rfl) (hb hby at_173) (fun _ _ => ⟨rfl, e36, (by decide : 10 + 0 ≤ _), (by decide : 272 + 0 ≤ _)⟩)
  dsimp only [Pt.U, Pt.locs, Pt.cells, Pt.slots] at X39 l39 y39 z39 st39 hQ39
  subst l39 y39 z39
  obtain ⟨rfl, N39q, e39⟩ := hQ39
  have N39 := Fr.app N36 N39q
  have go40 : ∀ t, Steps p.tables e below (T39.setTop (mkF m 176 #[.val (.int x0), .val (.int x1), .val (.int x2), .val (.int x3), .val (.int x4), .val (.int sel), .val (.int nn), .val (.int dd), .val (.int k_1), .val (.int k_2), .val (.int gg), .val (.int md), .val (.int ee), .val (.int ff), .val (.int ex), .val (.int (2147483647 : Int32)), .val (.ref b14), .val (.ref b20)] [(.int (own_td ((nn * k_2) + ee) ((dd * k_2) + ff) (nn * k_1) (dd * k_1)))])) t → Steps p.tables e below (s₁.setTop (entryFrame m #[(.int x0), (.int x1), (.int x2), (.int x3), (.int x4), (.int sel)] maxLocals)) t := fun t k => go38 t (st39.trans k)
  have go41 : ∀ t, Steps p.tables e below (T39.setTop (mkF m 185 #[.val (.int x0), .val (.int x1), .val (.int x2), .val (.int x3), .val (.int x4), .val (.int sel), .val (.int nn), .val (.int dd), .val (.int k_1), .val (.int k_2), .val (.int gg), .val (.int md), .val (.int ee), .val (.int ff), .val (.int ex), .val (.int (2147483647 : Int32)), .val (.ref b14), .val (.ref b20)] [(.ref b14), (.ref b14)])) t → Steps p.tables e below (s₁.setTop (entryFrame m #[(.int x0), (.int x1), (.int x2), (.int x3), (.int x4), (.int sel)] maxLocals)) t := by
    intro t k
    refine go40 t ?_
    show Steps p.tables e below (T39.setTop (mkF m 176 #[.val (.int x0), .val (.int x1), .val (.int x2), .val (.int x3), .val (.int x4), .val (.int sel), .val (.int nn), .val (.int dd), .val (.int k_1), .val (.int k_2), .val (.int gg), .val (.int md), .val (.int ee), .val (.int ff), .val (.int ex), .val (.int (2147483647 : Int32)), .val (.ref b14), .val (.ref b20)] [(.int (own_td ((nn * k_2) + ee) ((dd * k_2) + ff) (nn * k_1) (dd * k_1)))])) _
    refine XS.iload X39.here hx rfl (hb hby at_176) rfl ?_
    show Steps p.tables e below (T39.setTop (mkF m 178 #[.val (.int x0), .val (.int x1), .val (.int x2), .val (.int x3), .val (.int x4), .val (.int sel), .val (.int nn), .val (.int dd), .val (.int k_1), .val (.int k_2), .val (.int gg), .val (.int md), .val (.int ee), .val (.int ff), .val (.int ex), .val (.int (2147483647 : Int32)), .val (.ref b14), .val (.ref b20)] [(.int ex), (.int (own_td ((nn * k_2) + ee) ((dd * k_2) + ff) (nn * k_1) (dd * k_1)))])) _
    refine XS.icmpNo X39.here hx rfl (hb hby at_178) rfl (teq q4).2 ?_
    show Steps p.tables e below (T39.setTop (mkF m 181 #[.val (.int x0), .val (.int x1), .val (.int x2), .val (.int x3), .val (.int x4), .val (.int sel), .val (.int nn), .val (.int dd), .val (.int k_1), .val (.int k_2), .val (.int gg), .val (.int md), .val (.int ee), .val (.int ff), .val (.int ex), .val (.int (2147483647 : Int32)), .val (.ref b14), .val (.ref b20)] [])) _
    refine XS.aload X39.here hx rfl (hb hby at_181) rfl rfl ?_
    show Steps p.tables e below (T39.setTop (mkF m 183 #[.val (.int x0), .val (.int x1), .val (.int x2), .val (.int x3), .val (.int x4), .val (.int sel), .val (.int nn), .val (.int dd), .val (.int k_1), .val (.int k_2), .val (.int gg), .val (.int md), .val (.int ee), .val (.int ff), .val (.int ex), .val (.int (2147483647 : Int32)), .val (.ref b14), .val (.ref b20)] [(.ref b14)])) _
    refine XS.aload X39.here hx rfl (hb hby at_183) rfl rfl ?_
    exact k
  obtain ⟨cq42, kq42, q42a, q42b, q42c⟩ := isOf hZ e39 c29
  obtain ⟨_, _, ⟨T42, L42, k42, n42⟩, -, X42, ⟨Lc42, hQ42, l42, y42, z42⟩, st42⟩ := X39.virtualBack hx (y := (⟨"com/example/body_text_extractor/bodytextextractor/TextStatistics", "hasTextDensityOf", "(Lcom/example/body_text_extractor/bodytextextractor/TextStatistics;)Z"⟩ : MethodName)) (z := (⟨"com/example/body_text_extractor/bodytextextractor/TextStatistics", "hasTextDensityOf", "(Lcom/example/body_text_extractor/bodytextextractor/TextStatistics;)Z"⟩ : MethodName)) hown (mvT hZ (hw _ (List.mem_of_getElem? (i := 35) rfl))) (mvT hZ (hw _ (List.mem_of_getElem? (i := 36) rfl))) (notFace_of_selects (args := #[]) (mvT hZ (hw _ (List.mem_of_getElem? (i := 38) rfl)))) (mvT hZ (hw _ (List.mem_of_getElem? (i := 38) rfl))) (mvT hZ (hw _ (List.mem_of_getElem? (i := 37) rfl))) (by decide) (backOf (W := 0) (rm5 l Z a0 hw [] b14 b14 (nn * k_1) (dd * k_1) (nn * k_1) (dd * k_1) T28.heap n0 Z28 c32 c33 c32 c33) hZ (hw _ (List.mem_of_getElem? (i := 39) rfl)) (hw _ (List.mem_of_getElem? (i := 3) rfl)) (by decide) (by decide)) q42a q42c (g := (mkF m 185 #[.val (.int x0), .val (.int x1), .val (.int x2), .val (.int x3), .val (.int x4), .val (.int sel), .val (.int nn), .val (.int dd), .val (.int k_1), .val (.int k_2), .val (.int gg), .val (.int md), .val (.int ee), .val (.int ff), .val (.int ex), .val (.int (2147483647 : Int32)), .val (.ref b14), .val (.ref b20)] [(.ref b14), (.ref b14)])) rfl (by rw [hml]; rfl) (Steps.refl _) (argsL := [(.ref b14)]) (rest := []) (lenOf pd_0_1 rfl) rfl (by show 2 * 0 + _ ≤ _; exact Nat.le_of_eq rfl) (hb hby at_185) (fun _ _ => ⟨rfl, e39, (by decide : 10 + 0 ≤ _), (by decide : 272 + 0 ≤ _)⟩)
  dsimp only [Pt.U, Pt.locs, Pt.cells, Pt.slots] at X42 l42 y42 z42 st42 hQ42
  subst l42 y42 z42
  obtain ⟨rfl, N42q, e42⟩ := hQ42
  have N42 := Fr.app N39 N42q
  have go43 : ∀ t, Steps p.tables e below (T42.setTop (mkF m 188 #[.val (.int x0), .val (.int x1), .val (.int x2), .val (.int x3), .val (.int x4), .val (.int sel), .val (.int nn), .val (.int dd), .val (.int k_1), .val (.int k_2), .val (.int gg), .val (.int md), .val (.int ee), .val (.int ff), .val (.int ex), .val (.int (2147483647 : Int32)), .val (.ref b14), .val (.ref b20)] [(.int (own_td (nn * k_1) (dd * k_1) (nn * k_1) (dd * k_1)))])) t → Steps p.tables e below (s₁.setTop (entryFrame m #[(.int x0), (.int x1), (.int x2), (.int x3), (.int x4), (.int sel)] maxLocals)) t := fun t k => go41 t (st42.trans k)
  have go44 : ∀ t, Steps p.tables e below (T42.setTop (mkF m 196 #[.val (.int x0), .val (.int x1), .val (.int x2), .val (.int x3), .val (.int x4), .val (.int sel), .val (.int nn), .val (.int dd), .val (.int k_1), .val (.int k_2), .val (.int gg), .val (.int md), .val (.int ee), .val (.int ff), .val (.int ex), .val (.int (2147483647 : Int32)), .val (.ref b14), .val (.ref b20)] [(.int (1 : Int32))])) t → Steps p.tables e below (s₁.setTop (entryFrame m #[(.int x0), (.int x1), (.int x2), (.int x3), (.int x4), (.int sel)] maxLocals)) t := by
    intro t k
    refine go43 t ?_
    show Steps p.tables e below (T42.setTop (mkF m 188 #[.val (.int x0), .val (.int x1), .val (.int x2), .val (.int x3), .val (.int x4), .val (.int sel), .val (.int nn), .val (.int dd), .val (.int k_1), .val (.int k_2), .val (.int gg), .val (.int md), .val (.int ee), .val (.int ff), .val (.int ex), .val (.int (2147483647 : Int32)), .val (.ref b14), .val (.ref b20)] [(.int (own_td (nn * k_1) (dd * k_1) (nn * k_1) (dd * k_1)))])) _
    refine XS.ifNo X42.here hx rfl (hb hby at_188) rfl ((if0 _ _).trans (feq (own_self _ _)).1) ?_
    show Steps p.tables e below (T42.setTop (mkF m 191 #[.val (.int x0), .val (.int x1), .val (.int x2), .val (.int x3), .val (.int x4), .val (.int sel), .val (.int nn), .val (.int dd), .val (.int k_1), .val (.int k_2), .val (.int gg), .val (.int md), .val (.int ee), .val (.int ff), .val (.int ex), .val (.int (2147483647 : Int32)), .val (.ref b14), .val (.ref b20)] [])) _
    refine XS.iconst X42.here hx rfl (hb hby at_191) ?_
    show Steps p.tables e below (T42.setTop (mkF m 192 #[.val (.int x0), .val (.int x1), .val (.int x2), .val (.int x3), .val (.int x4), .val (.int sel), .val (.int nn), .val (.int dd), .val (.int k_1), .val (.int k_2), .val (.int gg), .val (.int md), .val (.int ee), .val (.int ff), .val (.int ex), .val (.int (2147483647 : Int32)), .val (.ref b14), .val (.ref b20)] [(.int (1 : Int32))])) _
    refine XS.goto X42.here hx rfl (pc0 := 192) (pc' := 196) rfl (hb hby at_192) (by decide) (by decide) ?_
    exact k
  obtain ⟨fs, hr, hrun, hended, hW⟩ := X42.leaveW hS (by rw [e42]; exact (Nat.le_refl _)) (v := some (.int (1 : Int32))) (fun h => by rw [Bd.returns] at h; cases h)
  refine ⟨_, _, go44 _ ?_, hrun, hended, _, _, rfl, ?_, hW.1, hW.2.1, hW.2.2.1, hW.2.2.2.mono (by decide) (by decide)⟩
  · show Steps p.tables e below (T42.setTop (mkF m 196 #[.val (.int x0), .val (.int x1), .val (.int x2), .val (.int x3), .val (.int x4), .val (.int sel), .val (.int nn), .val (.int dd), .val (.int k_1), .val (.int k_2), .val (.int gg), .val (.int md), .val (.int ee), .val (.int ff), .val (.int ex), .val (.int (2147483647 : Int32)), .val (.ref b14), .val (.ref b20)] [(.int (1 : Int32))])) _
    exact retN X42 hx (t := .boolean) Bd.returns (by simp) (hb hby at_196) hr
  · show Q0 Z x0 x1 x2 x3 x4 sel h0 n0 _ T42.heap _
    rw [e42]
    exact ⟨rfl, N42⟩
set_option maxRecDepth 65536 in
set_option maxHeartbeats 40000000 in
theorem comes_1 {Post : Tables → Env → Array Value → State → Outcome → State → Prop} (hpost : ∀ tb e args s v u, (limb_1_1.after args s (.returned v) u = true ∧ limb_1_2.after args s (.returned v) u = true ∧ True) → ReturnedEndW s (.returned v) u (Jvm.fieldLocs frame_1_writes args s ++ Jvm.arrayLocs frame_1_arrays args s ++ Jvm.staticLocs frame_1_statics s) 16 2176 → Post tb e args s (.returned v) u) :
    ArmFor flags0 classFile x code maxLocals ret World_1 tables_1 room_1 Calls_1 rest_1 Pre_1 Post := by
  intro l hfl _ _ p e ha hc hk s m args below hf hA hF happ hP
  obtain ⟨hcalls, hrest, hpre⟩ := hP
  obtain ⟨-, -, -, hnamed, -, -, -, hat⟩ := (Spec.applies_iff hf).mp happ
  obtain ⟨hg, hn⟩ := and_e (Cond.before_iff.mp (show (Jvm.Cond.and given_1 narrow_1).before args s = true from hpre))
  obtain ⟨gc, r0⟩ := and_e hg
  obtain ⟨g0, r1⟩ := and_e r0
  obtain ⟨g1, r2⟩ := and_e r1
  obtain ⟨g2, r3⟩ := and_e r2
  obtain ⟨g3, r4⟩ := and_e r3
  obtain ⟨g4, r5⟩ := and_e r4
  obtain ⟨w0, w1, w2, w3, w4, w5, rfl⟩ : ∃ w0 w1 w2 w3 w4 w5 : Value, args = #[w0, w1, w2, w3, w4, w5] := by
    have hs : args.size = 6 := by simpa [Cond.value, given_1] using gc
    obtain ⟨L⟩ := args
    match L, hs with
    | [w0, w1, w2, w3, w4, w5], _ => exact ⟨w0, w1, w2, w3, w4, w5, rfl⟩
  have hw := fun d (hd : d ∈ tables_1) => atoms_spec (ws := Jvm.Cond.code x code maxLocals ret :: tables_1) hat d (List.mem_cons_of_mem _ hd)
  obtain ⟨i0, ei0⟩ := is_v g0
  obtain rfl : w0 = (.int i0) := Option.some.inj ei0
  obtain ⟨i1, ei1⟩ := is_v g1
  obtain rfl : w1 = (.int i1) := Option.some.inj ei1
  obtain ⟨i2, ei2⟩ := is_v g2
  obtain rfl : w2 = (.int i2) := Option.some.inj ei2
  obtain ⟨i3, ei3⟩ := is_v g3
  obtain rfl : w3 = (.int i3) := Option.some.inj ei3
  obtain ⟨i4, ei4⟩ := is_v g4
  obtain rfl : w4 = (.int i4) := Option.some.inj ei4
  obtain ⟨i5, ei5⟩ := is_v r5
  obtain rfl : w5 = (.int i5) := Option.some.inj ei5
  obtain ⟨n, o, h1, h2, h3, _, L, rfl, ⟨rfl, N⟩, hq⟩ := rm0 l s _ hw tables_1 i0 i1 i2 i3 i4 i5 s.heap s.heap.size (Nat.le_refl _) p e ha hc hk s m _ below hf ((Spec.applies_iff_loose hf).mp happ).1 ⟨rfl, State.Warmed39.refl s, rfl⟩ trivial
  refine ⟨n, _, h1, h2, h3, hpost _ _ _ _ _ _ ⟨Cond.after_iff.mpr rfl, Cond.after_iff.mpr (eq_i res_at (Term.int_eval (1)) rfl), trivial⟩ ⟨hq.1, hq.2.1, hq.2.2.1, (hq.2.2.2.sift fun y hy => Or.inr (N y hy)).mono (by decide) (by decide)⟩⟩
theorem main_1_1 : Claimed_1_1 := comes_1 fun _ _ _ _ _ _ h hF => ⟨h.1, hF⟩
theorem main_1_2 : Claimed_1_2 := comes_1 fun _ _ _ _ _ _ h hF => ⟨h.2.1, hF⟩
end Jvm.Pilot.@@N@@
namespace Jvm.Pilot.@@N@@
open Jvm Jvm.ClassFile Sem Op Lib Jvm.Free Jvm.Stand Jvm.Pilot.@@N@@.Jvm.D
/-! MADE BY PROGRAM (witnessworld.py) out of the Statement's table words and the real class files: 15 classes; the members and pool entries that the words name. The judged class is class 1, her method 1. -/
namespace start1
open Jvm.ClassFile
def u (s : String) : CpInfo := .utf8 (stringToUtf16 s)
/-- a pool by its gaps: so many unusable entries, then the entry; so many at the end -/
def gap : Nat → List CpInfo → List CpInfo
  | 0, r => r
  | n + 1, r => .unusable :: gap n r
def poolList (es : List (Nat × CpInfo)) (last : Nat) : List CpInfo := es.foldr (fun e r => gap e.1 (e.2 :: r)) (gap last [])
def pool (es : List (Nat × CpInfo)) (last : Nat) : Array CpInfo := ⟨poolList es last⟩
def fileOf (pool : Array CpInfo) (this : Nat) (attrs : Array Attribute := #[]) (ms : Array MethodInfo := #[]) (fl : Nat := 33) (sup : Nat := 0) (ifs : Array Nat := #[]) (fds : Array FieldInfo := #[]) : ClassFile where
  minorVersion := 0
  majorVersion := 65
  constantPool := pool
  accessFlags := fl
  thisClass := this
  superClass := sup
  interfaces := ifs
  fields := fds
  methods := ms
  attributes := attrs
def plain (name : String) (sup : Option ClassId) : Class where
  name := name
  kind := .ordinary
  loader := none
  accessFlags := 33
  super := sup
  interfaces := #[]
  cf := none
  fields := #[]
  methods := #[]
  instanceTypes := #[]
  staticTypes := #[]
  resolved := #[]
  callSites := []
  init := .initialized
  statics := none
  mirror := none

def pool0 : Array CpInfo := pool [(5, u "<init>"), (0, u "()V"), (1, .class_ 10), (1, u "java/lang/Object")] 113

def k0c0 : Code := { maxStack := 0, maxLocals := 1, code := object_method_1_code, exceptionTable := #[], attributes := #[] }
def k0m0 : Method := { name := "<init>", desc := "()V", sig := { parameters := [], returnType := none }, accessFlags := 1, code := some k0c0 }
/-- java/lang/Object -/
def k0 : Class := { plain "java/lang/Object" none with
  accessFlags := 33
  interfaces := #[]
  cf := some (fileOf pool0 8 #[] #[{ accessFlags := 1, nameIndex := 5, descriptorIndex := 6, attributes := #[] }] 33 0 #[] #[])
  fields := #[]
  methods := #[k0m0]
  instanceTypes := #[]
  staticTypes := #[]
  resolved := Array.replicate 124 none
  statics := none }

def pool1 : Array CpInfo := pool [(2, .class_ 4), (1, u "java/lang/Object"), (0, u "<init>"), (0, u "()V"), (2, .integer 2147483647), (0, .class_ 11), (0, u "com/example/body_text_extractor/bodytextextractor/TextStatistics"), (0, .methodref 10 13), (0, .nameAndType 5 14), (0, u "(IIII)V"), (0, .methodref 10 16), (0, .nameAndType 17 18), (0, u "hasTextDensityOf"), (0, u "(Lcom/example/body_text_extractor/bodytextextractor/TextStatistics;)Z"), (0, .class_ 20), (0, u "com/example/body_text_extractor/bodytextextractor/TextStatisticsHasTextDensityOfPinLaw"), (2, u "law"), (0, u "(IIIIII)Z")] 3

def k1m0 : Method := { name := "<init>", desc := "()V", sig := { parameters := [], returnType := none }, accessFlags := 1, code := none }
def k1c1 : Code := { maxStack := 7, maxLocals := 18, code := code, exceptionTable := #[], attributes := #[] }
def k1m1 : Method := { name := "law", desc := "(IIIIII)Z", sig := { parameters := [.int, .int, .int, .int, .int, .int], returnType := some .boolean }, accessFlags := 9, code := some k1c1 }
/-- com/example/body_text_extractor/bodytextextractor/TextStatisticsHasTextDensityOfPinLaw -/
def k1 : Class := { plain "com/example/body_text_extractor/bodytextextractor/TextStatisticsHasTextDensityOfPinLaw" (some 0) with
  accessFlags := 49
  interfaces := #[]
  cf := some (fileOf pool1 19 #[] #[{ accessFlags := 1, nameIndex := 5, descriptorIndex := 6, attributes := #[] }, { accessFlags := 9, nameIndex := 23, descriptorIndex := 24, attributes := #[] }] 49 2 #[] #[])
  fields := #[]
  methods := #[k1m0, k1m1]
  instanceTypes := #[]
  staticTypes := #[]
  resolved := Array.replicate 28 none
  statics := none }

def pool2 : Array CpInfo := pool [(1, .methodref 2 3), (0, .class_ 4), (0, .nameAndType 5 6), (0, u "java/lang/Object"), (0, u "<init>"), (0, u "()V"), (0, .class_ 8), (0, u "java/lang/Record")] 13

def k2c0 : Code := { maxStack := 1, maxLocals := 1, code := jdk_30_method_1_code, exceptionTable := #[], attributes := #[] }
def k2m0 : Method := { name := "<init>", desc := "()V", sig := { parameters := [], returnType := none }, accessFlags := 4, code := some k2c0 }
/-- java/lang/Record -/
def k2 : Class := { plain "java/lang/Record" (some 0) with
  accessFlags := 1057
  interfaces := #[]
  cf := some (fileOf pool2 7 #[] #[{ accessFlags := 4, nameIndex := 5, descriptorIndex := 6, attributes := #[] }] 1057 2 #[] #[])
  fields := #[]
  methods := #[k2m0]
  instanceTypes := #[]
  staticTypes := #[]
  resolved := Array.replicate 22 none
  statics := none }

def pool3 : Array CpInfo := pool [(1, .methodref 2 3), (0, .class_ 4), (0, .nameAndType 5 6), (0, u "java/lang/Record"), (0, u "<init>"), (0, u "()V"), (0, .string 8), (0, u "Linked words"), (0, .methodref 10 11), (0, .class_ 12), (0, .nameAndType 13 14), (0, u "com/example/body_text_extractor/bodytextextractor/TextStatistics"), (0, u "requireUpToWords"), (0, u "(Ljava/lang/String;II)V"), (0, .string 16), (0, u "Words on kept lines"), (9, .fieldref 10 27), (0, .nameAndType 28 29), (0, u "words"), (0, u "I"), (0, .fieldref 10 31), (0, .nameAndType 32 29), (0, u "linkedWords"), (0, .fieldref 10 34), (0, .nameAndType 35 29), (0, u "wordsOnKeptLines"), (0, .fieldref 10 37), (0, .nameAndType 38 29), (0, u "keptLines"), (10, .class_ 50), (0, u "com/example/body_text_extractor/bodytextextractor/TextStatistics$Tally"), (3, .class_ 55), (0, u "com/example/body_text_extractor/bodytextextractor/TextStatistics$Token"), (70, u "(IIII)V"), (33, u "CHARACTER_WORD_SCRIPTS"), (0, u "Ljava/util/Set;"), (39, u "LINE_WIDTH"), (4, u "FIRST_CHARACTER_WORD"), (14, u "hasTextDensityOf"), (0, u "(Lcom/example/body_text_extractor/bodytextextractor/TextStatistics;)Z")] 39

def k3c0 : Code := { maxStack := 3, maxLocals := 5, code := prog_34_method_1_code, exceptionTable := #[], attributes := #[] }
def k3m0 : Method := { name := "<init>", desc := "(IIII)V", sig := { parameters := [.int, .int, .int, .int], returnType := none }, accessFlags := 1, code := some k3c0 }
def k3c1 : Code := { maxStack := 6, maxLocals := 2, code := prog_34_method_6_code, exceptionTable := #[], attributes := #[] }
def k3m1 : Method := { name := "hasTextDensityOf", desc := "(Lcom/example/body_text_extractor/bodytextextractor/TextStatistics;)Z", sig := { parameters := [(.object "com/example/body_text_extractor/bodytextextractor/TextStatistics")], returnType := some .boolean }, accessFlags := 0, code := some k3c1 }
def k3c2 : Code := { maxStack := 5, maxLocals := 3, code := prog_34_method_7_code, exceptionTable := #[], attributes := #[] }
def k3m2 : Method := { name := "requireUpToWords", desc := "(Ljava/lang/String;II)V", sig := { parameters := [(.object "java/lang/String"), .int, .int], returnType := none }, accessFlags := 10, code := some k3c2 }
/-- com/example/body_text_extractor/bodytextextractor/TextStatistics -/
def k3 : Class := { plain "com/example/body_text_extractor/bodytextextractor/TextStatistics" (some 2) with
  accessFlags := 49
  interfaces := #[]
  cf := some (fileOf pool3 10 #[.nestMembers #[49, 54]] #[{ accessFlags := 1, nameIndex := 5, descriptorIndex := 126, attributes := #[] }, { accessFlags := 0, nameIndex := 221, descriptorIndex := 222, attributes := #[] }, { accessFlags := 10, nameIndex := 13, descriptorIndex := 14, attributes := #[] }] 49 2 #[] #[{ accessFlags := 18, nameIndex := 28, descriptorIndex := 29, attributes := #[] }, { accessFlags := 18, nameIndex := 32, descriptorIndex := 29, attributes := #[] }, { accessFlags := 18, nameIndex := 35, descriptorIndex := 29, attributes := #[] }, { accessFlags := 18, nameIndex := 38, descriptorIndex := 29, attributes := #[] }, { accessFlags := 26, nameIndex := 201, descriptorIndex := 29, attributes := #[] }, { accessFlags := 26, nameIndex := 160, descriptorIndex := 161, attributes := #[] }, { accessFlags := 26, nameIndex := 206, descriptorIndex := 29, attributes := #[] }])
  fields := #[{ name := "words", type := .int, accessFlags := 18, slot := 0, constantValue := 0 }, { name := "linkedWords", type := .int, accessFlags := 18, slot := 1, constantValue := 0 }, { name := "wordsOnKeptLines", type := .int, accessFlags := 18, slot := 2, constantValue := 0 }, { name := "keptLines", type := .int, accessFlags := 18, slot := 3, constantValue := 0 }, { name := "LINE_WIDTH", type := .int, accessFlags := 26, slot := 0, constantValue := 0 }, { name := "CHARACTER_WORD_SCRIPTS", type := (.object "java/util/Set"), accessFlags := 26, slot := 1, constantValue := 0 }, { name := "FIRST_CHARACTER_WORD", type := .int, accessFlags := 26, slot := 2, constantValue := 0 }]
  methods := #[k3m0, k3m1, k3m2]
  instanceTypes := #[.int, .int, .int, .int]
  staticTypes := #[.int, (.object "java/util/Set"), .int]
  resolved := Array.replicate 262 none
  statics := none }

def pool4 : Array CpInfo := pool [(1, .class_ 2), (0, u "java/io/Serializable"), (0, .class_ 4), (0, u "java/lang/Object")] 2

/-- java/io/Serializable -/
def k4 : Class := { plain "java/io/Serializable" (some 0) with
  accessFlags := 1537
  interfaces := #[]
  cf := some (fileOf pool4 1 #[] #[] 1537 3 #[] #[])
  fields := #[]
  methods := #[]
  instanceTypes := #[]
  staticTypes := #[]
  resolved := Array.replicate 7 none
  statics := none }

def pool5 : Array CpInfo := pool [(1, .class_ 2), (0, u "java/lang/Comparable"), (0, .class_ 4), (0, u "java/lang/Object")] 7

/-- java/lang/Comparable -/
def k5 : Class := { plain "java/lang/Comparable" (some 0) with
  accessFlags := 1537
  interfaces := #[]
  cf := some (fileOf pool5 1 #[] #[] 1537 3 #[] #[])
  fields := #[]
  methods := #[]
  instanceTypes := #[]
  staticTypes := #[]
  resolved := Array.replicate 12 none
  statics := none }

def pool6 : Array CpInfo := pool [(2, .class_ 4), (1, u "java/lang/CharSequence"), (42, .class_ 48), (0, u "java/lang/CharSequence$1CodePointIterator"), (10, .class_ 60), (0, u "java/lang/CharSequence$1CharIterator"), (5, .class_ 67), (0, u "java/lang/Object")] 63

/-- java/lang/CharSequence -/
def k6 : Class := { plain "java/lang/CharSequence" (some 0) with
  accessFlags := 1537
  interfaces := #[]
  cf := some (fileOf pool6 2 #[.nestMembers #[47, 59]] #[] 1537 66 #[] #[])
  fields := #[]
  methods := #[]
  instanceTypes := #[]
  staticTypes := #[]
  resolved := Array.replicate 131 none
  statics := none }

def pool7 : Array CpInfo := pool [(1, .class_ 2), (0, u "java/lang/constant/Constable"), (0, .class_ 4), (0, u "java/lang/Object")] 6

/-- java/lang/constant/Constable -/
def k7 : Class := { plain "java/lang/constant/Constable" (some 0) with
  accessFlags := 1537
  interfaces := #[]
  cf := some (fileOf pool7 1 #[] #[] 1537 3 #[] #[])
  fields := #[]
  methods := #[]
  instanceTypes := #[]
  staticTypes := #[]
  resolved := Array.replicate 11 none
  statics := none }

def pool8 : Array CpInfo := pool [(1, .class_ 2), (0, u "java/lang/constant/ConstantDesc"), (0, .class_ 4), (0, u "java/lang/Object")] 32

/-- java/lang/constant/ConstantDesc -/
def k8 : Class := { plain "java/lang/constant/ConstantDesc" (some 0) with
  accessFlags := 1537
  interfaces := #[]
  cf := some (fileOf pool8 1 #[] #[] 1537 3 #[] #[])
  fields := #[]
  methods := #[]
  instanceTypes := #[]
  staticTypes := #[]
  resolved := Array.replicate 37 none
  statics := none }

def pool9 : Array CpInfo := pool [(2, .class_ 4), (1, u "java/lang/Object"), (0, u "<init>"), (0, u "()V"), (3, .class_ 12), (1, u "java/lang/String"), (0, u "value"), (0, u "[B"), (2, u "coder"), (0, u "B"), (2, u "hash"), (0, u "I"), (2, u "hashIsZero"), (0, u "Z"), (13, u "COMPACT_STRINGS"), (534, .class_ 576), (0, u "java/lang/CharSequence"), (22, u "CASE_INSENSITIVE_ORDER"), (0, u "Ljava/util/Comparator;"), (500, u "serialPersistentFields"), (0, u "[Ljava/io/ObjectStreamField;"), (0, .class_ 1104), (0, u "java/lang/String$CaseInsensitiveComparator"), (1, .class_ 1107), (0, u "java/io/Serializable"), (0, .class_ 1109), (0, u "java/lang/Comparable"), (0, .class_ 1111), (0, u "java/lang/constant/Constable"), (0, .class_ 1113), (0, u "java/lang/constant/ConstantDesc"), (2, u "serialVersionUID"), (0, u "J"), (3, u "REPL"), (0, u "C"), (2, u "LATIN1"), (1, u "UTF16")] 323

def k9m0 : Method := { name := "<init>", desc := "()V", sig := { parameters := [], returnType := none }, accessFlags := 1, code := none }
/-- java/lang/String -/
def k9 : Class := { plain "java/lang/String" (some 0) with
  accessFlags := 49
  interfaces := #[4, 5, 6, 7, 8]
  cf := some (fileOf pool9 10 #[.nestMembers #[1103]] #[{ accessFlags := 1, nameIndex := 5, descriptorIndex := 6, attributes := #[] }] 49 2 #[1106, 1108, 575, 1110, 1112] #[{ accessFlags := 18, nameIndex := 13, descriptorIndex := 14, attributes := #[] }, { accessFlags := 18, nameIndex := 17, descriptorIndex := 18, attributes := #[] }, { accessFlags := 2, nameIndex := 21, descriptorIndex := 22, attributes := #[] }, { accessFlags := 2, nameIndex := 25, descriptorIndex := 26, attributes := #[] }, { accessFlags := 26, nameIndex := 1116, descriptorIndex := 1117, attributes := #[] }, { accessFlags := 24, nameIndex := 40, descriptorIndex := 26, attributes := #[] }, { accessFlags := 26, nameIndex := 1101, descriptorIndex := 1102, attributes := #[] }, { accessFlags := 26, nameIndex := 1121, descriptorIndex := 1122, attributes := #[] }, { accessFlags := 25, nameIndex := 599, descriptorIndex := 600, attributes := #[] }, { accessFlags := 24, nameIndex := 1125, descriptorIndex := 18, attributes := #[] }, { accessFlags := 24, nameIndex := 1127, descriptorIndex := 18, attributes := #[] }])
  fields := #[{ name := "value", type := (.array .byte), accessFlags := 18, slot := 0, constantValue := 0 }, { name := "coder", type := .byte, accessFlags := 18, slot := 1, constantValue := 0 }, { name := "hash", type := .int, accessFlags := 2, slot := 2, constantValue := 0 }, { name := "hashIsZero", type := .boolean, accessFlags := 2, slot := 3, constantValue := 0 }, { name := "serialVersionUID", type := .long, accessFlags := 26, slot := 0, constantValue := 0 }, { name := "COMPACT_STRINGS", type := .boolean, accessFlags := 24, slot := 1, constantValue := 0 }, { name := "serialPersistentFields", type := (.array (.object "java/io/ObjectStreamField")), accessFlags := 26, slot := 2, constantValue := 0 }, { name := "REPL", type := .char, accessFlags := 26, slot := 3, constantValue := 0 }, { name := "CASE_INSENSITIVE_ORDER", type := (.object "java/util/Comparator"), accessFlags := 25, slot := 4, constantValue := 0 }, { name := "LATIN1", type := .byte, accessFlags := 24, slot := 5, constantValue := 0 }, { name := "UTF16", type := .byte, accessFlags := 24, slot := 6, constantValue := 0 }]
  methods := #[k9m0]
  instanceTypes := #[(.array .byte), .byte, .int, .boolean]
  staticTypes := #[.long, .boolean, (.array (.object "java/io/ObjectStreamField")), .char, (.object "java/util/Comparator"), .byte, .byte]
  resolved := Array.replicate 1451 none
  statics := none }

def pool10 : Array CpInfo := pool [(1, u "java/lang/Cloneable"), (0, .class_ 1), (0, u "java/lang/Object"), (0, .class_ 3)] 3

/-- java/lang/Cloneable -/
def k10 : Class := { plain "java/lang/Cloneable" (some 0) with
  accessFlags := 1537
  interfaces := #[]
  cf := some (fileOf pool10 2 #[] #[] 1537 4 #[] #[])
  fields := #[]
  methods := #[]
  instanceTypes := #[]
  staticTypes := #[]
  resolved := Array.replicate 8 none
  statics := none }

/-- the primitive byte -/
def k11 : Class := { plain "byte" none with kind := .primitive 'B', accessFlags := 0x411 }
/-- [B -/
def k12 : Class := { plain "[B" (some 0) with kind := .array 11 .byte, interfaces := #[10, 4], accessFlags := 1041 }

/-- the primitive int -/
def k13 : Class := { plain "int" none with kind := .primitive 'I', accessFlags := 0x411 }
/-- [I -/
def k14 : Class := { plain "[I" (some 0) with kind := .array 13 .int, interfaces := #[10, 4], accessFlags := 1041 }

def heap : Heap := #[]
def classes : Array Class := #[k0, k1, k2, k3, k4, k5, k6, k7, k8, k9, k10, k11, k12, k13, k14]
def interned : List (Array UInt16 × Addr) := []
def slotsUsed : Nat := 0
def theMethod : MethodId := ⟨1, 1⟩
def args0 : Array Value := #[.int 5, .int 6, .int 7, .int 8, .int 9, .int 10]
def aboutOver (below : List Frame) : State where
  vm := { classes := classes, interned := interned.toArray }
  heap := heap
  slotsUsed := slotsUsed
  threads := #[{ frames := .invoking theMethod args0 :: below }]
def below0 : List Frame := [.native { method := ⟨0, 0⟩, args := #[] }]
def about1 : State := aboutOver below0
def p0 : Program := .bare "" "" ""
def e0 : Env := launch0.env 0 0 0
theorem w_frames : about1.frames = Frame.invoking theMethod args0 :: below0 := rfl
set_option maxRecDepth 65536 in
theorem w_args : argsFit about1.vm theMethod args0 = true := by decide +kernel
set_option maxRecDepth 65536 in
theorem w_heap : heapFits about1 = true := by decide +kernel
set_option maxRecDepth 65536 in
theorem w_runnable : about1.curStatus? = some .runnable := by decide +kernel
set_option maxRecDepth 65536 in
theorem w_alone : about1.alone = true := by decide +kernel
set_option maxRecDepth 65536 in
theorem w_named : about1.methodNamed? x = some theMethod := by decide +kernel
set_option maxRecDepth 65536 in
theorem w_hears : about1.hears theMethod below0 = true := by decide +kernel
set_option maxRecDepth 65536 in
theorem w_ripe : about1.ripe theMethod args0 below0 = true := by decide +kernel
theorem w_running : about1.status = .running := rfl
set_option maxRecDepth 65536 in
theorem w_room : about1.hasRoom e0.platform room_1 = true :=
  launch0.hasRoom_least _ room_1 (by decide +kernel) (by decide +kernel) (by decide +kernel) (by decide +kernel) (by decide +kernel) (by decide +kernel)
theorem allAtoms_all (ts : List Jvm.Cond) (a : Array Jvm.Value) (st : Jvm.State) : (allAtoms ts).before a st = ts.all (fun c => c.before a st) := by
  induction ts with
  | nil => rfl
  | cons c t ih =>
    show (Jvm.Cond.and c (allAtoms t)).before a st = _
    rw [Jvm.Cond.before_and, ih, List.all_cons]
def words1 : List Jvm.Cond := Jvm.Cond.code x code maxLocals ret :: tables_1
/-- a 'code' word, met by the world's own term for the bytes: nothing is compared byte by byte -/
theorem code_word {y : MethodName} {bytes : ByteArray} {mx : Nat} {rt : Option FieldType} {a : Array Value} {s : State} {m : MethodId} {meth : Method} {c : Code} (h1 : s.methodNamed? y = some m) (h2 : s.vm.method? m = some meth) (h3 : meth.code = some c) (h4 : c.code = bytes)
    (h5 : (c.maxLocals == mx && c.exceptionTable.isEmpty && decide (c.maxStack ≤ mostOperands) && decide (meth.sig.returnType = rt) && !meth.locks && decide (parseMethodDescriptor y.desc = some meth.sig)) = true) : (Jvm.Cond.code y bytes mx rt).before a s = true := by
  simp only [Bool.and_eq_true, beq_iff_eq, Bool.not_eq_true', decide_eq_true_eq] at h5
  obtain ⟨⟨⟨⟨⟨g1, g2⟩, g3⟩, g4⟩, g5⟩, g6⟩ := h5
  simp [Cond.before, Cond.holds, Cond.value, h1, h2, h3, h4, g1, g2, g3, g4, g5, g6]
def isCode : Jvm.Cond → Bool
  | .code _ _ _ _ => true
  | _ => false
theorem all_split {L : List Jvm.Cond} {P : Jvm.Cond → Bool} (h1 : L.all (fun c => isCode c || P c) = true) (h2 : ∀ c ∈ L.filter isCode, P c = true) : L.all P = true := by
  refine List.all_eq_true.mpr fun c hc => ?_
  have h := List.all_eq_true.mp h1 c hc
  rcases Bool.eq_false_or_eq_true (isCode c) with hi | hi
  · exact h2 c (List.mem_filter.mpr ⟨hc, hi⟩)
  · simpa [hi] using h
set_option maxRecDepth 65536 in
theorem w_c0 : (Jvm.Cond.code x code maxLocals ret).before args0 about1 = true := code_word (m := ⟨1, 1⟩) (meth := k1m1) (c := k1c1) (by decide +kernel) rfl rfl rfl (by decide +kernel)
set_option maxRecDepth 65536 in
theorem w_c1 : (Jvm.Cond.code ({ cls := "com/example/body_text_extractor/bodytextextractor/TextStatistics", name := "<init>", desc := "(IIII)V" } : Jvm.MethodName) prog_34_method_1_code (5 : Nat) (Option.none : Option Jvm.ClassFile.FieldType)).before args0 about1 = true := code_word (m := ⟨3, 0⟩) (meth := k3m0) (c := k3c0) (by decide +kernel) rfl rfl rfl (by decide +kernel)
set_option maxRecDepth 65536 in
theorem w_c2 : (Jvm.Cond.code ({ cls := "java/lang/Record", name := "<init>", desc := "()V" } : Jvm.MethodName) jdk_30_method_1_code (1 : Nat) (Option.none : Option Jvm.ClassFile.FieldType)).before args0 about1 = true := code_word (m := ⟨2, 0⟩) (meth := k2m0) (c := k2c0) (by decide +kernel) rfl rfl rfl (by decide +kernel)
set_option maxRecDepth 65536 in
theorem w_c3 : (Jvm.Cond.code ({ cls := "java/lang/Object", name := "<init>", desc := "()V" } : Jvm.MethodName) object_method_1_code (1 : Nat) (Option.none : Option Jvm.ClassFile.FieldType)).before args0 about1 = true := code_word (m := ⟨0, 0⟩) (meth := k0m0) (c := k0c0) (by decide +kernel) rfl rfl rfl (by decide +kernel)
set_option maxRecDepth 65536 in
theorem w_c4 : (Jvm.Cond.code ({ cls := "com/example/body_text_extractor/bodytextextractor/TextStatistics", name := "requireUpToWords", desc := "(Ljava/lang/String;II)V" } : Jvm.MethodName) prog_34_method_7_code (3 : Nat) (Option.none : Option Jvm.ClassFile.FieldType)).before args0 about1 = true := code_word (m := ⟨3, 2⟩) (meth := k3m2) (c := k3c2) (by decide +kernel) rfl rfl rfl (by decide +kernel)
set_option maxRecDepth 65536 in
theorem w_c5 : (Jvm.Cond.code ({ cls := "com/example/body_text_extractor/bodytextextractor/TextStatistics", name := "hasTextDensityOf", desc := "(Lcom/example/body_text_extractor/bodytextextractor/TextStatistics;)Z" } : Jvm.MethodName) prog_34_method_6_code (2 : Nat) (Option.some Jvm.ClassFile.FieldType.boolean)).before args0 about1 = true := code_word (m := ⟨3, 1⟩) (meth := k3m1) (c := k3c1) (by decide +kernel) rfl rfl rfl (by decide +kernel)
def codes1 : List Jvm.Cond := [Jvm.Cond.code x code maxLocals ret, Jvm.Cond.code ({ cls := "com/example/body_text_extractor/bodytextextractor/TextStatistics", name := "<init>", desc := "(IIII)V" } : Jvm.MethodName) prog_34_method_1_code (5 : Nat) (Option.none : Option Jvm.ClassFile.FieldType), Jvm.Cond.code ({ cls := "java/lang/Record", name := "<init>", desc := "()V" } : Jvm.MethodName) jdk_30_method_1_code (1 : Nat) (Option.none : Option Jvm.ClassFile.FieldType), Jvm.Cond.code ({ cls := "java/lang/Object", name := "<init>", desc := "()V" } : Jvm.MethodName) object_method_1_code (1 : Nat) (Option.none : Option Jvm.ClassFile.FieldType), Jvm.Cond.code ({ cls := "com/example/body_text_extractor/bodytextextractor/TextStatistics", name := "requireUpToWords", desc := "(Ljava/lang/String;II)V" } : Jvm.MethodName) prog_34_method_7_code (3 : Nat) (Option.none : Option Jvm.ClassFile.FieldType), Jvm.Cond.code ({ cls := "com/example/body_text_extractor/bodytextextractor/TextStatistics", name := "hasTextDensityOf", desc := "(Lcom/example/body_text_extractor/bodytextextractor/TextStatistics;)Z" } : Jvm.MethodName) prog_34_method_6_code (2 : Nat) (Option.some Jvm.ClassFile.FieldType.boolean)]
set_option maxRecDepth 65536 in
theorem codes_eq : words1.filter isCode = codes1 := rfl
theorem w_codes : ∀ c ∈ words1.filter isCode, c.before args0 about1 = true := by
  rw [codes_eq]
  intro c hc
  simp only [codes1, List.mem_cons, List.not_mem_nil, or_false] at hc
  rcases hc with rfl | rfl | rfl | rfl | rfl | rfl
  · exact w_c0
  · exact w_c1
  · exact w_c2
  · exact w_c3
  · exact w_c4
  · exact w_c5
set_option maxRecDepth 65536 in
theorem w_t1 : (words1.take 24).all (fun c => isCode c || c.before args0 about1) = true := by decide +kernel
set_option maxRecDepth 65536 in
theorem w_t2 : (words1.drop 24).all (fun c => isCode c || c.before args0 about1) = true := by decide +kernel
theorem w_tables : (allAtoms (Jvm.Cond.code x code maxLocals ret :: tables_1)).before args0 about1 = true := by
  rw [allAtoms_all]
  show words1.all (fun c => c.before args0 about1) = true
  refine all_split ?_ w_codes
  rw [← List.take_append_drop 24 words1, List.all_append, w_t1, w_t2]
  rfl
set_option maxRecDepth 65536 in
theorem w_case : (Jvm.Cond.and given_1 narrow_1).before args0 about1 = true := by decide +kernel
theorem w_applies : (headSpec (Jvm.Cond.code x code maxLocals ret :: tables_1) room_1).applies x e0.platform about1 = true :=
  (Spec.applies_iff w_frames).mpr ⟨w_running, w_runnable, w_alone, w_named, w_hears, w_ripe, w_room, w_tables⟩
theorem atStart : AtStart classFile x code maxLocals ret World_1 tables_1 room_1 Calls_1 rest_1 Pre_1 launch0 p0 e0 about1 theMethod args0 below0 :=
  ⟨lists_1, trivial, launch0.admits_env _ _ _, launch0.least_env, fairChoices_fair.cas, fairChoices_fair.clock, w_frames, w_args, w_heap, w_applies, trivial, trivial, w_case⟩
end start1
theorem witness_1 : WitnessClaimed_1 := ⟨start1.p0, start1.e0, start1.about1, start1.theMethod, start1.args0, start1.below0, start1.atStart⟩
end Jvm.Pilot.@@N@@

import JvmDerived
import JvmDerived.Pilot.@@N@@Statement
import JvmDerived.Pilot.@@N@@Code
set_option linter.unusedVariables false
set_option linter.unusedSimpArgs false
namespace Jvm.RoadKit
open Sem ClassFile Op Lib Jvm.Stand Jvm.Free Jvm.LawKit
section New
variable {p : Program} {l : Launch} {e : Env} {R : Room} {s : State} {m : MethodId} {args : Array Value} {below : List Frame} {meth : Method} {c : Code} {T : State} {locs : List Loc} {cells slots : Nat}
theorem retI (X : Stand p l e R s m args below meth c T locs cells slots) (hx : p.tables.exec = Jvm.exec) {pc : Nat} {Ls : Array Slot} {z : Int32} {rest : List Value} (hret : meth.sig.returnType = some .int) (hd : decode c.code pc = .ok (.ireturn, 1)) {fs : List Frame}
    (hl : ∀ (f : JFrame) (acts : List Action), f.method = m → f.locked = none → f.entered = [] → (doReturn e (T.setTop f) acts (some (.int z))).1 = T.setFrames fs) : Steps p.tables e below (T.setTop (mkF m pc Ls (.int z :: rest))) (T.setFrames fs) := by
  have hm' : T.vm.method? m = some meth := X.method'
  have hn : narrow .int (.int z) = .int z := rfl
  show Steps p.tables e below (T.setTop { method := m, pc := pc, locals := Ls, stack := _ :: rest, locked := none }) _
  jvm_step X.here [X.here.top, hx, hd, hm', hret, hn]
  first | (intro acts; rw [hl _ acts rfl rfl rfl]) | rw [hl _ _ rfl rfl rfl]
  exact Steps.refl _
end New
end Jvm.RoadKit
namespace Jvm.Pilot.@@N@@
open Jvm Jvm.ClassFile Sem Op Lib Jvm.Free Jvm.Stand Jvm.LawKit Jvm.RoadKit Bundle Jvm.Pilot.@@N@@.Jvm.D
theorem own_ti {n : Nat} (hn : n ≤ 255) : (Int32.ofNat n).toInt = n := Int32.toInt_ofNat_of_lt (by omega)
theorem own_lt {i n : Nat} (hi : i ≤ 255) (hn : n ≤ 255) : Int32.ofNat i < Int32.ofNat n ↔ i < n := by
  rw [Int32.lt_iff_toInt_lt, own_ti hi, own_ti hn]; omega
theorem own_nn {n : Nat} (hn : n ≤ 255) : ¬ Int32.ofNat n < 0 := by
  rw [Int32.lt_iff_toInt_lt, own_ti hn, show (0 : Int32).toInt = 0 from rfl]; omega
theorem own_n32 {n : Nat} (hn : n ≤ 255) : (Int32.ofNat n).toNatClampNeg = n := by
  rw [Int32.toNatClampNeg, own_ti hn]; rfl
theorem own_add (i j : Nat) : Int32.ofNat i + Int32.ofNat j = Int32.ofNat (i + j) := (Int32.ofNat_add i j).symm
theorem own_one (i : Nat) : Int32.ofNat i + (1 : Int32) = Int32.ofNat (i + 1) := (Int32.ofNat_add i 1).symm
theorem own_of {x : Int32} {n : Nat} (hn : n ≤ 255) (h : x.toInt = n) : x = Int32.ofNat n := Int32.toInt_inj.mp (by rw [h, own_ti hn])
/-- the array at a has n places, and place j holds F j -/
def own_V (Z : State) (h : Heap) (a : Addr) (ty : FieldType) (n : Nat) (F : Nat → Value) : Prop := ∃ c : Cell, Arr Z h a c ty ∧ c.slots.size = n ∧ ∀ j, j < n → c.slots[j]? = some (F j)
theorem own_V.keep {Z : State} {h h' : Heap} {a : Addr} {ty : FieldType} {n : Nat} {F : Nat → Value} {ws : List Addr} (V : own_V Z h a ty n F) (K : Keep h h' ws) (q : a ∉ ws) : own_V Z h' a ty n F := by
  obtain ⟨c, A, r⟩ := V; exact ⟨c, ⟨K.2.1 a c A.1 q, A.2⟩, r⟩
theorem own_V.lt {Z : State} {h : Heap} {a : Addr} {ty : FieldType} {n : Nat} {F : Nat → Value} (V : own_V Z h a ty n F) : a < h.size := by obtain ⟨c, A, r⟩ := V; exact A.lt
theorem own_V.eqv {Z : State} {h : Heap} {a : Addr} {ty : FieldType} {n : Nat} {F G : Nat → Value} (V : own_V Z h a ty n F) (q : ∀ j, j < n → F j = G j) : own_V Z h a ty n G := by
  obtain ⟨c, A, r1, r2⟩ := V; exact ⟨c, A, r1, fun j hj => by rw [← q j hj]; exact r2 j hj⟩
theorem own_inb {c : Cell} {n i : Nat} (S : c.slots.size = n) (hi : i < n) (hn : n ≤ 255) : ¬ (Int32.ofNat i < 0 ∨ c.slots.size ≤ (Int32.ofNat i).toNatClampNeg) := by
  rw [own_n32 (by omega), S]; intro q; rcases q with q | q
  · exact own_nn (by omega) q
  · omega
theorem own_hat {c : Cell} {n i : Nat} {F : Nat → Value} (H : ∀ j, j < n → c.slots[j]? = some (F j)) (hi : i < n) (hn : n ≤ 255) : c.slots[(Int32.ofNat i).toNatClampNeg]? = some (F i) := by
  rw [own_n32 (by omega)]; exact H i hi
theorem own_set {Z : State} {h : Heap} {a : Addr} {c : Cell} {ty : FieldType} {n i : Nat} {F : Nat → Value} {v : Value} (A : Arr Z h a (c.setSlot (Int32.ofNat i).toNatClampNeg v) ty) (S : c.slots.size = n) (H : ∀ j, j < n → c.slots[j]? = some (F j)) (hi : i < n) (hn : n ≤ 255) : own_V Z h a ty n (fun j => if j = i then v else F j) := by
  rw [own_n32 (by omega)] at A
  refine ⟨_, A, by rw [sz_set]; exact S, fun j hj => ?_⟩
  show (c.slots.setIfInBounds i v)[j]? = some (if j = i then v else F j)
  rw [Array.getElem?_setIfInBounds]
  by_cases q : j = i
  · subst q; simp [S, hj]
  · rw [if_neg (fun e => q e.symm), if_neg q]; exact H j hj
theorem own_mask (x m : Int32) (k : Nat) (hk : k ≤ 7) (hm : m.toBitVec.toNat = 2 ^ k - 1) : ∃ n : Nat, n < 2 ^ k ∧ (x &&& m) = Int32.ofNat n := by
  have h := c_mask x m k (by omega) hm
  have p : 2 ^ k ≤ 128 := Nat.pow_le_pow_right (n := 2) (by decide) hk
  have p0 : 0 < 2 ^ k := Nat.pow_pos (by decide)
  refine ⟨(x.toInt % ((2 ^ k : Nat) : Int)).toNat, ?_, own_of ?_ ?_⟩ <;> generalize 2 ^ k = P at * <;> have q1 := Int.emod_nonneg x.toInt (b := (P : Int)) (by omega) <;> have q2 := Int.emod_lt_of_pos x.toInt (b := (P : Int)) (by omega) <;> omega
def own_min (x y : Int32) : Int32 := if y < x then y else x
theorem own_minN {i n : Nat} (hi : i ≤ 255) (hn : n ≤ 255) : own_min (Int32.ofNat i) (Int32.ofNat n) = Int32.ofNat (min i n) := by
  unfold own_min
  by_cases h : n < i
  · rw [if_pos ((own_lt hn hi).mpr h), Nat.min_eq_right (by omega)]
  · rw [if_neg (fun q => h ((own_lt hn hi).mp q)), Nat.min_eq_left (by omega)]
theorem own_mid {i n : Nat} (h : i + n ≤ 255) : (((Int32.ofNat i + Int32.ofNat n).toUInt32 >>> ((1 : Int32) &&& 31).toUInt32).toInt32) = Int32.ofNat ((i + n) / 2) := by
  refine own_of (by omega) ?_
  rw [c_iushr _ 1 1 (by decide) (by decide), own_add, own_ti h]
  show ((i + n : Nat) : Int) % 4294967296 / 2 = _
  omega
theorem own_two (n : Nat) : Int32.ofNat n * (2 : Int32) = Int32.ofNat (n * 2) := (Int32.ofNat_mul n 2).symm
def own_at (F : Nat → Int32) (i A B : Nat) (num r : Int32) : Int32 := if A ≤ i ∧ i < B ∧ ¬ F i < num then Int32.ofNat i else r
def own_e (x B n : Nat) : Nat := if n ≤ x then x else if n ≤ B then n else B
theorem own_e8 {x B : Nat} (h1 : x ≤ B) (h2 : B ≤ 8) : own_e x B 8 = B := by unfold own_e; split <;> (try split) <;> omega
theorem own_e0 (x B : Nat) : own_e x B 0 = x := if_pos (Nat.zero_le _)
theorem own_step {F : Nat → Int32} {A B x : Nat} {num : Int32} (h1 : A ≤ x) (h2 : x ≤ B) (h3 : ∀ j, A ≤ j → j < x → F j < num) (h4 : ∀ j, x ≤ j → j < B → ¬ F j < num) (i : Nat) : own_at F i A B num (Int32.ofNat (own_e x B (i + 1))) = Int32.ofNat (own_e x B i) := by
  unfold own_at
  by_cases c : A ≤ i ∧ i < B ∧ ¬ F i < num
  · rw [if_pos c]
    have hx : x ≤ i := Nat.not_lt.mp (fun q => c.2.2 (h3 i c.1 q))
    congr 1; unfold own_e; split <;> (try split) <;> omega
  · rw [if_neg c]
    congr 1
    by_cases q : i < x
    · unfold own_e; rw [if_pos (by omega), if_pos (by omega)]
    · have hB : ¬ i < B := fun r => c ⟨by omega, r, h4 i (by omega) r⟩
      unfold own_e; rw [if_neg (by omega), if_neg (by omega)]; split <;> (try split) <;> omega
def own_F (v0 v1 v2 v3 v4 v5 v6 v7 : Int32) : Nat → Int32
  | 0 => v0
  | 1 => v1
  | 2 => v2
  | 3 => v3
  | 4 => v4
  | 5 => v5
  | 6 => v6
  | _ => v7
theorem own_ofA {Z : State} {h : Heap} {a : Addr} {k : ClassId} {v0 v1 v2 v3 v4 v5 v6 v7 : Int32} {d : Value} (V : Arv Z h a k .int (8 : Int32) [(.int v0), (.int v1), (.int v2), (.int v3), (.int v4), (.int v5), (.int v6), (.int v7)] d) : own_V Z h a .int 8 (fun j => .int (own_F v0 v1 v2 v3 v4 v5 v6 v7 j)) := by
  obtain ⟨c, A, -, S, -, H, -⟩ := V
  have S8 : c.slots.size = 8 := S
  refine ⟨c, A, S8, fun j hj => ?_⟩
  rw [H j (by omega)]
  match j, hj with
  | 0, _ => rfl
  | 1, _ => rfl
  | 2, _ => rfl
  | 3, _ => rfl
  | 4, _ => rfl
  | 5, _ => rfl
  | 6, _ => rfl
  | 7, _ => rfl
theorem own_up {v w g : Int32} (h : w = (v + (1 : Int32)) + (g &&& (15 : Int32))) (hv : v.toInt ≤ 2147483631) : v.toInt < w.toInt ∧ w.toInt ≤ v.toInt + 16 := by
  subst h
  have h1 := c_mask g 15 4 (by decide) (by decide)
  have h2 := c_iadd v 1
  have h3 := c_iadd (v + (1 : Int32)) (g &&& (15 : Int32))
  have r1 := rng32 (v + (1 : Int32))
  have r2 := rng32 ((v + (1 : Int32)) + (g &&& (15 : Int32)))
  have r0 := rng32 v
  rw [show (1 : Int32).toInt = 1 from rfl] at h2
  rw [show ((2 ^ 4 : Nat) : Int) = 16 from rfl] at h1
  omega
theorem own_mono (F : Nat → Int32) (h : ∀ i, i < 7 → (F i).toInt < (F (i + 1)).toInt) : ∀ i j, i < j → j < 8 → F i < F j := by
  intro i j hij
  induction j with
  | zero => omega
  | succ j ih =>
    intro hj
    rw [Int32.lt_iff_toInt_lt]
    by_cases q : i = j
    · subst q; exact h i (by omega)
    · have := ih (by omega) (by omega)
      rw [Int32.lt_iff_toInt_lt] at this
      have := h j (by omega)
      omega
theorem own_sorted {v0 v1 v2 v3 v4 v5 v6 v7 g1 g2 g3 g4 g5 g6 g7 : Int32} (h0 : v0.toInt ≤ 2147483527) (h1 : v1 = (v0 + (1 : Int32)) + (g1 &&& (15 : Int32))) (h2 : v2 = (v1 + (1 : Int32)) + (g2 &&& (15 : Int32))) (h3 : v3 = (v2 + (1 : Int32)) + (g3 &&& (15 : Int32))) (h4 : v4 = (v3 + (1 : Int32)) + (g4 &&& (15 : Int32))) (h5 : v5 = (v4 + (1 : Int32)) + (g5 &&& (15 : Int32))) (h6 : v6 = (v5 + (1 : Int32)) + (g6 &&& (15 : Int32))) (h7 : v7 = (v6 + (1 : Int32)) + (g7 &&& (15 : Int32))) :
    ∀ i j, i < j → j < 8 → own_F v0 v1 v2 v3 v4 v5 v6 v7 i < own_F v0 v1 v2 v3 v4 v5 v6 v7 j := by
  have q1 := own_up h1 (by omega)
  have q2 := own_up h2 (by omega)
  have q3 := own_up h3 (by omega)
  have q4 := own_up h4 (by omega)
  have q5 := own_up h5 (by omega)
  have q6 := own_up h6 (by omega)
  have q7 := own_up h7 (by omega)
  refine own_mono _ fun i hi => ?_
  match i, hi with
  | 0, _ => exact q1.1
  | 1, _ => exact q2.1
  | 2, _ => exact q3.1
  | 3, _ => exact q4.1
  | 4, _ => exact q5.1
  | 5, _ => exact q6.1
  | 6, _ => exact q7.1
theorem own_v0 (b : Int32) : (own_min b (2147483527 : Int32)).toInt ≤ 2147483527 := by
  unfold own_min
  split
  · decide
  · rename_i h; rw [Int32.lt_iff_toInt_lt, show (2147483527 : Int32).toInt = 2147483527 from rfl] at h; omega
theorem own_pos (x : Int32) : 0 ≤ (x &&& (2147483647 : Int32)).toInt := (c_and x 2147483647 (by decide)).1
theorem own_from (x : Int32) : ∃ A : Nat, A ≤ 8 ∧ ((x &&& (2147483647 : Int32)) % (9 : Int32)) = Int32.ofNat A := by
  have h := own_pos x
  have q := (c_iremV (x &&& (2147483647 : Int32)) 9).1 h (by decide)
  rw [show (9 : Int32).toInt = 9 from rfl] at q
  exact ⟨((x &&& (2147483647 : Int32)) % (9 : Int32)).toInt.toNat, by omega, own_of (by omega) (by omega)⟩
theorem own_nine {A : Nat} (hA : A ≤ 8) : (9 : Int32) - Int32.ofNat A = Int32.ofNat (9 - A) := by
  refine own_of (by omega) ?_
  have h := c_isub 9 (Int32.ofNat A)
  have r := rng32 ((9 : Int32) - Int32.ofNat A)
  rw [own_ti (by omega), show (9 : Int32).toInt = 9 from rfl] at h
  omega
theorem own_nz {A : Nat} (hA : A ≤ 8) : ¬ ((9 : Int32) - Int32.ofNat A = 0) := fun e => by
  rw [own_nine hA] at e
  have q := congrArg Int32.toInt e
  rw [own_ti (by omega), show (0 : Int32).toInt = 0 from rfl] at q
  omega
theorem own_to (x : Int32) {A : Nat} (hA : A ≤ 8) : ∃ B : Nat, A ≤ B ∧ B ≤ 8 ∧ (Int32.ofNat A + ((x &&& (2147483647 : Int32)) % ((9 : Int32) - Int32.ofNat A))) = Int32.ofNat B := by
  have h := own_pos x
  have q := (c_iremV (x &&& (2147483647 : Int32)) ((9 : Int32) - Int32.ofNat A)).1 h (by rw [own_nine hA, own_ti (by omega)]; omega)
  rw [own_nine hA, own_ti (by omega)] at q
  rw [own_nine hA]
  have e : ((x &&& (2147483647 : Int32)) % Int32.ofNat (9 - A)) = Int32.ofNat ((x &&& (2147483647 : Int32)) % Int32.ofNat (9 - A)).toInt.toNat := own_of (by omega) (by omega)
  refine ⟨A + ((x &&& (2147483647 : Int32)) % Int32.ofNat (9 - A)).toInt.toNat, by omega, by omega, ?_⟩
  rw [← own_add, ← e]
theorem d1_0 : decode jdk_29_method_69_code 0 = .ok (.iload_n 0, 1) := by decide +kernel
theorem d1_1 : decode jdk_29_method_69_code 1 = .ok (.iload_n 1, 1) := by decide +kernel
theorem d1_2 : decode jdk_29_method_69_code 2 = .ok (.if_icmp .gt 7, 3) := by decide +kernel
theorem d1_5 : decode jdk_29_method_69_code 5 = .ok (.iload_n 0, 1) := by decide +kernel
theorem d1_6 : decode jdk_29_method_69_code 6 = .ok (.goto 4, 3) := by decide +kernel
theorem d1_9 : decode jdk_29_method_69_code 9 = .ok (.iload_n 1, 1) := by decide +kernel
theorem d1_10 : decode jdk_29_method_69_code 10 = .ok (.ireturn, 1) := by decide +kernel
theorem ef_1 (m : MethodId) (x0 : Int32) (x1 : Int32) : entryFrame m #[(.int x0), (.int x1)] 2 = mkF m 0 #[.val (.int x0), .val (.int x1)] [] := by first | (simp [entryFrame, mkF, argsToLocals, Value.category]; done) | rfl
def Q1 (Z : State) (p1 : Int32) (p2 : Int32) (h0 : Heap) (n0 : Nat) (v : Option Value) (h : Heap) (L : List Loc) : Prop := v = some (.int (own_min p1 p2)) ∧ Fr n0 L ∧ h = h0
set_option maxRecDepth 65536 in
set_option maxHeartbeats 40000000 in
theorem rm1 (l : Launch) (Z : State) (a0 : Array Value) (hw : ∀ d ∈ tables_1, d.before a0 Z = true) (ws : List Jvm.Cond) (p1 : Int32) (p2 : Int32) (h0 : Heap) (n0 : Nat) (Z0 : n0 ≤ h0.size) :
    MetFree l (⟨"java/lang/Math", "min", "(II)I"⟩ : MethodName) (head1 (Jvm.Cond.code (⟨"java/lang/Math", "min", "(II)I"⟩ : MethodName) jdk_29_method_69_code 2 (some .int) :: ws) ({ frames := 0, cells := 0, slots := 0, locals := 0 } : Room)) (fun a U => a = #[(.int p1), (.int p2)] ∧ Z.Warmed39 U.vm ∧ U.heap = h0) (fun _ _ _ _ _ => True) (fun _ U o U' => ∃ v L, o = .returned v ∧ Q1 Z p1 p2 h0 n0 v U'.heap L ∧ FrameEnd U o U' L ({ frames := 0, cells := 0, slots := 0, locals := 0 } : Room).cells ({ frames := 0, cells := 0, slots := 0, locals := 0 } : Room).slots) := by
  refine MetFree.of_bodySF (Jvm.Free.JP.mathPlain rfl (by decide +kernel)) hisR ?_
  intro p e s m args below meth c s₁ Bd hml0 hP hK
  obtain ⟨rfl, hZ, hh⟩ := hP
  have hx := Bd.exec
  have hby := Bd.bytes
  have hml : c.maxLocals = 2 := hml0
  have hown : s.vm.findClass "java/lang/Math" = some m.cls := findClass_of_methodNamed Bd.named
  have hnm := (name_of_methodNamed Bd.named Bd.method).1
  have X0 : Stand p l e ({ frames := 0, cells := 0, slots := 0, locals := 0 } : Room) s m #[(.int p1), (.int p2)] below meth c s₁ [] 0 0 := Stand.of_body Bd
  have e0 : s₁.heap = h0 := by rw [← hh, Bd.state]; rfl
  have N0 := Fr.nil n0
  have go0 : ∀ t, Steps p.tables e below (s₁.setTop (mkF m 0 #[.val (.int p1), .val (.int p2)] [])) t → Steps p.tables e below (s₁.setTop (entryFrame m #[(.int p1), (.int p2)] 2)) t := fun t k => castTop (ef_1 m p1 p2) k
  have go1 : ∀ t, Steps p.tables e below (s₁.setTop (mkF m 2 #[.val (.int p1), .val (.int p2)] [(.int p2), (.int p1)])) t → Steps p.tables e below (s₁.setTop (entryFrame m #[(.int p1), (.int p2)] 2)) t := by
    intro t k
    refine go0 t ?_
    show Steps p.tables e below (s₁.setTop (mkF m 0 #[.val (.int p1), .val (.int p2)] [])) _
    refine XS.iloadN X0.here hx rfl (hb hby d1_0) rfl ?_
    show Steps p.tables e below (s₁.setTop (mkF m 1 #[.val (.int p1), .val (.int p2)] [(.int p1)])) _
    refine XS.iloadN X0.here hx rfl (hb hby d1_1) rfl ?_
    exact k
  by_cases hc2 : p2 < p1
  · skip
    have go2 : ∀ t, Steps p.tables e below (s₁.setTop (mkF m 10 #[.val (.int p1), .val (.int p2)] [(.int p2)])) t → Steps p.tables e below (s₁.setTop (entryFrame m #[(.int p1), (.int p2)] 2)) t := by
      intro t k
      refine go1 t ?_
      show Steps p.tables e below (s₁.setTop (mkF m 2 #[.val (.int p1), .val (.int p2)] [(.int p2), (.int p1)])) _
      refine XS.icmpYes X0.here hx rfl (pc0 := 2) (pc' := 9) rfl (hb hby d1_2) rfl (tlt hc2).2.2.1 (by decide) (by decide) ?_
      show Steps p.tables e below (s₁.setTop (mkF m 9 #[.val (.int p1), .val (.int p2)] [])) _
      refine XS.iloadN X0.here hx rfl (hb hby d1_9) rfl ?_
      exact k
    obtain ⟨fs, hr, hrun, hended, hW, hsame⟩ := X0.leave (v := some (.int p2)) (fun h => by rw [Bd.returns] at h; cases h)
    refine ⟨_, _, go2 _ ?_, hrun, hended, _, _, rfl, ?_, ⟨_, rfl⟩, hW, hsame.mono (by decide) (by decide)⟩
    · show Steps p.tables e below (s₁.setTop (mkF m 10 #[.val (.int p1), .val (.int p2)] [(.int p2)])) _
      exact retI X0 hx Bd.returns (hb hby d1_10) hr
    · show Q1 Z p1 p2 h0 n0 _ s₁.heap _
      rw [e0]
      exact ⟨by simp [own_min, hc2], N0, rfl⟩
  · skip
    have go3 : ∀ t, Steps p.tables e below (s₁.setTop (mkF m 10 #[.val (.int p1), .val (.int p2)] [(.int p1)])) t → Steps p.tables e below (s₁.setTop (entryFrame m #[(.int p1), (.int p2)] 2)) t := by
      intro t k
      refine go1 t ?_
      show Steps p.tables e below (s₁.setTop (mkF m 2 #[.val (.int p1), .val (.int p2)] [(.int p2), (.int p1)])) _
      refine XS.icmpNo X0.here hx rfl (hb hby d1_2) rfl (flt hc2).2.2.1 ?_
      show Steps p.tables e below (s₁.setTop (mkF m 5 #[.val (.int p1), .val (.int p2)] [])) _
      refine XS.iloadN X0.here hx rfl (hb hby d1_5) rfl ?_
      show Steps p.tables e below (s₁.setTop (mkF m 6 #[.val (.int p1), .val (.int p2)] [(.int p1)])) _
      refine XS.goto X0.here hx rfl (pc0 := 6) (pc' := 10) rfl (hb hby d1_6) (by decide) (by decide) ?_
      exact k
    obtain ⟨fs, hr, hrun, hended, hW, hsame⟩ := X0.leave (v := some (.int p1)) (fun h => by rw [Bd.returns] at h; cases h)
    refine ⟨_, _, go3 _ ?_, hrun, hended, _, _, rfl, ?_, ⟨_, rfl⟩, hW, hsame.mono (by decide) (by decide)⟩
    · show Steps p.tables e below (s₁.setTop (mkF m 10 #[.val (.int p1), .val (.int p2)] [(.int p1)])) _
      exact retI X0 hx Bd.returns (hb hby d1_10) hr
    · show Q1 Z p1 p2 h0 n0 _ s₁.heap _
      rw [e0]
      exact ⟨by simp [own_min, hc2], N0, rfl⟩
theorem d2_0 : decode method_2_code 0 = .ok (.iload_n 1, 1) := by decide +kernel
theorem d2_1 : decode method_2_code 1 = .ok (.iload_n 2, 1) := by decide +kernel
theorem d2_2 : decode method_2_code 2 = .ok (.if_icmp .lt 18, 3) := by decide +kernel
theorem d2_5 : decode method_2_code 5 = .ok (.iload_n 1, 1) := by decide +kernel
theorem d2_6 : decode method_2_code 6 = .ok (.iload_n 3, 1) := by decide +kernel
theorem d2_7 : decode method_2_code 7 = .ok (.if_icmp .ge 13, 3) := by decide +kernel
theorem d2_10 : decode method_2_code 10 = .ok (.aload_n 0, 1) := by decide +kernel
theorem d2_11 : decode method_2_code 11 = .ok (.iload_n 1, 1) := by decide +kernel
theorem d2_12 : decode method_2_code 12 = .ok (.iaload, 1) := by decide +kernel
theorem d2_13 : decode method_2_code 13 = .ok (.iload 4, 2) := by decide +kernel
theorem d2_15 : decode method_2_code 15 = .ok (.if_icmp .lt 5, 3) := by decide +kernel
theorem d2_18 : decode method_2_code 18 = .ok (.iload_n 1, 1) := by decide +kernel
theorem d2_19 : decode method_2_code 19 = .ok (.ireturn, 1) := by decide +kernel
theorem d2_20 : decode method_2_code 20 = .ok (.iload 5, 2) := by decide +kernel
theorem d2_22 : decode method_2_code 22 = .ok (.ireturn, 1) := by decide +kernel
theorem pn_2 : plainName "com/example/lucid_tbox/lucidtbox/util/SortedArraysSeekPinLaw" = true := by first | (simp [plainName, overriddenIn]; done) | decide +kernel
theorem ef_2 (m : MethodId) (x0 : Addr) (x1 : Int32) (x2 : Int32) (x3 : Int32) (x4 : Int32) (x5 : Int32) : entryFrame m #[(.ref x0), (.int x1), (.int x2), (.int x3), (.int x4), (.int x5)] 6 = mkF m 0 #[.val (.ref x0), .val (.int x1), .val (.int x2), .val (.int x3), .val (.int x4), .val (.int x5)] [] := by first | (simp [entryFrame, mkF, argsToLocals, Value.category]; done) | rfl
def Q2 (Z : State) (a1 : Addr) (num : Int32) (r : Int32) (F : Nat → Int32) (i : Nat) (A : Nat) (B : Nat) (h0 : Heap) (n0 : Nat) (v : Option Value) (h : Heap) (L : List Loc) : Prop := v = some (.int (own_at F i A B num r)) ∧ Fr n0 L ∧ h = h0
set_option maxRecDepth 65536 in
set_option maxHeartbeats 40000000 in
theorem rm2 (l : Launch) (Z : State) (a0 : Array Value) (hw : ∀ d ∈ tables_1, d.before a0 Z = true) (ws : List Jvm.Cond) (a1 : Addr) (num : Int32) (r : Int32) (F : Nat → Int32) (i : Nat) (A : Nat) (B : Nat) (h0 : Heap) (n0 : Nat) (Z0 : n0 ≤ h0.size) (V_a1 : own_V Z h0 a1 .int 8 (fun j => .int (F j))) (hi : i < 8) (hA : A ≤ 8) (hB : B ≤ 8) :
    MetFree l (⟨"com/example/lucid_tbox/lucidtbox/util/SortedArraysSeekPinLaw", "at", "([IIIIII)I"⟩ : MethodName) (head1 (Jvm.Cond.code (⟨"com/example/lucid_tbox/lucidtbox/util/SortedArraysSeekPinLaw", "at", "([IIIIII)I"⟩ : MethodName) method_2_code 6 (some .int) :: ws) ({ frames := 0, cells := 0, slots := 0, locals := 0 } : Room)) (fun a U => a = #[(.ref a1), (.int (Int32.ofNat i)), (.int (Int32.ofNat A)), (.int (Int32.ofNat B)), (.int num), (.int r)] ∧ Z.Warmed39 U.vm ∧ U.heap = h0) (fun _ _ _ _ _ => True) (fun _ U o U' => ∃ v L, o = .returned v ∧ Q2 Z a1 num r F i A B h0 n0 v U'.heap L ∧ FrameEnd U o U' L ({ frames := 0, cells := 0, slots := 0, locals := 0 } : Room).cells ({ frames := 0, cells := 0, slots := 0, locals := 0 } : Room).slots) := by
  refine MetFree.of_bodySF (plainFor_of_name pn_2) hisR ?_
  intro p e s m args below meth c s₁ Bd hml0 hP hK
  obtain ⟨rfl, hZ, hh⟩ := hP
  have hx := Bd.exec
  have hby := Bd.bytes
  have hml : c.maxLocals = 6 := hml0
  have hown : s.vm.findClass "com/example/lucid_tbox/lucidtbox/util/SortedArraysSeekPinLaw" = some m.cls := findClass_of_methodNamed Bd.named
  have hnm := (name_of_methodNamed Bd.named Bd.method).1
  have X0 : Stand p l e ({ frames := 0, cells := 0, slots := 0, locals := 0 } : Room) s m #[(.ref a1), (.int (Int32.ofNat i)), (.int (Int32.ofNat A)), (.int (Int32.ofNat B)), (.int num), (.int r)] below meth c s₁ [] 0 0 := Stand.of_body Bd
  have e0 : s₁.heap = h0 := by rw [← hh, Bd.state]; rfl
  have N0 := Fr.nil n0
  have go0 : ∀ t, Steps p.tables e below (s₁.setTop (mkF m 0 #[.val (.ref a1), .val (.int (Int32.ofNat i)), .val (.int (Int32.ofNat A)), .val (.int (Int32.ofNat B)), .val (.int num), .val (.int r)] [])) t → Steps p.tables e below (s₁.setTop (entryFrame m #[(.ref a1), (.int (Int32.ofNat i)), (.int (Int32.ofNat A)), (.int (Int32.ofNat B)), (.int num), (.int r)] 6)) t := fun t k => castTop (ef_2 m a1 (Int32.ofNat i) (Int32.ofNat A) (Int32.ofNat B) num r) k
  obtain ⟨cl, Ar, Sz, H⟩ := V_a1
  have hin := own_inb Sz hi (by decide)
  have hat := own_hat H hi (by decide)
  have q1 : Int32.ofNat i < Int32.ofNat A ↔ i < A := own_lt (by omega) (by omega)
  have q2 : Int32.ofNat i < Int32.ofNat B ↔ i < B := own_lt (by omega) (by omega)
  have go1 : ∀ t, Steps p.tables e below (s₁.setTop (mkF m 2 #[.val (.ref a1), .val (.int (Int32.ofNat i)), .val (.int (Int32.ofNat A)), .val (.int (Int32.ofNat B)), .val (.int num), .val (.int r)] [(.int (Int32.ofNat A)), (.int (Int32.ofNat i))])) t → Steps p.tables e below (s₁.setTop (entryFrame m #[(.ref a1), (.int (Int32.ofNat i)), (.int (Int32.ofNat A)), (.int (Int32.ofNat B)), (.int num), (.int r)] 6)) t := by
    intro t k
    refine go0 t ?_
    show Steps p.tables e below (s₁.setTop (mkF m 0 #[.val (.ref a1), .val (.int (Int32.ofNat i)), .val (.int (Int32.ofNat A)), .val (.int (Int32.ofNat B)), .val (.int num), .val (.int r)] [])) _
    refine XS.iloadN X0.here hx rfl (hb hby d2_0) rfl ?_
    show Steps p.tables e below (s₁.setTop (mkF m 1 #[.val (.ref a1), .val (.int (Int32.ofNat i)), .val (.int (Int32.ofNat A)), .val (.int (Int32.ofNat B)), .val (.int num), .val (.int r)] [(.int (Int32.ofNat i))])) _
    refine XS.iloadN X0.here hx rfl (hb hby d2_1) rfl ?_
    exact k
  by_cases hc2 : (Int32.ofNat i) < (Int32.ofNat A)
  · skip
    have go2 : ∀ t, Steps p.tables e below (s₁.setTop (mkF m 22 #[.val (.ref a1), .val (.int (Int32.ofNat i)), .val (.int (Int32.ofNat A)), .val (.int (Int32.ofNat B)), .val (.int num), .val (.int r)] [(.int r)])) t → Steps p.tables e below (s₁.setTop (entryFrame m #[(.ref a1), (.int (Int32.ofNat i)), (.int (Int32.ofNat A)), (.int (Int32.ofNat B)), (.int num), (.int r)] 6)) t := by
      intro t k
      refine go1 t ?_
      show Steps p.tables e below (s₁.setTop (mkF m 2 #[.val (.ref a1), .val (.int (Int32.ofNat i)), .val (.int (Int32.ofNat A)), .val (.int (Int32.ofNat B)), .val (.int num), .val (.int r)] [(.int (Int32.ofNat A)), (.int (Int32.ofNat i))])) _
      refine XS.icmpYes X0.here hx rfl (pc0 := 2) (pc' := 20) rfl (hb hby d2_2) rfl (tlt hc2).1 (by decide) (by decide) ?_
      show Steps p.tables e below (s₁.setTop (mkF m 20 #[.val (.ref a1), .val (.int (Int32.ofNat i)), .val (.int (Int32.ofNat A)), .val (.int (Int32.ofNat B)), .val (.int num), .val (.int r)] [])) _
      refine XS.iload X0.here hx rfl (hb hby d2_20) rfl ?_
      exact k
    obtain ⟨fs, hr, hrun, hended, hW, hsame⟩ := X0.leave (v := some (.int r)) (fun h => by rw [Bd.returns] at h; cases h)
    refine ⟨_, _, go2 _ ?_, hrun, hended, _, _, rfl, ?_, ⟨_, rfl⟩, hW, hsame.mono (by decide) (by decide)⟩
    · show Steps p.tables e below (s₁.setTop (mkF m 22 #[.val (.ref a1), .val (.int (Int32.ofNat i)), .val (.int (Int32.ofNat A)), .val (.int (Int32.ofNat B)), .val (.int num), .val (.int r)] [(.int r)])) _
      exact retI X0 hx Bd.returns (hb hby d2_22) hr
    · show Q2 Z a1 num r F i A B h0 n0 _ s₁.heap _
      rw [e0]
      exact ⟨congrArg (fun z => some (Value.int z)) (if_neg (fun u => absurd (q1.mp hc2) (Nat.not_lt.mpr u.1))).symm, N0, rfl⟩
  · skip
    have go3 : ∀ t, Steps p.tables e below (s₁.setTop (mkF m 7 #[.val (.ref a1), .val (.int (Int32.ofNat i)), .val (.int (Int32.ofNat A)), .val (.int (Int32.ofNat B)), .val (.int num), .val (.int r)] [(.int (Int32.ofNat B)), (.int (Int32.ofNat i))])) t → Steps p.tables e below (s₁.setTop (entryFrame m #[(.ref a1), (.int (Int32.ofNat i)), (.int (Int32.ofNat A)), (.int (Int32.ofNat B)), (.int num), (.int r)] 6)) t := by
      intro t k
      refine go1 t ?_
      show Steps p.tables e below (s₁.setTop (mkF m 2 #[.val (.ref a1), .val (.int (Int32.ofNat i)), .val (.int (Int32.ofNat A)), .val (.int (Int32.ofNat B)), .val (.int num), .val (.int r)] [(.int (Int32.ofNat A)), (.int (Int32.ofNat i))])) _
      refine XS.icmpNo X0.here hx rfl (hb hby d2_2) rfl (flt hc2).1 ?_
      show Steps p.tables e below (s₁.setTop (mkF m 5 #[.val (.ref a1), .val (.int (Int32.ofNat i)), .val (.int (Int32.ofNat A)), .val (.int (Int32.ofNat B)), .val (.int num), .val (.int r)] [])) _
      refine XS.iloadN X0.here hx rfl (hb hby d2_5) rfl ?_
      show Steps p.tables e below (s₁.setTop (mkF m 6 #[.val (.ref a1), .val (.int (Int32.ofNat i)), .val (.int (Int32.ofNat A)), .val (.int (Int32.ofNat B)), .val (.int num), .val (.int r)] [(.int (Int32.ofNat i))])) _
      refine XS.iloadN X0.here hx rfl (hb hby d2_6) rfl ?_
      exact k
    by_cases hc7 : (Int32.ofNat i) < (Int32.ofNat B)
    · skip
      have go4 : ∀ t, Steps p.tables e below (s₁.setTop (mkF m 15 #[.val (.ref a1), .val (.int (Int32.ofNat i)), .val (.int (Int32.ofNat A)), .val (.int (Int32.ofNat B)), .val (.int num), .val (.int r)] [(.int num), (.int (F i))])) t → Steps p.tables e below (s₁.setTop (entryFrame m #[(.ref a1), (.int (Int32.ofNat i)), (.int (Int32.ofNat A)), (.int (Int32.ofNat B)), (.int num), (.int r)] 6)) t := by
        intro t k
        refine go3 t ?_
        show Steps p.tables e below (s₁.setTop (mkF m 7 #[.val (.ref a1), .val (.int (Int32.ofNat i)), .val (.int (Int32.ofNat A)), .val (.int (Int32.ofNat B)), .val (.int num), .val (.int r)] [(.int (Int32.ofNat B)), (.int (Int32.ofNat i))])) _
        refine XS.icmpNo X0.here hx rfl (hb hby d2_7) rfl (tlt hc7).2.1 ?_
        show Steps p.tables e below (s₁.setTop (mkF m 10 #[.val (.ref a1), .val (.int (Int32.ofNat i)), .val (.int (Int32.ofNat A)), .val (.int (Int32.ofNat B)), .val (.int num), .val (.int r)] [])) _
        refine XS.aloadN X0.here hx rfl (hb hby d2_10) rfl rfl ?_
        show Steps p.tables e below (s₁.setTop (mkF m 11 #[.val (.ref a1), .val (.int (Int32.ofNat i)), .val (.int (Int32.ofNat A)), .val (.int (Int32.ofNat B)), .val (.int num), .val (.int r)] [(.ref a1)])) _
        refine XS.iloadN X0.here hx rfl (hb hby d2_11) rfl ?_
        show Steps p.tables e below (s₁.setTop (mkF m 12 #[.val (.ref a1), .val (.int (Int32.ofNat i)), .val (.int (Int32.ofNat A)), .val (.int (Int32.ofNat B)), .val (.int num), .val (.int r)] [(.int (Int32.ofNat i)), (.ref a1)])) _
        refine X0.iaload hx (j := (Int32.ofNat i)) (v := (.int (F i))) (by rw [e0]; exact Ar.1) (State.isArrayOf_alike hZ.alike Ar.2.1) Ar.2.2 hin hat (g := (mkF m 12 #[.val (.ref a1), .val (.int (Int32.ofNat i)), .val (.int (Int32.ofNat A)), .val (.int (Int32.ofNat B)), .val (.int num), .val (.int r)] [(.int (Int32.ofNat i)), (.ref a1)])) rfl rfl (hb hby d2_12) _ ?_
        show Steps p.tables e below (s₁.setTop (mkF m 13 #[.val (.ref a1), .val (.int (Int32.ofNat i)), .val (.int (Int32.ofNat A)), .val (.int (Int32.ofNat B)), .val (.int num), .val (.int r)] [(.int (F i))])) _
        refine XS.iload X0.here hx rfl (hb hby d2_13) rfl ?_
        exact k
      by_cases hc15 : (F i) < num
      · skip
        have go5 : ∀ t, Steps p.tables e below (s₁.setTop (mkF m 22 #[.val (.ref a1), .val (.int (Int32.ofNat i)), .val (.int (Int32.ofNat A)), .val (.int (Int32.ofNat B)), .val (.int num), .val (.int r)] [(.int r)])) t → Steps p.tables e below (s₁.setTop (entryFrame m #[(.ref a1), (.int (Int32.ofNat i)), (.int (Int32.ofNat A)), (.int (Int32.ofNat B)), (.int num), (.int r)] 6)) t := by
          intro t k
          refine go4 t ?_
          show Steps p.tables e below (s₁.setTop (mkF m 15 #[.val (.ref a1), .val (.int (Int32.ofNat i)), .val (.int (Int32.ofNat A)), .val (.int (Int32.ofNat B)), .val (.int num), .val (.int r)] [(.int num), (.int (F i))])) _
          refine XS.icmpYes X0.here hx rfl (pc0 := 15) (pc' := 20) rfl (hb hby d2_15) rfl (tlt hc15).1 (by decide) (by decide) ?_
          show Steps p.tables e below (s₁.setTop (mkF m 20 #[.val (.ref a1), .val (.int (Int32.ofNat i)), .val (.int (Int32.ofNat A)), .val (.int (Int32.ofNat B)), .val (.int num), .val (.int r)] [])) _
          refine XS.iload X0.here hx rfl (hb hby d2_20) rfl ?_
          exact k
        obtain ⟨fs, hr, hrun, hended, hW, hsame⟩ := X0.leave (v := some (.int r)) (fun h => by rw [Bd.returns] at h; cases h)
        refine ⟨_, _, go5 _ ?_, hrun, hended, _, _, rfl, ?_, ⟨_, rfl⟩, hW, hsame.mono (by decide) (by decide)⟩
        · show Steps p.tables e below (s₁.setTop (mkF m 22 #[.val (.ref a1), .val (.int (Int32.ofNat i)), .val (.int (Int32.ofNat A)), .val (.int (Int32.ofNat B)), .val (.int num), .val (.int r)] [(.int r)])) _
          exact retI X0 hx Bd.returns (hb hby d2_22) hr
        · show Q2 Z a1 num r F i A B h0 n0 _ s₁.heap _
          rw [e0]
          exact ⟨congrArg (fun z => some (Value.int z)) (if_neg (fun u => u.2.2 hc15)).symm, N0, rfl⟩
      · skip
        have go6 : ∀ t, Steps p.tables e below (s₁.setTop (mkF m 19 #[.val (.ref a1), .val (.int (Int32.ofNat i)), .val (.int (Int32.ofNat A)), .val (.int (Int32.ofNat B)), .val (.int num), .val (.int r)] [(.int (Int32.ofNat i))])) t → Steps p.tables e below (s₁.setTop (entryFrame m #[(.ref a1), (.int (Int32.ofNat i)), (.int (Int32.ofNat A)), (.int (Int32.ofNat B)), (.int num), (.int r)] 6)) t := by
          intro t k
          refine go4 t ?_
          show Steps p.tables e below (s₁.setTop (mkF m 15 #[.val (.ref a1), .val (.int (Int32.ofNat i)), .val (.int (Int32.ofNat A)), .val (.int (Int32.ofNat B)), .val (.int num), .val (.int r)] [(.int num), (.int (F i))])) _
          refine XS.icmpNo X0.here hx rfl (hb hby d2_15) rfl (flt hc15).1 ?_
          show Steps p.tables e below (s₁.setTop (mkF m 18 #[.val (.ref a1), .val (.int (Int32.ofNat i)), .val (.int (Int32.ofNat A)), .val (.int (Int32.ofNat B)), .val (.int num), .val (.int r)] [])) _
          refine XS.iloadN X0.here hx rfl (hb hby d2_18) rfl ?_
          exact k
        obtain ⟨fs, hr, hrun, hended, hW, hsame⟩ := X0.leave (v := some (.int (Int32.ofNat i))) (fun h => by rw [Bd.returns] at h; cases h)
        refine ⟨_, _, go6 _ ?_, hrun, hended, _, _, rfl, ?_, ⟨_, rfl⟩, hW, hsame.mono (by decide) (by decide)⟩
        · show Steps p.tables e below (s₁.setTop (mkF m 19 #[.val (.ref a1), .val (.int (Int32.ofNat i)), .val (.int (Int32.ofNat A)), .val (.int (Int32.ofNat B)), .val (.int num), .val (.int r)] [(.int (Int32.ofNat i))])) _
          exact retI X0 hx Bd.returns (hb hby d2_19) hr
        · show Q2 Z a1 num r F i A B h0 n0 _ s₁.heap _
          rw [e0]
          exact ⟨congrArg (fun z => some (Value.int z)) (if_pos ⟨Nat.not_lt.mp (fun u => hc2 (q1.mpr u)), q2.mp hc7, hc15⟩).symm, N0, rfl⟩
    · skip
      have go7 : ∀ t, Steps p.tables e below (s₁.setTop (mkF m 22 #[.val (.ref a1), .val (.int (Int32.ofNat i)), .val (.int (Int32.ofNat A)), .val (.int (Int32.ofNat B)), .val (.int num), .val (.int r)] [(.int r)])) t → Steps p.tables e below (s₁.setTop (entryFrame m #[(.ref a1), (.int (Int32.ofNat i)), (.int (Int32.ofNat A)), (.int (Int32.ofNat B)), (.int num), (.int r)] 6)) t := by
        intro t k
        refine go3 t ?_
        show Steps p.tables e below (s₁.setTop (mkF m 7 #[.val (.ref a1), .val (.int (Int32.ofNat i)), .val (.int (Int32.ofNat A)), .val (.int (Int32.ofNat B)), .val (.int num), .val (.int r)] [(.int (Int32.ofNat B)), (.int (Int32.ofNat i))])) _
        refine XS.icmpYes X0.here hx rfl (pc0 := 7) (pc' := 20) rfl (hb hby d2_7) rfl (flt hc7).2.1 (by decide) (by decide) ?_
        show Steps p.tables e below (s₁.setTop (mkF m 20 #[.val (.ref a1), .val (.int (Int32.ofNat i)), .val (.int (Int32.ofNat A)), .val (.int (Int32.ofNat B)), .val (.int num), .val (.int r)] [])) _
        refine XS.iload X0.here hx rfl (hb hby d2_20) rfl ?_
        exact k
      obtain ⟨fs, hr, hrun, hended, hW, hsame⟩ := X0.leave (v := some (.int r)) (fun h => by rw [Bd.returns] at h; cases h)
      refine ⟨_, _, go7 _ ?_, hrun, hended, _, _, rfl, ?_, ⟨_, rfl⟩, hW, hsame.mono (by decide) (by decide)⟩
      · show Steps p.tables e below (s₁.setTop (mkF m 22 #[.val (.ref a1), .val (.int (Int32.ofNat i)), .val (.int (Int32.ofNat A)), .val (.int (Int32.ofNat B)), .val (.int num), .val (.int r)] [(.int r)])) _
        exact retI X0 hx Bd.returns (hb hby d2_22) hr
      · show Q2 Z a1 num r F i A B h0 n0 _ s₁.heap _
        rw [e0]
        exact ⟨congrArg (fun z => some (Value.int z)) (if_neg (fun u => hc7 (q2.mpr u.2.1))).symm, N0, rfl⟩
theorem d3_9 : decode prog_29_method_3_code 9 = .ok (.iload 5, 2) := by decide +kernel
theorem d3_11 : decode prog_29_method_3_code 11 = .ok (.iload_n 2, 1) := by decide +kernel
theorem d3_12 : decode prog_29_method_3_code 12 = .ok (.if_icmp .ge 33, 3) := by decide +kernel
theorem d3_15 : decode prog_29_method_3_code 15 = .ok (.aload_n 0, 1) := by decide +kernel
theorem d3_16 : decode prog_29_method_3_code 16 = .ok (.iload 5, 2) := by decide +kernel
theorem d3_18 : decode prog_29_method_3_code 18 = .ok (.iaload, 1) := by decide +kernel
theorem d3_19 : decode prog_29_method_3_code 19 = .ok (.iload_n 3, 1) := by decide +kernel
theorem d3_20 : decode prog_29_method_3_code 20 = .ok (.if_icmp .ge 25, 3) := by decide +kernel
theorem d3_23 : decode prog_29_method_3_code 23 = .ok (.iload 5, 2) := by decide +kernel
theorem d3_25 : decode prog_29_method_3_code 25 = .ok (.iconst 1, 1) := by decide +kernel
theorem d3_26 : decode prog_29_method_3_code 26 = .ok (.iadd, 1) := by decide +kernel
theorem d3_27 : decode prog_29_method_3_code 27 = .ok (.istore 4, 2) := by decide +kernel
theorem d3_29 : decode prog_29_method_3_code 29 = .ok (.iload 5, 2) := by decide +kernel
theorem d3_31 : decode prog_29_method_3_code 31 = .ok (.iload 6, 2) := by decide +kernel
theorem d3_33 : decode prog_29_method_3_code 33 = .ok (.iadd, 1) := by decide +kernel
theorem d3_34 : decode prog_29_method_3_code 34 = .ok (.istore 5, 2) := by decide +kernel
theorem d3_36 : decode prog_29_method_3_code 36 = .ok (.iload 6, 2) := by decide +kernel
theorem d3_38 : decode prog_29_method_3_code 38 = .ok (.iconst 2, 1) := by decide +kernel
theorem d3_39 : decode prog_29_method_3_code 39 = .ok (.imul, 1) := by decide +kernel
theorem d3_40 : decode prog_29_method_3_code 40 = .ok (.istore 6, 2) := by decide +kernel
theorem d3_42 : decode prog_29_method_3_code 42 = .ok (.goto (-33), 3) := by decide +kernel
theorem os3_27 {z0 : Value} {s1 : Slot} {z2 : Value} {z3 : Value} {s4 : Slot} {z5 : Value} {z6 : Value} {s7 : Slot} {v : Int32} (h : One s4) : storeLocals #[.val z0, s1, .val z2, .val z3, s4, .val z5, .val z6, s7] 4 (.int v) = some #[.val z0, s1, .val z2, .val z3, .val (.int v), .val z5, .val z6, s7] := by
  rcases h with rfl | ⟨w, rfl, hw⟩
  · rfl
  · cases w <;> first | rfl | (simp [Value.category] at hw)
set_option maxRecDepth 65536 in
set_option maxHeartbeats 40000000 in
theorem tn3_9_9 {p : Program} {l : Launch} {e : Env} {R : Room} {s : State} {m : MethodId} {args : Array Value} {below : List Frame} {meth : Method} {c : Code} {T0 : State} {locs : List Loc} {cells slots : Nat} {Z : State} {a0 : Array Value} {h0 : Heap} (o0 : Addr) (s1 : Slot) (i2 : Int32) (i3 : Int32) (s4 : Slot) (i5 : Int32) (i6 : Int32) (s7 : Slot) (w5 : Int32) (cl_o0 : Cell)
    (X0 : Stand p l e R s m args below meth c T0 locs cells slots) (hx : p.tables.exec = Jvm.exec) (hZ : Z.Warmed39 s.vm) (hw : ∀ d ∈ tables_1, d.before a0 Z = true) (hby : c.code = prog_29_method_3_code) (hml : c.maxLocals = 8) (hown : s.vm.findClass "com/example/lucid_tbox/lucidtbox/util/SortedArrays" = some m.cls) (e0 : T0.heap = h0) (Ar_o0 : Arr Z h0 o0 cl_o0 .int) (hin18 : ¬ (i5 < 0 ∨ cl_o0.slots.size ≤ (i5).toNatClampNeg)) (hat18 : cl_o0.slots[(i5).toNatClampNeg]? = some (.int w5)) (hs4 : One s4) (hc12 : i5 < i2) (hc20 : w5 < i3) :
    ∃ (T' : State), Stand p l e R s m args below meth c T' locs cells slots ∧ T'.heap = h0 ∧
      ∀ target, Steps p.tables e below (T'.setTop (mkF m 9 #[.val (.ref o0), s1, .val (.int i2), .val (.int i3), .val (.int (i5 + (1 : Int32))), .val (.int (i5 + i6)), .val (.int (i6 * (2 : Int32))), s7] [])) target → Steps p.tables e below (T0.setTop (mkF m 9 #[.val (.ref o0), s1, .val (.int i2), .val (.int i3), s4, .val (.int i5), .val (.int i6), s7] [])) target := by
  -- 3. LAWS

  refine ⟨T0, X0, e0, fun target kt => ?_⟩
  -- 4. STEPS
  show Steps p.tables e below (T0.setTop (mkF m 9 #[.val (.ref o0), s1, .val (.int i2), .val (.int i3), s4, .val (.int i5), .val (.int i6), s7] [])) _
  refine XS.iload X0.here hx rfl (hb hby d3_9) rfl ?_
  show Steps p.tables e below (T0.setTop (mkF m 11 #[.val (.ref o0), s1, .val (.int i2), .val (.int i3), s4, .val (.int i5), .val (.int i6), s7] [(.int i5)])) _
  refine XS.iloadN X0.here hx rfl (hb hby d3_11) rfl ?_
  show Steps p.tables e below (T0.setTop (mkF m 12 #[.val (.ref o0), s1, .val (.int i2), .val (.int i3), s4, .val (.int i5), .val (.int i6), s7] [(.int i2), (.int i5)])) _
  refine XS.icmpNo X0.here hx rfl (hb hby d3_12) rfl (tlt hc12).2.1 ?_
  show Steps p.tables e below (T0.setTop (mkF m 15 #[.val (.ref o0), s1, .val (.int i2), .val (.int i3), s4, .val (.int i5), .val (.int i6), s7] [])) _
  refine XS.aloadN X0.here hx rfl (hb hby d3_15) rfl rfl ?_
  show Steps p.tables e below (T0.setTop (mkF m 16 #[.val (.ref o0), s1, .val (.int i2), .val (.int i3), s4, .val (.int i5), .val (.int i6), s7] [(.ref o0)])) _
  refine XS.iload X0.here hx rfl (hb hby d3_16) rfl ?_
  show Steps p.tables e below (T0.setTop (mkF m 18 #[.val (.ref o0), s1, .val (.int i2), .val (.int i3), s4, .val (.int i5), .val (.int i6), s7] [(.int i5), (.ref o0)])) _
  refine X0.iaload hx (j := i5) (v := (.int w5)) (by rw [e0]; exact Ar_o0.1) (State.isArrayOf_alike hZ.alike Ar_o0.2.1) Ar_o0.2.2 hin18 hat18 (g := (mkF m 18 #[.val (.ref o0), s1, .val (.int i2), .val (.int i3), s4, .val (.int i5), .val (.int i6), s7] [(.int i5), (.ref o0)])) rfl rfl (hb hby d3_18) _ ?_
  show Steps p.tables e below (T0.setTop (mkF m 19 #[.val (.ref o0), s1, .val (.int i2), .val (.int i3), s4, .val (.int i5), .val (.int i6), s7] [(.int w5)])) _
  refine XS.iloadN X0.here hx rfl (hb hby d3_19) rfl ?_
  show Steps p.tables e below (T0.setTop (mkF m 20 #[.val (.ref o0), s1, .val (.int i2), .val (.int i3), s4, .val (.int i5), .val (.int i6), s7] [(.int i3), (.int w5)])) _
  refine XS.icmpNo X0.here hx rfl (hb hby d3_20) rfl (tlt hc20).2.1 ?_
  show Steps p.tables e below (T0.setTop (mkF m 23 #[.val (.ref o0), s1, .val (.int i2), .val (.int i3), s4, .val (.int i5), .val (.int i6), s7] [])) _
  refine XS.iload X0.here hx rfl (hb hby d3_23) rfl ?_
  show Steps p.tables e below (T0.setTop (mkF m 25 #[.val (.ref o0), s1, .val (.int i2), .val (.int i3), s4, .val (.int i5), .val (.int i6), s7] [(.int i5)])) _
  refine XS.iconst X0.here hx rfl (hb hby d3_25) ?_
  show Steps p.tables e below (T0.setTop (mkF m 26 #[.val (.ref o0), s1, .val (.int i2), .val (.int i3), s4, .val (.int i5), .val (.int i6), s7] [(.int (1 : Int32)), (.int i5)])) _
  refine XS.iadd X0.here hx rfl (hb hby d3_26) rfl ?_
  show Steps p.tables e below (T0.setTop (mkF m 27 #[.val (.ref o0), s1, .val (.int i2), .val (.int i3), s4, .val (.int i5), .val (.int i6), s7] [(.int (i5 + (1 : Int32)))])) _
  refine XS.istore X0.here hx rfl (hb hby d3_27) rfl (l' := #[.val (.ref o0), s1, .val (.int i2), .val (.int i3), .val (.int (i5 + (1 : Int32))), .val (.int i5), .val (.int i6), s7]) (os3_27 hs4) ?_
  show Steps p.tables e below (T0.setTop (mkF m 29 #[.val (.ref o0), s1, .val (.int i2), .val (.int i3), .val (.int (i5 + (1 : Int32))), .val (.int i5), .val (.int i6), s7] [])) _
  refine XS.iload X0.here hx rfl (hb hby d3_29) rfl ?_
  show Steps p.tables e below (T0.setTop (mkF m 31 #[.val (.ref o0), s1, .val (.int i2), .val (.int i3), .val (.int (i5 + (1 : Int32))), .val (.int i5), .val (.int i6), s7] [(.int i5)])) _
  refine XS.iload X0.here hx rfl (hb hby d3_31) rfl ?_
  show Steps p.tables e below (T0.setTop (mkF m 33 #[.val (.ref o0), s1, .val (.int i2), .val (.int i3), .val (.int (i5 + (1 : Int32))), .val (.int i5), .val (.int i6), s7] [(.int i6), (.int i5)])) _
  refine XS.iadd X0.here hx rfl (hb hby d3_33) rfl ?_
  show Steps p.tables e below (T0.setTop (mkF m 34 #[.val (.ref o0), s1, .val (.int i2), .val (.int i3), .val (.int (i5 + (1 : Int32))), .val (.int i5), .val (.int i6), s7] [(.int (i5 + i6))])) _
  refine XS.istore X0.here hx rfl (hb hby d3_34) rfl (l' := #[.val (.ref o0), s1, .val (.int i2), .val (.int i3), .val (.int (i5 + (1 : Int32))), .val (.int (i5 + i6)), .val (.int i6), s7]) rfl ?_
  show Steps p.tables e below (T0.setTop (mkF m 36 #[.val (.ref o0), s1, .val (.int i2), .val (.int i3), .val (.int (i5 + (1 : Int32))), .val (.int (i5 + i6)), .val (.int i6), s7] [])) _
  refine XS.iload X0.here hx rfl (hb hby d3_36) rfl ?_
  show Steps p.tables e below (T0.setTop (mkF m 38 #[.val (.ref o0), s1, .val (.int i2), .val (.int i3), .val (.int (i5 + (1 : Int32))), .val (.int (i5 + i6)), .val (.int i6), s7] [(.int i6)])) _
  refine XS.iconst X0.here hx rfl (hb hby d3_38) ?_
  show Steps p.tables e below (T0.setTop (mkF m 39 #[.val (.ref o0), s1, .val (.int i2), .val (.int i3), .val (.int (i5 + (1 : Int32))), .val (.int (i5 + i6)), .val (.int i6), s7] [(.int (2 : Int32)), (.int i6)])) _
  refine XS.imul X0.here hx rfl (hb hby d3_39) rfl ?_
  show Steps p.tables e below (T0.setTop (mkF m 40 #[.val (.ref o0), s1, .val (.int i2), .val (.int i3), .val (.int (i5 + (1 : Int32))), .val (.int (i5 + i6)), .val (.int i6), s7] [(.int (i6 * (2 : Int32)))])) _
  refine XS.istore X0.here hx rfl (hb hby d3_40) rfl (l' := #[.val (.ref o0), s1, .val (.int i2), .val (.int i3), .val (.int (i5 + (1 : Int32))), .val (.int (i5 + i6)), .val (.int (i6 * (2 : Int32))), s7]) rfl ?_
  show Steps p.tables e below (T0.setTop (mkF m 42 #[.val (.ref o0), s1, .val (.int i2), .val (.int i3), .val (.int (i5 + (1 : Int32))), .val (.int (i5 + i6)), .val (.int (i6 * (2 : Int32))), s7] [])) _
  refine XS.goto X0.here hx rfl (pc0 := 42) (pc' := 9) rfl (hb hby d3_42) (by decide) (by decide) ?_
  exact kt
set_option maxRecDepth 65536 in
set_option maxHeartbeats 40000000 in
theorem tn3_9_45 {p : Program} {l : Launch} {e : Env} {R : Room} {s : State} {m : MethodId} {args : Array Value} {below : List Frame} {meth : Method} {c : Code} {T0 : State} {locs : List Loc} {cells slots : Nat} {Z : State} {a0 : Array Value} {h0 : Heap} (s0 : Slot) (s1 : Slot) (i2 : Int32) (s3 : Slot) (s4 : Slot) (i5 : Int32) (s6 : Slot) (s7 : Slot)
    (X0 : Stand p l e R s m args below meth c T0 locs cells slots) (hx : p.tables.exec = Jvm.exec) (hZ : Z.Warmed39 s.vm) (hw : ∀ d ∈ tables_1, d.before a0 Z = true) (hby : c.code = prog_29_method_3_code) (hml : c.maxLocals = 8) (hown : s.vm.findClass "com/example/lucid_tbox/lucidtbox/util/SortedArrays" = some m.cls) (e0 : T0.heap = h0) (hc12 : ¬ (i5 < i2)) :
    ∃ (T' : State), Stand p l e R s m args below meth c T' locs cells slots ∧ T'.heap = h0 ∧
      ∀ target, Steps p.tables e below (T'.setTop (mkF m 45 #[s0, s1, .val (.int i2), s3, s4, .val (.int i5), s6, s7] [])) target → Steps p.tables e below (T0.setTop (mkF m 9 #[s0, s1, .val (.int i2), s3, s4, .val (.int i5), s6, s7] [])) target := by
  -- 3. LAWS

  refine ⟨T0, X0, e0, fun target kt => ?_⟩
  -- 4. STEPS
  show Steps p.tables e below (T0.setTop (mkF m 9 #[s0, s1, .val (.int i2), s3, s4, .val (.int i5), s6, s7] [])) _
  refine XS.iload X0.here hx rfl (hb hby d3_9) rfl ?_
  show Steps p.tables e below (T0.setTop (mkF m 11 #[s0, s1, .val (.int i2), s3, s4, .val (.int i5), s6, s7] [(.int i5)])) _
  refine XS.iloadN X0.here hx rfl (hb hby d3_11) rfl ?_
  show Steps p.tables e below (T0.setTop (mkF m 12 #[s0, s1, .val (.int i2), s3, s4, .val (.int i5), s6, s7] [(.int i2), (.int i5)])) _
  refine XS.icmpYes X0.here hx rfl (pc0 := 12) (pc' := 45) rfl (hb hby d3_12) rfl (flt hc12).2.1 (by decide) (by decide) ?_
  exact kt
set_option maxRecDepth 65536 in
set_option maxHeartbeats 40000000 in
theorem tn3_9_45b {p : Program} {l : Launch} {e : Env} {R : Room} {s : State} {m : MethodId} {args : Array Value} {below : List Frame} {meth : Method} {c : Code} {T0 : State} {locs : List Loc} {cells slots : Nat} {Z : State} {a0 : Array Value} {h0 : Heap} (o0 : Addr) (s1 : Slot) (i2 : Int32) (i3 : Int32) (s4 : Slot) (i5 : Int32) (s6 : Slot) (s7 : Slot) (w5 : Int32) (cl_o0 : Cell)
    (X0 : Stand p l e R s m args below meth c T0 locs cells slots) (hx : p.tables.exec = Jvm.exec) (hZ : Z.Warmed39 s.vm) (hw : ∀ d ∈ tables_1, d.before a0 Z = true) (hby : c.code = prog_29_method_3_code) (hml : c.maxLocals = 8) (hown : s.vm.findClass "com/example/lucid_tbox/lucidtbox/util/SortedArrays" = some m.cls) (e0 : T0.heap = h0) (Ar_o0 : Arr Z h0 o0 cl_o0 .int) (hin18 : ¬ (i5 < 0 ∨ cl_o0.slots.size ≤ (i5).toNatClampNeg)) (hat18 : cl_o0.slots[(i5).toNatClampNeg]? = some (.int w5)) (hc12 : i5 < i2) (hc20 : ¬ (w5 < i3)) :
    ∃ (T' : State), Stand p l e R s m args below meth c T' locs cells slots ∧ T'.heap = h0 ∧
      ∀ target, Steps p.tables e below (T'.setTop (mkF m 45 #[.val (.ref o0), s1, .val (.int i2), .val (.int i3), s4, .val (.int i5), s6, s7] [])) target → Steps p.tables e below (T0.setTop (mkF m 9 #[.val (.ref o0), s1, .val (.int i2), .val (.int i3), s4, .val (.int i5), s6, s7] [])) target := by
  -- 3. LAWS

  refine ⟨T0, X0, e0, fun target kt => ?_⟩
  -- 4. STEPS
  show Steps p.tables e below (T0.setTop (mkF m 9 #[.val (.ref o0), s1, .val (.int i2), .val (.int i3), s4, .val (.int i5), s6, s7] [])) _
  refine XS.iload X0.here hx rfl (hb hby d3_9) rfl ?_
  show Steps p.tables e below (T0.setTop (mkF m 11 #[.val (.ref o0), s1, .val (.int i2), .val (.int i3), s4, .val (.int i5), s6, s7] [(.int i5)])) _
  refine XS.iloadN X0.here hx rfl (hb hby d3_11) rfl ?_
  show Steps p.tables e below (T0.setTop (mkF m 12 #[.val (.ref o0), s1, .val (.int i2), .val (.int i3), s4, .val (.int i5), s6, s7] [(.int i2), (.int i5)])) _
  refine XS.icmpNo X0.here hx rfl (hb hby d3_12) rfl (tlt hc12).2.1 ?_
  show Steps p.tables e below (T0.setTop (mkF m 15 #[.val (.ref o0), s1, .val (.int i2), .val (.int i3), s4, .val (.int i5), s6, s7] [])) _
  refine XS.aloadN X0.here hx rfl (hb hby d3_15) rfl rfl ?_
  show Steps p.tables e below (T0.setTop (mkF m 16 #[.val (.ref o0), s1, .val (.int i2), .val (.int i3), s4, .val (.int i5), s6, s7] [(.ref o0)])) _
  refine XS.iload X0.here hx rfl (hb hby d3_16) rfl ?_
  show Steps p.tables e below (T0.setTop (mkF m 18 #[.val (.ref o0), s1, .val (.int i2), .val (.int i3), s4, .val (.int i5), s6, s7] [(.int i5), (.ref o0)])) _
  refine X0.iaload hx (j := i5) (v := (.int w5)) (by rw [e0]; exact Ar_o0.1) (State.isArrayOf_alike hZ.alike Ar_o0.2.1) Ar_o0.2.2 hin18 hat18 (g := (mkF m 18 #[.val (.ref o0), s1, .val (.int i2), .val (.int i3), s4, .val (.int i5), s6, s7] [(.int i5), (.ref o0)])) rfl rfl (hb hby d3_18) _ ?_
  show Steps p.tables e below (T0.setTop (mkF m 19 #[.val (.ref o0), s1, .val (.int i2), .val (.int i3), s4, .val (.int i5), s6, s7] [(.int w5)])) _
  refine XS.iloadN X0.here hx rfl (hb hby d3_19) rfl ?_
  show Steps p.tables e below (T0.setTop (mkF m 20 #[.val (.ref o0), s1, .val (.int i2), .val (.int i3), s4, .val (.int i5), s6, s7] [(.int i3), (.int w5)])) _
  refine XS.icmpYes X0.here hx rfl (pc0 := 20) (pc' := 45) rfl (hb hby d3_20) rfl (flt hc20).2.1 (by decide) (by decide) ?_
  exact kt
theorem d3_53 : decode prog_29_method_3_code 53 = .ok (.iload 4, 2) := by decide +kernel
theorem d3_55 : decode prog_29_method_3_code 55 = .ok (.iload 5, 2) := by decide +kernel
theorem d3_57 : decode prog_29_method_3_code 57 = .ok (.if_icmp .ge 36, 3) := by decide +kernel
theorem d3_60 : decode prog_29_method_3_code 60 = .ok (.iload 4, 2) := by decide +kernel
theorem d3_62 : decode prog_29_method_3_code 62 = .ok (.iload 5, 2) := by decide +kernel
theorem d3_64 : decode prog_29_method_3_code 64 = .ok (.iadd, 1) := by decide +kernel
theorem d3_65 : decode prog_29_method_3_code 65 = .ok (.iconst 1, 1) := by decide +kernel
theorem d3_66 : decode prog_29_method_3_code 66 = .ok (.iushr, 1) := by decide +kernel
theorem d3_67 : decode prog_29_method_3_code 67 = .ok (.istore 7, 2) := by decide +kernel
theorem d3_69 : decode prog_29_method_3_code 69 = .ok (.aload_n 0, 1) := by decide +kernel
theorem d3_70 : decode prog_29_method_3_code 70 = .ok (.iload 7, 2) := by decide +kernel
theorem d3_72 : decode prog_29_method_3_code 72 = .ok (.iaload, 1) := by decide +kernel
theorem d3_73 : decode prog_29_method_3_code 73 = .ok (.iload_n 3, 1) := by decide +kernel
theorem d3_74 : decode prog_29_method_3_code 74 = .ok (.if_icmp .ge 12, 3) := by decide +kernel
theorem d3_77 : decode prog_29_method_3_code 77 = .ok (.iload 7, 2) := by decide +kernel
theorem d3_79 : decode prog_29_method_3_code 79 = .ok (.iconst 1, 1) := by decide +kernel
theorem d3_80 : decode prog_29_method_3_code 80 = .ok (.iadd, 1) := by decide +kernel
theorem d3_81 : decode prog_29_method_3_code 81 = .ok (.istore 4, 2) := by decide +kernel
theorem d3_83 : decode prog_29_method_3_code 83 = .ok (.goto 7, 3) := by decide +kernel
theorem d3_90 : decode prog_29_method_3_code 90 = .ok (.goto (-37), 3) := by decide +kernel
theorem os3_67 {z0 : Value} {s1 : Slot} {s2 : Slot} {z3 : Value} {z4 : Value} {z5 : Value} {s6 : Slot} {s7 : Slot} {v : Int32} (h : One s7) : storeLocals #[.val z0, s1, s2, .val z3, .val z4, .val z5, s6, s7] 7 (.int v) = some #[.val z0, s1, s2, .val z3, .val z4, .val z5, s6, .val (.int v)] := by
  rcases h with rfl | ⟨w, rfl, hw⟩
  · rfl
  · cases w <;> first | rfl | (simp [Value.category] at hw)
set_option maxRecDepth 65536 in
set_option maxHeartbeats 40000000 in
theorem tn3_53_53 {p : Program} {l : Launch} {e : Env} {R : Room} {s : State} {m : MethodId} {args : Array Value} {below : List Frame} {meth : Method} {c : Code} {T0 : State} {locs : List Loc} {cells slots : Nat} {Z : State} {a0 : Array Value} {h0 : Heap} (o0 : Addr) (s1 : Slot) (s2 : Slot) (i3 : Int32) (i4 : Int32) (i5 : Int32) (s6 : Slot) (s7 : Slot) (w5 : Int32) (cl_o0 : Cell)
    (X0 : Stand p l e R s m args below meth c T0 locs cells slots) (hx : p.tables.exec = Jvm.exec) (hZ : Z.Warmed39 s.vm) (hw : ∀ d ∈ tables_1, d.before a0 Z = true) (hby : c.code = prog_29_method_3_code) (hml : c.maxLocals = 8) (hown : s.vm.findClass "com/example/lucid_tbox/lucidtbox/util/SortedArrays" = some m.cls) (e0 : T0.heap = h0) (hs7 : One s7) (Ar_o0 : Arr Z h0 o0 cl_o0 .int) (hin72 : ¬ ((((i4 + i5).toUInt32 >>> ((1 : Int32) &&& 31).toUInt32).toInt32) < 0 ∨ cl_o0.slots.size ≤ ((((i4 + i5).toUInt32 >>> ((1 : Int32) &&& 31).toUInt32).toInt32)).toNatClampNeg)) (hat72 : cl_o0.slots[((((i4 + i5).toUInt32 >>> ((1 : Int32) &&& 31).toUInt32).toInt32)).toNatClampNeg]? = some (.int w5)) (hc57 : i4 < i5) (hc74 : w5 < i3) :
    ∃ (T' : State), Stand p l e R s m args below meth c T' locs cells slots ∧ T'.heap = h0 ∧
      ∀ target, Steps p.tables e below (T'.setTop (mkF m 53 #[.val (.ref o0), s1, s2, .val (.int i3), .val (.int ((((i4 + i5).toUInt32 >>> ((1 : Int32) &&& 31).toUInt32).toInt32) + (1 : Int32))), .val (.int i5), s6, .val (.int (((i4 + i5).toUInt32 >>> ((1 : Int32) &&& 31).toUInt32).toInt32))] [])) target → Steps p.tables e below (T0.setTop (mkF m 53 #[.val (.ref o0), s1, s2, .val (.int i3), .val (.int i4), .val (.int i5), s6, s7] [])) target := by
  -- 3. LAWS

  refine ⟨T0, X0, e0, fun target kt => ?_⟩
  -- 4. STEPS
  show Steps p.tables e below (T0.setTop (mkF m 53 #[.val (.ref o0), s1, s2, .val (.int i3), .val (.int i4), .val (.int i5), s6, s7] [])) _
  refine XS.iload X0.here hx rfl (hb hby d3_53) rfl ?_
  show Steps p.tables e below (T0.setTop (mkF m 55 #[.val (.ref o0), s1, s2, .val (.int i3), .val (.int i4), .val (.int i5), s6, s7] [(.int i4)])) _
  refine XS.iload X0.here hx rfl (hb hby d3_55) rfl ?_
  show Steps p.tables e below (T0.setTop (mkF m 57 #[.val (.ref o0), s1, s2, .val (.int i3), .val (.int i4), .val (.int i5), s6, s7] [(.int i5), (.int i4)])) _
  refine XS.icmpNo X0.here hx rfl (hb hby d3_57) rfl (tlt hc57).2.1 ?_
  show Steps p.tables e below (T0.setTop (mkF m 60 #[.val (.ref o0), s1, s2, .val (.int i3), .val (.int i4), .val (.int i5), s6, s7] [])) _
  refine XS.iload X0.here hx rfl (hb hby d3_60) rfl ?_
  show Steps p.tables e below (T0.setTop (mkF m 62 #[.val (.ref o0), s1, s2, .val (.int i3), .val (.int i4), .val (.int i5), s6, s7] [(.int i4)])) _
  refine XS.iload X0.here hx rfl (hb hby d3_62) rfl ?_
  show Steps p.tables e below (T0.setTop (mkF m 64 #[.val (.ref o0), s1, s2, .val (.int i3), .val (.int i4), .val (.int i5), s6, s7] [(.int i5), (.int i4)])) _
  refine XS.iadd X0.here hx rfl (hb hby d3_64) rfl ?_
  show Steps p.tables e below (T0.setTop (mkF m 65 #[.val (.ref o0), s1, s2, .val (.int i3), .val (.int i4), .val (.int i5), s6, s7] [(.int (i4 + i5))])) _
  refine XS.iconst X0.here hx rfl (hb hby d3_65) ?_
  show Steps p.tables e below (T0.setTop (mkF m 66 #[.val (.ref o0), s1, s2, .val (.int i3), .val (.int i4), .val (.int i5), s6, s7] [(.int (1 : Int32)), (.int (i4 + i5))])) _
  refine XS.iushr X0.here hx rfl (hb hby d3_66) rfl ?_
  show Steps p.tables e below (T0.setTop (mkF m 67 #[.val (.ref o0), s1, s2, .val (.int i3), .val (.int i4), .val (.int i5), s6, s7] [(.int (((i4 + i5).toUInt32 >>> ((1 : Int32) &&& 31).toUInt32).toInt32))])) _
  refine XS.istore X0.here hx rfl (hb hby d3_67) rfl (l' := #[.val (.ref o0), s1, s2, .val (.int i3), .val (.int i4), .val (.int i5), s6, .val (.int (((i4 + i5).toUInt32 >>> ((1 : Int32) &&& 31).toUInt32).toInt32))]) (os3_67 hs7) ?_
  show Steps p.tables e below (T0.setTop (mkF m 69 #[.val (.ref o0), s1, s2, .val (.int i3), .val (.int i4), .val (.int i5), s6, .val (.int (((i4 + i5).toUInt32 >>> ((1 : Int32) &&& 31).toUInt32).toInt32))] [])) _
  refine XS.aloadN X0.here hx rfl (hb hby d3_69) rfl rfl ?_
  show Steps p.tables e below (T0.setTop (mkF m 70 #[.val (.ref o0), s1, s2, .val (.int i3), .val (.int i4), .val (.int i5), s6, .val (.int (((i4 + i5).toUInt32 >>> ((1 : Int32) &&& 31).toUInt32).toInt32))] [(.ref o0)])) _
  refine XS.iload X0.here hx rfl (hb hby d3_70) rfl ?_
  show Steps p.tables e below (T0.setTop (mkF m 72 #[.val (.ref o0), s1, s2, .val (.int i3), .val (.int i4), .val (.int i5), s6, .val (.int (((i4 + i5).toUInt32 >>> ((1 : Int32) &&& 31).toUInt32).toInt32))] [(.int (((i4 + i5).toUInt32 >>> ((1 : Int32) &&& 31).toUInt32).toInt32)), (.ref o0)])) _
  refine X0.iaload hx (j := (((i4 + i5).toUInt32 >>> ((1 : Int32) &&& 31).toUInt32).toInt32)) (v := (.int w5)) (by rw [e0]; exact Ar_o0.1) (State.isArrayOf_alike hZ.alike Ar_o0.2.1) Ar_o0.2.2 hin72 hat72 (g := (mkF m 72 #[.val (.ref o0), s1, s2, .val (.int i3), .val (.int i4), .val (.int i5), s6, .val (.int (((i4 + i5).toUInt32 >>> ((1 : Int32) &&& 31).toUInt32).toInt32))] [(.int (((i4 + i5).toUInt32 >>> ((1 : Int32) &&& 31).toUInt32).toInt32)), (.ref o0)])) rfl rfl (hb hby d3_72) _ ?_
  show Steps p.tables e below (T0.setTop (mkF m 73 #[.val (.ref o0), s1, s2, .val (.int i3), .val (.int i4), .val (.int i5), s6, .val (.int (((i4 + i5).toUInt32 >>> ((1 : Int32) &&& 31).toUInt32).toInt32))] [(.int w5)])) _
  refine XS.iloadN X0.here hx rfl (hb hby d3_73) rfl ?_
  show Steps p.tables e below (T0.setTop (mkF m 74 #[.val (.ref o0), s1, s2, .val (.int i3), .val (.int i4), .val (.int i5), s6, .val (.int (((i4 + i5).toUInt32 >>> ((1 : Int32) &&& 31).toUInt32).toInt32))] [(.int i3), (.int w5)])) _
  refine XS.icmpNo X0.here hx rfl (hb hby d3_74) rfl (tlt hc74).2.1 ?_
  show Steps p.tables e below (T0.setTop (mkF m 77 #[.val (.ref o0), s1, s2, .val (.int i3), .val (.int i4), .val (.int i5), s6, .val (.int (((i4 + i5).toUInt32 >>> ((1 : Int32) &&& 31).toUInt32).toInt32))] [])) _
  refine XS.iload X0.here hx rfl (hb hby d3_77) rfl ?_
  show Steps p.tables e below (T0.setTop (mkF m 79 #[.val (.ref o0), s1, s2, .val (.int i3), .val (.int i4), .val (.int i5), s6, .val (.int (((i4 + i5).toUInt32 >>> ((1 : Int32) &&& 31).toUInt32).toInt32))] [(.int (((i4 + i5).toUInt32 >>> ((1 : Int32) &&& 31).toUInt32).toInt32))])) _
  refine XS.iconst X0.here hx rfl (hb hby d3_79) ?_
  show Steps p.tables e below (T0.setTop (mkF m 80 #[.val (.ref o0), s1, s2, .val (.int i3), .val (.int i4), .val (.int i5), s6, .val (.int (((i4 + i5).toUInt32 >>> ((1 : Int32) &&& 31).toUInt32).toInt32))] [(.int (1 : Int32)), (.int (((i4 + i5).toUInt32 >>> ((1 : Int32) &&& 31).toUInt32).toInt32))])) _
  refine XS.iadd X0.here hx rfl (hb hby d3_80) rfl ?_
  show Steps p.tables e below (T0.setTop (mkF m 81 #[.val (.ref o0), s1, s2, .val (.int i3), .val (.int i4), .val (.int i5), s6, .val (.int (((i4 + i5).toUInt32 >>> ((1 : Int32) &&& 31).toUInt32).toInt32))] [(.int ((((i4 + i5).toUInt32 >>> ((1 : Int32) &&& 31).toUInt32).toInt32) + (1 : Int32)))])) _
  refine XS.istore X0.here hx rfl (hb hby d3_81) rfl (l' := #[.val (.ref o0), s1, s2, .val (.int i3), .val (.int ((((i4 + i5).toUInt32 >>> ((1 : Int32) &&& 31).toUInt32).toInt32) + (1 : Int32))), .val (.int i5), s6, .val (.int (((i4 + i5).toUInt32 >>> ((1 : Int32) &&& 31).toUInt32).toInt32))]) rfl ?_
  show Steps p.tables e below (T0.setTop (mkF m 83 #[.val (.ref o0), s1, s2, .val (.int i3), .val (.int ((((i4 + i5).toUInt32 >>> ((1 : Int32) &&& 31).toUInt32).toInt32) + (1 : Int32))), .val (.int i5), s6, .val (.int (((i4 + i5).toUInt32 >>> ((1 : Int32) &&& 31).toUInt32).toInt32))] [])) _
  refine XS.goto X0.here hx rfl (pc0 := 83) (pc' := 90) rfl (hb hby d3_83) (by decide) (by decide) ?_
  show Steps p.tables e below (T0.setTop (mkF m 90 #[.val (.ref o0), s1, s2, .val (.int i3), .val (.int ((((i4 + i5).toUInt32 >>> ((1 : Int32) &&& 31).toUInt32).toInt32) + (1 : Int32))), .val (.int i5), s6, .val (.int (((i4 + i5).toUInt32 >>> ((1 : Int32) &&& 31).toUInt32).toInt32))] [])) _
  refine XS.goto X0.here hx rfl (pc0 := 90) (pc' := 53) rfl (hb hby d3_90) (by decide) (by decide) ?_
  exact kt
theorem d3_86 : decode prog_29_method_3_code 86 = .ok (.iload 7, 2) := by decide +kernel
theorem d3_88 : decode prog_29_method_3_code 88 = .ok (.istore 5, 2) := by decide +kernel
set_option maxRecDepth 65536 in
set_option maxHeartbeats 40000000 in
theorem tn3_53_53b {p : Program} {l : Launch} {e : Env} {R : Room} {s : State} {m : MethodId} {args : Array Value} {below : List Frame} {meth : Method} {c : Code} {T0 : State} {locs : List Loc} {cells slots : Nat} {Z : State} {a0 : Array Value} {h0 : Heap} (o0 : Addr) (s1 : Slot) (s2 : Slot) (i3 : Int32) (i4 : Int32) (i5 : Int32) (s6 : Slot) (s7 : Slot) (w5 : Int32) (cl_o0 : Cell)
    (X0 : Stand p l e R s m args below meth c T0 locs cells slots) (hx : p.tables.exec = Jvm.exec) (hZ : Z.Warmed39 s.vm) (hw : ∀ d ∈ tables_1, d.before a0 Z = true) (hby : c.code = prog_29_method_3_code) (hml : c.maxLocals = 8) (hown : s.vm.findClass "com/example/lucid_tbox/lucidtbox/util/SortedArrays" = some m.cls) (e0 : T0.heap = h0) (hs7 : One s7) (Ar_o0 : Arr Z h0 o0 cl_o0 .int) (hin72 : ¬ ((((i4 + i5).toUInt32 >>> ((1 : Int32) &&& 31).toUInt32).toInt32) < 0 ∨ cl_o0.slots.size ≤ ((((i4 + i5).toUInt32 >>> ((1 : Int32) &&& 31).toUInt32).toInt32)).toNatClampNeg)) (hat72 : cl_o0.slots[((((i4 + i5).toUInt32 >>> ((1 : Int32) &&& 31).toUInt32).toInt32)).toNatClampNeg]? = some (.int w5)) (hc57 : i4 < i5) (hc74 : ¬ (w5 < i3)) :
    ∃ (T' : State), Stand p l e R s m args below meth c T' locs cells slots ∧ T'.heap = h0 ∧
      ∀ target, Steps p.tables e below (T'.setTop (mkF m 53 #[.val (.ref o0), s1, s2, .val (.int i3), .val (.int i4), .val (.int (((i4 + i5).toUInt32 >>> ((1 : Int32) &&& 31).toUInt32).toInt32)), s6, .val (.int (((i4 + i5).toUInt32 >>> ((1 : Int32) &&& 31).toUInt32).toInt32))] [])) target → Steps p.tables e below (T0.setTop (mkF m 53 #[.val (.ref o0), s1, s2, .val (.int i3), .val (.int i4), .val (.int i5), s6, s7] [])) target := by
  -- 3. LAWS

  refine ⟨T0, X0, e0, fun target kt => ?_⟩
  -- 4. STEPS
  show Steps p.tables e below (T0.setTop (mkF m 53 #[.val (.ref o0), s1, s2, .val (.int i3), .val (.int i4), .val (.int i5), s6, s7] [])) _
  refine XS.iload X0.here hx rfl (hb hby d3_53) rfl ?_
  show Steps p.tables e below (T0.setTop (mkF m 55 #[.val (.ref o0), s1, s2, .val (.int i3), .val (.int i4), .val (.int i5), s6, s7] [(.int i4)])) _
  refine XS.iload X0.here hx rfl (hb hby d3_55) rfl ?_
  show Steps p.tables e below (T0.setTop (mkF m 57 #[.val (.ref o0), s1, s2, .val (.int i3), .val (.int i4), .val (.int i5), s6, s7] [(.int i5), (.int i4)])) _
  refine XS.icmpNo X0.here hx rfl (hb hby d3_57) rfl (tlt hc57).2.1 ?_
  show Steps p.tables e below (T0.setTop (mkF m 60 #[.val (.ref o0), s1, s2, .val (.int i3), .val (.int i4), .val (.int i5), s6, s7] [])) _
  refine XS.iload X0.here hx rfl (hb hby d3_60) rfl ?_
  show Steps p.tables e below (T0.setTop (mkF m 62 #[.val (.ref o0), s1, s2, .val (.int i3), .val (.int i4), .val (.int i5), s6, s7] [(.int i4)])) _
  refine XS.iload X0.here hx rfl (hb hby d3_62) rfl ?_
  show Steps p.tables e below (T0.setTop (mkF m 64 #[.val (.ref o0), s1, s2, .val (.int i3), .val (.int i4), .val (.int i5), s6, s7] [(.int i5), (.int i4)])) _
  refine XS.iadd X0.here hx rfl (hb hby d3_64) rfl ?_
  show Steps p.tables e below (T0.setTop (mkF m 65 #[.val (.ref o0), s1, s2, .val (.int i3), .val (.int i4), .val (.int i5), s6, s7] [(.int (i4 + i5))])) _
  refine XS.iconst X0.here hx rfl (hb hby d3_65) ?_
  show Steps p.tables e below (T0.setTop (mkF m 66 #[.val (.ref o0), s1, s2, .val (.int i3), .val (.int i4), .val (.int i5), s6, s7] [(.int (1 : Int32)), (.int (i4 + i5))])) _
  refine XS.iushr X0.here hx rfl (hb hby d3_66) rfl ?_
  show Steps p.tables e below (T0.setTop (mkF m 67 #[.val (.ref o0), s1, s2, .val (.int i3), .val (.int i4), .val (.int i5), s6, s7] [(.int (((i4 + i5).toUInt32 >>> ((1 : Int32) &&& 31).toUInt32).toInt32))])) _
  refine XS.istore X0.here hx rfl (hb hby d3_67) rfl (l' := #[.val (.ref o0), s1, s2, .val (.int i3), .val (.int i4), .val (.int i5), s6, .val (.int (((i4 + i5).toUInt32 >>> ((1 : Int32) &&& 31).toUInt32).toInt32))]) (os3_67 hs7) ?_
  show Steps p.tables e below (T0.setTop (mkF m 69 #[.val (.ref o0), s1, s2, .val (.int i3), .val (.int i4), .val (.int i5), s6, .val (.int (((i4 + i5).toUInt32 >>> ((1 : Int32) &&& 31).toUInt32).toInt32))] [])) _
  refine XS.aloadN X0.here hx rfl (hb hby d3_69) rfl rfl ?_
  show Steps p.tables e below (T0.setTop (mkF m 70 #[.val (.ref o0), s1, s2, .val (.int i3), .val (.int i4), .val (.int i5), s6, .val (.int (((i4 + i5).toUInt32 >>> ((1 : Int32) &&& 31).toUInt32).toInt32))] [(.ref o0)])) _
  refine XS.iload X0.here hx rfl (hb hby d3_70) rfl ?_
  show Steps p.tables e below (T0.setTop (mkF m 72 #[.val (.ref o0), s1, s2, .val (.int i3), .val (.int i4), .val (.int i5), s6, .val (.int (((i4 + i5).toUInt32 >>> ((1 : Int32) &&& 31).toUInt32).toInt32))] [(.int (((i4 + i5).toUInt32 >>> ((1 : Int32) &&& 31).toUInt32).toInt32)), (.ref o0)])) _
  refine X0.iaload hx (j := (((i4 + i5).toUInt32 >>> ((1 : Int32) &&& 31).toUInt32).toInt32)) (v := (.int w5)) (by rw [e0]; exact Ar_o0.1) (State.isArrayOf_alike hZ.alike Ar_o0.2.1) Ar_o0.2.2 hin72 hat72 (g := (mkF m 72 #[.val (.ref o0), s1, s2, .val (.int i3), .val (.int i4), .val (.int i5), s6, .val (.int (((i4 + i5).toUInt32 >>> ((1 : Int32) &&& 31).toUInt32).toInt32))] [(.int (((i4 + i5).toUInt32 >>> ((1 : Int32) &&& 31).toUInt32).toInt32)), (.ref o0)])) rfl rfl (hb hby d3_72) _ ?_
  show Steps p.tables e below (T0.setTop (mkF m 73 #[.val (.ref o0), s1, s2, .val (.int i3), .val (.int i4), .val (.int i5), s6, .val (.int (((i4 + i5).toUInt32 >>> ((1 : Int32) &&& 31).toUInt32).toInt32))] [(.int w5)])) _
  refine XS.iloadN X0.here hx rfl (hb hby d3_73) rfl ?_
  show Steps p.tables e below (T0.setTop (mkF m 74 #[.val (.ref o0), s1, s2, .val (.int i3), .val (.int i4), .val (.int i5), s6, .val (.int (((i4 + i5).toUInt32 >>> ((1 : Int32) &&& 31).toUInt32).toInt32))] [(.int i3), (.int w5)])) _
  refine XS.icmpYes X0.here hx rfl (pc0 := 74) (pc' := 86) rfl (hb hby d3_74) rfl (flt hc74).2.1 (by decide) (by decide) ?_
  show Steps p.tables e below (T0.setTop (mkF m 86 #[.val (.ref o0), s1, s2, .val (.int i3), .val (.int i4), .val (.int i5), s6, .val (.int (((i4 + i5).toUInt32 >>> ((1 : Int32) &&& 31).toUInt32).toInt32))] [])) _
  refine XS.iload X0.here hx rfl (hb hby d3_86) rfl ?_
  show Steps p.tables e below (T0.setTop (mkF m 88 #[.val (.ref o0), s1, s2, .val (.int i3), .val (.int i4), .val (.int i5), s6, .val (.int (((i4 + i5).toUInt32 >>> ((1 : Int32) &&& 31).toUInt32).toInt32))] [(.int (((i4 + i5).toUInt32 >>> ((1 : Int32) &&& 31).toUInt32).toInt32))])) _
  refine XS.istore X0.here hx rfl (hb hby d3_88) rfl (l' := #[.val (.ref o0), s1, s2, .val (.int i3), .val (.int i4), .val (.int (((i4 + i5).toUInt32 >>> ((1 : Int32) &&& 31).toUInt32).toInt32)), s6, .val (.int (((i4 + i5).toUInt32 >>> ((1 : Int32) &&& 31).toUInt32).toInt32))]) rfl ?_
  show Steps p.tables e below (T0.setTop (mkF m 90 #[.val (.ref o0), s1, s2, .val (.int i3), .val (.int i4), .val (.int (((i4 + i5).toUInt32 >>> ((1 : Int32) &&& 31).toUInt32).toInt32)), s6, .val (.int (((i4 + i5).toUInt32 >>> ((1 : Int32) &&& 31).toUInt32).toInt32))] [])) _
  refine XS.goto X0.here hx rfl (pc0 := 90) (pc' := 53) rfl (hb hby d3_90) (by decide) (by decide) ?_
  exact kt
set_option maxRecDepth 65536 in
set_option maxHeartbeats 40000000 in
theorem tn3_53_93 {p : Program} {l : Launch} {e : Env} {R : Room} {s : State} {m : MethodId} {args : Array Value} {below : List Frame} {meth : Method} {c : Code} {T0 : State} {locs : List Loc} {cells slots : Nat} {Z : State} {a0 : Array Value} {h0 : Heap} (s0 : Slot) (s1 : Slot) (s2 : Slot) (s3 : Slot) (i4 : Int32) (i5 : Int32) (s6 : Slot) (s7 : Slot)
    (X0 : Stand p l e R s m args below meth c T0 locs cells slots) (hx : p.tables.exec = Jvm.exec) (hZ : Z.Warmed39 s.vm) (hw : ∀ d ∈ tables_1, d.before a0 Z = true) (hby : c.code = prog_29_method_3_code) (hml : c.maxLocals = 8) (hown : s.vm.findClass "com/example/lucid_tbox/lucidtbox/util/SortedArrays" = some m.cls) (e0 : T0.heap = h0) (hc57 : ¬ (i4 < i5)) :
    ∃ (T' : State), Stand p l e R s m args below meth c T' locs cells slots ∧ T'.heap = h0 ∧
      ∀ target, Steps p.tables e below (T'.setTop (mkF m 93 #[s0, s1, s2, s3, .val (.int i4), .val (.int i5), s6, s7] [])) target → Steps p.tables e below (T0.setTop (mkF m 53 #[s0, s1, s2, s3, .val (.int i4), .val (.int i5), s6, s7] [])) target := by
  -- 3. LAWS

  refine ⟨T0, X0, e0, fun target kt => ?_⟩
  -- 4. STEPS
  show Steps p.tables e below (T0.setTop (mkF m 53 #[s0, s1, s2, s3, .val (.int i4), .val (.int i5), s6, s7] [])) _
  refine XS.iload X0.here hx rfl (hb hby d3_53) rfl ?_
  show Steps p.tables e below (T0.setTop (mkF m 55 #[s0, s1, s2, s3, .val (.int i4), .val (.int i5), s6, s7] [(.int i4)])) _
  refine XS.iload X0.here hx rfl (hb hby d3_55) rfl ?_
  show Steps p.tables e below (T0.setTop (mkF m 57 #[s0, s1, s2, s3, .val (.int i4), .val (.int i5), s6, s7] [(.int i5), (.int i4)])) _
  refine XS.icmpYes X0.here hx rfl (pc0 := 57) (pc' := 93) rfl (hb hby d3_57) rfl (flt hc57).2.1 (by decide) (by decide) ?_
  exact kt
theorem loopA {p : Program} {l : Launch} {e : Env} {R : Room} {s : State} {m : MethodId} {args : Array Value} {below : List Frame} {meth : Method} {c : Code} {locs : List Loc} {cells slots : Nat} {Z : State} {a0 : Array Value} {h0 : Heap} (o0 : Addr) (s1 : Slot) (F : Nat → Int32) (A B : Nat) (num : Int32) (s7 : Slot) (hB : B ≤ 8) (mono : ∀ i j, i < j → j < 8 → F i < F j) (V : own_V Z h0 o0 .int 8 (fun j => .int (F j))) (hx : p.tables.exec = Jvm.exec) (hZ : Z.Warmed39 s.vm) (hw : ∀ d ∈ tables_1, d.before a0 Z = true) (hby : c.code = prog_29_method_3_code) (hml : c.maxLocals = 8) (hown : s.vm.findClass "com/example/lucid_tbox/lucidtbox/util/SortedArrays" = some m.cls) :
    ∀ (r lo hi st : Nat) (T0 : State), B - hi ≤ r → A ≤ lo → lo ≤ hi → lo ≤ B → 1 ≤ st → st ≤ hi + 1 → hi ≤ 15 → (∀ j, A ≤ j → j < lo → F j < num) → Stand p l e R s m args below meth c T0 locs cells slots → T0.heap = h0 →
      ∃ (T' : State) (lo' hi' st' : Nat), Stand p l e R s m args below meth c T' locs cells slots ∧ T'.heap = h0 ∧ A ≤ lo' ∧ lo' ≤ hi' ∧ lo' ≤ B ∧ hi' ≤ 15 ∧ (∀ j, A ≤ j → j < lo' → F j < num) ∧ (hi' < B → ¬ F hi' < num) ∧
        ∀ target, Steps p.tables e below (T'.setTop (mkF m 45 #[.val (.ref o0), s1, .val (.int (Int32.ofNat B)), .val (.int num), .val (.int (Int32.ofNat lo')), .val (.int (Int32.ofNat hi')), .val (.int (Int32.ofNat st')), s7] [])) target → Steps p.tables e below (T0.setTop (mkF m 9 #[.val (.ref o0), s1, .val (.int (Int32.ofNat B)), .val (.int num), .val (.int (Int32.ofNat lo)), .val (.int (Int32.ofNat hi)), .val (.int (Int32.ofNat st)), s7] [])) target := by
  obtain ⟨cl, Ar, Sz, H⟩ := V
  intro r
  induction r with
  | zero =>
    intro lo hi st T0 hr h1 h2 h3 h4 h5 h6 h7 X0 e0
    obtain ⟨T1, X1, e1, st1⟩ := tn3_9_45 (.val (.ref o0)) s1 (Int32.ofNat B) (.val (.int num)) (.val (.int (Int32.ofNat lo))) (Int32.ofNat hi) (.val (.int (Int32.ofNat st))) s7 X0 hx hZ hw hby hml hown e0 (fun q => absurd ((own_lt (by omega) (by omega)).mp q) (by omega))
    exact ⟨T1, lo, hi, st, X1, e1, h1, h2, h3, h6, h7, fun q => absurd q (by omega), st1⟩
  | succ r ih =>
    intro lo hi st T0 hr h1 h2 h3 h4 h5 h6 h7 X0 e0
    by_cases q : hi < B
    · have hlt : Int32.ofNat hi < Int32.ofNat B := (own_lt (by omega) (by omega)).mpr q
      have hin := own_inb (i := hi) Sz (by omega) (by decide)
      have hat := own_hat (i := hi) H (by omega) (by decide)
      by_cases u : F hi < num
      · obtain ⟨T1, X1, e1, st1⟩ := tn3_9_9 o0 s1 (Int32.ofNat B) num (.val (.int (Int32.ofNat lo))) (Int32.ofNat hi) (Int32.ofNat st) s7 (F hi) cl X0 hx hZ hw hby hml hown e0 Ar hin hat (One.val rfl) hlt u
        have h7' : ∀ j, A ≤ j → j < hi + 1 → F j < num := fun j hj hj' => by
          by_cases z : j = hi
          · subst z; exact u
          · exact Int32.lt_trans (mono j hi (by omega) (by omega)) u
        obtain ⟨T', lo', hi', st', X', e', k1, k2, k3, k4, k5, k6, stp⟩ := ih (hi + 1) (hi + st) (st * 2) T1 (by omega) (by omega) (by omega) (by omega) (by omega) (by omega) (by omega) h7' X1 e1
        refine ⟨T', lo', hi', st', X', e', k1, k2, k3, k4, k5, k6, fun target z => st1 target ?_⟩
        rw [own_one, own_add, own_two]
        exact stp target z
      · obtain ⟨T1, X1, e1, st1⟩ := tn3_9_45b o0 s1 (Int32.ofNat B) num (.val (.int (Int32.ofNat lo))) (Int32.ofNat hi) (.val (.int (Int32.ofNat st))) s7 (F hi) cl X0 hx hZ hw hby hml hown e0 Ar hin hat hlt u
        exact ⟨T1, lo, hi, st, X1, e1, h1, h2, h3, h6, h7, fun _ => u, st1⟩
    · obtain ⟨T1, X1, e1, st1⟩ := tn3_9_45 (.val (.ref o0)) s1 (Int32.ofNat B) (.val (.int num)) (.val (.int (Int32.ofNat lo))) (Int32.ofNat hi) (.val (.int (Int32.ofNat st))) s7 X0 hx hZ hw hby hml hown e0 (fun z => q ((own_lt (by omega) (by omega)).mp z))
      exact ⟨T1, lo, hi, st, X1, e1, h1, h2, h3, h6, h7, fun z => absurd z q, st1⟩
theorem loopB {p : Program} {l : Launch} {e : Env} {R : Room} {s : State} {m : MethodId} {args : Array Value} {below : List Frame} {meth : Method} {c : Code} {locs : List Loc} {cells slots : Nat} {Z : State} {a0 : Array Value} {h0 : Heap} (o0 : Addr) (s1 s2 s6 : Slot) (F : Nat → Int32) (A B : Nat) (num : Int32) (hB : B ≤ 8) (mono : ∀ i j, i < j → j < 8 → F i < F j) (V : own_V Z h0 o0 .int 8 (fun j => .int (F j))) (hx : p.tables.exec = Jvm.exec) (hZ : Z.Warmed39 s.vm) (hw : ∀ d ∈ tables_1, d.before a0 Z = true) (hby : c.code = prog_29_method_3_code) (hml : c.maxLocals = 8) (hown : s.vm.findClass "com/example/lucid_tbox/lucidtbox/util/SortedArrays" = some m.cls) :
    ∀ (r lo hi : Nat) (s7 : Slot) (T0 : State), hi - lo ≤ r → A ≤ lo → lo ≤ hi → hi ≤ B → (∀ j, A ≤ j → j < lo → F j < num) → (∀ j, hi ≤ j → j < B → ¬ F j < num) → One s7 → Stand p l e R s m args below meth c T0 locs cells slots → T0.heap = h0 →
      ∃ (T' : State) (x : Nat) (s7' : Slot), Stand p l e R s m args below meth c T' locs cells slots ∧ T'.heap = h0 ∧ A ≤ x ∧ x ≤ B ∧ (∀ j, A ≤ j → j < x → F j < num) ∧ (∀ j, x ≤ j → j < B → ¬ F j < num) ∧
        ∀ target, Steps p.tables e below (T'.setTop (mkF m 93 #[.val (.ref o0), s1, s2, .val (.int num), .val (.int (Int32.ofNat x)), .val (.int (Int32.ofNat x)), s6, s7'] [])) target → Steps p.tables e below (T0.setTop (mkF m 53 #[.val (.ref o0), s1, s2, .val (.int num), .val (.int (Int32.ofNat lo)), .val (.int (Int32.ofNat hi)), s6, s7] [])) target := by
  obtain ⟨cl, Ar, Sz, H⟩ := V
  intro r
  induction r with
  | zero =>
    intro lo hi s7 T0 hr h1 h2 h3 h4 h5 h6 X0 e0
    have : lo = hi := by omega
    subst this
    obtain ⟨T1, X1, e1, st1⟩ := tn3_53_93 (.val (.ref o0)) s1 s2 (.val (.int num)) (Int32.ofNat lo) (Int32.ofNat lo) s6 s7 X0 hx hZ hw hby hml hown e0 Int32.lt_irrefl
    exact ⟨T1, lo, s7, X1, e1, h1, h3, h4, h5, st1⟩
  | succ r ih =>
    intro lo hi s7 T0 hr h1 h2 h3 h4 h5 h6 X0 e0
    by_cases q : lo < hi
    · have hlt : Int32.ofNat lo < Int32.ofNat hi := (own_lt (by omega) (by omega)).mpr q
      have em := own_mid (i := lo) (n := hi) (by omega)
      have hin := own_inb (i := (lo + hi) / 2) Sz (by omega) (by decide)
      have hat := own_hat (i := (lo + hi) / 2) H (by omega) (by decide)
      rw [← em] at hin hat
      by_cases u : F ((lo + hi) / 2) < num
      · obtain ⟨T1, X1, e1, st1⟩ := tn3_53_53 o0 s1 s2 num (Int32.ofNat lo) (Int32.ofNat hi) s6 s7 (F ((lo + hi) / 2)) cl X0 hx hZ hw hby hml hown e0 h6 Ar hin hat hlt u
        have h4' : ∀ j, A ≤ j → j < (lo + hi) / 2 + 1 → F j < num := fun j hj hj' => by
          by_cases z : j = (lo + hi) / 2
          · rw [z]; exact u
          · exact Int32.lt_trans (mono j ((lo + hi) / 2) (by omega) (by omega)) u
        obtain ⟨T', x, s7', X', e', k1, k2, k3, k4, stp⟩ := ih ((lo + hi) / 2 + 1) hi (.val (.int (Int32.ofNat ((lo + hi) / 2)))) T1 (by omega) (by omega) (by omega) (by omega) h4' h5 (One.val rfl) X1 e1
        refine ⟨T', x, s7', X', e', k1, k2, k3, k4, fun target z => st1 target ?_⟩
        rw [em, own_one]
        exact stp target z
      · obtain ⟨T1, X1, e1, st1⟩ := tn3_53_53b o0 s1 s2 num (Int32.ofNat lo) (Int32.ofNat hi) s6 s7 (F ((lo + hi) / 2)) cl X0 hx hZ hw hby hml hown e0 h6 Ar hin hat hlt u
        have h5' : ∀ j, (lo + hi) / 2 ≤ j → j < B → ¬ F j < num := fun j hj hj' => by
          by_cases z : j = (lo + hi) / 2
          · rw [z]; exact u
          · intro w; exact u (Int32.lt_trans (mono ((lo + hi) / 2) j (by omega) (by omega)) w)
        obtain ⟨T', x, s7', X', e', k1, k2, k3, k4, stp⟩ := ih lo ((lo + hi) / 2) (.val (.int (Int32.ofNat ((lo + hi) / 2)))) T1 (by omega) (by omega) (by omega) (by omega) h4 h5' (One.val rfl) X1 e1
        refine ⟨T', x, s7', X', e', k1, k2, k3, k4, fun target z => st1 target ?_⟩
        rw [em]
        exact stp target z
    · have : lo = hi := by omega
      subst this
      obtain ⟨T1, X1, e1, st1⟩ := tn3_53_93 (.val (.ref o0)) s1 s2 (.val (.int num)) (Int32.ofNat lo) (Int32.ofNat lo) s6 s7 X0 hx hZ hw hby hml hown e0 Int32.lt_irrefl
      exact ⟨T1, lo, s7, X1, e1, h1, h3, h4, h5, st1⟩
theorem d3_0 : decode prog_29_method_3_code 0 = .ok (.iload_n 1, 1) := by decide +kernel
theorem d3_1 : decode prog_29_method_3_code 1 = .ok (.istore 4, 2) := by decide +kernel
theorem d3_3 : decode prog_29_method_3_code 3 = .ok (.iload_n 1, 1) := by decide +kernel
theorem d3_4 : decode prog_29_method_3_code 4 = .ok (.istore 5, 2) := by decide +kernel
theorem d3_6 : decode prog_29_method_3_code 6 = .ok (.iconst 1, 1) := by decide +kernel
theorem d3_7 : decode prog_29_method_3_code 7 = .ok (.istore 6, 2) := by decide +kernel
theorem d3_45 : decode prog_29_method_3_code 45 = .ok (.iload 5, 2) := by decide +kernel
theorem d3_47 : decode prog_29_method_3_code 47 = .ok (.iload_n 2, 1) := by decide +kernel
theorem d3_48 : decode prog_29_method_3_code 48 = .ok (.invokestatic 7, 3) := by decide +kernel
theorem d3_51 : decode prog_29_method_3_code 51 = .ok (.istore 5, 2) := by decide +kernel
theorem d3_93 : decode prog_29_method_3_code 93 = .ok (.iload 4, 2) := by decide +kernel
theorem d3_95 : decode prog_29_method_3_code 95 = .ok (.ireturn, 1) := by decide +kernel
theorem pd_3_0 : parseMethodDescriptor "(II)I" = some ⟨[.int, .int], some .int⟩ := by decide +kernel
theorem pn_3 : plainName "com/example/lucid_tbox/lucidtbox/util/SortedArrays" = true := by first | (simp [plainName, overriddenIn]; done) | decide +kernel
theorem ef_3 (m : MethodId) (x0 : Addr) (x1 : Int32) (x2 : Int32) (x3 : Int32) : entryFrame m #[(.ref x0), (.int x1), (.int x2), (.int x3)] 8 = mkF m 0 #[.val (.ref x0), .val (.int x1), .val (.int x2), .val (.int x3), .unset, .unset, .unset, .unset] [] := by first | (simp [entryFrame, mkF, argsToLocals, Value.category]; done) | rfl
def Q3 (Z : State) (a1 : Addr) (num : Int32) (F : Nat → Int32) (A : Nat) (B : Nat) (h0 : Heap) (n0 : Nat) (v : Option Value) (h : Heap) (L : List Loc) : Prop := ∃ x : Nat, v = some (.int (Int32.ofNat x)) ∧ Fr n0 L ∧ h = h0 ∧ A ≤ x ∧ x ≤ B ∧ (∀ j, A ≤ j → j < x → F j < num) ∧ (∀ j, x ≤ j → j < B → ¬ F j < num)
set_option maxRecDepth 65536 in
set_option maxHeartbeats 40000000 in
theorem rm3 (l : Launch) (Z : State) (a0 : Array Value) (hw : ∀ d ∈ tables_1, d.before a0 Z = true) (ws : List Jvm.Cond) (a1 : Addr) (num : Int32) (F : Nat → Int32) (A : Nat) (B : Nat) (h0 : Heap) (n0 : Nat) (Z0 : n0 ≤ h0.size) (V_a1 : own_V Z h0 a1 .int 8 (fun j => .int (F j))) (mono : ∀ i j, i < j → j < 8 → F i < F j) (hA : A ≤ B) (hB : B ≤ 8) :
    MetFree l (⟨"com/example/lucid_tbox/lucidtbox/util/SortedArrays", "seek", "([IIII)I"⟩ : MethodName) (head1 (Jvm.Cond.code (⟨"com/example/lucid_tbox/lucidtbox/util/SortedArrays", "seek", "([IIII)I"⟩ : MethodName) prog_29_method_3_code 8 (some .int) :: ws) ({ frames := 1, cells := 0, slots := 0, locals := 13 } : Room)) (fun a U => a = #[(.ref a1), (.int (Int32.ofNat A)), (.int (Int32.ofNat B)), (.int num)] ∧ Z.Warmed39 U.vm ∧ U.heap = h0) (fun _ _ _ _ _ => True) (fun _ U o U' => ∃ v L, o = .returned v ∧ Q3 Z a1 num F A B h0 n0 v U'.heap L ∧ FrameEnd U o U' L ({ frames := 1, cells := 0, slots := 0, locals := 13 } : Room).cells ({ frames := 1, cells := 0, slots := 0, locals := 13 } : Room).slots) := by
  refine MetFree.of_bodySF (plainFor_of_name pn_3) hisR ?_
  intro p e s m args below meth c s₁ Bd hml0 hP hK
  obtain ⟨rfl, hZ, hh⟩ := hP
  have hx := Bd.exec
  have hby := Bd.bytes
  have hml : c.maxLocals = 8 := hml0
  have hown : s.vm.findClass "com/example/lucid_tbox/lucidtbox/util/SortedArrays" = some m.cls := findClass_of_methodNamed Bd.named
  have hnm := (name_of_methodNamed Bd.named Bd.method).1
  have X0 : Stand p l e ({ frames := 1, cells := 0, slots := 0, locals := 13 } : Room) s m #[(.ref a1), (.int (Int32.ofNat A)), (.int (Int32.ofNat B)), (.int num)] below meth c s₁ [] 0 0 := Stand.of_body Bd
  have e0 : s₁.heap = h0 := by rw [← hh, Bd.state]; rfl
  have N0 := Fr.nil n0
  have go0 : ∀ t, Steps p.tables e below (s₁.setTop (mkF m 0 #[.val (.ref a1), .val (.int (Int32.ofNat A)), .val (.int (Int32.ofNat B)), .val (.int num), .unset, .unset, .unset, .unset] [])) t → Steps p.tables e below (s₁.setTop (entryFrame m #[(.ref a1), (.int (Int32.ofNat A)), (.int (Int32.ofNat B)), (.int num)] 8)) t := fun t k => castTop (ef_3 m a1 (Int32.ofNat A) (Int32.ofNat B) num) k
  have go1 : ∀ t, Steps p.tables e below (s₁.setTop (mkF m 9 #[.val (.ref a1), .val (.int (Int32.ofNat A)), .val (.int (Int32.ofNat B)), .val (.int num), .val (.int (Int32.ofNat A)), .val (.int (Int32.ofNat A)), .val (.int (1 : Int32)), .unset] [])) t → Steps p.tables e below (s₁.setTop (entryFrame m #[(.ref a1), (.int (Int32.ofNat A)), (.int (Int32.ofNat B)), (.int num)] 8)) t := by
    intro t k
    refine go0 t ?_
    show Steps p.tables e below (s₁.setTop (mkF m 0 #[.val (.ref a1), .val (.int (Int32.ofNat A)), .val (.int (Int32.ofNat B)), .val (.int num), .unset, .unset, .unset, .unset] [])) _
    refine XS.iloadN X0.here hx rfl (hb hby d3_0) rfl ?_
    show Steps p.tables e below (s₁.setTop (mkF m 1 #[.val (.ref a1), .val (.int (Int32.ofNat A)), .val (.int (Int32.ofNat B)), .val (.int num), .unset, .unset, .unset, .unset] [(.int (Int32.ofNat A))])) _
    refine XS.istore X0.here hx rfl (hb hby d3_1) rfl (l' := #[.val (.ref a1), .val (.int (Int32.ofNat A)), .val (.int (Int32.ofNat B)), .val (.int num), .val (.int (Int32.ofNat A)), .unset, .unset, .unset]) rfl ?_
    show Steps p.tables e below (s₁.setTop (mkF m 3 #[.val (.ref a1), .val (.int (Int32.ofNat A)), .val (.int (Int32.ofNat B)), .val (.int num), .val (.int (Int32.ofNat A)), .unset, .unset, .unset] [])) _
    refine XS.iloadN X0.here hx rfl (hb hby d3_3) rfl ?_
    show Steps p.tables e below (s₁.setTop (mkF m 4 #[.val (.ref a1), .val (.int (Int32.ofNat A)), .val (.int (Int32.ofNat B)), .val (.int num), .val (.int (Int32.ofNat A)), .unset, .unset, .unset] [(.int (Int32.ofNat A))])) _
    refine XS.istore X0.here hx rfl (hb hby d3_4) rfl (l' := #[.val (.ref a1), .val (.int (Int32.ofNat A)), .val (.int (Int32.ofNat B)), .val (.int num), .val (.int (Int32.ofNat A)), .val (.int (Int32.ofNat A)), .unset, .unset]) rfl ?_
    show Steps p.tables e below (s₁.setTop (mkF m 6 #[.val (.ref a1), .val (.int (Int32.ofNat A)), .val (.int (Int32.ofNat B)), .val (.int num), .val (.int (Int32.ofNat A)), .val (.int (Int32.ofNat A)), .unset, .unset] [])) _
    refine XS.iconst X0.here hx rfl (hb hby d3_6) ?_
    show Steps p.tables e below (s₁.setTop (mkF m 7 #[.val (.ref a1), .val (.int (Int32.ofNat A)), .val (.int (Int32.ofNat B)), .val (.int num), .val (.int (Int32.ofNat A)), .val (.int (Int32.ofNat A)), .unset, .unset] [(.int (1 : Int32))])) _
    refine XS.istore X0.here hx rfl (hb hby d3_7) rfl (l' := #[.val (.ref a1), .val (.int (Int32.ofNat A)), .val (.int (Int32.ofNat B)), .val (.int num), .val (.int (Int32.ofNat A)), .val (.int (Int32.ofNat A)), .val (.int (1 : Int32)), .unset]) rfl ?_
    exact k
  obtain ⟨TA, lo, hi, sp, XA, eA, a_1, a_2, a_3, a_4, a_5, a_6, stA⟩ := loopA a1 (.val (.int (Int32.ofNat A))) F A B num .unset hB mono V_a1 hx hZ hw hby hml hown (B - A) A A 1 s₁ (Nat.le_refl _) (Nat.le_refl _) (Nat.le_refl _) hA (by decide) (by omega) (by omega) (fun j u w => absurd w (by omega)) X0 e0
  have go2 : ∀ t, Steps p.tables e below (TA.setTop (mkF m 45 #[.val (.ref a1), .val (.int (Int32.ofNat A)), .val (.int (Int32.ofNat B)), .val (.int num), .val (.int (Int32.ofNat lo)), .val (.int (Int32.ofNat hi)), .val (.int (Int32.ofNat sp)), .unset] [])) t → Steps p.tables e below (s₁.setTop (entryFrame m #[(.ref a1), (.int (Int32.ofNat A)), (.int (Int32.ofNat B)), (.int num)] 8)) t := fun t k => go1 t (stA _ k)
  have go3 : ∀ t, Steps p.tables e below (TA.setTop (mkF m 48 #[.val (.ref a1), .val (.int (Int32.ofNat A)), .val (.int (Int32.ofNat B)), .val (.int num), .val (.int (Int32.ofNat lo)), .val (.int (Int32.ofNat hi)), .val (.int (Int32.ofNat sp)), .unset] [(.int (Int32.ofNat B)), (.int (Int32.ofNat hi))])) t → Steps p.tables e below (s₁.setTop (entryFrame m #[(.ref a1), (.int (Int32.ofNat A)), (.int (Int32.ofNat B)), (.int num)] 8)) t := by
    intro t k
    refine go2 t ?_
    show Steps p.tables e below (TA.setTop (mkF m 45 #[.val (.ref a1), .val (.int (Int32.ofNat A)), .val (.int (Int32.ofNat B)), .val (.int num), .val (.int (Int32.ofNat lo)), .val (.int (Int32.ofNat hi)), .val (.int (Int32.ofNat sp)), .unset] [])) _
    refine XS.iload XA.here hx rfl (hb hby d3_45) rfl ?_
    show Steps p.tables e below (TA.setTop (mkF m 47 #[.val (.ref a1), .val (.int (Int32.ofNat A)), .val (.int (Int32.ofNat B)), .val (.int num), .val (.int (Int32.ofNat lo)), .val (.int (Int32.ofNat hi)), .val (.int (Int32.ofNat sp)), .unset] [(.int (Int32.ofNat hi))])) _
    refine XS.iloadN XA.here hx rfl (hb hby d3_47) rfl ?_
    exact k
  obtain ⟨_, _, ⟨T4, L4, k4, n4⟩, -, X4, ⟨Lc4, hQ4, l4, y4, z4⟩, st4⟩ := Jvm.LawKit.callS XA hx (y := (⟨"java/lang/Math", "min", "(II)I"⟩ : MethodName)) hown (mvT hZ (hw _ (List.mem_of_getElem? (i := 15) rfl))) (mvT hZ (hw _ (List.mem_of_getElem? (i := 3) rfl))) (mvT hZ (hw _ (List.mem_of_getElem? (i := 4) rfl))) (mvT hZ (hw _ (List.mem_of_getElem? (i := 5) rfl))) (by decide) (backOf (W := 0) (rm1 l Z a0 hw [] (Int32.ofNat hi) (Int32.ofNat B) h0 n0 Z0) hZ (hw _ (List.mem_of_getElem? (i := 5) rfl)) (hw _ (List.mem_of_getElem? (i := 4) rfl)) (by decide) (by decide)) (g := (mkF m 48 #[.val (.ref a1), .val (.int (Int32.ofNat A)), .val (.int (Int32.ofNat B)), .val (.int num), .val (.int (Int32.ofNat lo)), .val (.int (Int32.ofNat hi)), .val (.int (Int32.ofNat sp)), .unset] [(.int (Int32.ofNat B)), (.int (Int32.ofNat hi))])) rfl (by rw [hml]; rfl) (argsL := [(.int (Int32.ofNat hi)), (.int (Int32.ofNat B))]) (rest := []) (lenOf pd_3_0 rfl) rfl (by show 2 * 0 + _ ≤ _; exact Nat.le_of_eq rfl) (hb hby d3_48) (fun _ _ => ⟨rfl, eA, (by decide : 0 + 0 ≤ _), (by decide : 0 + 0 ≤ _)⟩)
  dsimp only [Pt.U, Pt.locs, Pt.cells, Pt.slots] at X4 l4 y4 z4 st4 hQ4
  subst l4 y4 z4
  obtain ⟨rfl, N4q, e4⟩ := hQ4
  have N4 := Fr.app N0 N4q
  have go5 : ∀ t, Steps p.tables e below (T4.setTop (mkF m 51 #[.val (.ref a1), .val (.int (Int32.ofNat A)), .val (.int (Int32.ofNat B)), .val (.int num), .val (.int (Int32.ofNat lo)), .val (.int (Int32.ofNat hi)), .val (.int (Int32.ofNat sp)), .unset] [(.int (own_min (Int32.ofNat hi) (Int32.ofNat B)))])) t → Steps p.tables e below (s₁.setTop (entryFrame m #[(.ref a1), (.int (Int32.ofNat A)), (.int (Int32.ofNat B)), (.int num)] 8)) t := fun t k => go3 t (st4 _ k)
  have go6 : ∀ t, Steps p.tables e below (T4.setTop (mkF m 53 #[.val (.ref a1), .val (.int (Int32.ofNat A)), .val (.int (Int32.ofNat B)), .val (.int num), .val (.int (Int32.ofNat lo)), .val (.int (Int32.ofNat (min hi B))), .val (.int (Int32.ofNat sp)), .unset] [])) t → Steps p.tables e below (s₁.setTop (entryFrame m #[(.ref a1), (.int (Int32.ofNat A)), (.int (Int32.ofNat B)), (.int num)] 8)) t := by
    intro t k
    rw [← own_minN (i := hi) (n := B) (by omega) (by omega)] at k
    refine go5 t ?_
    show Steps p.tables e below (T4.setTop (mkF m 51 #[.val (.ref a1), .val (.int (Int32.ofNat A)), .val (.int (Int32.ofNat B)), .val (.int num), .val (.int (Int32.ofNat lo)), .val (.int (Int32.ofNat hi)), .val (.int (Int32.ofNat sp)), .unset] [(.int (own_min (Int32.ofNat hi) (Int32.ofNat B)))])) _
    refine XS.istore X4.here hx rfl (hb hby d3_51) rfl (l' := #[.val (.ref a1), .val (.int (Int32.ofNat A)), .val (.int (Int32.ofNat B)), .val (.int num), .val (.int (Int32.ofNat lo)), .val (.int (own_min (Int32.ofNat hi) (Int32.ofNat B))), .val (.int (Int32.ofNat sp)), .unset]) rfl ?_
    exact k
  have b_1 : ∀ j, min hi B ≤ j → j < B → ¬ F j < num := fun j u w z => by
    have q : hi < B := by omega
    by_cases y : j = hi
    · rw [y] at z; exact a_6 q z
    · exact a_6 q (Int32.lt_trans (mono hi j (by omega) (by omega)) z)
  obtain ⟨TB, x, s7, XB, eB, c_1, c_2, c_3, c_4, stB⟩ := loopB a1 (.val (.int (Int32.ofNat A))) (.val (.int (Int32.ofNat B))) (.val (.int (Int32.ofNat sp))) F A B num hB mono V_a1 hx hZ hw hby hml hown (min hi B - lo) lo (min hi B) .unset T4 (Nat.le_refl _) a_1 (by omega) (by omega) a_5 b_1 One.u X4 e4
  have go7 : ∀ t, Steps p.tables e below (TB.setTop (mkF m 93 #[.val (.ref a1), .val (.int (Int32.ofNat A)), .val (.int (Int32.ofNat B)), .val (.int num), .val (.int (Int32.ofNat x)), .val (.int (Int32.ofNat x)), .val (.int (Int32.ofNat sp)), s7] [])) t → Steps p.tables e below (s₁.setTop (entryFrame m #[(.ref a1), (.int (Int32.ofNat A)), (.int (Int32.ofNat B)), (.int num)] 8)) t := fun t k => go6 t (stB _ k)
  have go8 : ∀ t, Steps p.tables e below (TB.setTop (mkF m 95 #[.val (.ref a1), .val (.int (Int32.ofNat A)), .val (.int (Int32.ofNat B)), .val (.int num), .val (.int (Int32.ofNat x)), .val (.int (Int32.ofNat x)), .val (.int (Int32.ofNat sp)), s7] [(.int (Int32.ofNat x))])) t → Steps p.tables e below (s₁.setTop (entryFrame m #[(.ref a1), (.int (Int32.ofNat A)), (.int (Int32.ofNat B)), (.int num)] 8)) t := by
    intro t k
    refine go7 t ?_
    show Steps p.tables e below (TB.setTop (mkF m 93 #[.val (.ref a1), .val (.int (Int32.ofNat A)), .val (.int (Int32.ofNat B)), .val (.int num), .val (.int (Int32.ofNat x)), .val (.int (Int32.ofNat x)), .val (.int (Int32.ofNat sp)), s7] [])) _
    refine XS.iload XB.here hx rfl (hb hby d3_93) rfl ?_
    exact k
  obtain ⟨fs, hr, hrun, hended, hW, hsame⟩ := XB.leave (v := some (.int (Int32.ofNat x))) (fun h => by rw [Bd.returns] at h; cases h)
  refine ⟨_, _, go8 _ ?_, hrun, hended, _, _, rfl, ?_, ⟨_, rfl⟩, hW, hsame.mono (by decide) (by decide)⟩
  · show Steps p.tables e below (TB.setTop (mkF m 95 #[.val (.ref a1), .val (.int (Int32.ofNat A)), .val (.int (Int32.ofNat B)), .val (.int num), .val (.int (Int32.ofNat x)), .val (.int (Int32.ofNat x)), .val (.int (Int32.ofNat sp)), s7] [(.int (Int32.ofNat x))])) _
    exact retI XB hx Bd.returns (hb hby d3_95) hr
  · show Q3 Z a1 num F A B h0 n0 _ TB.heap _
    rw [eB]
    exact ⟨x, rfl, N4, rfl, c_1, c_2, c_3, c_4⟩
theorem pd_0_0 : parseMethodDescriptor "(II)I" = some ⟨[.int, .int], some .int⟩ := by decide +kernel
theorem pd_0_1 : parseMethodDescriptor "([IIIIII)I" = some ⟨[(.array .int), .int, .int, .int, .int, .int], some .int⟩ := by decide +kernel
theorem pd_0_2 : parseMethodDescriptor "([IIII)I" = some ⟨[(.array .int), .int, .int, .int], some .int⟩ := by decide +kernel
theorem pn_0 : plainName "com/example/lucid_tbox/lucidtbox/util/SortedArraysSeekPinLaw" = true := by first | (simp [plainName, overriddenIn]; done) | decide +kernel
theorem ef_0 (m : MethodId) (x0 : Int32) (x1 : Int32) (x2 : Int32) (x3 : Int32) (x4 : Int32) (x5 : Int32) : entryFrame m #[(.int x0), (.int x1), (.int x2), (.int x3), (.int x4), (.int x5)] maxLocals = mkF m 0 #[.val (.int x0), .val (.int x1), .val (.int x2), .val (.int x3), .val (.int x4), .val (.int x5), .unset, .unset, .unset, .unset, .unset, .unset, .unset, .unset] [] := by first | (simp [entryFrame, mkF, argsToLocals, Value.category, maxLocals]; done) | rfl
def Q0 (Z : State) (ba : Int32) (gp : Int32) (fsd : Int32) (tsd : Int32) (pk : Int32) (an : Int32) (h0 : Heap) (n0 : Nat) (v : Option Value) (h : Heap) (L : List Loc) : Prop := v = some (.int (1 : Int32)) ∧ Fr n0 L
set_option maxRecDepth 65536 in
set_option maxHeartbeats 40000000 in
theorem rm0 (l : Launch) (Z : State) (a0 : Array Value) (hw : ∀ d ∈ tables_1, d.before a0 Z = true) (ws : List Jvm.Cond) (ba : Int32) (gp : Int32) (fsd : Int32) (tsd : Int32) (pk : Int32) (an : Int32) (h0 : Heap) (n0 : Nat) (Z0 : n0 ≤ h0.size) :
    MetFree l x (head1 (Jvm.Cond.code x code maxLocals ret :: ws) room_1) (fun a U => a = #[(.int ba), (.int gp), (.int fsd), (.int tsd), (.int pk), (.int an)] ∧ Z.Warmed39 U.vm ∧ U.heap = h0) (fun _ _ _ _ _ => True) (fun _ U o U' => ∃ v L, o = .returned v ∧ Q0 Z ba gp fsd tsd pk an h0 n0 v U'.heap L ∧ FrameEnd U o U' L room_1.cells room_1.slots) := by
  refine MetFree.of_bodySF (plainFor_of_name pn_0) hisR ?_
  intro p e s m args below meth c s₁ Bd hml0 hP hK
  obtain ⟨rfl, hZ, hh⟩ := hP
  have hx := Bd.exec
  have hby := Bd.bytes
  have hml : c.maxLocals = 14 := hml0
  have hown : s.vm.findClass "com/example/lucid_tbox/lucidtbox/util/SortedArraysSeekPinLaw" = some m.cls := findClass_of_methodNamed Bd.named
  have hnm := (name_of_methodNamed Bd.named Bd.method).1
  have X0 : Stand p l e room_1 s m #[(.int ba), (.int gp), (.int fsd), (.int tsd), (.int pk), (.int an)] below meth c s₁ [] 0 0 := Stand.of_body Bd
  have e0 : s₁.heap = h0 := by rw [← hh, Bd.state]; rfl
  have N0 := Fr.nil n0
  have go0 : ∀ t, Steps p.tables e below (s₁.setTop (mkF m 0 #[.val (.int ba), .val (.int gp), .val (.int fsd), .val (.int tsd), .val (.int pk), .val (.int an), .unset, .unset, .unset, .unset, .unset, .unset, .unset, .unset] [])) t → Steps p.tables e below (s₁.setTop (entryFrame m #[(.int ba), (.int gp), (.int fsd), (.int tsd), (.int pk), (.int an)] maxLocals)) t := fun t k => castTop (ef_0 m ba gp fsd tsd pk an) k
  have go1 : ∀ t, Steps p.tables e below (s₁.setTop (mkF m 2 #[.val (.int ba), .val (.int gp), .val (.int fsd), .val (.int tsd), .val (.int pk), .val (.int an), .unset, .unset, .unset, .unset, .unset, .unset, .unset, .unset] [(.int (8 : Int32))])) t → Steps p.tables e below (s₁.setTop (entryFrame m #[(.int ba), (.int gp), (.int fsd), (.int tsd), (.int pk), (.int an)] maxLocals)) t := by
    intro t k
    refine go0 t ?_
    show Steps p.tables e below (s₁.setTop (mkF m 0 #[.val (.int ba), .val (.int gp), .val (.int fsd), .val (.int tsd), .val (.int pk), .val (.int an), .unset, .unset, .unset, .unset, .unset, .unset, .unset, .unset] [])) _
    refine XS.bipush X0.here hx rfl (hb hby at_0) ?_
    exact k
  obtain ⟨T2, h2, k2, X2, e2, E2, A2, st2⟩ := newP X0 hx hZ (hw _ (List.mem_of_getElem? (i := 0) rfl)) e0 (g := (mkF m 2 #[.val (.int ba), .val (.int gp), .val (.int fsd), .val (.int tsd), .val (.int pk), .val (.int an), .unset, .unset, .unset, .unset, .unset, .unset, .unset, .unset] [(.int (8 : Int32))])) rfl (hb hby at_2) rfl (by decide) (cap := 8) (by decide) (by decide) (by decide) (by decide)
  obtain ⟨b2, g2⟩ : ∃ z, z = h0.size := ⟨_, rfl⟩
  rw [← g2] at A2 st2
  have g_b2 : n0 ≤ b2 := Nat.le_trans Z0 (Nat.le_of_eq g2.symm)
  have Z2 : n0 ≤ h2.size := Nat.le_trans Z0 E2.1
  have V2 : Arv Z h2 b2 k2 .int (8 : Int32) [(.int (0 : Int32)), (.int (0 : Int32)), (.int (0 : Int32)), (.int (0 : Int32)), (.int (0 : Int32)), (.int (0 : Int32)), (.int (0 : Int32)), (.int (0 : Int32))] (.int (0 : Int32)) := (Arv.new A2 (by decide)).pad (pad_rep [] (.int (0 : Int32)) 8)
  have go3 : ∀ t, Steps p.tables e below (T2.setTop (mkF m 4 #[.val (.int ba), .val (.int gp), .val (.int fsd), .val (.int tsd), .val (.int pk), .val (.int an), .unset, .unset, .unset, .unset, .unset, .unset, .unset, .unset] [(.ref b2)])) t → Steps p.tables e below (s₁.setTop (entryFrame m #[(.int ba), (.int gp), (.int fsd), (.int tsd), (.int pk), (.int an)] maxLocals)) t := fun t k => go1 t (st2 _ k)
  have go4 : ∀ t, Steps p.tables e below (T2.setTop (mkF m 12 #[.val (.int ba), .val (.int gp), .val (.int fsd), .val (.int tsd), .val (.int pk), .val (.int an), .val (.ref b2), .unset, .unset, .unset, .unset, .unset, .unset, .unset] [(.int (2147483527 : Int32)), (.int ba), (.int (0 : Int32)), (.ref b2)])) t → Steps p.tables e below (s₁.setTop (entryFrame m #[(.int ba), (.int gp), (.int fsd), (.int tsd), (.int pk), (.int an)] maxLocals)) t := by
    intro t k
    refine go3 t ?_
    show Steps p.tables e below (T2.setTop (mkF m 4 #[.val (.int ba), .val (.int gp), .val (.int fsd), .val (.int tsd), .val (.int pk), .val (.int an), .unset, .unset, .unset, .unset, .unset, .unset, .unset, .unset] [(.ref b2)])) _
    refine XS.astore X2.here hx rfl (hb hby at_4) rfl rfl (l' := #[.val (.int ba), .val (.int gp), .val (.int fsd), .val (.int tsd), .val (.int pk), .val (.int an), .val (.ref b2), .unset, .unset, .unset, .unset, .unset, .unset, .unset]) rfl ?_
    show Steps p.tables e below (T2.setTop (mkF m 6 #[.val (.int ba), .val (.int gp), .val (.int fsd), .val (.int tsd), .val (.int pk), .val (.int an), .val (.ref b2), .unset, .unset, .unset, .unset, .unset, .unset, .unset] [])) _
    refine XS.aload X2.here hx rfl (hb hby at_6) rfl rfl ?_
    show Steps p.tables e below (T2.setTop (mkF m 8 #[.val (.int ba), .val (.int gp), .val (.int fsd), .val (.int tsd), .val (.int pk), .val (.int an), .val (.ref b2), .unset, .unset, .unset, .unset, .unset, .unset, .unset] [(.ref b2)])) _
    refine XS.iconst X2.here hx rfl (hb hby at_8) ?_
    show Steps p.tables e below (T2.setTop (mkF m 9 #[.val (.int ba), .val (.int gp), .val (.int fsd), .val (.int tsd), .val (.int pk), .val (.int an), .val (.ref b2), .unset, .unset, .unset, .unset, .unset, .unset, .unset] [(.int (0 : Int32)), (.ref b2)])) _
    refine XS.iloadN X2.here hx rfl (hb hby at_9) rfl ?_
    show Steps p.tables e below (T2.setTop (mkF m 10 #[.val (.int ba), .val (.int gp), .val (.int fsd), .val (.int tsd), .val (.int pk), .val (.int an), .val (.ref b2), .unset, .unset, .unset, .unset, .unset, .unset, .unset] [(.int ba), (.int (0 : Int32)), (.ref b2)])) _
    refine X2.ldcInt hx hown (mvT hZ (hw _ (List.mem_of_getElem? (i := 1) rfl))) (g := (mkF m 10 #[.val (.int ba), .val (.int gp), .val (.int fsd), .val (.int tsd), .val (.int pk), .val (.int an), .val (.ref b2), .unset, .unset, .unset, .unset, .unset, .unset, .unset] [(.int ba), (.int (0 : Int32)), (.ref b2)])) rfl (hb hby at_10) _ ?_
    exact k
  obtain ⟨_, _, ⟨T5, L5, k5, n5⟩, -, X5, ⟨Lc5, hQ5, l5, y5, z5⟩, st5⟩ := Jvm.LawKit.callS X2 hx (y := (⟨"java/lang/Math", "min", "(II)I"⟩ : MethodName)) hown (mvT hZ (hw _ (List.mem_of_getElem? (i := 2) rfl))) (mvT hZ (hw _ (List.mem_of_getElem? (i := 3) rfl))) (mvT hZ (hw _ (List.mem_of_getElem? (i := 4) rfl))) (mvT hZ (hw _ (List.mem_of_getElem? (i := 5) rfl))) (by decide) (backOf (W := 2) (rm1 l Z a0 hw [] ba (2147483527 : Int32) h2 n0 Z2) hZ (hw _ (List.mem_of_getElem? (i := 5) rfl)) (hw _ (List.mem_of_getElem? (i := 4) rfl)) (by decide) (by decide)) (g := (mkF m 12 #[.val (.int ba), .val (.int gp), .val (.int fsd), .val (.int tsd), .val (.int pk), .val (.int an), .val (.ref b2), .unset, .unset, .unset, .unset, .unset, .unset, .unset] [(.int (2147483527 : Int32)), (.int ba), (.int (0 : Int32)), (.ref b2)])) rfl (by rw [hml]; rfl) (argsL := [(.int ba), (.int (2147483527 : Int32))]) (rest := [(.int (0 : Int32)), (.ref b2)]) (lenOf pd_0_0 rfl) rfl (by show 2 * 0 + _ ≤ _; exact Nat.le_of_eq rfl) (hb hby at_12) (fun _ _ => ⟨rfl, e2, (by decide : 1 + 0 ≤ _), (by decide : 8 + 0 ≤ _)⟩)
  dsimp only [Pt.U, Pt.locs, Pt.cells, Pt.slots] at X5 l5 y5 z5 st5 hQ5
  subst l5 y5 z5
  obtain ⟨rfl, N5q, e5⟩ := hQ5
  have N5 := Fr.app N0 N5q
  have go6 : ∀ t, Steps p.tables e below (T5.setTop (mkF m 15 #[.val (.int ba), .val (.int gp), .val (.int fsd), .val (.int tsd), .val (.int pk), .val (.int an), .val (.ref b2), .unset, .unset, .unset, .unset, .unset, .unset, .unset] [(.int (own_min ba (2147483527 : Int32))), (.int (0 : Int32)), (.ref b2)])) t → Steps p.tables e below (s₁.setTop (entryFrame m #[(.int ba), (.int gp), (.int fsd), (.int tsd), (.int pk), (.int an)] maxLocals)) t := fun t k => go4 t (st5 _ k)
  obtain ⟨v0, h_v0⟩ : ∃ z : Int32, z = (own_min ba (2147483527 : Int32)) := ⟨_, rfl⟩
  have go7 : ∀ t, Steps p.tables e below (T5.setTop (mkF m 15 #[.val (.int ba), .val (.int gp), .val (.int fsd), .val (.int tsd), .val (.int pk), .val (.int an), .val (.ref b2), .unset, .unset, .unset, .unset, .unset, .unset, .unset] [(.int v0), (.int (0 : Int32)), (.ref b2)])) t → Steps p.tables e below (s₁.setTop (entryFrame m #[(.int ba), (.int gp), (.int fsd), (.int tsd), (.int pk), (.int an)] maxLocals)) t := by
    intro t k
    rw [h_v0] at k
    refine go6 t ?_
    exact k
  obtain ⟨cl8, Ar8, qa8, Sa8, Na8, Ha8, Ga8⟩ := V2
  have hin8 : ¬ ((0 : Int32) < 0 ∨ cl8.slots.size ≤ ((0 : Int32)).toNatClampNeg) := inb_of Sa8 ⟨by decide, by decide⟩
  obtain ⟨T8, h8, X8, e8, W8, st8⟩ := stI X5 hx hZ e5 Ar8 (j := (0 : Int32)) hin8 (g := (mkF m 15 #[.val (.int ba), .val (.int gp), .val (.int fsd), .val (.int tsd), .val (.int pk), .val (.int an), .val (.ref b2), .unset, .unset, .unset, .unset, .unset, .unset, .unset] [(.int v0), (.int (0 : Int32)), (.ref b2)])) rfl rfl (hb hby at_15)
  have V8 : Arv Z h8 b2 k2 .int (8 : Int32) [(.int v0), (.int (0 : Int32)), (.int (0 : Int32)), (.int (0 : Int32)), (.int (0 : Int32)), (.int (0 : Int32)), (.int (0 : Int32)), (.int (0 : Int32))] (.int (0 : Int32)) := Arv.set Ar8 qa8 Sa8 Na8 Ha8 Ga8 rfl W8 0 rfl (Nat.le_of_ble_eq_true rfl)
  have Z8 : n0 ≤ h8.size := Nat.le_trans Z2 (Keep.of_wr W8).1
  have N8 := Fr.snoc X8 N5 g_b2
  have go9 : ∀ t, Steps p.tables e below (T8.setTop (mkF m 16 #[.val (.int ba), .val (.int gp), .val (.int fsd), .val (.int tsd), .val (.int pk), .val (.int an), .val (.ref b2), .unset, .unset, .unset, .unset, .unset, .unset, .unset] [])) t → Steps p.tables e below (s₁.setTop (entryFrame m #[(.int ba), (.int gp), (.int fsd), (.int tsd), (.int pk), (.int an)] maxLocals)) t := fun t k => go7 t (st8 _ k)
  obtain ⟨cl10, Ar10, -, Sa10, -, Ha10, -⟩ := id V8
  have hin10 : ¬ ((0 : Int32) < 0 ∨ cl10.slots.size ≤ ((0 : Int32)).toNatClampNeg) := inb_of Sa10 ⟨by decide, by decide⟩
  have hat10 : cl10.slots[((0 : Int32)).toNatClampNeg]? = some (.int v0) := Ha10.at hin10 rfl
  obtain ⟨v1, h_v1⟩ : ∃ z : Int32, z = ((v0 + (1 : Int32)) + (gp &&& (15 : Int32))) := ⟨_, rfl⟩
  have go11 : ∀ t, Steps p.tables e below (T8.setTop (mkF m 30 #[.val (.int ba), .val (.int gp), .val (.int fsd), .val (.int tsd), .val (.int pk), .val (.int an), .val (.ref b2), .unset, .unset, .unset, .unset, .unset, .unset, .unset] [(.int v1), (.int (1 : Int32)), (.ref b2)])) t → Steps p.tables e below (s₁.setTop (entryFrame m #[(.int ba), (.int gp), (.int fsd), (.int tsd), (.int pk), (.int an)] maxLocals)) t := by
    intro t k
    rw [h_v1] at k
    refine go9 t ?_
    show Steps p.tables e below (T8.setTop (mkF m 16 #[.val (.int ba), .val (.int gp), .val (.int fsd), .val (.int tsd), .val (.int pk), .val (.int an), .val (.ref b2), .unset, .unset, .unset, .unset, .unset, .unset, .unset] [])) _
    refine XS.aload X8.here hx rfl (hb hby at_16) rfl rfl ?_
    show Steps p.tables e below (T8.setTop (mkF m 18 #[.val (.int ba), .val (.int gp), .val (.int fsd), .val (.int tsd), .val (.int pk), .val (.int an), .val (.ref b2), .unset, .unset, .unset, .unset, .unset, .unset, .unset] [(.ref b2)])) _
    refine XS.iconst X8.here hx rfl (hb hby at_18) ?_
    show Steps p.tables e below (T8.setTop (mkF m 19 #[.val (.int ba), .val (.int gp), .val (.int fsd), .val (.int tsd), .val (.int pk), .val (.int an), .val (.ref b2), .unset, .unset, .unset, .unset, .unset, .unset, .unset] [(.int (1 : Int32)), (.ref b2)])) _
    refine XS.aload X8.here hx rfl (hb hby at_19) rfl rfl ?_
    show Steps p.tables e below (T8.setTop (mkF m 21 #[.val (.int ba), .val (.int gp), .val (.int fsd), .val (.int tsd), .val (.int pk), .val (.int an), .val (.ref b2), .unset, .unset, .unset, .unset, .unset, .unset, .unset] [(.ref b2), (.int (1 : Int32)), (.ref b2)])) _
    refine XS.iconst X8.here hx rfl (hb hby at_21) ?_
    show Steps p.tables e below (T8.setTop (mkF m 22 #[.val (.int ba), .val (.int gp), .val (.int fsd), .val (.int tsd), .val (.int pk), .val (.int an), .val (.ref b2), .unset, .unset, .unset, .unset, .unset, .unset, .unset] [(.int (0 : Int32)), (.ref b2), (.int (1 : Int32)), (.ref b2)])) _
    refine X8.iaload hx (j := (0 : Int32)) (v := (.int v0)) (by rw [e8]; exact Ar10.1) (State.isArrayOf_alike hZ.alike Ar10.2.1) Ar10.2.2 hin10 hat10 (g := (mkF m 22 #[.val (.int ba), .val (.int gp), .val (.int fsd), .val (.int tsd), .val (.int pk), .val (.int an), .val (.ref b2), .unset, .unset, .unset, .unset, .unset, .unset, .unset] [(.int (0 : Int32)), (.ref b2), (.int (1 : Int32)), (.ref b2)])) rfl rfl (hb hby at_22) _ ?_
    show Steps p.tables e below (T8.setTop (mkF m 23 #[.val (.int ba), .val (.int gp), .val (.int fsd), .val (.int tsd), .val (.int pk), .val (.int an), .val (.ref b2), .unset, .unset, .unset, .unset, .unset, .unset, .unset] [(.int v0), (.int (1 : Int32)), (.ref b2)])) _
    refine XS.iconst X8.here hx rfl (hb hby at_23) ?_
    show Steps p.tables e below (T8.setTop (mkF m 24 #[.val (.int ba), .val (.int gp), .val (.int fsd), .val (.int tsd), .val (.int pk), .val (.int an), .val (.ref b2), .unset, .unset, .unset, .unset, .unset, .unset, .unset] [(.int (1 : Int32)), (.int v0), (.int (1 : Int32)), (.ref b2)])) _
    refine XS.iadd X8.here hx rfl (hb hby at_24) rfl ?_
    show Steps p.tables e below (T8.setTop (mkF m 25 #[.val (.int ba), .val (.int gp), .val (.int fsd), .val (.int tsd), .val (.int pk), .val (.int an), .val (.ref b2), .unset, .unset, .unset, .unset, .unset, .unset, .unset] [(.int (v0 + (1 : Int32))), (.int (1 : Int32)), (.ref b2)])) _
    refine XS.iloadN X8.here hx rfl (hb hby at_25) rfl ?_
    show Steps p.tables e below (T8.setTop (mkF m 26 #[.val (.int ba), .val (.int gp), .val (.int fsd), .val (.int tsd), .val (.int pk), .val (.int an), .val (.ref b2), .unset, .unset, .unset, .unset, .unset, .unset, .unset] [(.int gp), (.int (v0 + (1 : Int32))), (.int (1 : Int32)), (.ref b2)])) _
    refine XS.bipush X8.here hx rfl (hb hby at_26) ?_
    show Steps p.tables e below (T8.setTop (mkF m 28 #[.val (.int ba), .val (.int gp), .val (.int fsd), .val (.int tsd), .val (.int pk), .val (.int an), .val (.ref b2), .unset, .unset, .unset, .unset, .unset, .unset, .unset] [(.int (15 : Int32)), (.int gp), (.int (v0 + (1 : Int32))), (.int (1 : Int32)), (.ref b2)])) _
    refine XS.iand X8.here hx rfl (hb hby at_28) rfl ?_
    show Steps p.tables e below (T8.setTop (mkF m 29 #[.val (.int ba), .val (.int gp), .val (.int fsd), .val (.int tsd), .val (.int pk), .val (.int an), .val (.ref b2), .unset, .unset, .unset, .unset, .unset, .unset, .unset] [(.int (gp &&& (15 : Int32))), (.int (v0 + (1 : Int32))), (.int (1 : Int32)), (.ref b2)])) _
    refine XS.iadd X8.here hx rfl (hb hby at_29) rfl ?_
    exact k
  obtain ⟨cl12, Ar12, qa12, Sa12, Na12, Ha12, Ga12⟩ := V8
  have hin12 : ¬ ((1 : Int32) < 0 ∨ cl12.slots.size ≤ ((1 : Int32)).toNatClampNeg) := inb_of Sa12 ⟨by decide, by decide⟩
  obtain ⟨T12, h12, X12, e12, W12, st12⟩ := stI X8 hx hZ e8 Ar12 (j := (1 : Int32)) hin12 (g := (mkF m 30 #[.val (.int ba), .val (.int gp), .val (.int fsd), .val (.int tsd), .val (.int pk), .val (.int an), .val (.ref b2), .unset, .unset, .unset, .unset, .unset, .unset, .unset] [(.int v1), (.int (1 : Int32)), (.ref b2)])) rfl rfl (hb hby at_30)
  have V12 : Arv Z h12 b2 k2 .int (8 : Int32) [(.int v0), (.int v1), (.int (0 : Int32)), (.int (0 : Int32)), (.int (0 : Int32)), (.int (0 : Int32)), (.int (0 : Int32)), (.int (0 : Int32))] (.int (0 : Int32)) := Arv.set Ar12 qa12 Sa12 Na12 Ha12 Ga12 rfl W12 1 rfl (Nat.le_of_ble_eq_true rfl)
  have Z12 : n0 ≤ h12.size := Nat.le_trans Z8 (Keep.of_wr W12).1
  have N12 := Fr.snoc X12 N8 g_b2
  have go13 : ∀ t, Steps p.tables e below (T12.setTop (mkF m 31 #[.val (.int ba), .val (.int gp), .val (.int fsd), .val (.int tsd), .val (.int pk), .val (.int an), .val (.ref b2), .unset, .unset, .unset, .unset, .unset, .unset, .unset] [])) t → Steps p.tables e below (s₁.setTop (entryFrame m #[(.int ba), (.int gp), (.int fsd), (.int tsd), (.int pk), (.int an)] maxLocals)) t := fun t k => go11 t (st12 _ k)
  obtain ⟨cl14, Ar14, -, Sa14, -, Ha14, -⟩ := id V12
  have hin14 : ¬ ((1 : Int32) < 0 ∨ cl14.slots.size ≤ ((1 : Int32)).toNatClampNeg) := inb_of Sa14 ⟨by decide, by decide⟩
  have hat14 : cl14.slots[((1 : Int32)).toNatClampNeg]? = some (.int v1) := Ha14.at hin14 rfl
  obtain ⟨v2, h_v2⟩ : ∃ z : Int32, z = ((v1 + (1 : Int32)) + (((gp.toUInt32 >>> ((4 : Int32) &&& 31).toUInt32).toInt32) &&& (15 : Int32))) := ⟨_, rfl⟩
  have go15 : ∀ t, Steps p.tables e below (T12.setTop (mkF m 47 #[.val (.int ba), .val (.int gp), .val (.int fsd), .val (.int tsd), .val (.int pk), .val (.int an), .val (.ref b2), .unset, .unset, .unset, .unset, .unset, .unset, .unset] [(.int v2), (.int (2 : Int32)), (.ref b2)])) t → Steps p.tables e below (s₁.setTop (entryFrame m #[(.int ba), (.int gp), (.int fsd), (.int tsd), (.int pk), (.int an)] maxLocals)) t := by
    intro t k
    rw [h_v2] at k
    refine go13 t ?_
    show Steps p.tables e below (T12.setTop (mkF m 31 #[.val (.int ba), .val (.int gp), .val (.int fsd), .val (.int tsd), .val (.int pk), .val (.int an), .val (.ref b2), .unset, .unset, .unset, .unset, .unset, .unset, .unset] [])) _
    refine XS.aload X12.here hx rfl (hb hby at_31) rfl rfl ?_
    show Steps p.tables e below (T12.setTop (mkF m 33 #[.val (.int ba), .val (.int gp), .val (.int fsd), .val (.int tsd), .val (.int pk), .val (.int an), .val (.ref b2), .unset, .unset, .unset, .unset, .unset, .unset, .unset] [(.ref b2)])) _
    refine XS.iconst X12.here hx rfl (hb hby at_33) ?_
    show Steps p.tables e below (T12.setTop (mkF m 34 #[.val (.int ba), .val (.int gp), .val (.int fsd), .val (.int tsd), .val (.int pk), .val (.int an), .val (.ref b2), .unset, .unset, .unset, .unset, .unset, .unset, .unset] [(.int (2 : Int32)), (.ref b2)])) _
    refine XS.aload X12.here hx rfl (hb hby at_34) rfl rfl ?_
    show Steps p.tables e below (T12.setTop (mkF m 36 #[.val (.int ba), .val (.int gp), .val (.int fsd), .val (.int tsd), .val (.int pk), .val (.int an), .val (.ref b2), .unset, .unset, .unset, .unset, .unset, .unset, .unset] [(.ref b2), (.int (2 : Int32)), (.ref b2)])) _
    refine XS.iconst X12.here hx rfl (hb hby at_36) ?_
    show Steps p.tables e below (T12.setTop (mkF m 37 #[.val (.int ba), .val (.int gp), .val (.int fsd), .val (.int tsd), .val (.int pk), .val (.int an), .val (.ref b2), .unset, .unset, .unset, .unset, .unset, .unset, .unset] [(.int (1 : Int32)), (.ref b2), (.int (2 : Int32)), (.ref b2)])) _
    refine X12.iaload hx (j := (1 : Int32)) (v := (.int v1)) (by rw [e12]; exact Ar14.1) (State.isArrayOf_alike hZ.alike Ar14.2.1) Ar14.2.2 hin14 hat14 (g := (mkF m 37 #[.val (.int ba), .val (.int gp), .val (.int fsd), .val (.int tsd), .val (.int pk), .val (.int an), .val (.ref b2), .unset, .unset, .unset, .unset, .unset, .unset, .unset] [(.int (1 : Int32)), (.ref b2), (.int (2 : Int32)), (.ref b2)])) rfl rfl (hb hby at_37) _ ?_
    show Steps p.tables e below (T12.setTop (mkF m 38 #[.val (.int ba), .val (.int gp), .val (.int fsd), .val (.int tsd), .val (.int pk), .val (.int an), .val (.ref b2), .unset, .unset, .unset, .unset, .unset, .unset, .unset] [(.int v1), (.int (2 : Int32)), (.ref b2)])) _
    refine XS.iconst X12.here hx rfl (hb hby at_38) ?_
    show Steps p.tables e below (T12.setTop (mkF m 39 #[.val (.int ba), .val (.int gp), .val (.int fsd), .val (.int tsd), .val (.int pk), .val (.int an), .val (.ref b2), .unset, .unset, .unset, .unset, .unset, .unset, .unset] [(.int (1 : Int32)), (.int v1), (.int (2 : Int32)), (.ref b2)])) _
    refine XS.iadd X12.here hx rfl (hb hby at_39) rfl ?_
    show Steps p.tables e below (T12.setTop (mkF m 40 #[.val (.int ba), .val (.int gp), .val (.int fsd), .val (.int tsd), .val (.int pk), .val (.int an), .val (.ref b2), .unset, .unset, .unset, .unset, .unset, .unset, .unset] [(.int (v1 + (1 : Int32))), (.int (2 : Int32)), (.ref b2)])) _
    refine XS.iloadN X12.here hx rfl (hb hby at_40) rfl ?_
    show Steps p.tables e below (T12.setTop (mkF m 41 #[.val (.int ba), .val (.int gp), .val (.int fsd), .val (.int tsd), .val (.int pk), .val (.int an), .val (.ref b2), .unset, .unset, .unset, .unset, .unset, .unset, .unset] [(.int gp), (.int (v1 + (1 : Int32))), (.int (2 : Int32)), (.ref b2)])) _
    refine XS.iconst X12.here hx rfl (hb hby at_41) ?_
    show Steps p.tables e below (T12.setTop (mkF m 42 #[.val (.int ba), .val (.int gp), .val (.int fsd), .val (.int tsd), .val (.int pk), .val (.int an), .val (.ref b2), .unset, .unset, .unset, .unset, .unset, .unset, .unset] [(.int (4 : Int32)), (.int gp), (.int (v1 + (1 : Int32))), (.int (2 : Int32)), (.ref b2)])) _
    refine XS.iushr X12.here hx rfl (hb hby at_42) rfl ?_
    show Steps p.tables e below (T12.setTop (mkF m 43 #[.val (.int ba), .val (.int gp), .val (.int fsd), .val (.int tsd), .val (.int pk), .val (.int an), .val (.ref b2), .unset, .unset, .unset, .unset, .unset, .unset, .unset] [(.int ((gp.toUInt32 >>> ((4 : Int32) &&& 31).toUInt32).toInt32)), (.int (v1 + (1 : Int32))), (.int (2 : Int32)), (.ref b2)])) _
    refine XS.bipush X12.here hx rfl (hb hby at_43) ?_
    show Steps p.tables e below (T12.setTop (mkF m 45 #[.val (.int ba), .val (.int gp), .val (.int fsd), .val (.int tsd), .val (.int pk), .val (.int an), .val (.ref b2), .unset, .unset, .unset, .unset, .unset, .unset, .unset] [(.int (15 : Int32)), (.int ((gp.toUInt32 >>> ((4 : Int32) &&& 31).toUInt32).toInt32)), (.int (v1 + (1 : Int32))), (.int (2 : Int32)), (.ref b2)])) _
    refine XS.iand X12.here hx rfl (hb hby at_45) rfl ?_
    show Steps p.tables e below (T12.setTop (mkF m 46 #[.val (.int ba), .val (.int gp), .val (.int fsd), .val (.int tsd), .val (.int pk), .val (.int an), .val (.ref b2), .unset, .unset, .unset, .unset, .unset, .unset, .unset] [(.int (((gp.toUInt32 >>> ((4 : Int32) &&& 31).toUInt32).toInt32) &&& (15 : Int32))), (.int (v1 + (1 : Int32))), (.int (2 : Int32)), (.ref b2)])) _
    refine XS.iadd X12.here hx rfl (hb hby at_46) rfl ?_
    exact k
  obtain ⟨cl16, Ar16, qa16, Sa16, Na16, Ha16, Ga16⟩ := V12
  have hin16 : ¬ ((2 : Int32) < 0 ∨ cl16.slots.size ≤ ((2 : Int32)).toNatClampNeg) := inb_of Sa16 ⟨by decide, by decide⟩
  obtain ⟨T16, h16, X16, e16, W16, st16⟩ := stI X12 hx hZ e12 Ar16 (j := (2 : Int32)) hin16 (g := (mkF m 47 #[.val (.int ba), .val (.int gp), .val (.int fsd), .val (.int tsd), .val (.int pk), .val (.int an), .val (.ref b2), .unset, .unset, .unset, .unset, .unset, .unset, .unset] [(.int v2), (.int (2 : Int32)), (.ref b2)])) rfl rfl (hb hby at_47)
  have V16 : Arv Z h16 b2 k2 .int (8 : Int32) [(.int v0), (.int v1), (.int v2), (.int (0 : Int32)), (.int (0 : Int32)), (.int (0 : Int32)), (.int (0 : Int32)), (.int (0 : Int32))] (.int (0 : Int32)) := Arv.set Ar16 qa16 Sa16 Na16 Ha16 Ga16 rfl W16 2 rfl (Nat.le_of_ble_eq_true rfl)
  have Z16 : n0 ≤ h16.size := Nat.le_trans Z12 (Keep.of_wr W16).1
  have N16 := Fr.snoc X16 N12 g_b2
  have go17 : ∀ t, Steps p.tables e below (T16.setTop (mkF m 48 #[.val (.int ba), .val (.int gp), .val (.int fsd), .val (.int tsd), .val (.int pk), .val (.int an), .val (.ref b2), .unset, .unset, .unset, .unset, .unset, .unset, .unset] [])) t → Steps p.tables e below (s₁.setTop (entryFrame m #[(.int ba), (.int gp), (.int fsd), (.int tsd), (.int pk), (.int an)] maxLocals)) t := fun t k => go15 t (st16 _ k)
  obtain ⟨cl18, Ar18, -, Sa18, -, Ha18, -⟩ := id V16
  have hin18 : ¬ ((2 : Int32) < 0 ∨ cl18.slots.size ≤ ((2 : Int32)).toNatClampNeg) := inb_of Sa18 ⟨by decide, by decide⟩
  have hat18 : cl18.slots[((2 : Int32)).toNatClampNeg]? = some (.int v2) := Ha18.at hin18 rfl
  obtain ⟨v3, h_v3⟩ : ∃ z : Int32, z = ((v2 + (1 : Int32)) + (((gp.toUInt32 >>> ((8 : Int32) &&& 31).toUInt32).toInt32) &&& (15 : Int32))) := ⟨_, rfl⟩
  have go19 : ∀ t, Steps p.tables e below (T16.setTop (mkF m 65 #[.val (.int ba), .val (.int gp), .val (.int fsd), .val (.int tsd), .val (.int pk), .val (.int an), .val (.ref b2), .unset, .unset, .unset, .unset, .unset, .unset, .unset] [(.int v3), (.int (3 : Int32)), (.ref b2)])) t → Steps p.tables e below (s₁.setTop (entryFrame m #[(.int ba), (.int gp), (.int fsd), (.int tsd), (.int pk), (.int an)] maxLocals)) t := by
    intro t k
    rw [h_v3] at k
    refine go17 t ?_
    show Steps p.tables e below (T16.setTop (mkF m 48 #[.val (.int ba), .val (.int gp), .val (.int fsd), .val (.int tsd), .val (.int pk), .val (.int an), .val (.ref b2), .unset, .unset, .unset, .unset, .unset, .unset, .unset] [])) _
    refine XS.aload X16.here hx rfl (hb hby at_48) rfl rfl ?_
    show Steps p.tables e below (T16.setTop (mkF m 50 #[.val (.int ba), .val (.int gp), .val (.int fsd), .val (.int tsd), .val (.int pk), .val (.int an), .val (.ref b2), .unset, .unset, .unset, .unset, .unset, .unset, .unset] [(.ref b2)])) _
    refine XS.iconst X16.here hx rfl (hb hby at_50) ?_
    show Steps p.tables e below (T16.setTop (mkF m 51 #[.val (.int ba), .val (.int gp), .val (.int fsd), .val (.int tsd), .val (.int pk), .val (.int an), .val (.ref b2), .unset, .unset, .unset, .unset, .unset, .unset, .unset] [(.int (3 : Int32)), (.ref b2)])) _
    refine XS.aload X16.here hx rfl (hb hby at_51) rfl rfl ?_
    show Steps p.tables e below (T16.setTop (mkF m 53 #[.val (.int ba), .val (.int gp), .val (.int fsd), .val (.int tsd), .val (.int pk), .val (.int an), .val (.ref b2), .unset, .unset, .unset, .unset, .unset, .unset, .unset] [(.ref b2), (.int (3 : Int32)), (.ref b2)])) _
    refine XS.iconst X16.here hx rfl (hb hby at_53) ?_
    show Steps p.tables e below (T16.setTop (mkF m 54 #[.val (.int ba), .val (.int gp), .val (.int fsd), .val (.int tsd), .val (.int pk), .val (.int an), .val (.ref b2), .unset, .unset, .unset, .unset, .unset, .unset, .unset] [(.int (2 : Int32)), (.ref b2), (.int (3 : Int32)), (.ref b2)])) _
    refine X16.iaload hx (j := (2 : Int32)) (v := (.int v2)) (by rw [e16]; exact Ar18.1) (State.isArrayOf_alike hZ.alike Ar18.2.1) Ar18.2.2 hin18 hat18 (g := (mkF m 54 #[.val (.int ba), .val (.int gp), .val (.int fsd), .val (.int tsd), .val (.int pk), .val (.int an), .val (.ref b2), .unset, .unset, .unset, .unset, .unset, .unset, .unset] [(.int (2 : Int32)), (.ref b2), (.int (3 : Int32)), (.ref b2)])) rfl rfl (hb hby at_54) _ ?_
    show Steps p.tables e below (T16.setTop (mkF m 55 #[.val (.int ba), .val (.int gp), .val (.int fsd), .val (.int tsd), .val (.int pk), .val (.int an), .val (.ref b2), .unset, .unset, .unset, .unset, .unset, .unset, .unset] [(.int v2), (.int (3 : Int32)), (.ref b2)])) _
    refine XS.iconst X16.here hx rfl (hb hby at_55) ?_
    show Steps p.tables e below (T16.setTop (mkF m 56 #[.val (.int ba), .val (.int gp), .val (.int fsd), .val (.int tsd), .val (.int pk), .val (.int an), .val (.ref b2), .unset, .unset, .unset, .unset, .unset, .unset, .unset] [(.int (1 : Int32)), (.int v2), (.int (3 : Int32)), (.ref b2)])) _
    refine XS.iadd X16.here hx rfl (hb hby at_56) rfl ?_
    show Steps p.tables e below (T16.setTop (mkF m 57 #[.val (.int ba), .val (.int gp), .val (.int fsd), .val (.int tsd), .val (.int pk), .val (.int an), .val (.ref b2), .unset, .unset, .unset, .unset, .unset, .unset, .unset] [(.int (v2 + (1 : Int32))), (.int (3 : Int32)), (.ref b2)])) _
    refine XS.iloadN X16.here hx rfl (hb hby at_57) rfl ?_
    show Steps p.tables e below (T16.setTop (mkF m 58 #[.val (.int ba), .val (.int gp), .val (.int fsd), .val (.int tsd), .val (.int pk), .val (.int an), .val (.ref b2), .unset, .unset, .unset, .unset, .unset, .unset, .unset] [(.int gp), (.int (v2 + (1 : Int32))), (.int (3 : Int32)), (.ref b2)])) _
    refine XS.bipush X16.here hx rfl (hb hby at_58) ?_
    show Steps p.tables e below (T16.setTop (mkF m 60 #[.val (.int ba), .val (.int gp), .val (.int fsd), .val (.int tsd), .val (.int pk), .val (.int an), .val (.ref b2), .unset, .unset, .unset, .unset, .unset, .unset, .unset] [(.int (8 : Int32)), (.int gp), (.int (v2 + (1 : Int32))), (.int (3 : Int32)), (.ref b2)])) _
    refine XS.iushr X16.here hx rfl (hb hby at_60) rfl ?_
    show Steps p.tables e below (T16.setTop (mkF m 61 #[.val (.int ba), .val (.int gp), .val (.int fsd), .val (.int tsd), .val (.int pk), .val (.int an), .val (.ref b2), .unset, .unset, .unset, .unset, .unset, .unset, .unset] [(.int ((gp.toUInt32 >>> ((8 : Int32) &&& 31).toUInt32).toInt32)), (.int (v2 + (1 : Int32))), (.int (3 : Int32)), (.ref b2)])) _
    refine XS.bipush X16.here hx rfl (hb hby at_61) ?_
    show Steps p.tables e below (T16.setTop (mkF m 63 #[.val (.int ba), .val (.int gp), .val (.int fsd), .val (.int tsd), .val (.int pk), .val (.int an), .val (.ref b2), .unset, .unset, .unset, .unset, .unset, .unset, .unset] [(.int (15 : Int32)), (.int ((gp.toUInt32 >>> ((8 : Int32) &&& 31).toUInt32).toInt32)), (.int (v2 + (1 : Int32))), (.int (3 : Int32)), (.ref b2)])) _
    refine XS.iand X16.here hx rfl (hb hby at_63) rfl ?_
    show Steps p.tables e below (T16.setTop (mkF m 64 #[.val (.int ba), .val (.int gp), .val (.int fsd), .val (.int tsd), .val (.int pk), .val (.int an), .val (.ref b2), .unset, .unset, .unset, .unset, .unset, .unset, .unset] [(.int (((gp.toUInt32 >>> ((8 : Int32) &&& 31).toUInt32).toInt32) &&& (15 : Int32))), (.int (v2 + (1 : Int32))), (.int (3 : Int32)), (.ref b2)])) _
    refine XS.iadd X16.here hx rfl (hb hby at_64) rfl ?_
    exact k
  obtain ⟨cl20, Ar20, qa20, Sa20, Na20, Ha20, Ga20⟩ := V16
  have hin20 : ¬ ((3 : Int32) < 0 ∨ cl20.slots.size ≤ ((3 : Int32)).toNatClampNeg) := inb_of Sa20 ⟨by decide, by decide⟩
  obtain ⟨T20, h20, X20, e20, W20, st20⟩ := stI X16 hx hZ e16 Ar20 (j := (3 : Int32)) hin20 (g := (mkF m 65 #[.val (.int ba), .val (.int gp), .val (.int fsd), .val (.int tsd), .val (.int pk), .val (.int an), .val (.ref b2), .unset, .unset, .unset, .unset, .unset, .unset, .unset] [(.int v3), (.int (3 : Int32)), (.ref b2)])) rfl rfl (hb hby at_65)
  have V20 : Arv Z h20 b2 k2 .int (8 : Int32) [(.int v0), (.int v1), (.int v2), (.int v3), (.int (0 : Int32)), (.int (0 : Int32)), (.int (0 : Int32)), (.int (0 : Int32))] (.int (0 : Int32)) := Arv.set Ar20 qa20 Sa20 Na20 Ha20 Ga20 rfl W20 3 rfl (Nat.le_of_ble_eq_true rfl)
  have Z20 : n0 ≤ h20.size := Nat.le_trans Z16 (Keep.of_wr W20).1
  have N20 := Fr.snoc X20 N16 g_b2
  have go21 : ∀ t, Steps p.tables e below (T20.setTop (mkF m 66 #[.val (.int ba), .val (.int gp), .val (.int fsd), .val (.int tsd), .val (.int pk), .val (.int an), .val (.ref b2), .unset, .unset, .unset, .unset, .unset, .unset, .unset] [])) t → Steps p.tables e below (s₁.setTop (entryFrame m #[(.int ba), (.int gp), (.int fsd), (.int tsd), (.int pk), (.int an)] maxLocals)) t := fun t k => go19 t (st20 _ k)
  obtain ⟨cl22, Ar22, -, Sa22, -, Ha22, -⟩ := id V20
  have hin22 : ¬ ((3 : Int32) < 0 ∨ cl22.slots.size ≤ ((3 : Int32)).toNatClampNeg) := inb_of Sa22 ⟨by decide, by decide⟩
  have hat22 : cl22.slots[((3 : Int32)).toNatClampNeg]? = some (.int v3) := Ha22.at hin22 rfl
  obtain ⟨v4, h_v4⟩ : ∃ z : Int32, z = ((v3 + (1 : Int32)) + (((gp.toUInt32 >>> ((12 : Int32) &&& 31).toUInt32).toInt32) &&& (15 : Int32))) := ⟨_, rfl⟩
  have go23 : ∀ t, Steps p.tables e below (T20.setTop (mkF m 83 #[.val (.int ba), .val (.int gp), .val (.int fsd), .val (.int tsd), .val (.int pk), .val (.int an), .val (.ref b2), .unset, .unset, .unset, .unset, .unset, .unset, .unset] [(.int v4), (.int (4 : Int32)), (.ref b2)])) t → Steps p.tables e below (s₁.setTop (entryFrame m #[(.int ba), (.int gp), (.int fsd), (.int tsd), (.int pk), (.int an)] maxLocals)) t := by
    intro t k
    rw [h_v4] at k
    refine go21 t ?_
    show Steps p.tables e below (T20.setTop (mkF m 66 #[.val (.int ba), .val (.int gp), .val (.int fsd), .val (.int tsd), .val (.int pk), .val (.int an), .val (.ref b2), .unset, .unset, .unset, .unset, .unset, .unset, .unset] [])) _
    refine XS.aload X20.here hx rfl (hb hby at_66) rfl rfl ?_
    show Steps p.tables e below (T20.setTop (mkF m 68 #[.val (.int ba), .val (.int gp), .val (.int fsd), .val (.int tsd), .val (.int pk), .val (.int an), .val (.ref b2), .unset, .unset, .unset, .unset, .unset, .unset, .unset] [(.ref b2)])) _
    refine XS.iconst X20.here hx rfl (hb hby at_68) ?_
    show Steps p.tables e below (T20.setTop (mkF m 69 #[.val (.int ba), .val (.int gp), .val (.int fsd), .val (.int tsd), .val (.int pk), .val (.int an), .val (.ref b2), .unset, .unset, .unset, .unset, .unset, .unset, .unset] [(.int (4 : Int32)), (.ref b2)])) _
    refine XS.aload X20.here hx rfl (hb hby at_69) rfl rfl ?_
    show Steps p.tables e below (T20.setTop (mkF m 71 #[.val (.int ba), .val (.int gp), .val (.int fsd), .val (.int tsd), .val (.int pk), .val (.int an), .val (.ref b2), .unset, .unset, .unset, .unset, .unset, .unset, .unset] [(.ref b2), (.int (4 : Int32)), (.ref b2)])) _
    refine XS.iconst X20.here hx rfl (hb hby at_71) ?_
    show Steps p.tables e below (T20.setTop (mkF m 72 #[.val (.int ba), .val (.int gp), .val (.int fsd), .val (.int tsd), .val (.int pk), .val (.int an), .val (.ref b2), .unset, .unset, .unset, .unset, .unset, .unset, .unset] [(.int (3 : Int32)), (.ref b2), (.int (4 : Int32)), (.ref b2)])) _
    refine X20.iaload hx (j := (3 : Int32)) (v := (.int v3)) (by rw [e20]; exact Ar22.1) (State.isArrayOf_alike hZ.alike Ar22.2.1) Ar22.2.2 hin22 hat22 (g := (mkF m 72 #[.val (.int ba), .val (.int gp), .val (.int fsd), .val (.int tsd), .val (.int pk), .val (.int an), .val (.ref b2), .unset, .unset, .unset, .unset, .unset, .unset, .unset] [(.int (3 : Int32)), (.ref b2), (.int (4 : Int32)), (.ref b2)])) rfl rfl (hb hby at_72) _ ?_
    show Steps p.tables e below (T20.setTop (mkF m 73 #[.val (.int ba), .val (.int gp), .val (.int fsd), .val (.int tsd), .val (.int pk), .val (.int an), .val (.ref b2), .unset, .unset, .unset, .unset, .unset, .unset, .unset] [(.int v3), (.int (4 : Int32)), (.ref b2)])) _
    refine XS.iconst X20.here hx rfl (hb hby at_73) ?_
    show Steps p.tables e below (T20.setTop (mkF m 74 #[.val (.int ba), .val (.int gp), .val (.int fsd), .val (.int tsd), .val (.int pk), .val (.int an), .val (.ref b2), .unset, .unset, .unset, .unset, .unset, .unset, .unset] [(.int (1 : Int32)), (.int v3), (.int (4 : Int32)), (.ref b2)])) _
    refine XS.iadd X20.here hx rfl (hb hby at_74) rfl ?_
    show Steps p.tables e below (T20.setTop (mkF m 75 #[.val (.int ba), .val (.int gp), .val (.int fsd), .val (.int tsd), .val (.int pk), .val (.int an), .val (.ref b2), .unset, .unset, .unset, .unset, .unset, .unset, .unset] [(.int (v3 + (1 : Int32))), (.int (4 : Int32)), (.ref b2)])) _
    refine XS.iloadN X20.here hx rfl (hb hby at_75) rfl ?_
    show Steps p.tables e below (T20.setTop (mkF m 76 #[.val (.int ba), .val (.int gp), .val (.int fsd), .val (.int tsd), .val (.int pk), .val (.int an), .val (.ref b2), .unset, .unset, .unset, .unset, .unset, .unset, .unset] [(.int gp), (.int (v3 + (1 : Int32))), (.int (4 : Int32)), (.ref b2)])) _
    refine XS.bipush X20.here hx rfl (hb hby at_76) ?_
    show Steps p.tables e below (T20.setTop (mkF m 78 #[.val (.int ba), .val (.int gp), .val (.int fsd), .val (.int tsd), .val (.int pk), .val (.int an), .val (.ref b2), .unset, .unset, .unset, .unset, .unset, .unset, .unset] [(.int (12 : Int32)), (.int gp), (.int (v3 + (1 : Int32))), (.int (4 : Int32)), (.ref b2)])) _
    refine XS.iushr X20.here hx rfl (hb hby at_78) rfl ?_
    show Steps p.tables e below (T20.setTop (mkF m 79 #[.val (.int ba), .val (.int gp), .val (.int fsd), .val (.int tsd), .val (.int pk), .val (.int an), .val (.ref b2), .unset, .unset, .unset, .unset, .unset, .unset, .unset] [(.int ((gp.toUInt32 >>> ((12 : Int32) &&& 31).toUInt32).toInt32)), (.int (v3 + (1 : Int32))), (.int (4 : Int32)), (.ref b2)])) _
    refine XS.bipush X20.here hx rfl (hb hby at_79) ?_
    show Steps p.tables e below (T20.setTop (mkF m 81 #[.val (.int ba), .val (.int gp), .val (.int fsd), .val (.int tsd), .val (.int pk), .val (.int an), .val (.ref b2), .unset, .unset, .unset, .unset, .unset, .unset, .unset] [(.int (15 : Int32)), (.int ((gp.toUInt32 >>> ((12 : Int32) &&& 31).toUInt32).toInt32)), (.int (v3 + (1 : Int32))), (.int (4 : Int32)), (.ref b2)])) _
    refine XS.iand X20.here hx rfl (hb hby at_81) rfl ?_
    show Steps p.tables e below (T20.setTop (mkF m 82 #[.val (.int ba), .val (.int gp), .val (.int fsd), .val (.int tsd), .val (.int pk), .val (.int an), .val (.ref b2), .unset, .unset, .unset, .unset, .unset, .unset, .unset] [(.int (((gp.toUInt32 >>> ((12 : Int32) &&& 31).toUInt32).toInt32) &&& (15 : Int32))), (.int (v3 + (1 : Int32))), (.int (4 : Int32)), (.ref b2)])) _
    refine XS.iadd X20.here hx rfl (hb hby at_82) rfl ?_
    exact k
  obtain ⟨cl24, Ar24, qa24, Sa24, Na24, Ha24, Ga24⟩ := V20
  have hin24 : ¬ ((4 : Int32) < 0 ∨ cl24.slots.size ≤ ((4 : Int32)).toNatClampNeg) := inb_of Sa24 ⟨by decide, by decide⟩
  obtain ⟨T24, h24, X24, e24, W24, st24⟩ := stI X20 hx hZ e20 Ar24 (j := (4 : Int32)) hin24 (g := (mkF m 83 #[.val (.int ba), .val (.int gp), .val (.int fsd), .val (.int tsd), .val (.int pk), .val (.int an), .val (.ref b2), .unset, .unset, .unset, .unset, .unset, .unset, .unset] [(.int v4), (.int (4 : Int32)), (.ref b2)])) rfl rfl (hb hby at_83)
  have V24 : Arv Z h24 b2 k2 .int (8 : Int32) [(.int v0), (.int v1), (.int v2), (.int v3), (.int v4), (.int (0 : Int32)), (.int (0 : Int32)), (.int (0 : Int32))] (.int (0 : Int32)) := Arv.set Ar24 qa24 Sa24 Na24 Ha24 Ga24 rfl W24 4 rfl (Nat.le_of_ble_eq_true rfl)
  have Z24 : n0 ≤ h24.size := Nat.le_trans Z20 (Keep.of_wr W24).1
  have N24 := Fr.snoc X24 N20 g_b2
  have go25 : ∀ t, Steps p.tables e below (T24.setTop (mkF m 84 #[.val (.int ba), .val (.int gp), .val (.int fsd), .val (.int tsd), .val (.int pk), .val (.int an), .val (.ref b2), .unset, .unset, .unset, .unset, .unset, .unset, .unset] [])) t → Steps p.tables e below (s₁.setTop (entryFrame m #[(.int ba), (.int gp), (.int fsd), (.int tsd), (.int pk), (.int an)] maxLocals)) t := fun t k => go23 t (st24 _ k)
  obtain ⟨cl26, Ar26, -, Sa26, -, Ha26, -⟩ := id V24
  have hin26 : ¬ ((4 : Int32) < 0 ∨ cl26.slots.size ≤ ((4 : Int32)).toNatClampNeg) := inb_of Sa26 ⟨by decide, by decide⟩
  have hat26 : cl26.slots[((4 : Int32)).toNatClampNeg]? = some (.int v4) := Ha26.at hin26 rfl
  obtain ⟨v5, h_v5⟩ : ∃ z : Int32, z = ((v4 + (1 : Int32)) + (((gp.toUInt32 >>> ((16 : Int32) &&& 31).toUInt32).toInt32) &&& (15 : Int32))) := ⟨_, rfl⟩
  have go27 : ∀ t, Steps p.tables e below (T24.setTop (mkF m 101 #[.val (.int ba), .val (.int gp), .val (.int fsd), .val (.int tsd), .val (.int pk), .val (.int an), .val (.ref b2), .unset, .unset, .unset, .unset, .unset, .unset, .unset] [(.int v5), (.int (5 : Int32)), (.ref b2)])) t → Steps p.tables e below (s₁.setTop (entryFrame m #[(.int ba), (.int gp), (.int fsd), (.int tsd), (.int pk), (.int an)] maxLocals)) t := by
    intro t k
    rw [h_v5] at k
    refine go25 t ?_
    show Steps p.tables e below (T24.setTop (mkF m 84 #[.val (.int ba), .val (.int gp), .val (.int fsd), .val (.int tsd), .val (.int pk), .val (.int an), .val (.ref b2), .unset, .unset, .unset, .unset, .unset, .unset, .unset] [])) _
    refine XS.aload X24.here hx rfl (hb hby at_84) rfl rfl ?_
    show Steps p.tables e below (T24.setTop (mkF m 86 #[.val (.int ba), .val (.int gp), .val (.int fsd), .val (.int tsd), .val (.int pk), .val (.int an), .val (.ref b2), .unset, .unset, .unset, .unset, .unset, .unset, .unset] [(.ref b2)])) _
    refine XS.iconst X24.here hx rfl (hb hby at_86) ?_
    show Steps p.tables e below (T24.setTop (mkF m 87 #[.val (.int ba), .val (.int gp), .val (.int fsd), .val (.int tsd), .val (.int pk), .val (.int an), .val (.ref b2), .unset, .unset, .unset, .unset, .unset, .unset, .unset] [(.int (5 : Int32)), (.ref b2)])) _
    refine XS.aload X24.here hx rfl (hb hby at_87) rfl rfl ?_
    show Steps p.tables e below (T24.setTop (mkF m 89 #[.val (.int ba), .val (.int gp), .val (.int fsd), .val (.int tsd), .val (.int pk), .val (.int an), .val (.ref b2), .unset, .unset, .unset, .unset, .unset, .unset, .unset] [(.ref b2), (.int (5 : Int32)), (.ref b2)])) _
    refine XS.iconst X24.here hx rfl (hb hby at_89) ?_
    show Steps p.tables e below (T24.setTop (mkF m 90 #[.val (.int ba), .val (.int gp), .val (.int fsd), .val (.int tsd), .val (.int pk), .val (.int an), .val (.ref b2), .unset, .unset, .unset, .unset, .unset, .unset, .unset] [(.int (4 : Int32)), (.ref b2), (.int (5 : Int32)), (.ref b2)])) _
    refine X24.iaload hx (j := (4 : Int32)) (v := (.int v4)) (by rw [e24]; exact Ar26.1) (State.isArrayOf_alike hZ.alike Ar26.2.1) Ar26.2.2 hin26 hat26 (g := (mkF m 90 #[.val (.int ba), .val (.int gp), .val (.int fsd), .val (.int tsd), .val (.int pk), .val (.int an), .val (.ref b2), .unset, .unset, .unset, .unset, .unset, .unset, .unset] [(.int (4 : Int32)), (.ref b2), (.int (5 : Int32)), (.ref b2)])) rfl rfl (hb hby at_90) _ ?_
    show Steps p.tables e below (T24.setTop (mkF m 91 #[.val (.int ba), .val (.int gp), .val (.int fsd), .val (.int tsd), .val (.int pk), .val (.int an), .val (.ref b2), .unset, .unset, .unset, .unset, .unset, .unset, .unset] [(.int v4), (.int (5 : Int32)), (.ref b2)])) _
    refine XS.iconst X24.here hx rfl (hb hby at_91) ?_
    show Steps p.tables e below (T24.setTop (mkF m 92 #[.val (.int ba), .val (.int gp), .val (.int fsd), .val (.int tsd), .val (.int pk), .val (.int an), .val (.ref b2), .unset, .unset, .unset, .unset, .unset, .unset, .unset] [(.int (1 : Int32)), (.int v4), (.int (5 : Int32)), (.ref b2)])) _
    refine XS.iadd X24.here hx rfl (hb hby at_92) rfl ?_
    show Steps p.tables e below (T24.setTop (mkF m 93 #[.val (.int ba), .val (.int gp), .val (.int fsd), .val (.int tsd), .val (.int pk), .val (.int an), .val (.ref b2), .unset, .unset, .unset, .unset, .unset, .unset, .unset] [(.int (v4 + (1 : Int32))), (.int (5 : Int32)), (.ref b2)])) _
    refine XS.iloadN X24.here hx rfl (hb hby at_93) rfl ?_
    show Steps p.tables e below (T24.setTop (mkF m 94 #[.val (.int ba), .val (.int gp), .val (.int fsd), .val (.int tsd), .val (.int pk), .val (.int an), .val (.ref b2), .unset, .unset, .unset, .unset, .unset, .unset, .unset] [(.int gp), (.int (v4 + (1 : Int32))), (.int (5 : Int32)), (.ref b2)])) _
    refine XS.bipush X24.here hx rfl (hb hby at_94) ?_
    show Steps p.tables e below (T24.setTop (mkF m 96 #[.val (.int ba), .val (.int gp), .val (.int fsd), .val (.int tsd), .val (.int pk), .val (.int an), .val (.ref b2), .unset, .unset, .unset, .unset, .unset, .unset, .unset] [(.int (16 : Int32)), (.int gp), (.int (v4 + (1 : Int32))), (.int (5 : Int32)), (.ref b2)])) _
    refine XS.iushr X24.here hx rfl (hb hby at_96) rfl ?_
    show Steps p.tables e below (T24.setTop (mkF m 97 #[.val (.int ba), .val (.int gp), .val (.int fsd), .val (.int tsd), .val (.int pk), .val (.int an), .val (.ref b2), .unset, .unset, .unset, .unset, .unset, .unset, .unset] [(.int ((gp.toUInt32 >>> ((16 : Int32) &&& 31).toUInt32).toInt32)), (.int (v4 + (1 : Int32))), (.int (5 : Int32)), (.ref b2)])) _
    refine XS.bipush X24.here hx rfl (hb hby at_97) ?_
    show Steps p.tables e below (T24.setTop (mkF m 99 #[.val (.int ba), .val (.int gp), .val (.int fsd), .val (.int tsd), .val (.int pk), .val (.int an), .val (.ref b2), .unset, .unset, .unset, .unset, .unset, .unset, .unset] [(.int (15 : Int32)), (.int ((gp.toUInt32 >>> ((16 : Int32) &&& 31).toUInt32).toInt32)), (.int (v4 + (1 : Int32))), (.int (5 : Int32)), (.ref b2)])) _
    refine XS.iand X24.here hx rfl (hb hby at_99) rfl ?_
    show Steps p.tables e below (T24.setTop (mkF m 100 #[.val (.int ba), .val (.int gp), .val (.int fsd), .val (.int tsd), .val (.int pk), .val (.int an), .val (.ref b2), .unset, .unset, .unset, .unset, .unset, .unset, .unset] [(.int (((gp.toUInt32 >>> ((16 : Int32) &&& 31).toUInt32).toInt32) &&& (15 : Int32))), (.int (v4 + (1 : Int32))), (.int (5 : Int32)), (.ref b2)])) _
    refine XS.iadd X24.here hx rfl (hb hby at_100) rfl ?_
    exact k
  obtain ⟨cl28, Ar28, qa28, Sa28, Na28, Ha28, Ga28⟩ := V24
  have hin28 : ¬ ((5 : Int32) < 0 ∨ cl28.slots.size ≤ ((5 : Int32)).toNatClampNeg) := inb_of Sa28 ⟨by decide, by decide⟩
  obtain ⟨T28, h28, X28, e28, W28, st28⟩ := stI X24 hx hZ e24 Ar28 (j := (5 : Int32)) hin28 (g := (mkF m 101 #[.val (.int ba), .val (.int gp), .val (.int fsd), .val (.int tsd), .val (.int pk), .val (.int an), .val (.ref b2), .unset, .unset, .unset, .unset, .unset, .unset, .unset] [(.int v5), (.int (5 : Int32)), (.ref b2)])) rfl rfl (hb hby at_101)
  have V28 : Arv Z h28 b2 k2 .int (8 : Int32) [(.int v0), (.int v1), (.int v2), (.int v3), (.int v4), (.int v5), (.int (0 : Int32)), (.int (0 : Int32))] (.int (0 : Int32)) := Arv.set Ar28 qa28 Sa28 Na28 Ha28 Ga28 rfl W28 5 rfl (Nat.le_of_ble_eq_true rfl)
  have Z28 : n0 ≤ h28.size := Nat.le_trans Z24 (Keep.of_wr W28).1
  have N28 := Fr.snoc X28 N24 g_b2
  have go29 : ∀ t, Steps p.tables e below (T28.setTop (mkF m 102 #[.val (.int ba), .val (.int gp), .val (.int fsd), .val (.int tsd), .val (.int pk), .val (.int an), .val (.ref b2), .unset, .unset, .unset, .unset, .unset, .unset, .unset] [])) t → Steps p.tables e below (s₁.setTop (entryFrame m #[(.int ba), (.int gp), (.int fsd), (.int tsd), (.int pk), (.int an)] maxLocals)) t := fun t k => go27 t (st28 _ k)
  obtain ⟨cl30, Ar30, -, Sa30, -, Ha30, -⟩ := id V28
  have hin30 : ¬ ((5 : Int32) < 0 ∨ cl30.slots.size ≤ ((5 : Int32)).toNatClampNeg) := inb_of Sa30 ⟨by decide, by decide⟩
  have hat30 : cl30.slots[((5 : Int32)).toNatClampNeg]? = some (.int v5) := Ha30.at hin30 rfl
  obtain ⟨v6, h_v6⟩ : ∃ z : Int32, z = ((v5 + (1 : Int32)) + (((gp.toUInt32 >>> ((20 : Int32) &&& 31).toUInt32).toInt32) &&& (15 : Int32))) := ⟨_, rfl⟩
  have go31 : ∀ t, Steps p.tables e below (T28.setTop (mkF m 120 #[.val (.int ba), .val (.int gp), .val (.int fsd), .val (.int tsd), .val (.int pk), .val (.int an), .val (.ref b2), .unset, .unset, .unset, .unset, .unset, .unset, .unset] [(.int v6), (.int (6 : Int32)), (.ref b2)])) t → Steps p.tables e below (s₁.setTop (entryFrame m #[(.int ba), (.int gp), (.int fsd), (.int tsd), (.int pk), (.int an)] maxLocals)) t := by
    intro t k
    rw [h_v6] at k
    refine go29 t ?_
    show Steps p.tables e below (T28.setTop (mkF m 102 #[.val (.int ba), .val (.int gp), .val (.int fsd), .val (.int tsd), .val (.int pk), .val (.int an), .val (.ref b2), .unset, .unset, .unset, .unset, .unset, .unset, .unset] [])) _
    refine XS.aload X28.here hx rfl (hb hby at_102) rfl rfl ?_
    show Steps p.tables e below (T28.setTop (mkF m 104 #[.val (.int ba), .val (.int gp), .val (.int fsd), .val (.int tsd), .val (.int pk), .val (.int an), .val (.ref b2), .unset, .unset, .unset, .unset, .unset, .unset, .unset] [(.ref b2)])) _
    refine XS.bipush X28.here hx rfl (hb hby at_104) ?_
    show Steps p.tables e below (T28.setTop (mkF m 106 #[.val (.int ba), .val (.int gp), .val (.int fsd), .val (.int tsd), .val (.int pk), .val (.int an), .val (.ref b2), .unset, .unset, .unset, .unset, .unset, .unset, .unset] [(.int (6 : Int32)), (.ref b2)])) _
    refine XS.aload X28.here hx rfl (hb hby at_106) rfl rfl ?_
    show Steps p.tables e below (T28.setTop (mkF m 108 #[.val (.int ba), .val (.int gp), .val (.int fsd), .val (.int tsd), .val (.int pk), .val (.int an), .val (.ref b2), .unset, .unset, .unset, .unset, .unset, .unset, .unset] [(.ref b2), (.int (6 : Int32)), (.ref b2)])) _
    refine XS.iconst X28.here hx rfl (hb hby at_108) ?_
    show Steps p.tables e below (T28.setTop (mkF m 109 #[.val (.int ba), .val (.int gp), .val (.int fsd), .val (.int tsd), .val (.int pk), .val (.int an), .val (.ref b2), .unset, .unset, .unset, .unset, .unset, .unset, .unset] [(.int (5 : Int32)), (.ref b2), (.int (6 : Int32)), (.ref b2)])) _
    refine X28.iaload hx (j := (5 : Int32)) (v := (.int v5)) (by rw [e28]; exact Ar30.1) (State.isArrayOf_alike hZ.alike Ar30.2.1) Ar30.2.2 hin30 hat30 (g := (mkF m 109 #[.val (.int ba), .val (.int gp), .val (.int fsd), .val (.int tsd), .val (.int pk), .val (.int an), .val (.ref b2), .unset, .unset, .unset, .unset, .unset, .unset, .unset] [(.int (5 : Int32)), (.ref b2), (.int (6 : Int32)), (.ref b2)])) rfl rfl (hb hby at_109) _ ?_
    show Steps p.tables e below (T28.setTop (mkF m 110 #[.val (.int ba), .val (.int gp), .val (.int fsd), .val (.int tsd), .val (.int pk), .val (.int an), .val (.ref b2), .unset, .unset, .unset, .unset, .unset, .unset, .unset] [(.int v5), (.int (6 : Int32)), (.ref b2)])) _
    refine XS.iconst X28.here hx rfl (hb hby at_110) ?_
    show Steps p.tables e below (T28.setTop (mkF m 111 #[.val (.int ba), .val (.int gp), .val (.int fsd), .val (.int tsd), .val (.int pk), .val (.int an), .val (.ref b2), .unset, .unset, .unset, .unset, .unset, .unset, .unset] [(.int (1 : Int32)), (.int v5), (.int (6 : Int32)), (.ref b2)])) _
    refine XS.iadd X28.here hx rfl (hb hby at_111) rfl ?_
    show Steps p.tables e below (T28.setTop (mkF m 112 #[.val (.int ba), .val (.int gp), .val (.int fsd), .val (.int tsd), .val (.int pk), .val (.int an), .val (.ref b2), .unset, .unset, .unset, .unset, .unset, .unset, .unset] [(.int (v5 + (1 : Int32))), (.int (6 : Int32)), (.ref b2)])) _
    refine XS.iloadN X28.here hx rfl (hb hby at_112) rfl ?_
    show Steps p.tables e below (T28.setTop (mkF m 113 #[.val (.int ba), .val (.int gp), .val (.int fsd), .val (.int tsd), .val (.int pk), .val (.int an), .val (.ref b2), .unset, .unset, .unset, .unset, .unset, .unset, .unset] [(.int gp), (.int (v5 + (1 : Int32))), (.int (6 : Int32)), (.ref b2)])) _
    refine XS.bipush X28.here hx rfl (hb hby at_113) ?_
    show Steps p.tables e below (T28.setTop (mkF m 115 #[.val (.int ba), .val (.int gp), .val (.int fsd), .val (.int tsd), .val (.int pk), .val (.int an), .val (.ref b2), .unset, .unset, .unset, .unset, .unset, .unset, .unset] [(.int (20 : Int32)), (.int gp), (.int (v5 + (1 : Int32))), (.int (6 : Int32)), (.ref b2)])) _
    refine XS.iushr X28.here hx rfl (hb hby at_115) rfl ?_
    show Steps p.tables e below (T28.setTop (mkF m 116 #[.val (.int ba), .val (.int gp), .val (.int fsd), .val (.int tsd), .val (.int pk), .val (.int an), .val (.ref b2), .unset, .unset, .unset, .unset, .unset, .unset, .unset] [(.int ((gp.toUInt32 >>> ((20 : Int32) &&& 31).toUInt32).toInt32)), (.int (v5 + (1 : Int32))), (.int (6 : Int32)), (.ref b2)])) _
    refine XS.bipush X28.here hx rfl (hb hby at_116) ?_
    show Steps p.tables e below (T28.setTop (mkF m 118 #[.val (.int ba), .val (.int gp), .val (.int fsd), .val (.int tsd), .val (.int pk), .val (.int an), .val (.ref b2), .unset, .unset, .unset, .unset, .unset, .unset, .unset] [(.int (15 : Int32)), (.int ((gp.toUInt32 >>> ((20 : Int32) &&& 31).toUInt32).toInt32)), (.int (v5 + (1 : Int32))), (.int (6 : Int32)), (.ref b2)])) _
    refine XS.iand X28.here hx rfl (hb hby at_118) rfl ?_
    show Steps p.tables e below (T28.setTop (mkF m 119 #[.val (.int ba), .val (.int gp), .val (.int fsd), .val (.int tsd), .val (.int pk), .val (.int an), .val (.ref b2), .unset, .unset, .unset, .unset, .unset, .unset, .unset] [(.int (((gp.toUInt32 >>> ((20 : Int32) &&& 31).toUInt32).toInt32) &&& (15 : Int32))), (.int (v5 + (1 : Int32))), (.int (6 : Int32)), (.ref b2)])) _
    refine XS.iadd X28.here hx rfl (hb hby at_119) rfl ?_
    exact k
  obtain ⟨cl32, Ar32, qa32, Sa32, Na32, Ha32, Ga32⟩ := V28
  have hin32 : ¬ ((6 : Int32) < 0 ∨ cl32.slots.size ≤ ((6 : Int32)).toNatClampNeg) := inb_of Sa32 ⟨by decide, by decide⟩
  obtain ⟨T32, h32, X32, e32, W32, st32⟩ := stI X28 hx hZ e28 Ar32 (j := (6 : Int32)) hin32 (g := (mkF m 120 #[.val (.int ba), .val (.int gp), .val (.int fsd), .val (.int tsd), .val (.int pk), .val (.int an), .val (.ref b2), .unset, .unset, .unset, .unset, .unset, .unset, .unset] [(.int v6), (.int (6 : Int32)), (.ref b2)])) rfl rfl (hb hby at_120)
  have V32 : Arv Z h32 b2 k2 .int (8 : Int32) [(.int v0), (.int v1), (.int v2), (.int v3), (.int v4), (.int v5), (.int v6), (.int (0 : Int32))] (.int (0 : Int32)) := Arv.set Ar32 qa32 Sa32 Na32 Ha32 Ga32 rfl W32 6 rfl (Nat.le_of_ble_eq_true rfl)
  have Z32 : n0 ≤ h32.size := Nat.le_trans Z28 (Keep.of_wr W32).1
  have N32 := Fr.snoc X32 N28 g_b2
  have go33 : ∀ t, Steps p.tables e below (T32.setTop (mkF m 121 #[.val (.int ba), .val (.int gp), .val (.int fsd), .val (.int tsd), .val (.int pk), .val (.int an), .val (.ref b2), .unset, .unset, .unset, .unset, .unset, .unset, .unset] [])) t → Steps p.tables e below (s₁.setTop (entryFrame m #[(.int ba), (.int gp), (.int fsd), (.int tsd), (.int pk), (.int an)] maxLocals)) t := fun t k => go31 t (st32 _ k)
  obtain ⟨cl34, Ar34, -, Sa34, -, Ha34, -⟩ := id V32
  have hin34 : ¬ ((6 : Int32) < 0 ∨ cl34.slots.size ≤ ((6 : Int32)).toNatClampNeg) := inb_of Sa34 ⟨by decide, by decide⟩
  have hat34 : cl34.slots[((6 : Int32)).toNatClampNeg]? = some (.int v6) := Ha34.at hin34 rfl
  obtain ⟨v7, h_v7⟩ : ∃ z : Int32, z = ((v6 + (1 : Int32)) + (((gp.toUInt32 >>> ((24 : Int32) &&& 31).toUInt32).toInt32) &&& (15 : Int32))) := ⟨_, rfl⟩
  have go35 : ∀ t, Steps p.tables e below (T32.setTop (mkF m 140 #[.val (.int ba), .val (.int gp), .val (.int fsd), .val (.int tsd), .val (.int pk), .val (.int an), .val (.ref b2), .unset, .unset, .unset, .unset, .unset, .unset, .unset] [(.int v7), (.int (7 : Int32)), (.ref b2)])) t → Steps p.tables e below (s₁.setTop (entryFrame m #[(.int ba), (.int gp), (.int fsd), (.int tsd), (.int pk), (.int an)] maxLocals)) t := by
    intro t k
    rw [h_v7] at k
    refine go33 t ?_
    show Steps p.tables e below (T32.setTop (mkF m 121 #[.val (.int ba), .val (.int gp), .val (.int fsd), .val (.int tsd), .val (.int pk), .val (.int an), .val (.ref b2), .unset, .unset, .unset, .unset, .unset, .unset, .unset] [])) _
    refine XS.aload X32.here hx rfl (hb hby at_121) rfl rfl ?_
    show Steps p.tables e below (T32.setTop (mkF m 123 #[.val (.int ba), .val (.int gp), .val (.int fsd), .val (.int tsd), .val (.int pk), .val (.int an), .val (.ref b2), .unset, .unset, .unset, .unset, .unset, .unset, .unset] [(.ref b2)])) _
    refine XS.bipush X32.here hx rfl (hb hby at_123) ?_
    show Steps p.tables e below (T32.setTop (mkF m 125 #[.val (.int ba), .val (.int gp), .val (.int fsd), .val (.int tsd), .val (.int pk), .val (.int an), .val (.ref b2), .unset, .unset, .unset, .unset, .unset, .unset, .unset] [(.int (7 : Int32)), (.ref b2)])) _
    refine XS.aload X32.here hx rfl (hb hby at_125) rfl rfl ?_
    show Steps p.tables e below (T32.setTop (mkF m 127 #[.val (.int ba), .val (.int gp), .val (.int fsd), .val (.int tsd), .val (.int pk), .val (.int an), .val (.ref b2), .unset, .unset, .unset, .unset, .unset, .unset, .unset] [(.ref b2), (.int (7 : Int32)), (.ref b2)])) _
    refine XS.bipush X32.here hx rfl (hb hby at_127) ?_
    show Steps p.tables e below (T32.setTop (mkF m 129 #[.val (.int ba), .val (.int gp), .val (.int fsd), .val (.int tsd), .val (.int pk), .val (.int an), .val (.ref b2), .unset, .unset, .unset, .unset, .unset, .unset, .unset] [(.int (6 : Int32)), (.ref b2), (.int (7 : Int32)), (.ref b2)])) _
    refine X32.iaload hx (j := (6 : Int32)) (v := (.int v6)) (by rw [e32]; exact Ar34.1) (State.isArrayOf_alike hZ.alike Ar34.2.1) Ar34.2.2 hin34 hat34 (g := (mkF m 129 #[.val (.int ba), .val (.int gp), .val (.int fsd), .val (.int tsd), .val (.int pk), .val (.int an), .val (.ref b2), .unset, .unset, .unset, .unset, .unset, .unset, .unset] [(.int (6 : Int32)), (.ref b2), (.int (7 : Int32)), (.ref b2)])) rfl rfl (hb hby at_129) _ ?_
    show Steps p.tables e below (T32.setTop (mkF m 130 #[.val (.int ba), .val (.int gp), .val (.int fsd), .val (.int tsd), .val (.int pk), .val (.int an), .val (.ref b2), .unset, .unset, .unset, .unset, .unset, .unset, .unset] [(.int v6), (.int (7 : Int32)), (.ref b2)])) _
    refine XS.iconst X32.here hx rfl (hb hby at_130) ?_
    show Steps p.tables e below (T32.setTop (mkF m 131 #[.val (.int ba), .val (.int gp), .val (.int fsd), .val (.int tsd), .val (.int pk), .val (.int an), .val (.ref b2), .unset, .unset, .unset, .unset, .unset, .unset, .unset] [(.int (1 : Int32)), (.int v6), (.int (7 : Int32)), (.ref b2)])) _
    refine XS.iadd X32.here hx rfl (hb hby at_131) rfl ?_
    show Steps p.tables e below (T32.setTop (mkF m 132 #[.val (.int ba), .val (.int gp), .val (.int fsd), .val (.int tsd), .val (.int pk), .val (.int an), .val (.ref b2), .unset, .unset, .unset, .unset, .unset, .unset, .unset] [(.int (v6 + (1 : Int32))), (.int (7 : Int32)), (.ref b2)])) _
    refine XS.iloadN X32.here hx rfl (hb hby at_132) rfl ?_
    show Steps p.tables e below (T32.setTop (mkF m 133 #[.val (.int ba), .val (.int gp), .val (.int fsd), .val (.int tsd), .val (.int pk), .val (.int an), .val (.ref b2), .unset, .unset, .unset, .unset, .unset, .unset, .unset] [(.int gp), (.int (v6 + (1 : Int32))), (.int (7 : Int32)), (.ref b2)])) _
    refine XS.bipush X32.here hx rfl (hb hby at_133) ?_
    show Steps p.tables e below (T32.setTop (mkF m 135 #[.val (.int ba), .val (.int gp), .val (.int fsd), .val (.int tsd), .val (.int pk), .val (.int an), .val (.ref b2), .unset, .unset, .unset, .unset, .unset, .unset, .unset] [(.int (24 : Int32)), (.int gp), (.int (v6 + (1 : Int32))), (.int (7 : Int32)), (.ref b2)])) _
    refine XS.iushr X32.here hx rfl (hb hby at_135) rfl ?_
    show Steps p.tables e below (T32.setTop (mkF m 136 #[.val (.int ba), .val (.int gp), .val (.int fsd), .val (.int tsd), .val (.int pk), .val (.int an), .val (.ref b2), .unset, .unset, .unset, .unset, .unset, .unset, .unset] [(.int ((gp.toUInt32 >>> ((24 : Int32) &&& 31).toUInt32).toInt32)), (.int (v6 + (1 : Int32))), (.int (7 : Int32)), (.ref b2)])) _
    refine XS.bipush X32.here hx rfl (hb hby at_136) ?_
    show Steps p.tables e below (T32.setTop (mkF m 138 #[.val (.int ba), .val (.int gp), .val (.int fsd), .val (.int tsd), .val (.int pk), .val (.int an), .val (.ref b2), .unset, .unset, .unset, .unset, .unset, .unset, .unset] [(.int (15 : Int32)), (.int ((gp.toUInt32 >>> ((24 : Int32) &&& 31).toUInt32).toInt32)), (.int (v6 + (1 : Int32))), (.int (7 : Int32)), (.ref b2)])) _
    refine XS.iand X32.here hx rfl (hb hby at_138) rfl ?_
    show Steps p.tables e below (T32.setTop (mkF m 139 #[.val (.int ba), .val (.int gp), .val (.int fsd), .val (.int tsd), .val (.int pk), .val (.int an), .val (.ref b2), .unset, .unset, .unset, .unset, .unset, .unset, .unset] [(.int (((gp.toUInt32 >>> ((24 : Int32) &&& 31).toUInt32).toInt32) &&& (15 : Int32))), (.int (v6 + (1 : Int32))), (.int (7 : Int32)), (.ref b2)])) _
    refine XS.iadd X32.here hx rfl (hb hby at_139) rfl ?_
    exact k
  obtain ⟨cl36, Ar36, qa36, Sa36, Na36, Ha36, Ga36⟩ := V32
  have hin36 : ¬ ((7 : Int32) < 0 ∨ cl36.slots.size ≤ ((7 : Int32)).toNatClampNeg) := inb_of Sa36 ⟨by decide, by decide⟩
  obtain ⟨T36, h36, X36, e36, W36, st36⟩ := stI X32 hx hZ e32 Ar36 (j := (7 : Int32)) hin36 (g := (mkF m 140 #[.val (.int ba), .val (.int gp), .val (.int fsd), .val (.int tsd), .val (.int pk), .val (.int an), .val (.ref b2), .unset, .unset, .unset, .unset, .unset, .unset, .unset] [(.int v7), (.int (7 : Int32)), (.ref b2)])) rfl rfl (hb hby at_140)
  have V36 : Arv Z h36 b2 k2 .int (8 : Int32) [(.int v0), (.int v1), (.int v2), (.int v3), (.int v4), (.int v5), (.int v6), (.int v7)] (.int (0 : Int32)) := Arv.set Ar36 qa36 Sa36 Na36 Ha36 Ga36 rfl W36 7 rfl (Nat.le_of_ble_eq_true rfl)
  have Z36 : n0 ≤ h36.size := Nat.le_trans Z32 (Keep.of_wr W36).1
  have N36 := Fr.snoc X36 N32 g_b2
  have go37 : ∀ t, Steps p.tables e below (T36.setTop (mkF m 141 #[.val (.int ba), .val (.int gp), .val (.int fsd), .val (.int tsd), .val (.int pk), .val (.int an), .val (.ref b2), .unset, .unset, .unset, .unset, .unset, .unset, .unset] [])) t → Steps p.tables e below (s₁.setTop (entryFrame m #[(.int ba), (.int gp), (.int fsd), (.int tsd), (.int pk), (.int an)] maxLocals)) t := fun t k => go35 t (st36 _ k)
  have mono0 := own_sorted (by rw [h_v0]; exact own_v0 _) h_v1 h_v2 h_v3 h_v4 h_v5 h_v6 h_v7
  have VA := own_ofA V36
  obtain ⟨F, hF⟩ : ∃ z, z = own_F v0 v1 v2 v3 v4 v5 v6 v7 := ⟨_, rfl⟩
  rw [← hF] at VA mono0
  obtain ⟨A, hA, eA⟩ := own_from fsd
  obtain ⟨B, hAB, hB, eB⟩ := own_to tsd hA
  obtain ⟨kk, hk, ek⟩ := own_mask ((pk.toUInt32 >>> ((2 : Int32) &&& 31).toUInt32).toInt32) 7 3 (by decide) (by decide)
  have go38 : ∀ t, Steps p.tables e below (T36.setTop (mkF m 150 #[.val (.int ba), .val (.int gp), .val (.int fsd), .val (.int tsd), .val (.int pk), .val (.int an), .val (.ref b2), .val (.int (Int32.ofNat A)), .unset, .unset, .unset, .unset, .unset, .unset] [])) t → Steps p.tables e below (s₁.setTop (entryFrame m #[(.int ba), (.int gp), (.int fsd), (.int tsd), (.int pk), (.int an)] maxLocals)) t := by
    intro t k
    rw [← eA] at k
    refine go37 t ?_
    show Steps p.tables e below (T36.setTop (mkF m 141 #[.val (.int ba), .val (.int gp), .val (.int fsd), .val (.int tsd), .val (.int pk), .val (.int an), .val (.ref b2), .unset, .unset, .unset, .unset, .unset, .unset, .unset] [])) _
    refine XS.iloadN X36.here hx rfl (hb hby at_141) rfl ?_
    show Steps p.tables e below (T36.setTop (mkF m 142 #[.val (.int ba), .val (.int gp), .val (.int fsd), .val (.int tsd), .val (.int pk), .val (.int an), .val (.ref b2), .unset, .unset, .unset, .unset, .unset, .unset, .unset] [(.int fsd)])) _
    refine X36.ldcInt hx hown (mvT hZ (hw _ (List.mem_of_getElem? (i := 6) rfl))) (g := (mkF m 142 #[.val (.int ba), .val (.int gp), .val (.int fsd), .val (.int tsd), .val (.int pk), .val (.int an), .val (.ref b2), .unset, .unset, .unset, .unset, .unset, .unset, .unset] [(.int fsd)])) rfl (hb hby at_142) _ ?_
    show Steps p.tables e below (T36.setTop (mkF m 144 #[.val (.int ba), .val (.int gp), .val (.int fsd), .val (.int tsd), .val (.int pk), .val (.int an), .val (.ref b2), .unset, .unset, .unset, .unset, .unset, .unset, .unset] [(.int (2147483647 : Int32)), (.int fsd)])) _
    refine XS.iand X36.here hx rfl (hb hby at_144) rfl ?_
    show Steps p.tables e below (T36.setTop (mkF m 145 #[.val (.int ba), .val (.int gp), .val (.int fsd), .val (.int tsd), .val (.int pk), .val (.int an), .val (.ref b2), .unset, .unset, .unset, .unset, .unset, .unset, .unset] [(.int (fsd &&& (2147483647 : Int32)))])) _
    refine XS.bipush X36.here hx rfl (hb hby at_145) ?_
    show Steps p.tables e below (T36.setTop (mkF m 147 #[.val (.int ba), .val (.int gp), .val (.int fsd), .val (.int tsd), .val (.int pk), .val (.int an), .val (.ref b2), .unset, .unset, .unset, .unset, .unset, .unset, .unset] [(.int (9 : Int32)), (.int (fsd &&& (2147483647 : Int32)))])) _
    refine iremM X36 hx rfl (hb hby at_147) rfl (by decide) ?_
    show Steps p.tables e below (T36.setTop (mkF m 148 #[.val (.int ba), .val (.int gp), .val (.int fsd), .val (.int tsd), .val (.int pk), .val (.int an), .val (.ref b2), .unset, .unset, .unset, .unset, .unset, .unset, .unset] [(.int ((fsd &&& (2147483647 : Int32)) % (9 : Int32)))])) _
    refine XS.istore X36.here hx rfl (hb hby at_148) rfl (l' := #[.val (.int ba), .val (.int gp), .val (.int fsd), .val (.int tsd), .val (.int pk), .val (.int an), .val (.ref b2), .val (.int ((fsd &&& (2147483647 : Int32)) % (9 : Int32))), .unset, .unset, .unset, .unset, .unset, .unset]) rfl ?_
    exact k
  have go39 : ∀ t, Steps p.tables e below (T36.setTop (mkF m 165 #[.val (.int ba), .val (.int gp), .val (.int fsd), .val (.int tsd), .val (.int pk), .val (.int an), .val (.ref b2), .val (.int (Int32.ofNat A)), .val (.int (Int32.ofNat B)), .unset, .unset, .unset, .unset, .unset] [])) t → Steps p.tables e below (s₁.setTop (entryFrame m #[(.int ba), (.int gp), (.int fsd), (.int tsd), (.int pk), (.int an)] maxLocals)) t := by
    intro t k
    rw [← eB] at k
    refine go38 t ?_
    show Steps p.tables e below (T36.setTop (mkF m 150 #[.val (.int ba), .val (.int gp), .val (.int fsd), .val (.int tsd), .val (.int pk), .val (.int an), .val (.ref b2), .val (.int (Int32.ofNat A)), .unset, .unset, .unset, .unset, .unset, .unset] [])) _
    refine XS.iload X36.here hx rfl (hb hby at_150) rfl ?_
    show Steps p.tables e below (T36.setTop (mkF m 152 #[.val (.int ba), .val (.int gp), .val (.int fsd), .val (.int tsd), .val (.int pk), .val (.int an), .val (.ref b2), .val (.int (Int32.ofNat A)), .unset, .unset, .unset, .unset, .unset, .unset] [(.int (Int32.ofNat A))])) _
    refine XS.iloadN X36.here hx rfl (hb hby at_152) rfl ?_
    show Steps p.tables e below (T36.setTop (mkF m 153 #[.val (.int ba), .val (.int gp), .val (.int fsd), .val (.int tsd), .val (.int pk), .val (.int an), .val (.ref b2), .val (.int (Int32.ofNat A)), .unset, .unset, .unset, .unset, .unset, .unset] [(.int tsd), (.int (Int32.ofNat A))])) _
    refine X36.ldcInt hx hown (mvT hZ (hw _ (List.mem_of_getElem? (i := 6) rfl))) (g := (mkF m 153 #[.val (.int ba), .val (.int gp), .val (.int fsd), .val (.int tsd), .val (.int pk), .val (.int an), .val (.ref b2), .val (.int (Int32.ofNat A)), .unset, .unset, .unset, .unset, .unset, .unset] [(.int tsd), (.int (Int32.ofNat A))])) rfl (hb hby at_153) _ ?_
    show Steps p.tables e below (T36.setTop (mkF m 155 #[.val (.int ba), .val (.int gp), .val (.int fsd), .val (.int tsd), .val (.int pk), .val (.int an), .val (.ref b2), .val (.int (Int32.ofNat A)), .unset, .unset, .unset, .unset, .unset, .unset] [(.int (2147483647 : Int32)), (.int tsd), (.int (Int32.ofNat A))])) _
    refine XS.iand X36.here hx rfl (hb hby at_155) rfl ?_
    show Steps p.tables e below (T36.setTop (mkF m 156 #[.val (.int ba), .val (.int gp), .val (.int fsd), .val (.int tsd), .val (.int pk), .val (.int an), .val (.ref b2), .val (.int (Int32.ofNat A)), .unset, .unset, .unset, .unset, .unset, .unset] [(.int (tsd &&& (2147483647 : Int32))), (.int (Int32.ofNat A))])) _
    refine XS.bipush X36.here hx rfl (hb hby at_156) ?_
    show Steps p.tables e below (T36.setTop (mkF m 158 #[.val (.int ba), .val (.int gp), .val (.int fsd), .val (.int tsd), .val (.int pk), .val (.int an), .val (.ref b2), .val (.int (Int32.ofNat A)), .unset, .unset, .unset, .unset, .unset, .unset] [(.int (9 : Int32)), (.int (tsd &&& (2147483647 : Int32))), (.int (Int32.ofNat A))])) _
    refine XS.iload X36.here hx rfl (hb hby at_158) rfl ?_
    show Steps p.tables e below (T36.setTop (mkF m 160 #[.val (.int ba), .val (.int gp), .val (.int fsd), .val (.int tsd), .val (.int pk), .val (.int an), .val (.ref b2), .val (.int (Int32.ofNat A)), .unset, .unset, .unset, .unset, .unset, .unset] [(.int (Int32.ofNat A)), (.int (9 : Int32)), (.int (tsd &&& (2147483647 : Int32))), (.int (Int32.ofNat A))])) _
    refine XS.isub X36.here hx rfl (hb hby at_160) rfl ?_
    show Steps p.tables e below (T36.setTop (mkF m 161 #[.val (.int ba), .val (.int gp), .val (.int fsd), .val (.int tsd), .val (.int pk), .val (.int an), .val (.ref b2), .val (.int (Int32.ofNat A)), .unset, .unset, .unset, .unset, .unset, .unset] [(.int ((9 : Int32) - (Int32.ofNat A))), (.int (tsd &&& (2147483647 : Int32))), (.int (Int32.ofNat A))])) _
    refine iremM X36 hx rfl (hb hby at_161) rfl (own_nz hA) ?_
    show Steps p.tables e below (T36.setTop (mkF m 162 #[.val (.int ba), .val (.int gp), .val (.int fsd), .val (.int tsd), .val (.int pk), .val (.int an), .val (.ref b2), .val (.int (Int32.ofNat A)), .unset, .unset, .unset, .unset, .unset, .unset] [(.int ((tsd &&& (2147483647 : Int32)) % ((9 : Int32) - (Int32.ofNat A)))), (.int (Int32.ofNat A))])) _
    refine XS.iadd X36.here hx rfl (hb hby at_162) rfl ?_
    show Steps p.tables e below (T36.setTop (mkF m 163 #[.val (.int ba), .val (.int gp), .val (.int fsd), .val (.int tsd), .val (.int pk), .val (.int an), .val (.ref b2), .val (.int (Int32.ofNat A)), .unset, .unset, .unset, .unset, .unset, .unset] [(.int ((Int32.ofNat A) + ((tsd &&& (2147483647 : Int32)) % ((9 : Int32) - (Int32.ofNat A)))))])) _
    refine XS.istore X36.here hx rfl (hb hby at_163) rfl (l' := #[.val (.int ba), .val (.int gp), .val (.int fsd), .val (.int tsd), .val (.int pk), .val (.int an), .val (.ref b2), .val (.int (Int32.ofNat A)), .val (.int ((Int32.ofNat A) + ((tsd &&& (2147483647 : Int32)) % ((9 : Int32) - (Int32.ofNat A))))), .unset, .unset, .unset, .unset, .unset]) rfl ?_
    exact k
  have go40 : ∀ t, Steps p.tables e below (T36.setTop (mkF m 174 #[.val (.int ba), .val (.int gp), .val (.int fsd), .val (.int tsd), .val (.int pk), .val (.int an), .val (.ref b2), .val (.int (Int32.ofNat A)), .val (.int (Int32.ofNat B)), .val (.int (Int32.ofNat kk)), .unset, .unset, .unset, .unset] [])) t → Steps p.tables e below (s₁.setTop (entryFrame m #[(.int ba), (.int gp), (.int fsd), (.int tsd), (.int pk), (.int an)] maxLocals)) t := by
    intro t k
    rw [← ek] at k
    refine go39 t ?_
    show Steps p.tables e below (T36.setTop (mkF m 165 #[.val (.int ba), .val (.int gp), .val (.int fsd), .val (.int tsd), .val (.int pk), .val (.int an), .val (.ref b2), .val (.int (Int32.ofNat A)), .val (.int (Int32.ofNat B)), .unset, .unset, .unset, .unset, .unset] [])) _
    refine XS.iload X36.here hx rfl (hb hby at_165) rfl ?_
    show Steps p.tables e below (T36.setTop (mkF m 167 #[.val (.int ba), .val (.int gp), .val (.int fsd), .val (.int tsd), .val (.int pk), .val (.int an), .val (.ref b2), .val (.int (Int32.ofNat A)), .val (.int (Int32.ofNat B)), .unset, .unset, .unset, .unset, .unset] [(.int pk)])) _
    refine XS.iconst X36.here hx rfl (hb hby at_167) ?_
    show Steps p.tables e below (T36.setTop (mkF m 168 #[.val (.int ba), .val (.int gp), .val (.int fsd), .val (.int tsd), .val (.int pk), .val (.int an), .val (.ref b2), .val (.int (Int32.ofNat A)), .val (.int (Int32.ofNat B)), .unset, .unset, .unset, .unset, .unset] [(.int (2 : Int32)), (.int pk)])) _
    refine XS.iushr X36.here hx rfl (hb hby at_168) rfl ?_
    show Steps p.tables e below (T36.setTop (mkF m 169 #[.val (.int ba), .val (.int gp), .val (.int fsd), .val (.int tsd), .val (.int pk), .val (.int an), .val (.ref b2), .val (.int (Int32.ofNat A)), .val (.int (Int32.ofNat B)), .unset, .unset, .unset, .unset, .unset] [(.int ((pk.toUInt32 >>> ((2 : Int32) &&& 31).toUInt32).toInt32))])) _
    refine XS.bipush X36.here hx rfl (hb hby at_169) ?_
    show Steps p.tables e below (T36.setTop (mkF m 171 #[.val (.int ba), .val (.int gp), .val (.int fsd), .val (.int tsd), .val (.int pk), .val (.int an), .val (.ref b2), .val (.int (Int32.ofNat A)), .val (.int (Int32.ofNat B)), .unset, .unset, .unset, .unset, .unset] [(.int (7 : Int32)), (.int ((pk.toUInt32 >>> ((2 : Int32) &&& 31).toUInt32).toInt32))])) _
    refine XS.iand X36.here hx rfl (hb hby at_171) rfl ?_
    show Steps p.tables e below (T36.setTop (mkF m 172 #[.val (.int ba), .val (.int gp), .val (.int fsd), .val (.int tsd), .val (.int pk), .val (.int an), .val (.ref b2), .val (.int (Int32.ofNat A)), .val (.int (Int32.ofNat B)), .unset, .unset, .unset, .unset, .unset] [(.int (((pk.toUInt32 >>> ((2 : Int32) &&& 31).toUInt32).toInt32) &&& (7 : Int32)))])) _
    refine XS.istore X36.here hx rfl (hb hby at_172) rfl (l' := #[.val (.int ba), .val (.int gp), .val (.int fsd), .val (.int tsd), .val (.int pk), .val (.int an), .val (.ref b2), .val (.int (Int32.ofNat A)), .val (.int (Int32.ofNat B)), .val (.int (((pk.toUInt32 >>> ((2 : Int32) &&& 31).toUInt32).toInt32) &&& (7 : Int32))), .unset, .unset, .unset, .unset]) rfl ?_
    exact k
  obtain ⟨md, h_md⟩ : ∃ z : Int32, z = (pk &&& (3 : Int32)) := ⟨_, rfl⟩
  have go41 : ∀ t, Steps p.tables e below (T36.setTop (mkF m 180 #[.val (.int ba), .val (.int gp), .val (.int fsd), .val (.int tsd), .val (.int pk), .val (.int an), .val (.ref b2), .val (.int (Int32.ofNat A)), .val (.int (Int32.ofNat B)), .val (.int (Int32.ofNat kk)), .val (.int md), .unset, .unset, .unset] [])) t → Steps p.tables e below (s₁.setTop (entryFrame m #[(.int ba), (.int gp), (.int fsd), (.int tsd), (.int pk), (.int an)] maxLocals)) t := by
    intro t k
    rw [h_md] at k
    refine go40 t ?_
    show Steps p.tables e below (T36.setTop (mkF m 174 #[.val (.int ba), .val (.int gp), .val (.int fsd), .val (.int tsd), .val (.int pk), .val (.int an), .val (.ref b2), .val (.int (Int32.ofNat A)), .val (.int (Int32.ofNat B)), .val (.int (Int32.ofNat kk)), .unset, .unset, .unset, .unset] [])) _
    refine XS.iload X36.here hx rfl (hb hby at_174) rfl ?_
    show Steps p.tables e below (T36.setTop (mkF m 176 #[.val (.int ba), .val (.int gp), .val (.int fsd), .val (.int tsd), .val (.int pk), .val (.int an), .val (.ref b2), .val (.int (Int32.ofNat A)), .val (.int (Int32.ofNat B)), .val (.int (Int32.ofNat kk)), .unset, .unset, .unset, .unset] [(.int pk)])) _
    refine XS.iconst X36.here hx rfl (hb hby at_176) ?_
    show Steps p.tables e below (T36.setTop (mkF m 177 #[.val (.int ba), .val (.int gp), .val (.int fsd), .val (.int tsd), .val (.int pk), .val (.int an), .val (.ref b2), .val (.int (Int32.ofNat A)), .val (.int (Int32.ofNat B)), .val (.int (Int32.ofNat kk)), .unset, .unset, .unset, .unset] [(.int (3 : Int32)), (.int pk)])) _
    refine XS.iand X36.here hx rfl (hb hby at_177) rfl ?_
    show Steps p.tables e below (T36.setTop (mkF m 178 #[.val (.int ba), .val (.int gp), .val (.int fsd), .val (.int tsd), .val (.int pk), .val (.int an), .val (.ref b2), .val (.int (Int32.ofNat A)), .val (.int (Int32.ofNat B)), .val (.int (Int32.ofNat kk)), .unset, .unset, .unset, .unset] [(.int (pk &&& (3 : Int32)))])) _
    refine XS.istore X36.here hx rfl (hb hby at_178) rfl (l' := #[.val (.int ba), .val (.int gp), .val (.int fsd), .val (.int tsd), .val (.int pk), .val (.int an), .val (.ref b2), .val (.int (Int32.ofNat A)), .val (.int (Int32.ofNat B)), .val (.int (Int32.ofNat kk)), .val (.int (pk &&& (3 : Int32))), .unset, .unset, .unset]) rfl ?_
    exact k
  obtain ⟨cl, Ar, Sz, H⟩ := id VA
  have hin := own_inb (i := kk) Sz hk (by decide)
  have hat := own_hat (i := kk) H hk (by decide)
  obtain ⟨num, go42⟩ : ∃ (num : Int32), (∀ t, Steps p.tables e below (T36.setTop (mkF m 235 #[.val (.int ba), .val (.int gp), .val (.int fsd), .val (.int tsd), .val (.int pk), .val (.int an), .val (.ref b2), .val (.int (Int32.ofNat A)), .val (.int (Int32.ofNat B)), .val (.int (Int32.ofNat kk)), .val (.int md), .val (.int num), .unset, .unset] [])) t → Steps p.tables e below (s₁.setTop (entryFrame m #[(.int ba), (.int gp), (.int fsd), (.int tsd), (.int pk), (.int an)] maxLocals)) t) := by
    by_cases hc182 : md = (0 : Int32)
    · skip
      refine ⟨an, fun t k => go41 t ?_⟩
      show Steps p.tables e below (T36.setTop (mkF m 180 #[.val (.int ba), .val (.int gp), .val (.int fsd), .val (.int tsd), .val (.int pk), .val (.int an), .val (.ref b2), .val (.int (Int32.ofNat A)), .val (.int (Int32.ofNat B)), .val (.int (Int32.ofNat kk)), .val (.int md), .unset, .unset, .unset] [])) _
      refine XS.iload X36.here hx rfl (hb hby at_180) rfl ?_
      show Steps p.tables e below (T36.setTop (mkF m 182 #[.val (.int ba), .val (.int gp), .val (.int fsd), .val (.int tsd), .val (.int pk), .val (.int an), .val (.ref b2), .val (.int (Int32.ofNat A)), .val (.int (Int32.ofNat B)), .val (.int (Int32.ofNat kk)), .val (.int md), .unset, .unset, .unset] [(.int md)])) _
      refine XS.ifNo X36.here hx rfl (hb hby at_182) rfl ((if0 _ _).trans (teq hc182).2) ?_
      show Steps p.tables e below (T36.setTop (mkF m 185 #[.val (.int ba), .val (.int gp), .val (.int fsd), .val (.int tsd), .val (.int pk), .val (.int an), .val (.ref b2), .val (.int (Int32.ofNat A)), .val (.int (Int32.ofNat B)), .val (.int (Int32.ofNat kk)), .val (.int md), .unset, .unset, .unset] [])) _
      refine XS.iload X36.here hx rfl (hb hby at_185) rfl ?_
      show Steps p.tables e below (T36.setTop (mkF m 187 #[.val (.int ba), .val (.int gp), .val (.int fsd), .val (.int tsd), .val (.int pk), .val (.int an), .val (.ref b2), .val (.int (Int32.ofNat A)), .val (.int (Int32.ofNat B)), .val (.int (Int32.ofNat kk)), .val (.int md), .unset, .unset, .unset] [(.int an)])) _
      refine XS.istore X36.here hx rfl (hb hby at_187) rfl (l' := #[.val (.int ba), .val (.int gp), .val (.int fsd), .val (.int tsd), .val (.int pk), .val (.int an), .val (.ref b2), .val (.int (Int32.ofNat A)), .val (.int (Int32.ofNat B)), .val (.int (Int32.ofNat kk)), .val (.int md), .val (.int an), .unset, .unset]) rfl ?_
      show Steps p.tables e below (T36.setTop (mkF m 189 #[.val (.int ba), .val (.int gp), .val (.int fsd), .val (.int tsd), .val (.int pk), .val (.int an), .val (.ref b2), .val (.int (Int32.ofNat A)), .val (.int (Int32.ofNat B)), .val (.int (Int32.ofNat kk)), .val (.int md), .val (.int an), .unset, .unset] [])) _
      refine XS.goto X36.here hx rfl (pc0 := 189) (pc' := 235) rfl (hb hby at_189) (by decide) (by decide) ?_
      exact k
    · skip
      by_cases hc195 : md = (1 : Int32)
      · skip
        refine ⟨(F kk), fun t k => go41 t ?_⟩
        show Steps p.tables e below (T36.setTop (mkF m 180 #[.val (.int ba), .val (.int gp), .val (.int fsd), .val (.int tsd), .val (.int pk), .val (.int an), .val (.ref b2), .val (.int (Int32.ofNat A)), .val (.int (Int32.ofNat B)), .val (.int (Int32.ofNat kk)), .val (.int md), .unset, .unset, .unset] [])) _
        refine XS.iload X36.here hx rfl (hb hby at_180) rfl ?_
        show Steps p.tables e below (T36.setTop (mkF m 182 #[.val (.int ba), .val (.int gp), .val (.int fsd), .val (.int tsd), .val (.int pk), .val (.int an), .val (.ref b2), .val (.int (Int32.ofNat A)), .val (.int (Int32.ofNat B)), .val (.int (Int32.ofNat kk)), .val (.int md), .unset, .unset, .unset] [(.int md)])) _
        refine XS.ifYes X36.here hx rfl (pc0 := 182) (pc' := 192) rfl (hb hby at_182) rfl ((if0 _ _).trans (feq hc182).2) (by decide) (by decide) ?_
        show Steps p.tables e below (T36.setTop (mkF m 192 #[.val (.int ba), .val (.int gp), .val (.int fsd), .val (.int tsd), .val (.int pk), .val (.int an), .val (.ref b2), .val (.int (Int32.ofNat A)), .val (.int (Int32.ofNat B)), .val (.int (Int32.ofNat kk)), .val (.int md), .unset, .unset, .unset] [])) _
        refine XS.iload X36.here hx rfl (hb hby at_192) rfl ?_
        show Steps p.tables e below (T36.setTop (mkF m 194 #[.val (.int ba), .val (.int gp), .val (.int fsd), .val (.int tsd), .val (.int pk), .val (.int an), .val (.ref b2), .val (.int (Int32.ofNat A)), .val (.int (Int32.ofNat B)), .val (.int (Int32.ofNat kk)), .val (.int md), .unset, .unset, .unset] [(.int md)])) _
        refine XS.iconst X36.here hx rfl (hb hby at_194) ?_
        show Steps p.tables e below (T36.setTop (mkF m 195 #[.val (.int ba), .val (.int gp), .val (.int fsd), .val (.int tsd), .val (.int pk), .val (.int an), .val (.ref b2), .val (.int (Int32.ofNat A)), .val (.int (Int32.ofNat B)), .val (.int (Int32.ofNat kk)), .val (.int md), .unset, .unset, .unset] [(.int (1 : Int32)), (.int md)])) _
        refine XS.icmpNo X36.here hx rfl (hb hby at_195) rfl (teq hc195).2 ?_
        show Steps p.tables e below (T36.setTop (mkF m 198 #[.val (.int ba), .val (.int gp), .val (.int fsd), .val (.int tsd), .val (.int pk), .val (.int an), .val (.ref b2), .val (.int (Int32.ofNat A)), .val (.int (Int32.ofNat B)), .val (.int (Int32.ofNat kk)), .val (.int md), .unset, .unset, .unset] [])) _
        refine XS.aload X36.here hx rfl (hb hby at_198) rfl rfl ?_
        show Steps p.tables e below (T36.setTop (mkF m 200 #[.val (.int ba), .val (.int gp), .val (.int fsd), .val (.int tsd), .val (.int pk), .val (.int an), .val (.ref b2), .val (.int (Int32.ofNat A)), .val (.int (Int32.ofNat B)), .val (.int (Int32.ofNat kk)), .val (.int md), .unset, .unset, .unset] [(.ref b2)])) _
        refine XS.iload X36.here hx rfl (hb hby at_200) rfl ?_
        show Steps p.tables e below (T36.setTop (mkF m 202 #[.val (.int ba), .val (.int gp), .val (.int fsd), .val (.int tsd), .val (.int pk), .val (.int an), .val (.ref b2), .val (.int (Int32.ofNat A)), .val (.int (Int32.ofNat B)), .val (.int (Int32.ofNat kk)), .val (.int md), .unset, .unset, .unset] [(.int (Int32.ofNat kk)), (.ref b2)])) _
        refine X36.iaload hx (j := (Int32.ofNat kk)) (v := (.int (F kk))) (by rw [e36]; exact Ar.1) (State.isArrayOf_alike hZ.alike Ar.2.1) Ar.2.2 hin hat (g := (mkF m 202 #[.val (.int ba), .val (.int gp), .val (.int fsd), .val (.int tsd), .val (.int pk), .val (.int an), .val (.ref b2), .val (.int (Int32.ofNat A)), .val (.int (Int32.ofNat B)), .val (.int (Int32.ofNat kk)), .val (.int md), .unset, .unset, .unset] [(.int (Int32.ofNat kk)), (.ref b2)])) rfl rfl (hb hby at_202) _ ?_
        show Steps p.tables e below (T36.setTop (mkF m 203 #[.val (.int ba), .val (.int gp), .val (.int fsd), .val (.int tsd), .val (.int pk), .val (.int an), .val (.ref b2), .val (.int (Int32.ofNat A)), .val (.int (Int32.ofNat B)), .val (.int (Int32.ofNat kk)), .val (.int md), .unset, .unset, .unset] [(.int (F kk))])) _
        refine XS.istore X36.here hx rfl (hb hby at_203) rfl (l' := #[.val (.int ba), .val (.int gp), .val (.int fsd), .val (.int tsd), .val (.int pk), .val (.int an), .val (.ref b2), .val (.int (Int32.ofNat A)), .val (.int (Int32.ofNat B)), .val (.int (Int32.ofNat kk)), .val (.int md), .val (.int (F kk)), .unset, .unset]) rfl ?_
        show Steps p.tables e below (T36.setTop (mkF m 205 #[.val (.int ba), .val (.int gp), .val (.int fsd), .val (.int tsd), .val (.int pk), .val (.int an), .val (.ref b2), .val (.int (Int32.ofNat A)), .val (.int (Int32.ofNat B)), .val (.int (Int32.ofNat kk)), .val (.int md), .val (.int (F kk)), .unset, .unset] [])) _
        refine XS.goto X36.here hx rfl (pc0 := 205) (pc' := 235) rfl (hb hby at_205) (by decide) (by decide) ?_
        exact k
      · skip
        by_cases hc211 : md = (2 : Int32)
        · skip
          refine ⟨((F kk) - (1 : Int32)), fun t k => go41 t ?_⟩
          show Steps p.tables e below (T36.setTop (mkF m 180 #[.val (.int ba), .val (.int gp), .val (.int fsd), .val (.int tsd), .val (.int pk), .val (.int an), .val (.ref b2), .val (.int (Int32.ofNat A)), .val (.int (Int32.ofNat B)), .val (.int (Int32.ofNat kk)), .val (.int md), .unset, .unset, .unset] [])) _
          refine XS.iload X36.here hx rfl (hb hby at_180) rfl ?_
          show Steps p.tables e below (T36.setTop (mkF m 182 #[.val (.int ba), .val (.int gp), .val (.int fsd), .val (.int tsd), .val (.int pk), .val (.int an), .val (.ref b2), .val (.int (Int32.ofNat A)), .val (.int (Int32.ofNat B)), .val (.int (Int32.ofNat kk)), .val (.int md), .unset, .unset, .unset] [(.int md)])) _
          refine XS.ifYes X36.here hx rfl (pc0 := 182) (pc' := 192) rfl (hb hby at_182) rfl ((if0 _ _).trans (feq hc182).2) (by decide) (by decide) ?_
          show Steps p.tables e below (T36.setTop (mkF m 192 #[.val (.int ba), .val (.int gp), .val (.int fsd), .val (.int tsd), .val (.int pk), .val (.int an), .val (.ref b2), .val (.int (Int32.ofNat A)), .val (.int (Int32.ofNat B)), .val (.int (Int32.ofNat kk)), .val (.int md), .unset, .unset, .unset] [])) _
          refine XS.iload X36.here hx rfl (hb hby at_192) rfl ?_
          show Steps p.tables e below (T36.setTop (mkF m 194 #[.val (.int ba), .val (.int gp), .val (.int fsd), .val (.int tsd), .val (.int pk), .val (.int an), .val (.ref b2), .val (.int (Int32.ofNat A)), .val (.int (Int32.ofNat B)), .val (.int (Int32.ofNat kk)), .val (.int md), .unset, .unset, .unset] [(.int md)])) _
          refine XS.iconst X36.here hx rfl (hb hby at_194) ?_
          show Steps p.tables e below (T36.setTop (mkF m 195 #[.val (.int ba), .val (.int gp), .val (.int fsd), .val (.int tsd), .val (.int pk), .val (.int an), .val (.ref b2), .val (.int (Int32.ofNat A)), .val (.int (Int32.ofNat B)), .val (.int (Int32.ofNat kk)), .val (.int md), .unset, .unset, .unset] [(.int (1 : Int32)), (.int md)])) _
          refine XS.icmpYes X36.here hx rfl (pc0 := 195) (pc' := 208) rfl (hb hby at_195) rfl (feq hc195).2 (by decide) (by decide) ?_
          show Steps p.tables e below (T36.setTop (mkF m 208 #[.val (.int ba), .val (.int gp), .val (.int fsd), .val (.int tsd), .val (.int pk), .val (.int an), .val (.ref b2), .val (.int (Int32.ofNat A)), .val (.int (Int32.ofNat B)), .val (.int (Int32.ofNat kk)), .val (.int md), .unset, .unset, .unset] [])) _
          refine XS.iload X36.here hx rfl (hb hby at_208) rfl ?_
          show Steps p.tables e below (T36.setTop (mkF m 210 #[.val (.int ba), .val (.int gp), .val (.int fsd), .val (.int tsd), .val (.int pk), .val (.int an), .val (.ref b2), .val (.int (Int32.ofNat A)), .val (.int (Int32.ofNat B)), .val (.int (Int32.ofNat kk)), .val (.int md), .unset, .unset, .unset] [(.int md)])) _
          refine XS.iconst X36.here hx rfl (hb hby at_210) ?_
          show Steps p.tables e below (T36.setTop (mkF m 211 #[.val (.int ba), .val (.int gp), .val (.int fsd), .val (.int tsd), .val (.int pk), .val (.int an), .val (.ref b2), .val (.int (Int32.ofNat A)), .val (.int (Int32.ofNat B)), .val (.int (Int32.ofNat kk)), .val (.int md), .unset, .unset, .unset] [(.int (2 : Int32)), (.int md)])) _
          refine XS.icmpNo X36.here hx rfl (hb hby at_211) rfl (teq hc211).2 ?_
          show Steps p.tables e below (T36.setTop (mkF m 214 #[.val (.int ba), .val (.int gp), .val (.int fsd), .val (.int tsd), .val (.int pk), .val (.int an), .val (.ref b2), .val (.int (Int32.ofNat A)), .val (.int (Int32.ofNat B)), .val (.int (Int32.ofNat kk)), .val (.int md), .unset, .unset, .unset] [])) _
          refine XS.aload X36.here hx rfl (hb hby at_214) rfl rfl ?_
          show Steps p.tables e below (T36.setTop (mkF m 216 #[.val (.int ba), .val (.int gp), .val (.int fsd), .val (.int tsd), .val (.int pk), .val (.int an), .val (.ref b2), .val (.int (Int32.ofNat A)), .val (.int (Int32.ofNat B)), .val (.int (Int32.ofNat kk)), .val (.int md), .unset, .unset, .unset] [(.ref b2)])) _
          refine XS.iload X36.here hx rfl (hb hby at_216) rfl ?_
          show Steps p.tables e below (T36.setTop (mkF m 218 #[.val (.int ba), .val (.int gp), .val (.int fsd), .val (.int tsd), .val (.int pk), .val (.int an), .val (.ref b2), .val (.int (Int32.ofNat A)), .val (.int (Int32.ofNat B)), .val (.int (Int32.ofNat kk)), .val (.int md), .unset, .unset, .unset] [(.int (Int32.ofNat kk)), (.ref b2)])) _
          refine X36.iaload hx (j := (Int32.ofNat kk)) (v := (.int (F kk))) (by rw [e36]; exact Ar.1) (State.isArrayOf_alike hZ.alike Ar.2.1) Ar.2.2 hin hat (g := (mkF m 218 #[.val (.int ba), .val (.int gp), .val (.int fsd), .val (.int tsd), .val (.int pk), .val (.int an), .val (.ref b2), .val (.int (Int32.ofNat A)), .val (.int (Int32.ofNat B)), .val (.int (Int32.ofNat kk)), .val (.int md), .unset, .unset, .unset] [(.int (Int32.ofNat kk)), (.ref b2)])) rfl rfl (hb hby at_218) _ ?_
          show Steps p.tables e below (T36.setTop (mkF m 219 #[.val (.int ba), .val (.int gp), .val (.int fsd), .val (.int tsd), .val (.int pk), .val (.int an), .val (.ref b2), .val (.int (Int32.ofNat A)), .val (.int (Int32.ofNat B)), .val (.int (Int32.ofNat kk)), .val (.int md), .unset, .unset, .unset] [(.int (F kk))])) _
          refine XS.iconst X36.here hx rfl (hb hby at_219) ?_
          show Steps p.tables e below (T36.setTop (mkF m 220 #[.val (.int ba), .val (.int gp), .val (.int fsd), .val (.int tsd), .val (.int pk), .val (.int an), .val (.ref b2), .val (.int (Int32.ofNat A)), .val (.int (Int32.ofNat B)), .val (.int (Int32.ofNat kk)), .val (.int md), .unset, .unset, .unset] [(.int (1 : Int32)), (.int (F kk))])) _
          refine XS.isub X36.here hx rfl (hb hby at_220) rfl ?_
          show Steps p.tables e below (T36.setTop (mkF m 221 #[.val (.int ba), .val (.int gp), .val (.int fsd), .val (.int tsd), .val (.int pk), .val (.int an), .val (.ref b2), .val (.int (Int32.ofNat A)), .val (.int (Int32.ofNat B)), .val (.int (Int32.ofNat kk)), .val (.int md), .unset, .unset, .unset] [(.int ((F kk) - (1 : Int32)))])) _
          refine XS.istore X36.here hx rfl (hb hby at_221) rfl (l' := #[.val (.int ba), .val (.int gp), .val (.int fsd), .val (.int tsd), .val (.int pk), .val (.int an), .val (.ref b2), .val (.int (Int32.ofNat A)), .val (.int (Int32.ofNat B)), .val (.int (Int32.ofNat kk)), .val (.int md), .val (.int ((F kk) - (1 : Int32))), .unset, .unset]) rfl ?_
          show Steps p.tables e below (T36.setTop (mkF m 223 #[.val (.int ba), .val (.int gp), .val (.int fsd), .val (.int tsd), .val (.int pk), .val (.int an), .val (.ref b2), .val (.int (Int32.ofNat A)), .val (.int (Int32.ofNat B)), .val (.int (Int32.ofNat kk)), .val (.int md), .val (.int ((F kk) - (1 : Int32))), .unset, .unset] [])) _
          refine XS.goto X36.here hx rfl (pc0 := 223) (pc' := 235) rfl (hb hby at_223) (by decide) (by decide) ?_
          exact k
        · skip
          refine ⟨((F kk) + (1 : Int32)), fun t k => go41 t ?_⟩
          show Steps p.tables e below (T36.setTop (mkF m 180 #[.val (.int ba), .val (.int gp), .val (.int fsd), .val (.int tsd), .val (.int pk), .val (.int an), .val (.ref b2), .val (.int (Int32.ofNat A)), .val (.int (Int32.ofNat B)), .val (.int (Int32.ofNat kk)), .val (.int md), .unset, .unset, .unset] [])) _
          refine XS.iload X36.here hx rfl (hb hby at_180) rfl ?_
          show Steps p.tables e below (T36.setTop (mkF m 182 #[.val (.int ba), .val (.int gp), .val (.int fsd), .val (.int tsd), .val (.int pk), .val (.int an), .val (.ref b2), .val (.int (Int32.ofNat A)), .val (.int (Int32.ofNat B)), .val (.int (Int32.ofNat kk)), .val (.int md), .unset, .unset, .unset] [(.int md)])) _
          refine XS.ifYes X36.here hx rfl (pc0 := 182) (pc' := 192) rfl (hb hby at_182) rfl ((if0 _ _).trans (feq hc182).2) (by decide) (by decide) ?_
          show Steps p.tables e below (T36.setTop (mkF m 192 #[.val (.int ba), .val (.int gp), .val (.int fsd), .val (.int tsd), .val (.int pk), .val (.int an), .val (.ref b2), .val (.int (Int32.ofNat A)), .val (.int (Int32.ofNat B)), .val (.int (Int32.ofNat kk)), .val (.int md), .unset, .unset, .unset] [])) _
          refine XS.iload X36.here hx rfl (hb hby at_192) rfl ?_
          show Steps p.tables e below (T36.setTop (mkF m 194 #[.val (.int ba), .val (.int gp), .val (.int fsd), .val (.int tsd), .val (.int pk), .val (.int an), .val (.ref b2), .val (.int (Int32.ofNat A)), .val (.int (Int32.ofNat B)), .val (.int (Int32.ofNat kk)), .val (.int md), .unset, .unset, .unset] [(.int md)])) _
          refine XS.iconst X36.here hx rfl (hb hby at_194) ?_
          show Steps p.tables e below (T36.setTop (mkF m 195 #[.val (.int ba), .val (.int gp), .val (.int fsd), .val (.int tsd), .val (.int pk), .val (.int an), .val (.ref b2), .val (.int (Int32.ofNat A)), .val (.int (Int32.ofNat B)), .val (.int (Int32.ofNat kk)), .val (.int md), .unset, .unset, .unset] [(.int (1 : Int32)), (.int md)])) _
          refine XS.icmpYes X36.here hx rfl (pc0 := 195) (pc' := 208) rfl (hb hby at_195) rfl (feq hc195).2 (by decide) (by decide) ?_
          show Steps p.tables e below (T36.setTop (mkF m 208 #[.val (.int ba), .val (.int gp), .val (.int fsd), .val (.int tsd), .val (.int pk), .val (.int an), .val (.ref b2), .val (.int (Int32.ofNat A)), .val (.int (Int32.ofNat B)), .val (.int (Int32.ofNat kk)), .val (.int md), .unset, .unset, .unset] [])) _
          refine XS.iload X36.here hx rfl (hb hby at_208) rfl ?_
          show Steps p.tables e below (T36.setTop (mkF m 210 #[.val (.int ba), .val (.int gp), .val (.int fsd), .val (.int tsd), .val (.int pk), .val (.int an), .val (.ref b2), .val (.int (Int32.ofNat A)), .val (.int (Int32.ofNat B)), .val (.int (Int32.ofNat kk)), .val (.int md), .unset, .unset, .unset] [(.int md)])) _
          refine XS.iconst X36.here hx rfl (hb hby at_210) ?_
          show Steps p.tables e below (T36.setTop (mkF m 211 #[.val (.int ba), .val (.int gp), .val (.int fsd), .val (.int tsd), .val (.int pk), .val (.int an), .val (.ref b2), .val (.int (Int32.ofNat A)), .val (.int (Int32.ofNat B)), .val (.int (Int32.ofNat kk)), .val (.int md), .unset, .unset, .unset] [(.int (2 : Int32)), (.int md)])) _
          refine XS.icmpYes X36.here hx rfl (pc0 := 211) (pc' := 226) rfl (hb hby at_211) rfl (feq hc211).2 (by decide) (by decide) ?_
          show Steps p.tables e below (T36.setTop (mkF m 226 #[.val (.int ba), .val (.int gp), .val (.int fsd), .val (.int tsd), .val (.int pk), .val (.int an), .val (.ref b2), .val (.int (Int32.ofNat A)), .val (.int (Int32.ofNat B)), .val (.int (Int32.ofNat kk)), .val (.int md), .unset, .unset, .unset] [])) _
          refine XS.aload X36.here hx rfl (hb hby at_226) rfl rfl ?_
          show Steps p.tables e below (T36.setTop (mkF m 228 #[.val (.int ba), .val (.int gp), .val (.int fsd), .val (.int tsd), .val (.int pk), .val (.int an), .val (.ref b2), .val (.int (Int32.ofNat A)), .val (.int (Int32.ofNat B)), .val (.int (Int32.ofNat kk)), .val (.int md), .unset, .unset, .unset] [(.ref b2)])) _
          refine XS.iload X36.here hx rfl (hb hby at_228) rfl ?_
          show Steps p.tables e below (T36.setTop (mkF m 230 #[.val (.int ba), .val (.int gp), .val (.int fsd), .val (.int tsd), .val (.int pk), .val (.int an), .val (.ref b2), .val (.int (Int32.ofNat A)), .val (.int (Int32.ofNat B)), .val (.int (Int32.ofNat kk)), .val (.int md), .unset, .unset, .unset] [(.int (Int32.ofNat kk)), (.ref b2)])) _
          refine X36.iaload hx (j := (Int32.ofNat kk)) (v := (.int (F kk))) (by rw [e36]; exact Ar.1) (State.isArrayOf_alike hZ.alike Ar.2.1) Ar.2.2 hin hat (g := (mkF m 230 #[.val (.int ba), .val (.int gp), .val (.int fsd), .val (.int tsd), .val (.int pk), .val (.int an), .val (.ref b2), .val (.int (Int32.ofNat A)), .val (.int (Int32.ofNat B)), .val (.int (Int32.ofNat kk)), .val (.int md), .unset, .unset, .unset] [(.int (Int32.ofNat kk)), (.ref b2)])) rfl rfl (hb hby at_230) _ ?_
          show Steps p.tables e below (T36.setTop (mkF m 231 #[.val (.int ba), .val (.int gp), .val (.int fsd), .val (.int tsd), .val (.int pk), .val (.int an), .val (.ref b2), .val (.int (Int32.ofNat A)), .val (.int (Int32.ofNat B)), .val (.int (Int32.ofNat kk)), .val (.int md), .unset, .unset, .unset] [(.int (F kk))])) _
          refine XS.iconst X36.here hx rfl (hb hby at_231) ?_
          show Steps p.tables e below (T36.setTop (mkF m 232 #[.val (.int ba), .val (.int gp), .val (.int fsd), .val (.int tsd), .val (.int pk), .val (.int an), .val (.ref b2), .val (.int (Int32.ofNat A)), .val (.int (Int32.ofNat B)), .val (.int (Int32.ofNat kk)), .val (.int md), .unset, .unset, .unset] [(.int (1 : Int32)), (.int (F kk))])) _
          refine XS.iadd X36.here hx rfl (hb hby at_232) rfl ?_
          show Steps p.tables e below (T36.setTop (mkF m 233 #[.val (.int ba), .val (.int gp), .val (.int fsd), .val (.int tsd), .val (.int pk), .val (.int an), .val (.ref b2), .val (.int (Int32.ofNat A)), .val (.int (Int32.ofNat B)), .val (.int (Int32.ofNat kk)), .val (.int md), .unset, .unset, .unset] [(.int ((F kk) + (1 : Int32)))])) _
          refine XS.istore X36.here hx rfl (hb hby at_233) rfl (l' := #[.val (.int ba), .val (.int gp), .val (.int fsd), .val (.int tsd), .val (.int pk), .val (.int an), .val (.ref b2), .val (.int (Int32.ofNat A)), .val (.int (Int32.ofNat B)), .val (.int (Int32.ofNat kk)), .val (.int md), .val (.int ((F kk) + (1 : Int32))), .unset, .unset]) rfl ?_
          exact k
  have go44 : ∀ t, Steps p.tables e below (T36.setTop (mkF m 251 #[.val (.int ba), .val (.int gp), .val (.int fsd), .val (.int tsd), .val (.int pk), .val (.int an), .val (.ref b2), .val (.int (Int32.ofNat A)), .val (.int (Int32.ofNat B)), .val (.int (Int32.ofNat kk)), .val (.int md), .val (.int num), .val (.int (Int32.ofNat B)), .unset] [(.int (Int32.ofNat B)), (.int num), (.int (Int32.ofNat B)), (.int (Int32.ofNat A)), (.int (7 : Int32)), (.ref b2)])) t → Steps p.tables e below (s₁.setTop (entryFrame m #[(.int ba), (.int gp), (.int fsd), (.int tsd), (.int pk), (.int an)] maxLocals)) t := by
    intro t k
    refine go42 t ?_
    show Steps p.tables e below (T36.setTop (mkF m 235 #[.val (.int ba), .val (.int gp), .val (.int fsd), .val (.int tsd), .val (.int pk), .val (.int an), .val (.ref b2), .val (.int (Int32.ofNat A)), .val (.int (Int32.ofNat B)), .val (.int (Int32.ofNat kk)), .val (.int md), .val (.int num), .unset, .unset] [])) _
    refine XS.iload X36.here hx rfl (hb hby at_235) rfl ?_
    show Steps p.tables e below (T36.setTop (mkF m 237 #[.val (.int ba), .val (.int gp), .val (.int fsd), .val (.int tsd), .val (.int pk), .val (.int an), .val (.ref b2), .val (.int (Int32.ofNat A)), .val (.int (Int32.ofNat B)), .val (.int (Int32.ofNat kk)), .val (.int md), .val (.int num), .unset, .unset] [(.int (Int32.ofNat B))])) _
    refine XS.istore X36.here hx rfl (hb hby at_237) rfl (l' := #[.val (.int ba), .val (.int gp), .val (.int fsd), .val (.int tsd), .val (.int pk), .val (.int an), .val (.ref b2), .val (.int (Int32.ofNat A)), .val (.int (Int32.ofNat B)), .val (.int (Int32.ofNat kk)), .val (.int md), .val (.int num), .val (.int (Int32.ofNat B)), .unset]) rfl ?_
    show Steps p.tables e below (T36.setTop (mkF m 239 #[.val (.int ba), .val (.int gp), .val (.int fsd), .val (.int tsd), .val (.int pk), .val (.int an), .val (.ref b2), .val (.int (Int32.ofNat A)), .val (.int (Int32.ofNat B)), .val (.int (Int32.ofNat kk)), .val (.int md), .val (.int num), .val (.int (Int32.ofNat B)), .unset] [])) _
    refine XS.aload X36.here hx rfl (hb hby at_239) rfl rfl ?_
    show Steps p.tables e below (T36.setTop (mkF m 241 #[.val (.int ba), .val (.int gp), .val (.int fsd), .val (.int tsd), .val (.int pk), .val (.int an), .val (.ref b2), .val (.int (Int32.ofNat A)), .val (.int (Int32.ofNat B)), .val (.int (Int32.ofNat kk)), .val (.int md), .val (.int num), .val (.int (Int32.ofNat B)), .unset] [(.ref b2)])) _
    refine XS.bipush X36.here hx rfl (hb hby at_241) ?_
    show Steps p.tables e below (T36.setTop (mkF m 243 #[.val (.int ba), .val (.int gp), .val (.int fsd), .val (.int tsd), .val (.int pk), .val (.int an), .val (.ref b2), .val (.int (Int32.ofNat A)), .val (.int (Int32.ofNat B)), .val (.int (Int32.ofNat kk)), .val (.int md), .val (.int num), .val (.int (Int32.ofNat B)), .unset] [(.int (7 : Int32)), (.ref b2)])) _
    refine XS.iload X36.here hx rfl (hb hby at_243) rfl ?_
    show Steps p.tables e below (T36.setTop (mkF m 245 #[.val (.int ba), .val (.int gp), .val (.int fsd), .val (.int tsd), .val (.int pk), .val (.int an), .val (.ref b2), .val (.int (Int32.ofNat A)), .val (.int (Int32.ofNat B)), .val (.int (Int32.ofNat kk)), .val (.int md), .val (.int num), .val (.int (Int32.ofNat B)), .unset] [(.int (Int32.ofNat A)), (.int (7 : Int32)), (.ref b2)])) _
    refine XS.iload X36.here hx rfl (hb hby at_245) rfl ?_
    show Steps p.tables e below (T36.setTop (mkF m 247 #[.val (.int ba), .val (.int gp), .val (.int fsd), .val (.int tsd), .val (.int pk), .val (.int an), .val (.ref b2), .val (.int (Int32.ofNat A)), .val (.int (Int32.ofNat B)), .val (.int (Int32.ofNat kk)), .val (.int md), .val (.int num), .val (.int (Int32.ofNat B)), .unset] [(.int (Int32.ofNat B)), (.int (Int32.ofNat A)), (.int (7 : Int32)), (.ref b2)])) _
    refine XS.iload X36.here hx rfl (hb hby at_247) rfl ?_
    show Steps p.tables e below (T36.setTop (mkF m 249 #[.val (.int ba), .val (.int gp), .val (.int fsd), .val (.int tsd), .val (.int pk), .val (.int an), .val (.ref b2), .val (.int (Int32.ofNat A)), .val (.int (Int32.ofNat B)), .val (.int (Int32.ofNat kk)), .val (.int md), .val (.int num), .val (.int (Int32.ofNat B)), .unset] [(.int num), (.int (Int32.ofNat B)), (.int (Int32.ofNat A)), (.int (7 : Int32)), (.ref b2)])) _
    refine XS.iload X36.here hx rfl (hb hby at_249) rfl ?_
    exact k
  obtain ⟨_, _, ⟨T45, L45, k45, n45⟩, -, X45, ⟨Lc45, hQ45, l45, y45, z45⟩, st45⟩ := Jvm.LawKit.callS X36 hx (y := (⟨"com/example/lucid_tbox/lucidtbox/util/SortedArraysSeekPinLaw", "at", "([IIIIII)I"⟩ : MethodName)) hown (mvT hZ (hw _ (List.mem_of_getElem? (i := 7) rfl))) (mvT hZ (hw _ (List.mem_of_getElem? (i := 8) rfl))) (mvT hZ (hw _ (List.mem_of_getElem? (i := 9) rfl))) (mvT hZ (hw _ (List.mem_of_getElem? (i := 10) rfl))) (by decide) (backOf (W := 0) (rm2 l Z a0 hw [] b2 num (Int32.ofNat B) F 7 A B h36 n0 Z36 VA (by decide) hA hB) hZ (hw _ (List.mem_of_getElem? (i := 10) rfl)) (hw _ (List.mem_of_getElem? (i := 9) rfl)) (by decide) (by decide)) (g := (mkF m 251 #[.val (.int ba), .val (.int gp), .val (.int fsd), .val (.int tsd), .val (.int pk), .val (.int an), .val (.ref b2), .val (.int (Int32.ofNat A)), .val (.int (Int32.ofNat B)), .val (.int (Int32.ofNat kk)), .val (.int md), .val (.int num), .val (.int (Int32.ofNat B)), .unset] [(.int (Int32.ofNat B)), (.int num), (.int (Int32.ofNat B)), (.int (Int32.ofNat A)), (.int (7 : Int32)), (.ref b2)])) rfl (by rw [hml]; rfl) (argsL := [(.ref b2), (.int (7 : Int32)), (.int (Int32.ofNat A)), (.int (Int32.ofNat B)), (.int num), (.int (Int32.ofNat B))]) (rest := []) (lenOf pd_0_1 rfl) rfl (by show 2 * 0 + _ ≤ _; exact Nat.le_of_eq rfl) (hb hby at_251) (fun _ _ => ⟨rfl, e36, (by decide : 1 + 0 ≤ _), (by decide : 8 + 0 ≤ _)⟩)
  dsimp only [Pt.U, Pt.locs, Pt.cells, Pt.slots] at X45 l45 y45 z45 st45 hQ45
  subst l45 y45 z45
  obtain ⟨rfl, N45q, e45⟩ := hQ45
  have N45 := Fr.app N36 N45q
  have go46 : ∀ t, Steps p.tables e below (T45.setTop (mkF m 254 #[.val (.int ba), .val (.int gp), .val (.int fsd), .val (.int tsd), .val (.int pk), .val (.int an), .val (.ref b2), .val (.int (Int32.ofNat A)), .val (.int (Int32.ofNat B)), .val (.int (Int32.ofNat kk)), .val (.int md), .val (.int num), .val (.int (Int32.ofNat B)), .unset] [(.int (own_at F 7 A B num (Int32.ofNat B)))])) t → Steps p.tables e below (s₁.setTop (entryFrame m #[(.int ba), (.int gp), (.int fsd), (.int tsd), (.int pk), (.int an)] maxLocals)) t := fun t k => go44 t (st45 _ k)
  obtain ⟨xx7, h_xx7⟩ : ∃ z : Int32, z = (own_at F 7 A B num (Int32.ofNat B)) := ⟨_, rfl⟩
  have go47 : ∀ t, Steps p.tables e below (T45.setTop (mkF m 256 #[.val (.int ba), .val (.int gp), .val (.int fsd), .val (.int tsd), .val (.int pk), .val (.int an), .val (.ref b2), .val (.int (Int32.ofNat A)), .val (.int (Int32.ofNat B)), .val (.int (Int32.ofNat kk)), .val (.int md), .val (.int num), .val (.int xx7), .unset] [])) t → Steps p.tables e below (s₁.setTop (entryFrame m #[(.int ba), (.int gp), (.int fsd), (.int tsd), (.int pk), (.int an)] maxLocals)) t := by
    intro t k
    rw [h_xx7] at k
    refine go46 t ?_
    show Steps p.tables e below (T45.setTop (mkF m 254 #[.val (.int ba), .val (.int gp), .val (.int fsd), .val (.int tsd), .val (.int pk), .val (.int an), .val (.ref b2), .val (.int (Int32.ofNat A)), .val (.int (Int32.ofNat B)), .val (.int (Int32.ofNat kk)), .val (.int md), .val (.int num), .val (.int (Int32.ofNat B)), .unset] [(.int (own_at F 7 A B num (Int32.ofNat B)))])) _
    refine XS.istore X45.here hx rfl (hb hby at_254) rfl (l' := #[.val (.int ba), .val (.int gp), .val (.int fsd), .val (.int tsd), .val (.int pk), .val (.int an), .val (.ref b2), .val (.int (Int32.ofNat A)), .val (.int (Int32.ofNat B)), .val (.int (Int32.ofNat kk)), .val (.int md), .val (.int num), .val (.int (own_at F 7 A B num (Int32.ofNat B))), .unset]) rfl ?_
    exact k
  have go48 : ∀ t, Steps p.tables e below (T45.setTop (mkF m 268 #[.val (.int ba), .val (.int gp), .val (.int fsd), .val (.int tsd), .val (.int pk), .val (.int an), .val (.ref b2), .val (.int (Int32.ofNat A)), .val (.int (Int32.ofNat B)), .val (.int (Int32.ofNat kk)), .val (.int md), .val (.int num), .val (.int xx7), .unset] [(.int xx7), (.int num), (.int (Int32.ofNat B)), (.int (Int32.ofNat A)), (.int (6 : Int32)), (.ref b2)])) t → Steps p.tables e below (s₁.setTop (entryFrame m #[(.int ba), (.int gp), (.int fsd), (.int tsd), (.int pk), (.int an)] maxLocals)) t := by
    intro t k
    refine go47 t ?_
    show Steps p.tables e below (T45.setTop (mkF m 256 #[.val (.int ba), .val (.int gp), .val (.int fsd), .val (.int tsd), .val (.int pk), .val (.int an), .val (.ref b2), .val (.int (Int32.ofNat A)), .val (.int (Int32.ofNat B)), .val (.int (Int32.ofNat kk)), .val (.int md), .val (.int num), .val (.int xx7), .unset] [])) _
    refine XS.aload X45.here hx rfl (hb hby at_256) rfl rfl ?_
    show Steps p.tables e below (T45.setTop (mkF m 258 #[.val (.int ba), .val (.int gp), .val (.int fsd), .val (.int tsd), .val (.int pk), .val (.int an), .val (.ref b2), .val (.int (Int32.ofNat A)), .val (.int (Int32.ofNat B)), .val (.int (Int32.ofNat kk)), .val (.int md), .val (.int num), .val (.int xx7), .unset] [(.ref b2)])) _
    refine XS.bipush X45.here hx rfl (hb hby at_258) ?_
    show Steps p.tables e below (T45.setTop (mkF m 260 #[.val (.int ba), .val (.int gp), .val (.int fsd), .val (.int tsd), .val (.int pk), .val (.int an), .val (.ref b2), .val (.int (Int32.ofNat A)), .val (.int (Int32.ofNat B)), .val (.int (Int32.ofNat kk)), .val (.int md), .val (.int num), .val (.int xx7), .unset] [(.int (6 : Int32)), (.ref b2)])) _
    refine XS.iload X45.here hx rfl (hb hby at_260) rfl ?_
    show Steps p.tables e below (T45.setTop (mkF m 262 #[.val (.int ba), .val (.int gp), .val (.int fsd), .val (.int tsd), .val (.int pk), .val (.int an), .val (.ref b2), .val (.int (Int32.ofNat A)), .val (.int (Int32.ofNat B)), .val (.int (Int32.ofNat kk)), .val (.int md), .val (.int num), .val (.int xx7), .unset] [(.int (Int32.ofNat A)), (.int (6 : Int32)), (.ref b2)])) _
    refine XS.iload X45.here hx rfl (hb hby at_262) rfl ?_
    show Steps p.tables e below (T45.setTop (mkF m 264 #[.val (.int ba), .val (.int gp), .val (.int fsd), .val (.int tsd), .val (.int pk), .val (.int an), .val (.ref b2), .val (.int (Int32.ofNat A)), .val (.int (Int32.ofNat B)), .val (.int (Int32.ofNat kk)), .val (.int md), .val (.int num), .val (.int xx7), .unset] [(.int (Int32.ofNat B)), (.int (Int32.ofNat A)), (.int (6 : Int32)), (.ref b2)])) _
    refine XS.iload X45.here hx rfl (hb hby at_264) rfl ?_
    show Steps p.tables e below (T45.setTop (mkF m 266 #[.val (.int ba), .val (.int gp), .val (.int fsd), .val (.int tsd), .val (.int pk), .val (.int an), .val (.ref b2), .val (.int (Int32.ofNat A)), .val (.int (Int32.ofNat B)), .val (.int (Int32.ofNat kk)), .val (.int md), .val (.int num), .val (.int xx7), .unset] [(.int num), (.int (Int32.ofNat B)), (.int (Int32.ofNat A)), (.int (6 : Int32)), (.ref b2)])) _
    refine XS.iload X45.here hx rfl (hb hby at_266) rfl ?_
    exact k
  obtain ⟨_, _, ⟨T49, L49, k49, n49⟩, -, X49, ⟨Lc49, hQ49, l49, y49, z49⟩, st49⟩ := Jvm.LawKit.callS X45 hx (y := (⟨"com/example/lucid_tbox/lucidtbox/util/SortedArraysSeekPinLaw", "at", "([IIIIII)I"⟩ : MethodName)) hown (mvT hZ (hw _ (List.mem_of_getElem? (i := 7) rfl))) (mvT hZ (hw _ (List.mem_of_getElem? (i := 8) rfl))) (mvT hZ (hw _ (List.mem_of_getElem? (i := 9) rfl))) (mvT hZ (hw _ (List.mem_of_getElem? (i := 10) rfl))) (by decide) (backOf (W := 0) (rm2 l Z a0 hw [] b2 num xx7 F 6 A B h36 n0 Z36 VA (by decide) hA hB) hZ (hw _ (List.mem_of_getElem? (i := 10) rfl)) (hw _ (List.mem_of_getElem? (i := 9) rfl)) (by decide) (by decide)) (g := (mkF m 268 #[.val (.int ba), .val (.int gp), .val (.int fsd), .val (.int tsd), .val (.int pk), .val (.int an), .val (.ref b2), .val (.int (Int32.ofNat A)), .val (.int (Int32.ofNat B)), .val (.int (Int32.ofNat kk)), .val (.int md), .val (.int num), .val (.int xx7), .unset] [(.int xx7), (.int num), (.int (Int32.ofNat B)), (.int (Int32.ofNat A)), (.int (6 : Int32)), (.ref b2)])) rfl (by rw [hml]; rfl) (argsL := [(.ref b2), (.int (6 : Int32)), (.int (Int32.ofNat A)), (.int (Int32.ofNat B)), (.int num), (.int xx7)]) (rest := []) (lenOf pd_0_1 rfl) rfl (by show 2 * 0 + _ ≤ _; exact Nat.le_of_eq rfl) (hb hby at_268) (fun _ _ => ⟨rfl, e45, (by decide : 1 + 0 ≤ _), (by decide : 8 + 0 ≤ _)⟩)
  dsimp only [Pt.U, Pt.locs, Pt.cells, Pt.slots] at X49 l49 y49 z49 st49 hQ49
  subst l49 y49 z49
  obtain ⟨rfl, N49q, e49⟩ := hQ49
  have N49 := Fr.app N45 N49q
  have go50 : ∀ t, Steps p.tables e below (T49.setTop (mkF m 271 #[.val (.int ba), .val (.int gp), .val (.int fsd), .val (.int tsd), .val (.int pk), .val (.int an), .val (.ref b2), .val (.int (Int32.ofNat A)), .val (.int (Int32.ofNat B)), .val (.int (Int32.ofNat kk)), .val (.int md), .val (.int num), .val (.int xx7), .unset] [(.int (own_at F 6 A B num xx7))])) t → Steps p.tables e below (s₁.setTop (entryFrame m #[(.int ba), (.int gp), (.int fsd), (.int tsd), (.int pk), (.int an)] maxLocals)) t := fun t k => go48 t (st49 _ k)
  obtain ⟨xx6, h_xx6⟩ : ∃ z : Int32, z = (own_at F 6 A B num xx7) := ⟨_, rfl⟩
  have go51 : ∀ t, Steps p.tables e below (T49.setTop (mkF m 273 #[.val (.int ba), .val (.int gp), .val (.int fsd), .val (.int tsd), .val (.int pk), .val (.int an), .val (.ref b2), .val (.int (Int32.ofNat A)), .val (.int (Int32.ofNat B)), .val (.int (Int32.ofNat kk)), .val (.int md), .val (.int num), .val (.int xx6), .unset] [])) t → Steps p.tables e below (s₁.setTop (entryFrame m #[(.int ba), (.int gp), (.int fsd), (.int tsd), (.int pk), (.int an)] maxLocals)) t := by
    intro t k
    rw [h_xx6] at k
    refine go50 t ?_
    show Steps p.tables e below (T49.setTop (mkF m 271 #[.val (.int ba), .val (.int gp), .val (.int fsd), .val (.int tsd), .val (.int pk), .val (.int an), .val (.ref b2), .val (.int (Int32.ofNat A)), .val (.int (Int32.ofNat B)), .val (.int (Int32.ofNat kk)), .val (.int md), .val (.int num), .val (.int xx7), .unset] [(.int (own_at F 6 A B num xx7))])) _
    refine XS.istore X49.here hx rfl (hb hby at_271) rfl (l' := #[.val (.int ba), .val (.int gp), .val (.int fsd), .val (.int tsd), .val (.int pk), .val (.int an), .val (.ref b2), .val (.int (Int32.ofNat A)), .val (.int (Int32.ofNat B)), .val (.int (Int32.ofNat kk)), .val (.int md), .val (.int num), .val (.int (own_at F 6 A B num xx7)), .unset]) rfl ?_
    exact k
  have go52 : ∀ t, Steps p.tables e below (T49.setTop (mkF m 284 #[.val (.int ba), .val (.int gp), .val (.int fsd), .val (.int tsd), .val (.int pk), .val (.int an), .val (.ref b2), .val (.int (Int32.ofNat A)), .val (.int (Int32.ofNat B)), .val (.int (Int32.ofNat kk)), .val (.int md), .val (.int num), .val (.int xx6), .unset] [(.int xx6), (.int num), (.int (Int32.ofNat B)), (.int (Int32.ofNat A)), (.int (5 : Int32)), (.ref b2)])) t → Steps p.tables e below (s₁.setTop (entryFrame m #[(.int ba), (.int gp), (.int fsd), (.int tsd), (.int pk), (.int an)] maxLocals)) t := by
    intro t k
    refine go51 t ?_
    show Steps p.tables e below (T49.setTop (mkF m 273 #[.val (.int ba), .val (.int gp), .val (.int fsd), .val (.int tsd), .val (.int pk), .val (.int an), .val (.ref b2), .val (.int (Int32.ofNat A)), .val (.int (Int32.ofNat B)), .val (.int (Int32.ofNat kk)), .val (.int md), .val (.int num), .val (.int xx6), .unset] [])) _
    refine XS.aload X49.here hx rfl (hb hby at_273) rfl rfl ?_
    show Steps p.tables e below (T49.setTop (mkF m 275 #[.val (.int ba), .val (.int gp), .val (.int fsd), .val (.int tsd), .val (.int pk), .val (.int an), .val (.ref b2), .val (.int (Int32.ofNat A)), .val (.int (Int32.ofNat B)), .val (.int (Int32.ofNat kk)), .val (.int md), .val (.int num), .val (.int xx6), .unset] [(.ref b2)])) _
    refine XS.iconst X49.here hx rfl (hb hby at_275) ?_
    show Steps p.tables e below (T49.setTop (mkF m 276 #[.val (.int ba), .val (.int gp), .val (.int fsd), .val (.int tsd), .val (.int pk), .val (.int an), .val (.ref b2), .val (.int (Int32.ofNat A)), .val (.int (Int32.ofNat B)), .val (.int (Int32.ofNat kk)), .val (.int md), .val (.int num), .val (.int xx6), .unset] [(.int (5 : Int32)), (.ref b2)])) _
    refine XS.iload X49.here hx rfl (hb hby at_276) rfl ?_
    show Steps p.tables e below (T49.setTop (mkF m 278 #[.val (.int ba), .val (.int gp), .val (.int fsd), .val (.int tsd), .val (.int pk), .val (.int an), .val (.ref b2), .val (.int (Int32.ofNat A)), .val (.int (Int32.ofNat B)), .val (.int (Int32.ofNat kk)), .val (.int md), .val (.int num), .val (.int xx6), .unset] [(.int (Int32.ofNat A)), (.int (5 : Int32)), (.ref b2)])) _
    refine XS.iload X49.here hx rfl (hb hby at_278) rfl ?_
    show Steps p.tables e below (T49.setTop (mkF m 280 #[.val (.int ba), .val (.int gp), .val (.int fsd), .val (.int tsd), .val (.int pk), .val (.int an), .val (.ref b2), .val (.int (Int32.ofNat A)), .val (.int (Int32.ofNat B)), .val (.int (Int32.ofNat kk)), .val (.int md), .val (.int num), .val (.int xx6), .unset] [(.int (Int32.ofNat B)), (.int (Int32.ofNat A)), (.int (5 : Int32)), (.ref b2)])) _
    refine XS.iload X49.here hx rfl (hb hby at_280) rfl ?_
    show Steps p.tables e below (T49.setTop (mkF m 282 #[.val (.int ba), .val (.int gp), .val (.int fsd), .val (.int tsd), .val (.int pk), .val (.int an), .val (.ref b2), .val (.int (Int32.ofNat A)), .val (.int (Int32.ofNat B)), .val (.int (Int32.ofNat kk)), .val (.int md), .val (.int num), .val (.int xx6), .unset] [(.int num), (.int (Int32.ofNat B)), (.int (Int32.ofNat A)), (.int (5 : Int32)), (.ref b2)])) _
    refine XS.iload X49.here hx rfl (hb hby at_282) rfl ?_
    exact k
  obtain ⟨_, _, ⟨T53, L53, k53, n53⟩, -, X53, ⟨Lc53, hQ53, l53, y53, z53⟩, st53⟩ := Jvm.LawKit.callS X49 hx (y := (⟨"com/example/lucid_tbox/lucidtbox/util/SortedArraysSeekPinLaw", "at", "([IIIIII)I"⟩ : MethodName)) hown (mvT hZ (hw _ (List.mem_of_getElem? (i := 7) rfl))) (mvT hZ (hw _ (List.mem_of_getElem? (i := 8) rfl))) (mvT hZ (hw _ (List.mem_of_getElem? (i := 9) rfl))) (mvT hZ (hw _ (List.mem_of_getElem? (i := 10) rfl))) (by decide) (backOf (W := 0) (rm2 l Z a0 hw [] b2 num xx6 F 5 A B h36 n0 Z36 VA (by decide) hA hB) hZ (hw _ (List.mem_of_getElem? (i := 10) rfl)) (hw _ (List.mem_of_getElem? (i := 9) rfl)) (by decide) (by decide)) (g := (mkF m 284 #[.val (.int ba), .val (.int gp), .val (.int fsd), .val (.int tsd), .val (.int pk), .val (.int an), .val (.ref b2), .val (.int (Int32.ofNat A)), .val (.int (Int32.ofNat B)), .val (.int (Int32.ofNat kk)), .val (.int md), .val (.int num), .val (.int xx6), .unset] [(.int xx6), (.int num), (.int (Int32.ofNat B)), (.int (Int32.ofNat A)), (.int (5 : Int32)), (.ref b2)])) rfl (by rw [hml]; rfl) (argsL := [(.ref b2), (.int (5 : Int32)), (.int (Int32.ofNat A)), (.int (Int32.ofNat B)), (.int num), (.int xx6)]) (rest := []) (lenOf pd_0_1 rfl) rfl (by show 2 * 0 + _ ≤ _; exact Nat.le_of_eq rfl) (hb hby at_284) (fun _ _ => ⟨rfl, e49, (by decide : 1 + 0 ≤ _), (by decide : 8 + 0 ≤ _)⟩)
  dsimp only [Pt.U, Pt.locs, Pt.cells, Pt.slots] at X53 l53 y53 z53 st53 hQ53
  subst l53 y53 z53
  obtain ⟨rfl, N53q, e53⟩ := hQ53
  have N53 := Fr.app N49 N53q
  have go54 : ∀ t, Steps p.tables e below (T53.setTop (mkF m 287 #[.val (.int ba), .val (.int gp), .val (.int fsd), .val (.int tsd), .val (.int pk), .val (.int an), .val (.ref b2), .val (.int (Int32.ofNat A)), .val (.int (Int32.ofNat B)), .val (.int (Int32.ofNat kk)), .val (.int md), .val (.int num), .val (.int xx6), .unset] [(.int (own_at F 5 A B num xx6))])) t → Steps p.tables e below (s₁.setTop (entryFrame m #[(.int ba), (.int gp), (.int fsd), (.int tsd), (.int pk), (.int an)] maxLocals)) t := fun t k => go52 t (st53 _ k)
  obtain ⟨xx5, h_xx5⟩ : ∃ z : Int32, z = (own_at F 5 A B num xx6) := ⟨_, rfl⟩
  have go55 : ∀ t, Steps p.tables e below (T53.setTop (mkF m 289 #[.val (.int ba), .val (.int gp), .val (.int fsd), .val (.int tsd), .val (.int pk), .val (.int an), .val (.ref b2), .val (.int (Int32.ofNat A)), .val (.int (Int32.ofNat B)), .val (.int (Int32.ofNat kk)), .val (.int md), .val (.int num), .val (.int xx5), .unset] [])) t → Steps p.tables e below (s₁.setTop (entryFrame m #[(.int ba), (.int gp), (.int fsd), (.int tsd), (.int pk), (.int an)] maxLocals)) t := by
    intro t k
    rw [h_xx5] at k
    refine go54 t ?_
    show Steps p.tables e below (T53.setTop (mkF m 287 #[.val (.int ba), .val (.int gp), .val (.int fsd), .val (.int tsd), .val (.int pk), .val (.int an), .val (.ref b2), .val (.int (Int32.ofNat A)), .val (.int (Int32.ofNat B)), .val (.int (Int32.ofNat kk)), .val (.int md), .val (.int num), .val (.int xx6), .unset] [(.int (own_at F 5 A B num xx6))])) _
    refine XS.istore X53.here hx rfl (hb hby at_287) rfl (l' := #[.val (.int ba), .val (.int gp), .val (.int fsd), .val (.int tsd), .val (.int pk), .val (.int an), .val (.ref b2), .val (.int (Int32.ofNat A)), .val (.int (Int32.ofNat B)), .val (.int (Int32.ofNat kk)), .val (.int md), .val (.int num), .val (.int (own_at F 5 A B num xx6)), .unset]) rfl ?_
    exact k
  have go56 : ∀ t, Steps p.tables e below (T53.setTop (mkF m 300 #[.val (.int ba), .val (.int gp), .val (.int fsd), .val (.int tsd), .val (.int pk), .val (.int an), .val (.ref b2), .val (.int (Int32.ofNat A)), .val (.int (Int32.ofNat B)), .val (.int (Int32.ofNat kk)), .val (.int md), .val (.int num), .val (.int xx5), .unset] [(.int xx5), (.int num), (.int (Int32.ofNat B)), (.int (Int32.ofNat A)), (.int (4 : Int32)), (.ref b2)])) t → Steps p.tables e below (s₁.setTop (entryFrame m #[(.int ba), (.int gp), (.int fsd), (.int tsd), (.int pk), (.int an)] maxLocals)) t := by
    intro t k
    refine go55 t ?_
    show Steps p.tables e below (T53.setTop (mkF m 289 #[.val (.int ba), .val (.int gp), .val (.int fsd), .val (.int tsd), .val (.int pk), .val (.int an), .val (.ref b2), .val (.int (Int32.ofNat A)), .val (.int (Int32.ofNat B)), .val (.int (Int32.ofNat kk)), .val (.int md), .val (.int num), .val (.int xx5), .unset] [])) _
    refine XS.aload X53.here hx rfl (hb hby at_289) rfl rfl ?_
    show Steps p.tables e below (T53.setTop (mkF m 291 #[.val (.int ba), .val (.int gp), .val (.int fsd), .val (.int tsd), .val (.int pk), .val (.int an), .val (.ref b2), .val (.int (Int32.ofNat A)), .val (.int (Int32.ofNat B)), .val (.int (Int32.ofNat kk)), .val (.int md), .val (.int num), .val (.int xx5), .unset] [(.ref b2)])) _
    refine XS.iconst X53.here hx rfl (hb hby at_291) ?_
    show Steps p.tables e below (T53.setTop (mkF m 292 #[.val (.int ba), .val (.int gp), .val (.int fsd), .val (.int tsd), .val (.int pk), .val (.int an), .val (.ref b2), .val (.int (Int32.ofNat A)), .val (.int (Int32.ofNat B)), .val (.int (Int32.ofNat kk)), .val (.int md), .val (.int num), .val (.int xx5), .unset] [(.int (4 : Int32)), (.ref b2)])) _
    refine XS.iload X53.here hx rfl (hb hby at_292) rfl ?_
    show Steps p.tables e below (T53.setTop (mkF m 294 #[.val (.int ba), .val (.int gp), .val (.int fsd), .val (.int tsd), .val (.int pk), .val (.int an), .val (.ref b2), .val (.int (Int32.ofNat A)), .val (.int (Int32.ofNat B)), .val (.int (Int32.ofNat kk)), .val (.int md), .val (.int num), .val (.int xx5), .unset] [(.int (Int32.ofNat A)), (.int (4 : Int32)), (.ref b2)])) _
    refine XS.iload X53.here hx rfl (hb hby at_294) rfl ?_
    show Steps p.tables e below (T53.setTop (mkF m 296 #[.val (.int ba), .val (.int gp), .val (.int fsd), .val (.int tsd), .val (.int pk), .val (.int an), .val (.ref b2), .val (.int (Int32.ofNat A)), .val (.int (Int32.ofNat B)), .val (.int (Int32.ofNat kk)), .val (.int md), .val (.int num), .val (.int xx5), .unset] [(.int (Int32.ofNat B)), (.int (Int32.ofNat A)), (.int (4 : Int32)), (.ref b2)])) _
    refine XS.iload X53.here hx rfl (hb hby at_296) rfl ?_
    show Steps p.tables e below (T53.setTop (mkF m 298 #[.val (.int ba), .val (.int gp), .val (.int fsd), .val (.int tsd), .val (.int pk), .val (.int an), .val (.ref b2), .val (.int (Int32.ofNat A)), .val (.int (Int32.ofNat B)), .val (.int (Int32.ofNat kk)), .val (.int md), .val (.int num), .val (.int xx5), .unset] [(.int num), (.int (Int32.ofNat B)), (.int (Int32.ofNat A)), (.int (4 : Int32)), (.ref b2)])) _
    refine XS.iload X53.here hx rfl (hb hby at_298) rfl ?_
    exact k
  obtain ⟨_, _, ⟨T57, L57, k57, n57⟩, -, X57, ⟨Lc57, hQ57, l57, y57, z57⟩, st57⟩ := Jvm.LawKit.callS X53 hx (y := (⟨"com/example/lucid_tbox/lucidtbox/util/SortedArraysSeekPinLaw", "at", "([IIIIII)I"⟩ : MethodName)) hown (mvT hZ (hw _ (List.mem_of_getElem? (i := 7) rfl))) (mvT hZ (hw _ (List.mem_of_getElem? (i := 8) rfl))) (mvT hZ (hw _ (List.mem_of_getElem? (i := 9) rfl))) (mvT hZ (hw _ (List.mem_of_getElem? (i := 10) rfl))) (by decide) (backOf (W := 0) (rm2 l Z a0 hw [] b2 num xx5 F 4 A B h36 n0 Z36 VA (by decide) hA hB) hZ (hw _ (List.mem_of_getElem? (i := 10) rfl)) (hw _ (List.mem_of_getElem? (i := 9) rfl)) (by decide) (by decide)) (g := (mkF m 300 #[.val (.int ba), .val (.int gp), .val (.int fsd), .val (.int tsd), .val (.int pk), .val (.int an), .val (.ref b2), .val (.int (Int32.ofNat A)), .val (.int (Int32.ofNat B)), .val (.int (Int32.ofNat kk)), .val (.int md), .val (.int num), .val (.int xx5), .unset] [(.int xx5), (.int num), (.int (Int32.ofNat B)), (.int (Int32.ofNat A)), (.int (4 : Int32)), (.ref b2)])) rfl (by rw [hml]; rfl) (argsL := [(.ref b2), (.int (4 : Int32)), (.int (Int32.ofNat A)), (.int (Int32.ofNat B)), (.int num), (.int xx5)]) (rest := []) (lenOf pd_0_1 rfl) rfl (by show 2 * 0 + _ ≤ _; exact Nat.le_of_eq rfl) (hb hby at_300) (fun _ _ => ⟨rfl, e53, (by decide : 1 + 0 ≤ _), (by decide : 8 + 0 ≤ _)⟩)
  dsimp only [Pt.U, Pt.locs, Pt.cells, Pt.slots] at X57 l57 y57 z57 st57 hQ57
  subst l57 y57 z57
  obtain ⟨rfl, N57q, e57⟩ := hQ57
  have N57 := Fr.app N53 N57q
  have go58 : ∀ t, Steps p.tables e below (T57.setTop (mkF m 303 #[.val (.int ba), .val (.int gp), .val (.int fsd), .val (.int tsd), .val (.int pk), .val (.int an), .val (.ref b2), .val (.int (Int32.ofNat A)), .val (.int (Int32.ofNat B)), .val (.int (Int32.ofNat kk)), .val (.int md), .val (.int num), .val (.int xx5), .unset] [(.int (own_at F 4 A B num xx5))])) t → Steps p.tables e below (s₁.setTop (entryFrame m #[(.int ba), (.int gp), (.int fsd), (.int tsd), (.int pk), (.int an)] maxLocals)) t := fun t k => go56 t (st57 _ k)
  obtain ⟨xx4, h_xx4⟩ : ∃ z : Int32, z = (own_at F 4 A B num xx5) := ⟨_, rfl⟩
  have go59 : ∀ t, Steps p.tables e below (T57.setTop (mkF m 305 #[.val (.int ba), .val (.int gp), .val (.int fsd), .val (.int tsd), .val (.int pk), .val (.int an), .val (.ref b2), .val (.int (Int32.ofNat A)), .val (.int (Int32.ofNat B)), .val (.int (Int32.ofNat kk)), .val (.int md), .val (.int num), .val (.int xx4), .unset] [])) t → Steps p.tables e below (s₁.setTop (entryFrame m #[(.int ba), (.int gp), (.int fsd), (.int tsd), (.int pk), (.int an)] maxLocals)) t := by
    intro t k
    rw [h_xx4] at k
    refine go58 t ?_
    show Steps p.tables e below (T57.setTop (mkF m 303 #[.val (.int ba), .val (.int gp), .val (.int fsd), .val (.int tsd), .val (.int pk), .val (.int an), .val (.ref b2), .val (.int (Int32.ofNat A)), .val (.int (Int32.ofNat B)), .val (.int (Int32.ofNat kk)), .val (.int md), .val (.int num), .val (.int xx5), .unset] [(.int (own_at F 4 A B num xx5))])) _
    refine XS.istore X57.here hx rfl (hb hby at_303) rfl (l' := #[.val (.int ba), .val (.int gp), .val (.int fsd), .val (.int tsd), .val (.int pk), .val (.int an), .val (.ref b2), .val (.int (Int32.ofNat A)), .val (.int (Int32.ofNat B)), .val (.int (Int32.ofNat kk)), .val (.int md), .val (.int num), .val (.int (own_at F 4 A B num xx5)), .unset]) rfl ?_
    exact k
  have go60 : ∀ t, Steps p.tables e below (T57.setTop (mkF m 316 #[.val (.int ba), .val (.int gp), .val (.int fsd), .val (.int tsd), .val (.int pk), .val (.int an), .val (.ref b2), .val (.int (Int32.ofNat A)), .val (.int (Int32.ofNat B)), .val (.int (Int32.ofNat kk)), .val (.int md), .val (.int num), .val (.int xx4), .unset] [(.int xx4), (.int num), (.int (Int32.ofNat B)), (.int (Int32.ofNat A)), (.int (3 : Int32)), (.ref b2)])) t → Steps p.tables e below (s₁.setTop (entryFrame m #[(.int ba), (.int gp), (.int fsd), (.int tsd), (.int pk), (.int an)] maxLocals)) t := by
    intro t k
    refine go59 t ?_
    show Steps p.tables e below (T57.setTop (mkF m 305 #[.val (.int ba), .val (.int gp), .val (.int fsd), .val (.int tsd), .val (.int pk), .val (.int an), .val (.ref b2), .val (.int (Int32.ofNat A)), .val (.int (Int32.ofNat B)), .val (.int (Int32.ofNat kk)), .val (.int md), .val (.int num), .val (.int xx4), .unset] [])) _
    refine XS.aload X57.here hx rfl (hb hby at_305) rfl rfl ?_
    show Steps p.tables e below (T57.setTop (mkF m 307 #[.val (.int ba), .val (.int gp), .val (.int fsd), .val (.int tsd), .val (.int pk), .val (.int an), .val (.ref b2), .val (.int (Int32.ofNat A)), .val (.int (Int32.ofNat B)), .val (.int (Int32.ofNat kk)), .val (.int md), .val (.int num), .val (.int xx4), .unset] [(.ref b2)])) _
    refine XS.iconst X57.here hx rfl (hb hby at_307) ?_
    show Steps p.tables e below (T57.setTop (mkF m 308 #[.val (.int ba), .val (.int gp), .val (.int fsd), .val (.int tsd), .val (.int pk), .val (.int an), .val (.ref b2), .val (.int (Int32.ofNat A)), .val (.int (Int32.ofNat B)), .val (.int (Int32.ofNat kk)), .val (.int md), .val (.int num), .val (.int xx4), .unset] [(.int (3 : Int32)), (.ref b2)])) _
    refine XS.iload X57.here hx rfl (hb hby at_308) rfl ?_
    show Steps p.tables e below (T57.setTop (mkF m 310 #[.val (.int ba), .val (.int gp), .val (.int fsd), .val (.int tsd), .val (.int pk), .val (.int an), .val (.ref b2), .val (.int (Int32.ofNat A)), .val (.int (Int32.ofNat B)), .val (.int (Int32.ofNat kk)), .val (.int md), .val (.int num), .val (.int xx4), .unset] [(.int (Int32.ofNat A)), (.int (3 : Int32)), (.ref b2)])) _
    refine XS.iload X57.here hx rfl (hb hby at_310) rfl ?_
    show Steps p.tables e below (T57.setTop (mkF m 312 #[.val (.int ba), .val (.int gp), .val (.int fsd), .val (.int tsd), .val (.int pk), .val (.int an), .val (.ref b2), .val (.int (Int32.ofNat A)), .val (.int (Int32.ofNat B)), .val (.int (Int32.ofNat kk)), .val (.int md), .val (.int num), .val (.int xx4), .unset] [(.int (Int32.ofNat B)), (.int (Int32.ofNat A)), (.int (3 : Int32)), (.ref b2)])) _
    refine XS.iload X57.here hx rfl (hb hby at_312) rfl ?_
    show Steps p.tables e below (T57.setTop (mkF m 314 #[.val (.int ba), .val (.int gp), .val (.int fsd), .val (.int tsd), .val (.int pk), .val (.int an), .val (.ref b2), .val (.int (Int32.ofNat A)), .val (.int (Int32.ofNat B)), .val (.int (Int32.ofNat kk)), .val (.int md), .val (.int num), .val (.int xx4), .unset] [(.int num), (.int (Int32.ofNat B)), (.int (Int32.ofNat A)), (.int (3 : Int32)), (.ref b2)])) _
    refine XS.iload X57.here hx rfl (hb hby at_314) rfl ?_
    exact k
  obtain ⟨_, _, ⟨T61, L61, k61, n61⟩, -, X61, ⟨Lc61, hQ61, l61, y61, z61⟩, st61⟩ := Jvm.LawKit.callS X57 hx (y := (⟨"com/example/lucid_tbox/lucidtbox/util/SortedArraysSeekPinLaw", "at", "([IIIIII)I"⟩ : MethodName)) hown (mvT hZ (hw _ (List.mem_of_getElem? (i := 7) rfl))) (mvT hZ (hw _ (List.mem_of_getElem? (i := 8) rfl))) (mvT hZ (hw _ (List.mem_of_getElem? (i := 9) rfl))) (mvT hZ (hw _ (List.mem_of_getElem? (i := 10) rfl))) (by decide) (backOf (W := 0) (rm2 l Z a0 hw [] b2 num xx4 F 3 A B h36 n0 Z36 VA (by decide) hA hB) hZ (hw _ (List.mem_of_getElem? (i := 10) rfl)) (hw _ (List.mem_of_getElem? (i := 9) rfl)) (by decide) (by decide)) (g := (mkF m 316 #[.val (.int ba), .val (.int gp), .val (.int fsd), .val (.int tsd), .val (.int pk), .val (.int an), .val (.ref b2), .val (.int (Int32.ofNat A)), .val (.int (Int32.ofNat B)), .val (.int (Int32.ofNat kk)), .val (.int md), .val (.int num), .val (.int xx4), .unset] [(.int xx4), (.int num), (.int (Int32.ofNat B)), (.int (Int32.ofNat A)), (.int (3 : Int32)), (.ref b2)])) rfl (by rw [hml]; rfl) (argsL := [(.ref b2), (.int (3 : Int32)), (.int (Int32.ofNat A)), (.int (Int32.ofNat B)), (.int num), (.int xx4)]) (rest := []) (lenOf pd_0_1 rfl) rfl (by show 2 * 0 + _ ≤ _; exact Nat.le_of_eq rfl) (hb hby at_316) (fun _ _ => ⟨rfl, e57, (by decide : 1 + 0 ≤ _), (by decide : 8 + 0 ≤ _)⟩)
  dsimp only [Pt.U, Pt.locs, Pt.cells, Pt.slots] at X61 l61 y61 z61 st61 hQ61
  subst l61 y61 z61
  obtain ⟨rfl, N61q, e61⟩ := hQ61
  have N61 := Fr.app N57 N61q
  have go62 : ∀ t, Steps p.tables e below (T61.setTop (mkF m 319 #[.val (.int ba), .val (.int gp), .val (.int fsd), .val (.int tsd), .val (.int pk), .val (.int an), .val (.ref b2), .val (.int (Int32.ofNat A)), .val (.int (Int32.ofNat B)), .val (.int (Int32.ofNat kk)), .val (.int md), .val (.int num), .val (.int xx4), .unset] [(.int (own_at F 3 A B num xx4))])) t → Steps p.tables e below (s₁.setTop (entryFrame m #[(.int ba), (.int gp), (.int fsd), (.int tsd), (.int pk), (.int an)] maxLocals)) t := fun t k => go60 t (st61 _ k)
  obtain ⟨xx3, h_xx3⟩ : ∃ z : Int32, z = (own_at F 3 A B num xx4) := ⟨_, rfl⟩
  have go63 : ∀ t, Steps p.tables e below (T61.setTop (mkF m 321 #[.val (.int ba), .val (.int gp), .val (.int fsd), .val (.int tsd), .val (.int pk), .val (.int an), .val (.ref b2), .val (.int (Int32.ofNat A)), .val (.int (Int32.ofNat B)), .val (.int (Int32.ofNat kk)), .val (.int md), .val (.int num), .val (.int xx3), .unset] [])) t → Steps p.tables e below (s₁.setTop (entryFrame m #[(.int ba), (.int gp), (.int fsd), (.int tsd), (.int pk), (.int an)] maxLocals)) t := by
    intro t k
    rw [h_xx3] at k
    refine go62 t ?_
    show Steps p.tables e below (T61.setTop (mkF m 319 #[.val (.int ba), .val (.int gp), .val (.int fsd), .val (.int tsd), .val (.int pk), .val (.int an), .val (.ref b2), .val (.int (Int32.ofNat A)), .val (.int (Int32.ofNat B)), .val (.int (Int32.ofNat kk)), .val (.int md), .val (.int num), .val (.int xx4), .unset] [(.int (own_at F 3 A B num xx4))])) _
    refine XS.istore X61.here hx rfl (hb hby at_319) rfl (l' := #[.val (.int ba), .val (.int gp), .val (.int fsd), .val (.int tsd), .val (.int pk), .val (.int an), .val (.ref b2), .val (.int (Int32.ofNat A)), .val (.int (Int32.ofNat B)), .val (.int (Int32.ofNat kk)), .val (.int md), .val (.int num), .val (.int (own_at F 3 A B num xx4)), .unset]) rfl ?_
    exact k
  have go64 : ∀ t, Steps p.tables e below (T61.setTop (mkF m 332 #[.val (.int ba), .val (.int gp), .val (.int fsd), .val (.int tsd), .val (.int pk), .val (.int an), .val (.ref b2), .val (.int (Int32.ofNat A)), .val (.int (Int32.ofNat B)), .val (.int (Int32.ofNat kk)), .val (.int md), .val (.int num), .val (.int xx3), .unset] [(.int xx3), (.int num), (.int (Int32.ofNat B)), (.int (Int32.ofNat A)), (.int (2 : Int32)), (.ref b2)])) t → Steps p.tables e below (s₁.setTop (entryFrame m #[(.int ba), (.int gp), (.int fsd), (.int tsd), (.int pk), (.int an)] maxLocals)) t := by
    intro t k
    refine go63 t ?_
    show Steps p.tables e below (T61.setTop (mkF m 321 #[.val (.int ba), .val (.int gp), .val (.int fsd), .val (.int tsd), .val (.int pk), .val (.int an), .val (.ref b2), .val (.int (Int32.ofNat A)), .val (.int (Int32.ofNat B)), .val (.int (Int32.ofNat kk)), .val (.int md), .val (.int num), .val (.int xx3), .unset] [])) _
    refine XS.aload X61.here hx rfl (hb hby at_321) rfl rfl ?_
    show Steps p.tables e below (T61.setTop (mkF m 323 #[.val (.int ba), .val (.int gp), .val (.int fsd), .val (.int tsd), .val (.int pk), .val (.int an), .val (.ref b2), .val (.int (Int32.ofNat A)), .val (.int (Int32.ofNat B)), .val (.int (Int32.ofNat kk)), .val (.int md), .val (.int num), .val (.int xx3), .unset] [(.ref b2)])) _
    refine XS.iconst X61.here hx rfl (hb hby at_323) ?_
    show Steps p.tables e below (T61.setTop (mkF m 324 #[.val (.int ba), .val (.int gp), .val (.int fsd), .val (.int tsd), .val (.int pk), .val (.int an), .val (.ref b2), .val (.int (Int32.ofNat A)), .val (.int (Int32.ofNat B)), .val (.int (Int32.ofNat kk)), .val (.int md), .val (.int num), .val (.int xx3), .unset] [(.int (2 : Int32)), (.ref b2)])) _
    refine XS.iload X61.here hx rfl (hb hby at_324) rfl ?_
    show Steps p.tables e below (T61.setTop (mkF m 326 #[.val (.int ba), .val (.int gp), .val (.int fsd), .val (.int tsd), .val (.int pk), .val (.int an), .val (.ref b2), .val (.int (Int32.ofNat A)), .val (.int (Int32.ofNat B)), .val (.int (Int32.ofNat kk)), .val (.int md), .val (.int num), .val (.int xx3), .unset] [(.int (Int32.ofNat A)), (.int (2 : Int32)), (.ref b2)])) _
    refine XS.iload X61.here hx rfl (hb hby at_326) rfl ?_
    show Steps p.tables e below (T61.setTop (mkF m 328 #[.val (.int ba), .val (.int gp), .val (.int fsd), .val (.int tsd), .val (.int pk), .val (.int an), .val (.ref b2), .val (.int (Int32.ofNat A)), .val (.int (Int32.ofNat B)), .val (.int (Int32.ofNat kk)), .val (.int md), .val (.int num), .val (.int xx3), .unset] [(.int (Int32.ofNat B)), (.int (Int32.ofNat A)), (.int (2 : Int32)), (.ref b2)])) _
    refine XS.iload X61.here hx rfl (hb hby at_328) rfl ?_
    show Steps p.tables e below (T61.setTop (mkF m 330 #[.val (.int ba), .val (.int gp), .val (.int fsd), .val (.int tsd), .val (.int pk), .val (.int an), .val (.ref b2), .val (.int (Int32.ofNat A)), .val (.int (Int32.ofNat B)), .val (.int (Int32.ofNat kk)), .val (.int md), .val (.int num), .val (.int xx3), .unset] [(.int num), (.int (Int32.ofNat B)), (.int (Int32.ofNat A)), (.int (2 : Int32)), (.ref b2)])) _
    refine XS.iload X61.here hx rfl (hb hby at_330) rfl ?_
    exact k
  obtain ⟨_, _, ⟨T65, L65, k65, n65⟩, -, X65, ⟨Lc65, hQ65, l65, y65, z65⟩, st65⟩ := Jvm.LawKit.callS X61 hx (y := (⟨"com/example/lucid_tbox/lucidtbox/util/SortedArraysSeekPinLaw", "at", "([IIIIII)I"⟩ : MethodName)) hown (mvT hZ (hw _ (List.mem_of_getElem? (i := 7) rfl))) (mvT hZ (hw _ (List.mem_of_getElem? (i := 8) rfl))) (mvT hZ (hw _ (List.mem_of_getElem? (i := 9) rfl))) (mvT hZ (hw _ (List.mem_of_getElem? (i := 10) rfl))) (by decide) (backOf (W := 0) (rm2 l Z a0 hw [] b2 num xx3 F 2 A B h36 n0 Z36 VA (by decide) hA hB) hZ (hw _ (List.mem_of_getElem? (i := 10) rfl)) (hw _ (List.mem_of_getElem? (i := 9) rfl)) (by decide) (by decide)) (g := (mkF m 332 #[.val (.int ba), .val (.int gp), .val (.int fsd), .val (.int tsd), .val (.int pk), .val (.int an), .val (.ref b2), .val (.int (Int32.ofNat A)), .val (.int (Int32.ofNat B)), .val (.int (Int32.ofNat kk)), .val (.int md), .val (.int num), .val (.int xx3), .unset] [(.int xx3), (.int num), (.int (Int32.ofNat B)), (.int (Int32.ofNat A)), (.int (2 : Int32)), (.ref b2)])) rfl (by rw [hml]; rfl) (argsL := [(.ref b2), (.int (2 : Int32)), (.int (Int32.ofNat A)), (.int (Int32.ofNat B)), (.int num), (.int xx3)]) (rest := []) (lenOf pd_0_1 rfl) rfl (by show 2 * 0 + _ ≤ _; exact Nat.le_of_eq rfl) (hb hby at_332) (fun _ _ => ⟨rfl, e61, (by decide : 1 + 0 ≤ _), (by decide : 8 + 0 ≤ _)⟩)
  dsimp only [Pt.U, Pt.locs, Pt.cells, Pt.slots] at X65 l65 y65 z65 st65 hQ65
  subst l65 y65 z65
  obtain ⟨rfl, N65q, e65⟩ := hQ65
  have N65 := Fr.app N61 N65q
  have go66 : ∀ t, Steps p.tables e below (T65.setTop (mkF m 335 #[.val (.int ba), .val (.int gp), .val (.int fsd), .val (.int tsd), .val (.int pk), .val (.int an), .val (.ref b2), .val (.int (Int32.ofNat A)), .val (.int (Int32.ofNat B)), .val (.int (Int32.ofNat kk)), .val (.int md), .val (.int num), .val (.int xx3), .unset] [(.int (own_at F 2 A B num xx3))])) t → Steps p.tables e below (s₁.setTop (entryFrame m #[(.int ba), (.int gp), (.int fsd), (.int tsd), (.int pk), (.int an)] maxLocals)) t := fun t k => go64 t (st65 _ k)
  obtain ⟨xx2, h_xx2⟩ : ∃ z : Int32, z = (own_at F 2 A B num xx3) := ⟨_, rfl⟩
  have go67 : ∀ t, Steps p.tables e below (T65.setTop (mkF m 337 #[.val (.int ba), .val (.int gp), .val (.int fsd), .val (.int tsd), .val (.int pk), .val (.int an), .val (.ref b2), .val (.int (Int32.ofNat A)), .val (.int (Int32.ofNat B)), .val (.int (Int32.ofNat kk)), .val (.int md), .val (.int num), .val (.int xx2), .unset] [])) t → Steps p.tables e below (s₁.setTop (entryFrame m #[(.int ba), (.int gp), (.int fsd), (.int tsd), (.int pk), (.int an)] maxLocals)) t := by
    intro t k
    rw [h_xx2] at k
    refine go66 t ?_
    show Steps p.tables e below (T65.setTop (mkF m 335 #[.val (.int ba), .val (.int gp), .val (.int fsd), .val (.int tsd), .val (.int pk), .val (.int an), .val (.ref b2), .val (.int (Int32.ofNat A)), .val (.int (Int32.ofNat B)), .val (.int (Int32.ofNat kk)), .val (.int md), .val (.int num), .val (.int xx3), .unset] [(.int (own_at F 2 A B num xx3))])) _
    refine XS.istore X65.here hx rfl (hb hby at_335) rfl (l' := #[.val (.int ba), .val (.int gp), .val (.int fsd), .val (.int tsd), .val (.int pk), .val (.int an), .val (.ref b2), .val (.int (Int32.ofNat A)), .val (.int (Int32.ofNat B)), .val (.int (Int32.ofNat kk)), .val (.int md), .val (.int num), .val (.int (own_at F 2 A B num xx3)), .unset]) rfl ?_
    exact k
  have go68 : ∀ t, Steps p.tables e below (T65.setTop (mkF m 348 #[.val (.int ba), .val (.int gp), .val (.int fsd), .val (.int tsd), .val (.int pk), .val (.int an), .val (.ref b2), .val (.int (Int32.ofNat A)), .val (.int (Int32.ofNat B)), .val (.int (Int32.ofNat kk)), .val (.int md), .val (.int num), .val (.int xx2), .unset] [(.int xx2), (.int num), (.int (Int32.ofNat B)), (.int (Int32.ofNat A)), (.int (1 : Int32)), (.ref b2)])) t → Steps p.tables e below (s₁.setTop (entryFrame m #[(.int ba), (.int gp), (.int fsd), (.int tsd), (.int pk), (.int an)] maxLocals)) t := by
    intro t k
    refine go67 t ?_
    show Steps p.tables e below (T65.setTop (mkF m 337 #[.val (.int ba), .val (.int gp), .val (.int fsd), .val (.int tsd), .val (.int pk), .val (.int an), .val (.ref b2), .val (.int (Int32.ofNat A)), .val (.int (Int32.ofNat B)), .val (.int (Int32.ofNat kk)), .val (.int md), .val (.int num), .val (.int xx2), .unset] [])) _
    refine XS.aload X65.here hx rfl (hb hby at_337) rfl rfl ?_
    show Steps p.tables e below (T65.setTop (mkF m 339 #[.val (.int ba), .val (.int gp), .val (.int fsd), .val (.int tsd), .val (.int pk), .val (.int an), .val (.ref b2), .val (.int (Int32.ofNat A)), .val (.int (Int32.ofNat B)), .val (.int (Int32.ofNat kk)), .val (.int md), .val (.int num), .val (.int xx2), .unset] [(.ref b2)])) _
    refine XS.iconst X65.here hx rfl (hb hby at_339) ?_
    show Steps p.tables e below (T65.setTop (mkF m 340 #[.val (.int ba), .val (.int gp), .val (.int fsd), .val (.int tsd), .val (.int pk), .val (.int an), .val (.ref b2), .val (.int (Int32.ofNat A)), .val (.int (Int32.ofNat B)), .val (.int (Int32.ofNat kk)), .val (.int md), .val (.int num), .val (.int xx2), .unset] [(.int (1 : Int32)), (.ref b2)])) _
    refine XS.iload X65.here hx rfl (hb hby at_340) rfl ?_
    show Steps p.tables e below (T65.setTop (mkF m 342 #[.val (.int ba), .val (.int gp), .val (.int fsd), .val (.int tsd), .val (.int pk), .val (.int an), .val (.ref b2), .val (.int (Int32.ofNat A)), .val (.int (Int32.ofNat B)), .val (.int (Int32.ofNat kk)), .val (.int md), .val (.int num), .val (.int xx2), .unset] [(.int (Int32.ofNat A)), (.int (1 : Int32)), (.ref b2)])) _
    refine XS.iload X65.here hx rfl (hb hby at_342) rfl ?_
    show Steps p.tables e below (T65.setTop (mkF m 344 #[.val (.int ba), .val (.int gp), .val (.int fsd), .val (.int tsd), .val (.int pk), .val (.int an), .val (.ref b2), .val (.int (Int32.ofNat A)), .val (.int (Int32.ofNat B)), .val (.int (Int32.ofNat kk)), .val (.int md), .val (.int num), .val (.int xx2), .unset] [(.int (Int32.ofNat B)), (.int (Int32.ofNat A)), (.int (1 : Int32)), (.ref b2)])) _
    refine XS.iload X65.here hx rfl (hb hby at_344) rfl ?_
    show Steps p.tables e below (T65.setTop (mkF m 346 #[.val (.int ba), .val (.int gp), .val (.int fsd), .val (.int tsd), .val (.int pk), .val (.int an), .val (.ref b2), .val (.int (Int32.ofNat A)), .val (.int (Int32.ofNat B)), .val (.int (Int32.ofNat kk)), .val (.int md), .val (.int num), .val (.int xx2), .unset] [(.int num), (.int (Int32.ofNat B)), (.int (Int32.ofNat A)), (.int (1 : Int32)), (.ref b2)])) _
    refine XS.iload X65.here hx rfl (hb hby at_346) rfl ?_
    exact k
  obtain ⟨_, _, ⟨T69, L69, k69, n69⟩, -, X69, ⟨Lc69, hQ69, l69, y69, z69⟩, st69⟩ := Jvm.LawKit.callS X65 hx (y := (⟨"com/example/lucid_tbox/lucidtbox/util/SortedArraysSeekPinLaw", "at", "([IIIIII)I"⟩ : MethodName)) hown (mvT hZ (hw _ (List.mem_of_getElem? (i := 7) rfl))) (mvT hZ (hw _ (List.mem_of_getElem? (i := 8) rfl))) (mvT hZ (hw _ (List.mem_of_getElem? (i := 9) rfl))) (mvT hZ (hw _ (List.mem_of_getElem? (i := 10) rfl))) (by decide) (backOf (W := 0) (rm2 l Z a0 hw [] b2 num xx2 F 1 A B h36 n0 Z36 VA (by decide) hA hB) hZ (hw _ (List.mem_of_getElem? (i := 10) rfl)) (hw _ (List.mem_of_getElem? (i := 9) rfl)) (by decide) (by decide)) (g := (mkF m 348 #[.val (.int ba), .val (.int gp), .val (.int fsd), .val (.int tsd), .val (.int pk), .val (.int an), .val (.ref b2), .val (.int (Int32.ofNat A)), .val (.int (Int32.ofNat B)), .val (.int (Int32.ofNat kk)), .val (.int md), .val (.int num), .val (.int xx2), .unset] [(.int xx2), (.int num), (.int (Int32.ofNat B)), (.int (Int32.ofNat A)), (.int (1 : Int32)), (.ref b2)])) rfl (by rw [hml]; rfl) (argsL := [(.ref b2), (.int (1 : Int32)), (.int (Int32.ofNat A)), (.int (Int32.ofNat B)), (.int num), (.int xx2)]) (rest := []) (lenOf pd_0_1 rfl) rfl (by show 2 * 0 + _ ≤ _; exact Nat.le_of_eq rfl) (hb hby at_348) (fun _ _ => ⟨rfl, e65, (by decide : 1 + 0 ≤ _), (by decide : 8 + 0 ≤ _)⟩)
  dsimp only [Pt.U, Pt.locs, Pt.cells, Pt.slots] at X69 l69 y69 z69 st69 hQ69
  subst l69 y69 z69
  obtain ⟨rfl, N69q, e69⟩ := hQ69
  have N69 := Fr.app N65 N69q
  have go70 : ∀ t, Steps p.tables e below (T69.setTop (mkF m 351 #[.val (.int ba), .val (.int gp), .val (.int fsd), .val (.int tsd), .val (.int pk), .val (.int an), .val (.ref b2), .val (.int (Int32.ofNat A)), .val (.int (Int32.ofNat B)), .val (.int (Int32.ofNat kk)), .val (.int md), .val (.int num), .val (.int xx2), .unset] [(.int (own_at F 1 A B num xx2))])) t → Steps p.tables e below (s₁.setTop (entryFrame m #[(.int ba), (.int gp), (.int fsd), (.int tsd), (.int pk), (.int an)] maxLocals)) t := fun t k => go68 t (st69 _ k)
  obtain ⟨xx1, h_xx1⟩ : ∃ z : Int32, z = (own_at F 1 A B num xx2) := ⟨_, rfl⟩
  have go71 : ∀ t, Steps p.tables e below (T69.setTop (mkF m 353 #[.val (.int ba), .val (.int gp), .val (.int fsd), .val (.int tsd), .val (.int pk), .val (.int an), .val (.ref b2), .val (.int (Int32.ofNat A)), .val (.int (Int32.ofNat B)), .val (.int (Int32.ofNat kk)), .val (.int md), .val (.int num), .val (.int xx1), .unset] [])) t → Steps p.tables e below (s₁.setTop (entryFrame m #[(.int ba), (.int gp), (.int fsd), (.int tsd), (.int pk), (.int an)] maxLocals)) t := by
    intro t k
    rw [h_xx1] at k
    refine go70 t ?_
    show Steps p.tables e below (T69.setTop (mkF m 351 #[.val (.int ba), .val (.int gp), .val (.int fsd), .val (.int tsd), .val (.int pk), .val (.int an), .val (.ref b2), .val (.int (Int32.ofNat A)), .val (.int (Int32.ofNat B)), .val (.int (Int32.ofNat kk)), .val (.int md), .val (.int num), .val (.int xx2), .unset] [(.int (own_at F 1 A B num xx2))])) _
    refine XS.istore X69.here hx rfl (hb hby at_351) rfl (l' := #[.val (.int ba), .val (.int gp), .val (.int fsd), .val (.int tsd), .val (.int pk), .val (.int an), .val (.ref b2), .val (.int (Int32.ofNat A)), .val (.int (Int32.ofNat B)), .val (.int (Int32.ofNat kk)), .val (.int md), .val (.int num), .val (.int (own_at F 1 A B num xx2)), .unset]) rfl ?_
    exact k
  have go72 : ∀ t, Steps p.tables e below (T69.setTop (mkF m 364 #[.val (.int ba), .val (.int gp), .val (.int fsd), .val (.int tsd), .val (.int pk), .val (.int an), .val (.ref b2), .val (.int (Int32.ofNat A)), .val (.int (Int32.ofNat B)), .val (.int (Int32.ofNat kk)), .val (.int md), .val (.int num), .val (.int xx1), .unset] [(.int xx1), (.int num), (.int (Int32.ofNat B)), (.int (Int32.ofNat A)), (.int (0 : Int32)), (.ref b2)])) t → Steps p.tables e below (s₁.setTop (entryFrame m #[(.int ba), (.int gp), (.int fsd), (.int tsd), (.int pk), (.int an)] maxLocals)) t := by
    intro t k
    refine go71 t ?_
    show Steps p.tables e below (T69.setTop (mkF m 353 #[.val (.int ba), .val (.int gp), .val (.int fsd), .val (.int tsd), .val (.int pk), .val (.int an), .val (.ref b2), .val (.int (Int32.ofNat A)), .val (.int (Int32.ofNat B)), .val (.int (Int32.ofNat kk)), .val (.int md), .val (.int num), .val (.int xx1), .unset] [])) _
    refine XS.aload X69.here hx rfl (hb hby at_353) rfl rfl ?_
    show Steps p.tables e below (T69.setTop (mkF m 355 #[.val (.int ba), .val (.int gp), .val (.int fsd), .val (.int tsd), .val (.int pk), .val (.int an), .val (.ref b2), .val (.int (Int32.ofNat A)), .val (.int (Int32.ofNat B)), .val (.int (Int32.ofNat kk)), .val (.int md), .val (.int num), .val (.int xx1), .unset] [(.ref b2)])) _
    refine XS.iconst X69.here hx rfl (hb hby at_355) ?_
    show Steps p.tables e below (T69.setTop (mkF m 356 #[.val (.int ba), .val (.int gp), .val (.int fsd), .val (.int tsd), .val (.int pk), .val (.int an), .val (.ref b2), .val (.int (Int32.ofNat A)), .val (.int (Int32.ofNat B)), .val (.int (Int32.ofNat kk)), .val (.int md), .val (.int num), .val (.int xx1), .unset] [(.int (0 : Int32)), (.ref b2)])) _
    refine XS.iload X69.here hx rfl (hb hby at_356) rfl ?_
    show Steps p.tables e below (T69.setTop (mkF m 358 #[.val (.int ba), .val (.int gp), .val (.int fsd), .val (.int tsd), .val (.int pk), .val (.int an), .val (.ref b2), .val (.int (Int32.ofNat A)), .val (.int (Int32.ofNat B)), .val (.int (Int32.ofNat kk)), .val (.int md), .val (.int num), .val (.int xx1), .unset] [(.int (Int32.ofNat A)), (.int (0 : Int32)), (.ref b2)])) _
    refine XS.iload X69.here hx rfl (hb hby at_358) rfl ?_
    show Steps p.tables e below (T69.setTop (mkF m 360 #[.val (.int ba), .val (.int gp), .val (.int fsd), .val (.int tsd), .val (.int pk), .val (.int an), .val (.ref b2), .val (.int (Int32.ofNat A)), .val (.int (Int32.ofNat B)), .val (.int (Int32.ofNat kk)), .val (.int md), .val (.int num), .val (.int xx1), .unset] [(.int (Int32.ofNat B)), (.int (Int32.ofNat A)), (.int (0 : Int32)), (.ref b2)])) _
    refine XS.iload X69.here hx rfl (hb hby at_360) rfl ?_
    show Steps p.tables e below (T69.setTop (mkF m 362 #[.val (.int ba), .val (.int gp), .val (.int fsd), .val (.int tsd), .val (.int pk), .val (.int an), .val (.ref b2), .val (.int (Int32.ofNat A)), .val (.int (Int32.ofNat B)), .val (.int (Int32.ofNat kk)), .val (.int md), .val (.int num), .val (.int xx1), .unset] [(.int num), (.int (Int32.ofNat B)), (.int (Int32.ofNat A)), (.int (0 : Int32)), (.ref b2)])) _
    refine XS.iload X69.here hx rfl (hb hby at_362) rfl ?_
    exact k
  obtain ⟨_, _, ⟨T73, L73, k73, n73⟩, -, X73, ⟨Lc73, hQ73, l73, y73, z73⟩, st73⟩ := Jvm.LawKit.callS X69 hx (y := (⟨"com/example/lucid_tbox/lucidtbox/util/SortedArraysSeekPinLaw", "at", "([IIIIII)I"⟩ : MethodName)) hown (mvT hZ (hw _ (List.mem_of_getElem? (i := 7) rfl))) (mvT hZ (hw _ (List.mem_of_getElem? (i := 8) rfl))) (mvT hZ (hw _ (List.mem_of_getElem? (i := 9) rfl))) (mvT hZ (hw _ (List.mem_of_getElem? (i := 10) rfl))) (by decide) (backOf (W := 0) (rm2 l Z a0 hw [] b2 num xx1 F 0 A B h36 n0 Z36 VA (by decide) hA hB) hZ (hw _ (List.mem_of_getElem? (i := 10) rfl)) (hw _ (List.mem_of_getElem? (i := 9) rfl)) (by decide) (by decide)) (g := (mkF m 364 #[.val (.int ba), .val (.int gp), .val (.int fsd), .val (.int tsd), .val (.int pk), .val (.int an), .val (.ref b2), .val (.int (Int32.ofNat A)), .val (.int (Int32.ofNat B)), .val (.int (Int32.ofNat kk)), .val (.int md), .val (.int num), .val (.int xx1), .unset] [(.int xx1), (.int num), (.int (Int32.ofNat B)), (.int (Int32.ofNat A)), (.int (0 : Int32)), (.ref b2)])) rfl (by rw [hml]; rfl) (argsL := [(.ref b2), (.int (0 : Int32)), (.int (Int32.ofNat A)), (.int (Int32.ofNat B)), (.int num), (.int xx1)]) (rest := []) (lenOf pd_0_1 rfl) rfl (by show 2 * 0 + _ ≤ _; exact Nat.le_of_eq rfl) (hb hby at_364) (fun _ _ => ⟨rfl, e69, (by decide : 1 + 0 ≤ _), (by decide : 8 + 0 ≤ _)⟩)
  dsimp only [Pt.U, Pt.locs, Pt.cells, Pt.slots] at X73 l73 y73 z73 st73 hQ73
  subst l73 y73 z73
  obtain ⟨rfl, N73q, e73⟩ := hQ73
  have N73 := Fr.app N69 N73q
  have go74 : ∀ t, Steps p.tables e below (T73.setTop (mkF m 367 #[.val (.int ba), .val (.int gp), .val (.int fsd), .val (.int tsd), .val (.int pk), .val (.int an), .val (.ref b2), .val (.int (Int32.ofNat A)), .val (.int (Int32.ofNat B)), .val (.int (Int32.ofNat kk)), .val (.int md), .val (.int num), .val (.int xx1), .unset] [(.int (own_at F 0 A B num xx1))])) t → Steps p.tables e below (s₁.setTop (entryFrame m #[(.int ba), (.int gp), (.int fsd), (.int tsd), (.int pk), (.int an)] maxLocals)) t := fun t k => go72 t (st73 _ k)
  obtain ⟨xx0, h_xx0⟩ : ∃ z : Int32, z = (own_at F 0 A B num xx1) := ⟨_, rfl⟩
  have go75 : ∀ t, Steps p.tables e below (T73.setTop (mkF m 369 #[.val (.int ba), .val (.int gp), .val (.int fsd), .val (.int tsd), .val (.int pk), .val (.int an), .val (.ref b2), .val (.int (Int32.ofNat A)), .val (.int (Int32.ofNat B)), .val (.int (Int32.ofNat kk)), .val (.int md), .val (.int num), .val (.int xx0), .unset] [])) t → Steps p.tables e below (s₁.setTop (entryFrame m #[(.int ba), (.int gp), (.int fsd), (.int tsd), (.int pk), (.int an)] maxLocals)) t := by
    intro t k
    rw [h_xx0] at k
    refine go74 t ?_
    show Steps p.tables e below (T73.setTop (mkF m 367 #[.val (.int ba), .val (.int gp), .val (.int fsd), .val (.int tsd), .val (.int pk), .val (.int an), .val (.ref b2), .val (.int (Int32.ofNat A)), .val (.int (Int32.ofNat B)), .val (.int (Int32.ofNat kk)), .val (.int md), .val (.int num), .val (.int xx1), .unset] [(.int (own_at F 0 A B num xx1))])) _
    refine XS.istore X73.here hx rfl (hb hby at_367) rfl (l' := #[.val (.int ba), .val (.int gp), .val (.int fsd), .val (.int tsd), .val (.int pk), .val (.int an), .val (.ref b2), .val (.int (Int32.ofNat A)), .val (.int (Int32.ofNat B)), .val (.int (Int32.ofNat kk)), .val (.int md), .val (.int num), .val (.int (own_at F 0 A B num xx1)), .unset]) rfl ?_
    exact k
  have go76 : ∀ t, Steps p.tables e below (T73.setTop (mkF m 377 #[.val (.int ba), .val (.int gp), .val (.int fsd), .val (.int tsd), .val (.int pk), .val (.int an), .val (.ref b2), .val (.int (Int32.ofNat A)), .val (.int (Int32.ofNat B)), .val (.int (Int32.ofNat kk)), .val (.int md), .val (.int num), .val (.int xx0), .unset] [(.int num), (.int (Int32.ofNat B)), (.int (Int32.ofNat A)), (.ref b2)])) t → Steps p.tables e below (s₁.setTop (entryFrame m #[(.int ba), (.int gp), (.int fsd), (.int tsd), (.int pk), (.int an)] maxLocals)) t := by
    intro t k
    refine go75 t ?_
    show Steps p.tables e below (T73.setTop (mkF m 369 #[.val (.int ba), .val (.int gp), .val (.int fsd), .val (.int tsd), .val (.int pk), .val (.int an), .val (.ref b2), .val (.int (Int32.ofNat A)), .val (.int (Int32.ofNat B)), .val (.int (Int32.ofNat kk)), .val (.int md), .val (.int num), .val (.int xx0), .unset] [])) _
    refine XS.aload X73.here hx rfl (hb hby at_369) rfl rfl ?_
    show Steps p.tables e below (T73.setTop (mkF m 371 #[.val (.int ba), .val (.int gp), .val (.int fsd), .val (.int tsd), .val (.int pk), .val (.int an), .val (.ref b2), .val (.int (Int32.ofNat A)), .val (.int (Int32.ofNat B)), .val (.int (Int32.ofNat kk)), .val (.int md), .val (.int num), .val (.int xx0), .unset] [(.ref b2)])) _
    refine XS.iload X73.here hx rfl (hb hby at_371) rfl ?_
    show Steps p.tables e below (T73.setTop (mkF m 373 #[.val (.int ba), .val (.int gp), .val (.int fsd), .val (.int tsd), .val (.int pk), .val (.int an), .val (.ref b2), .val (.int (Int32.ofNat A)), .val (.int (Int32.ofNat B)), .val (.int (Int32.ofNat kk)), .val (.int md), .val (.int num), .val (.int xx0), .unset] [(.int (Int32.ofNat A)), (.ref b2)])) _
    refine XS.iload X73.here hx rfl (hb hby at_373) rfl ?_
    show Steps p.tables e below (T73.setTop (mkF m 375 #[.val (.int ba), .val (.int gp), .val (.int fsd), .val (.int tsd), .val (.int pk), .val (.int an), .val (.ref b2), .val (.int (Int32.ofNat A)), .val (.int (Int32.ofNat B)), .val (.int (Int32.ofNat kk)), .val (.int md), .val (.int num), .val (.int xx0), .unset] [(.int (Int32.ofNat B)), (.int (Int32.ofNat A)), (.ref b2)])) _
    refine XS.iload X73.here hx rfl (hb hby at_375) rfl ?_
    exact k
  obtain ⟨_, _, ⟨T77, L77, k77, n77⟩, -, X77, ⟨Lc77, hQ77, l77, y77, z77⟩, st77⟩ := Jvm.LawKit.callS X73 hx (y := (⟨"com/example/lucid_tbox/lucidtbox/util/SortedArrays", "seek", "([IIII)I"⟩ : MethodName)) hown (mvT hZ (hw _ (List.mem_of_getElem? (i := 11) rfl))) (mvT hZ (hw _ (List.mem_of_getElem? (i := 12) rfl))) (mvT hZ (hw _ (List.mem_of_getElem? (i := 13) rfl))) (mvT hZ (hw _ (List.mem_of_getElem? (i := 14) rfl))) (by decide) (backOf (W := 0) (rm3 l Z a0 hw [] b2 num F A B h36 n0 Z36 VA mono0 hAB hB) hZ (hw _ (List.mem_of_getElem? (i := 14) rfl)) (hw _ (List.mem_of_getElem? (i := 13) rfl)) (by decide) (by decide)) (g := (mkF m 377 #[.val (.int ba), .val (.int gp), .val (.int fsd), .val (.int tsd), .val (.int pk), .val (.int an), .val (.ref b2), .val (.int (Int32.ofNat A)), .val (.int (Int32.ofNat B)), .val (.int (Int32.ofNat kk)), .val (.int md), .val (.int num), .val (.int xx0), .unset] [(.int num), (.int (Int32.ofNat B)), (.int (Int32.ofNat A)), (.ref b2)])) rfl (by rw [hml]; rfl) (argsL := [(.ref b2), (.int (Int32.ofNat A)), (.int (Int32.ofNat B)), (.int num)]) (rest := []) (lenOf pd_0_2 rfl) rfl (by show 2 * 0 + _ ≤ _; exact Nat.le_of_eq rfl) (hb hby at_377) (fun _ _ => ⟨rfl, e73, (by decide : 1 + 0 ≤ _), (by decide : 8 + 0 ≤ _)⟩)
  dsimp only [Pt.U, Pt.locs, Pt.cells, Pt.slots] at X77 l77 y77 z77 st77 hQ77
  subst l77 y77 z77
  obtain ⟨x, rfl, N77q, e77, s_1, s_2, s_3, s_4⟩ := hQ77
  have N77 := Fr.app N73 N77q
  have go78 : ∀ t, Steps p.tables e below (T77.setTop (mkF m 380 #[.val (.int ba), .val (.int gp), .val (.int fsd), .val (.int tsd), .val (.int pk), .val (.int an), .val (.ref b2), .val (.int (Int32.ofNat A)), .val (.int (Int32.ofNat B)), .val (.int (Int32.ofNat kk)), .val (.int md), .val (.int num), .val (.int xx0), .unset] [(.int (Int32.ofNat x))])) t → Steps p.tables e below (s₁.setTop (entryFrame m #[(.int ba), (.int gp), (.int fsd), (.int tsd), (.int pk), (.int an)] maxLocals)) t := fun t k => go76 t (st77 _ k)
  have hfold : Int32.ofNat x = xx0 := by
    have s := own_step (F := F) s_1 s_2 s_3 s_4
    have w8 : Int32.ofNat B = Int32.ofNat (own_e x B 8) := by rw [own_e8 s_2 hB]
    have w7 : xx7 = Int32.ofNat (own_e x B 7) := by rw [h_xx7, w8]; exact s 7
    have w6 : xx6 = Int32.ofNat (own_e x B 6) := by rw [h_xx6, w7]; exact s 6
    have w5 : xx5 = Int32.ofNat (own_e x B 5) := by rw [h_xx5, w6]; exact s 5
    have w4 : xx4 = Int32.ofNat (own_e x B 4) := by rw [h_xx4, w5]; exact s 4
    have w3 : xx3 = Int32.ofNat (own_e x B 3) := by rw [h_xx3, w4]; exact s 3
    have w2 : xx2 = Int32.ofNat (own_e x B 2) := by rw [h_xx2, w3]; exact s 2
    have w1 : xx1 = Int32.ofNat (own_e x B 1) := by rw [h_xx1, w2]; exact s 1
    have w0 : xx0 = Int32.ofNat (own_e x B 0) := by rw [h_xx0, w1]; exact s 0
    rw [w0, own_e0]
  have go79 : ∀ t, Steps p.tables e below (T77.setTop (mkF m 394 #[.val (.int ba), .val (.int gp), .val (.int fsd), .val (.int tsd), .val (.int pk), .val (.int an), .val (.ref b2), .val (.int (Int32.ofNat A)), .val (.int (Int32.ofNat B)), .val (.int (Int32.ofNat kk)), .val (.int md), .val (.int num), .val (.int xx0), .val (.int (Int32.ofNat x))] [(.int (1 : Int32))])) t → Steps p.tables e below (s₁.setTop (entryFrame m #[(.int ba), (.int gp), (.int fsd), (.int tsd), (.int pk), (.int an)] maxLocals)) t := by
    intro t k
    refine go78 t ?_
    show Steps p.tables e below (T77.setTop (mkF m 380 #[.val (.int ba), .val (.int gp), .val (.int fsd), .val (.int tsd), .val (.int pk), .val (.int an), .val (.ref b2), .val (.int (Int32.ofNat A)), .val (.int (Int32.ofNat B)), .val (.int (Int32.ofNat kk)), .val (.int md), .val (.int num), .val (.int xx0), .unset] [(.int (Int32.ofNat x))])) _
    refine XS.istore X77.here hx rfl (hb hby at_380) rfl (l' := #[.val (.int ba), .val (.int gp), .val (.int fsd), .val (.int tsd), .val (.int pk), .val (.int an), .val (.ref b2), .val (.int (Int32.ofNat A)), .val (.int (Int32.ofNat B)), .val (.int (Int32.ofNat kk)), .val (.int md), .val (.int num), .val (.int xx0), .val (.int (Int32.ofNat x))]) rfl ?_
    show Steps p.tables e below (T77.setTop (mkF m 382 #[.val (.int ba), .val (.int gp), .val (.int fsd), .val (.int tsd), .val (.int pk), .val (.int an), .val (.ref b2), .val (.int (Int32.ofNat A)), .val (.int (Int32.ofNat B)), .val (.int (Int32.ofNat kk)), .val (.int md), .val (.int num), .val (.int xx0), .val (.int (Int32.ofNat x))] [])) _
    refine XS.iload X77.here hx rfl (hb hby at_382) rfl ?_
    show Steps p.tables e below (T77.setTop (mkF m 384 #[.val (.int ba), .val (.int gp), .val (.int fsd), .val (.int tsd), .val (.int pk), .val (.int an), .val (.ref b2), .val (.int (Int32.ofNat A)), .val (.int (Int32.ofNat B)), .val (.int (Int32.ofNat kk)), .val (.int md), .val (.int num), .val (.int xx0), .val (.int (Int32.ofNat x))] [(.int (Int32.ofNat x))])) _
    refine XS.iload X77.here hx rfl (hb hby at_384) rfl ?_
    show Steps p.tables e below (T77.setTop (mkF m 386 #[.val (.int ba), .val (.int gp), .val (.int fsd), .val (.int tsd), .val (.int pk), .val (.int an), .val (.ref b2), .val (.int (Int32.ofNat A)), .val (.int (Int32.ofNat B)), .val (.int (Int32.ofNat kk)), .val (.int md), .val (.int num), .val (.int xx0), .val (.int (Int32.ofNat x))] [(.int xx0), (.int (Int32.ofNat x))])) _
    refine XS.icmpNo X77.here hx rfl (hb hby at_386) rfl (teq hfold).2 ?_
    show Steps p.tables e below (T77.setTop (mkF m 389 #[.val (.int ba), .val (.int gp), .val (.int fsd), .val (.int tsd), .val (.int pk), .val (.int an), .val (.ref b2), .val (.int (Int32.ofNat A)), .val (.int (Int32.ofNat B)), .val (.int (Int32.ofNat kk)), .val (.int md), .val (.int num), .val (.int xx0), .val (.int (Int32.ofNat x))] [])) _
    refine XS.iconst X77.here hx rfl (hb hby at_389) ?_
    show Steps p.tables e below (T77.setTop (mkF m 390 #[.val (.int ba), .val (.int gp), .val (.int fsd), .val (.int tsd), .val (.int pk), .val (.int an), .val (.ref b2), .val (.int (Int32.ofNat A)), .val (.int (Int32.ofNat B)), .val (.int (Int32.ofNat kk)), .val (.int md), .val (.int num), .val (.int xx0), .val (.int (Int32.ofNat x))] [(.int (1 : Int32))])) _
    refine XS.goto X77.here hx rfl (pc0 := 390) (pc' := 394) rfl (hb hby at_390) (by decide) (by decide) ?_
    exact k
  obtain ⟨fs, hr, hrun, hended, hW, hsame⟩ := X77.leave (v := some (.int (1 : Int32))) (fun h => by rw [Bd.returns] at h; cases h)
  refine ⟨_, _, go79 _ ?_, hrun, hended, _, _, rfl, ?_, ⟨_, rfl⟩, hW, hsame.mono (by decide) (by decide)⟩
  · show Steps p.tables e below (T77.setTop (mkF m 394 #[.val (.int ba), .val (.int gp), .val (.int fsd), .val (.int tsd), .val (.int pk), .val (.int an), .val (.ref b2), .val (.int (Int32.ofNat A)), .val (.int (Int32.ofNat B)), .val (.int (Int32.ofNat kk)), .val (.int md), .val (.int num), .val (.int xx0), .val (.int (Int32.ofNat x))] [(.int (1 : Int32))])) _
    exact retN X77 hx (t := .boolean) Bd.returns (by simp) (hb hby at_394) hr
  · show Q0 Z ba gp fsd tsd pk an h0 n0 _ T77.heap _
    rw [e77]
    exact ⟨rfl, N77⟩
set_option maxRecDepth 65536 in
set_option maxHeartbeats 40000000 in
theorem comes_1 {Post : Tables → Env → Array Value → State → Outcome → State → Prop} (hpost : ∀ tb e args s v u, (limb_1_1.after args s (.returned v) u = true ∧ limb_1_2.after args s (.returned v) u = true ∧ True) → FrameEnd s (.returned v) u (Jvm.fieldLocs frame_1_writes args s ++ Jvm.arrayLocs frame_1_arrays args s ++ Jvm.staticLocs frame_1_statics s) 16 128 → Post tb e args s (.returned v) u) :
    ArmFor flags0 classFile x code maxLocals ret World_1 tables_1 room_1 Calls_1 rest_1 Pre_1 Post := by
  intro l hfl _ _ p e ha hc hk s m args below hf hA hF happ hP
  obtain ⟨hcalls, hrest, hpre⟩ := hP
  obtain ⟨-, -, -, hnamed, -, -, -, hat⟩ := (Spec.applies_iff hf).mp happ
  obtain ⟨hg, hn⟩ := and_e (Cond.before_iff.mp (show (Jvm.Cond.and given_1 narrow_1).before args s = true from hpre))
  obtain ⟨gc, r0⟩ := and_e hg
  obtain ⟨g0, r1⟩ := and_e r0
  obtain ⟨g1, r2⟩ := and_e r1
  obtain ⟨g2, r3⟩ := and_e r2
  obtain ⟨g3, r4⟩ := and_e r3
  obtain ⟨g4, r5⟩ := and_e r4
  obtain ⟨w0, w1, w2, w3, w4, w5, rfl⟩ : ∃ w0 w1 w2 w3 w4 w5 : Value, args = #[w0, w1, w2, w3, w4, w5] := by
    have hs : args.size = 6 := by simpa [Cond.value, given_1] using gc
    obtain ⟨L⟩ := args
    match L, hs with
    | [w0, w1, w2, w3, w4, w5], _ => exact ⟨w0, w1, w2, w3, w4, w5, rfl⟩
  have hw := fun d (hd : d ∈ tables_1) => atoms_spec (ws := Jvm.Cond.code x code maxLocals ret :: tables_1) hat d (List.mem_cons_of_mem _ hd)
  obtain ⟨i0, ei0⟩ := is_v g0
  obtain rfl : w0 = (.int i0) := Option.some.inj ei0
  obtain ⟨i1, ei1⟩ := is_v g1
  obtain rfl : w1 = (.int i1) := Option.some.inj ei1
  obtain ⟨i2, ei2⟩ := is_v g2
  obtain rfl : w2 = (.int i2) := Option.some.inj ei2
  obtain ⟨i3, ei3⟩ := is_v g3
  obtain rfl : w3 = (.int i3) := Option.some.inj ei3
  obtain ⟨i4, ei4⟩ := is_v g4
  obtain rfl : w4 = (.int i4) := Option.some.inj ei4
  obtain ⟨i5, ei5⟩ := is_v r5
  obtain rfl : w5 = (.int i5) := Option.some.inj ei5
  obtain ⟨n, o, h1, h2, h3, _, L, rfl, ⟨rfl, N⟩, hq⟩ := rm0 l s _ hw tables_1 i0 i1 i2 i3 i4 i5 s.heap s.heap.size (Nat.le_refl _) p e ha hc hk s m _ below hf ((Spec.applies_iff_loose hf).mp happ).1 ⟨rfl, State.Warmed39.refl s, rfl⟩ trivial
  refine ⟨n, _, h1, h2, h3, hpost _ _ _ _ _ _ ⟨Cond.after_iff.mpr rfl, Cond.after_iff.mpr (eq_i res_at (Term.int_eval (1)) rfl), trivial⟩ ⟨hq.1, hq.2.1, (hq.2.2.sift fun y hy => Or.inr (N y hy)).mono (by decide) (by decide)⟩⟩
theorem main_1_1 : Claimed_1_1 := comes_1 fun _ _ _ _ _ _ h hF => ⟨h.1, hF⟩
theorem main_1_2 : Claimed_1_2 := comes_1 fun _ _ _ _ _ _ h hF => ⟨h.2.1, hF⟩
end Jvm.Pilot.@@N@@
namespace Jvm.Pilot.@@N@@
open Jvm Jvm.ClassFile Sem Op Lib Jvm.Free Jvm.Stand Jvm.Pilot.@@N@@.Jvm.D
/-! MADE BY PROGRAM (witnessworld.py) out of the Statement's table words and the real class files: 10 classes; the members and pool entries that the words name. The judged class is class 1, her method 2. -/
namespace start1
open Jvm.ClassFile
def u (s : String) : CpInfo := .utf8 (stringToUtf16 s)
/-- a pool by its gaps: so many unusable entries, then the entry; so many at the end -/
def gap : Nat → List CpInfo → List CpInfo
  | 0, r => r
  | n + 1, r => .unusable :: gap n r
def poolList (es : List (Nat × CpInfo)) (last : Nat) : List CpInfo := es.foldr (fun e r => gap e.1 (e.2 :: r)) (gap last [])
def pool (es : List (Nat × CpInfo)) (last : Nat) : Array CpInfo := ⟨poolList es last⟩
def fileOf (pool : Array CpInfo) (this : Nat) (attrs : Array Attribute := #[]) (ms : Array MethodInfo := #[]) (fl : Nat := 33) (sup : Nat := 0) (ifs : Array Nat := #[]) (fds : Array FieldInfo := #[]) : ClassFile where
  minorVersion := 0
  majorVersion := 65
  constantPool := pool
  accessFlags := fl
  thisClass := this
  superClass := sup
  interfaces := ifs
  fields := fds
  methods := ms
  attributes := attrs
def plain (name : String) (sup : Option ClassId) : Class where
  name := name
  kind := .ordinary
  loader := none
  accessFlags := 33
  super := sup
  interfaces := #[]
  cf := none
  fields := #[]
  methods := #[]
  instanceTypes := #[]
  staticTypes := #[]
  resolved := #[]
  callSites := []
  init := .initialized
  statics := none
  mirror := none

def pool0 : Array CpInfo := pool [(5, u "<init>"), (0, u "()V"), (1, .class_ 10), (1, u "java/lang/Object")] 113

def k0m0 : Method := { name := "<init>", desc := "()V", sig := { parameters := [], returnType := none }, accessFlags := 1, code := none }
/-- java/lang/Object -/
def k0 : Class := { plain "java/lang/Object" none with
  accessFlags := 33
  interfaces := #[]
  cf := some (fileOf pool0 8 #[] #[{ accessFlags := 1, nameIndex := 5, descriptorIndex := 6, attributes := #[] }] 33 0 #[] #[])
  fields := #[]
  methods := #[k0m0]
  instanceTypes := #[]
  staticTypes := #[]
  resolved := Array.replicate 124 none
  statics := none }

def pool1 : Array CpInfo := pool [(2, .class_ 4), (1, u "java/lang/Object"), (0, u "<init>"), (0, u "()V"), (2, .integer 2147483527), (0, .methodref 11 12), (0, .class_ 13), (0, .nameAndType 14 15), (0, u "java/lang/Math"), (0, u "min"), (0, u "(II)I"), (0, .integer 2147483647), (0, .methodref 18 19), (0, .class_ 20), (0, .nameAndType 21 22), (0, u "com/example/lucid_tbox/lucidtbox/util/SortedArraysSeekPinLaw"), (0, u "at"), (0, u "([IIIIII)I"), (0, .methodref 24 25), (0, .class_ 26), (0, .nameAndType 27 28), (0, u "com/example/lucid_tbox/lucidtbox/util/SortedArrays"), (0, u "seek"), (0, u "([IIII)I"), (3, u "law"), (0, u "(IIIIII)Z")] 4

def k1m0 : Method := { name := "<init>", desc := "()V", sig := { parameters := [], returnType := none }, accessFlags := 2, code := none }
def k1c1 : Code := { maxStack := 2, maxLocals := 6, code := method_2_code, exceptionTable := #[], attributes := #[] }
def k1m1 : Method := { name := "at", desc := "([IIIIII)I", sig := { parameters := [(.array .int), .int, .int, .int, .int, .int], returnType := some .int }, accessFlags := 10, code := some k1c1 }
def k1c2 : Code := { maxStack := 6, maxLocals := 14, code := code, exceptionTable := #[], attributes := #[] }
def k1m2 : Method := { name := "law", desc := "(IIIIII)Z", sig := { parameters := [.int, .int, .int, .int, .int, .int], returnType := some .boolean }, accessFlags := 9, code := some k1c2 }
/-- com/example/lucid_tbox/lucidtbox/util/SortedArraysSeekPinLaw -/
def k1 : Class := { plain "com/example/lucid_tbox/lucidtbox/util/SortedArraysSeekPinLaw" (some 0) with
  accessFlags := 49
  interfaces := #[]
  cf := some (fileOf pool1 18 #[] #[{ accessFlags := 2, nameIndex := 5, descriptorIndex := 6, attributes := #[] }, { accessFlags := 10, nameIndex := 21, descriptorIndex := 22, attributes := #[] }, { accessFlags := 9, nameIndex := 32, descriptorIndex := 33, attributes := #[] }] 49 2 #[] #[])
  fields := #[]
  methods := #[k1m0, k1m1, k1m2]
  instanceTypes := #[]
  staticTypes := #[]
  resolved := Array.replicate 38 none
  statics := none }

def pool2 : Array CpInfo := pool [(1, .class_ 2), (0, u "java/lang/Math"), (1, .class_ 6), (1, u "java/lang/Object"), (0, u "<init>"), (0, u "()V"), (89, .class_ 100), (1, u "java/lang/Math$RandomNumberGeneratorHolder"), (71, u "negativeZeroFloatBits"), (0, u "J"), (2, u "negativeZeroDoubleBits"), (24, u "min"), (43, u "$assertionsDisabled"), (0, u "Z"), (88, u "(II)I"), (2, u "twoToTheDoubleScaleDown"), (0, u "D"), (4, u "twoToTheDoubleScaleUp"), (9, u "E"), (3, u "PI"), (2, u "TAU"), (2, u "DEGREES_TO_RADIANS"), (0, u "RADIANS_TO_DEGREES")] 94

def k2m0 : Method := { name := "<init>", desc := "()V", sig := { parameters := [], returnType := none }, accessFlags := 2, code := none }
def k2c1 : Code := { maxStack := 2, maxLocals := 2, code := jdk_29_method_69_code, exceptionTable := #[], attributes := #[] }
def k2m1 : Method := { name := "min", desc := "(II)I", sig := { parameters := [.int, .int], returnType := some .int }, accessFlags := 9, code := some k2c1 }
/-- java/lang/Math -/
def k2 : Class := { plain "java/lang/Math" (some 0) with
  accessFlags := 49
  interfaces := #[]
  cf := some (fileOf pool2 1 #[.nestMembers #[98]] #[{ accessFlags := 2, nameIndex := 7, descriptorIndex := 8, attributes := #[] }, { accessFlags := 9, nameIndex := 201, descriptorIndex := 335, attributes := #[] }] 49 4 #[] #[{ accessFlags := 25, nameIndex := 354, descriptorIndex := 339, attributes := #[] }, { accessFlags := 25, nameIndex := 358, descriptorIndex := 339, attributes := #[] }, { accessFlags := 25, nameIndex := 361, descriptorIndex := 339, attributes := #[] }, { accessFlags := 26, nameIndex := 364, descriptorIndex := 339, attributes := #[] }, { accessFlags := 26, nameIndex := 365, descriptorIndex := 339, attributes := #[] }, { accessFlags := 26, nameIndex := 172, descriptorIndex := 173, attributes := #[] }, { accessFlags := 26, nameIndex := 176, descriptorIndex := 173, attributes := #[] }, { accessFlags := 8, nameIndex := 344, descriptorIndex := 339, attributes := #[] }, { accessFlags := 8, nameIndex := 338, descriptorIndex := 339, attributes := #[] }, { accessFlags := 4120, nameIndex := 245, descriptorIndex := 246, attributes := #[] }])
  fields := #[{ name := "E", type := .double, accessFlags := 25, slot := 0, constantValue := 0 }, { name := "PI", type := .double, accessFlags := 25, slot := 1, constantValue := 0 }, { name := "TAU", type := .double, accessFlags := 25, slot := 2, constantValue := 0 }, { name := "DEGREES_TO_RADIANS", type := .double, accessFlags := 26, slot := 3, constantValue := 0 }, { name := "RADIANS_TO_DEGREES", type := .double, accessFlags := 26, slot := 4, constantValue := 0 }, { name := "negativeZeroFloatBits", type := .long, accessFlags := 26, slot := 5, constantValue := 0 }, { name := "negativeZeroDoubleBits", type := .long, accessFlags := 26, slot := 6, constantValue := 0 }, { name := "twoToTheDoubleScaleUp", type := .double, accessFlags := 8, slot := 7, constantValue := 0 }, { name := "twoToTheDoubleScaleDown", type := .double, accessFlags := 8, slot := 8, constantValue := 0 }, { name := "$assertionsDisabled", type := .boolean, accessFlags := 4120, slot := 9, constantValue := 0 }]
  methods := #[k2m0, k2m1]
  instanceTypes := #[]
  staticTypes := #[.double, .double, .double, .double, .double, .long, .long, .double, .double, .boolean]
  resolved := Array.replicate 460 none
  statics := none }

def pool3 : Array CpInfo := pool [(2, .class_ 4), (1, u "java/lang/Object"), (0, u "<init>"), (0, u "()V"), (0, .methodref 8 9), (0, .class_ 10), (0, .nameAndType 11 12), (0, u "java/lang/Math"), (0, u "min"), (0, u "(II)I"), (12, .class_ 26), (0, u "com/example/lucid_tbox/lucidtbox/util/SortedArrays"), (5, u "seek"), (0, u "([IIII)I")] 6

def k3m0 : Method := { name := "<init>", desc := "()V", sig := { parameters := [], returnType := none }, accessFlags := 2, code := none }
def k3c1 : Code := { maxStack := 2, maxLocals := 8, code := prog_29_method_3_code, exceptionTable := #[], attributes := #[] }
def k3m1 : Method := { name := "seek", desc := "([IIII)I", sig := { parameters := [(.array .int), .int, .int, .int], returnType := some .int }, accessFlags := 9, code := some k3c1 }
/-- com/example/lucid_tbox/lucidtbox/util/SortedArrays -/
def k3 : Class := { plain "com/example/lucid_tbox/lucidtbox/util/SortedArrays" (some 0) with
  accessFlags := 49
  interfaces := #[]
  cf := some (fileOf pool3 25 #[] #[{ accessFlags := 2, nameIndex := 5, descriptorIndex := 6, attributes := #[] }, { accessFlags := 9, nameIndex := 32, descriptorIndex := 33, attributes := #[] }] 49 2 #[] #[])
  fields := #[]
  methods := #[k3m0, k3m1]
  instanceTypes := #[]
  staticTypes := #[]
  resolved := Array.replicate 40 none
  statics := none }

def pool4 : Array CpInfo := pool [(1, u "java/lang/Cloneable"), (0, .class_ 1), (0, u "java/lang/Object"), (0, .class_ 3)] 3

/-- java/lang/Cloneable -/
def k4 : Class := { plain "java/lang/Cloneable" (some 0) with
  accessFlags := 1537
  interfaces := #[]
  cf := some (fileOf pool4 2 #[] #[] 1537 4 #[] #[])
  fields := #[]
  methods := #[]
  instanceTypes := #[]
  staticTypes := #[]
  resolved := Array.replicate 8 none
  statics := none }

def pool5 : Array CpInfo := pool [(1, u "java/io/Serializable"), (0, .class_ 1), (0, u "java/lang/Object"), (0, .class_ 3)] 3

/-- java/io/Serializable -/
def k5 : Class := { plain "java/io/Serializable" (some 0) with
  accessFlags := 1537
  interfaces := #[]
  cf := some (fileOf pool5 2 #[] #[] 1537 4 #[] #[])
  fields := #[]
  methods := #[]
  instanceTypes := #[]
  staticTypes := #[]
  resolved := Array.replicate 8 none
  statics := none }

/-- the primitive byte -/
def k6 : Class := { plain "byte" none with kind := .primitive 'B', accessFlags := 0x411 }
/-- [B -/
def k7 : Class := { plain "[B" (some 0) with kind := .array 6 .byte, interfaces := #[4, 5], accessFlags := 1041 }

/-- the primitive int -/
def k8 : Class := { plain "int" none with kind := .primitive 'I', accessFlags := 0x411 }
/-- [I -/
def k9 : Class := { plain "[I" (some 0) with kind := .array 8 .int, interfaces := #[4, 5], accessFlags := 1041 }

def heap : Heap := #[]
def classes : Array Class := #[k0, k1, k2, k3, k4, k5, k6, k7, k8, k9]
def interned : List (Array UInt16 × Addr) := []
def slotsUsed : Nat := 0
def theMethod : MethodId := ⟨1, 2⟩
def args0 : Array Value := #[.int 5, .int 6, .int 7, .int 8, .int 9, .int 10]
def aboutOver (below : List Frame) : State where
  vm := { classes := classes, interned := interned.toArray }
  heap := heap
  slotsUsed := slotsUsed
  threads := #[{ frames := .invoking theMethod args0 :: below }]
def below0 : List Frame := [.native { method := ⟨0, 0⟩, args := #[] }]
def about1 : State := aboutOver below0
def p0 : Program := .bare "" "" ""
def e0 : Env := launch0.env 0 0 0
theorem w_frames : about1.frames = Frame.invoking theMethod args0 :: below0 := rfl
set_option maxRecDepth 65536 in
theorem w_args : argsFit about1.vm theMethod args0 = true := by decide +kernel
set_option maxRecDepth 65536 in
theorem w_heap : heapFits about1 = true := by decide +kernel
set_option maxRecDepth 65536 in
theorem w_runnable : about1.curStatus? = some .runnable := by decide +kernel
set_option maxRecDepth 65536 in
theorem w_alone : about1.alone = true := by decide +kernel
set_option maxRecDepth 65536 in
theorem w_named : about1.methodNamed? x = some theMethod := by decide +kernel
set_option maxRecDepth 65536 in
theorem w_hears : about1.hears theMethod below0 = true := by decide +kernel
set_option maxRecDepth 65536 in
theorem w_ripe : about1.ripe theMethod args0 below0 = true := by decide +kernel
theorem w_running : about1.status = .running := rfl
set_option maxRecDepth 65536 in
theorem w_room : about1.hasRoom e0.platform room_1 = true :=
  launch0.hasRoom_least _ room_1 (by decide +kernel) (by decide +kernel) (by decide +kernel) (by decide +kernel) (by decide +kernel) (by decide +kernel)
theorem allAtoms_all (ts : List Jvm.Cond) (a : Array Jvm.Value) (st : Jvm.State) : (allAtoms ts).before a st = ts.all (fun c => c.before a st) := by
  induction ts with
  | nil => rfl
  | cons c t ih =>
    show (Jvm.Cond.and c (allAtoms t)).before a st = _
    rw [Jvm.Cond.before_and, ih, List.all_cons]
def words1 : List Jvm.Cond := Jvm.Cond.code x code maxLocals ret :: tables_1
/-- a 'code' word, met by the world's own term for the bytes: nothing is compared byte by byte -/
theorem code_word {y : MethodName} {bytes : ByteArray} {mx : Nat} {rt : Option FieldType} {a : Array Value} {s : State} {m : MethodId} {meth : Method} {c : Code} (h1 : s.methodNamed? y = some m) (h2 : s.vm.method? m = some meth) (h3 : meth.code = some c) (h4 : c.code = bytes)
    (h5 : (c.maxLocals == mx && c.exceptionTable.isEmpty && decide (c.maxStack ≤ mostOperands) && decide (meth.sig.returnType = rt) && !meth.locks && decide (parseMethodDescriptor y.desc = some meth.sig)) = true) : (Jvm.Cond.code y bytes mx rt).before a s = true := by
  simp only [Bool.and_eq_true, beq_iff_eq, Bool.not_eq_true', decide_eq_true_eq] at h5
  obtain ⟨⟨⟨⟨⟨g1, g2⟩, g3⟩, g4⟩, g5⟩, g6⟩ := h5
  simp [Cond.before, Cond.holds, Cond.value, h1, h2, h3, h4, g1, g2, g3, g4, g5, g6]
def isCode : Jvm.Cond → Bool
  | .code _ _ _ _ => true
  | _ => false
theorem all_split {L : List Jvm.Cond} {P : Jvm.Cond → Bool} (h1 : L.all (fun c => isCode c || P c) = true) (h2 : ∀ c ∈ L.filter isCode, P c = true) : L.all P = true := by
  refine List.all_eq_true.mpr fun c hc => ?_
  have h := List.all_eq_true.mp h1 c hc
  rcases Bool.eq_false_or_eq_true (isCode c) with hi | hi
  · exact h2 c (List.mem_filter.mpr ⟨hc, hi⟩)
  · simpa [hi] using h
set_option maxRecDepth 65536 in
theorem w_c0 : (Jvm.Cond.code x code maxLocals ret).before args0 about1 = true := code_word (m := ⟨1, 2⟩) (meth := k1m2) (c := k1c2) (by decide +kernel) rfl rfl rfl (by decide +kernel)
set_option maxRecDepth 65536 in
theorem w_c1 : (Jvm.Cond.code ({ cls := "java/lang/Math", name := "min", desc := "(II)I" } : Jvm.MethodName) jdk_29_method_69_code (2 : Nat) (Option.some Jvm.ClassFile.FieldType.int)).before args0 about1 = true := code_word (m := ⟨2, 1⟩) (meth := k2m1) (c := k2c1) (by decide +kernel) rfl rfl rfl (by decide +kernel)
set_option maxRecDepth 65536 in
theorem w_c2 : (Jvm.Cond.code ({ cls := "com/example/lucid_tbox/lucidtbox/util/SortedArraysSeekPinLaw", name := "at", desc := "([IIIIII)I" } : Jvm.MethodName) method_2_code (6 : Nat) (Option.some Jvm.ClassFile.FieldType.int)).before args0 about1 = true := code_word (m := ⟨1, 1⟩) (meth := k1m1) (c := k1c1) (by decide +kernel) rfl rfl rfl (by decide +kernel)
set_option maxRecDepth 65536 in
theorem w_c3 : (Jvm.Cond.code ({ cls := "com/example/lucid_tbox/lucidtbox/util/SortedArrays", name := "seek", desc := "([IIII)I" } : Jvm.MethodName) prog_29_method_3_code (8 : Nat) (Option.some Jvm.ClassFile.FieldType.int)).before args0 about1 = true := code_word (m := ⟨3, 1⟩) (meth := k3m1) (c := k3c1) (by decide +kernel) rfl rfl rfl (by decide +kernel)
def codes1 : List Jvm.Cond := [Jvm.Cond.code x code maxLocals ret, Jvm.Cond.code ({ cls := "java/lang/Math", name := "min", desc := "(II)I" } : Jvm.MethodName) jdk_29_method_69_code (2 : Nat) (Option.some Jvm.ClassFile.FieldType.int), Jvm.Cond.code ({ cls := "com/example/lucid_tbox/lucidtbox/util/SortedArraysSeekPinLaw", name := "at", desc := "([IIIIII)I" } : Jvm.MethodName) method_2_code (6 : Nat) (Option.some Jvm.ClassFile.FieldType.int), Jvm.Cond.code ({ cls := "com/example/lucid_tbox/lucidtbox/util/SortedArrays", name := "seek", desc := "([IIII)I" } : Jvm.MethodName) prog_29_method_3_code (8 : Nat) (Option.some Jvm.ClassFile.FieldType.int)]
set_option maxRecDepth 65536 in
theorem codes_eq : words1.filter isCode = codes1 := rfl
theorem w_codes : ∀ c ∈ words1.filter isCode, c.before args0 about1 = true := by
  rw [codes_eq]
  intro c hc
  simp only [codes1, List.mem_cons, List.not_mem_nil, or_false] at hc
  rcases hc with rfl | rfl | rfl | rfl
  · exact w_c0
  · exact w_c1
  · exact w_c2
  · exact w_c3
set_option maxRecDepth 65536 in
theorem w_t1 : words1.all (fun c => isCode c || c.before args0 about1) = true := by decide +kernel
theorem w_tables : (allAtoms (Jvm.Cond.code x code maxLocals ret :: tables_1)).before args0 about1 = true := by
  rw [allAtoms_all]
  show words1.all (fun c => c.before args0 about1) = true
  refine all_split ?_ w_codes
  rw [w_t1]
set_option maxRecDepth 65536 in
theorem w_case : (Jvm.Cond.and given_1 narrow_1).before args0 about1 = true := by decide +kernel
theorem w_applies : (headSpec (Jvm.Cond.code x code maxLocals ret :: tables_1) room_1).applies x e0.platform about1 = true :=
  (Spec.applies_iff w_frames).mpr ⟨w_running, w_runnable, w_alone, w_named, w_hears, w_ripe, w_room, w_tables⟩
theorem atStart : AtStart classFile x code maxLocals ret World_1 tables_1 room_1 Calls_1 rest_1 Pre_1 launch0 p0 e0 about1 theMethod args0 below0 :=
  ⟨lists_1, trivial, launch0.admits_env _ _ _, launch0.least_env, fairChoices_fair.cas, fairChoices_fair.clock, w_frames, w_args, w_heap, w_applies, trivial, trivial, w_case⟩
end start1
theorem witness_1 : WitnessClaimed_1 := ⟨start1.p0, start1.e0, start1.about1, start1.theMethod, start1.args0, start1.below0, start1.atStart⟩
end Jvm.Pilot.@@N@@

import JvmDerived
import JvmDerived.Pilot.@@N@@Statement
import JvmDerived.Pilot.@@N@@Code
set_option linter.unusedVariables false
set_option linter.unusedSimpArgs false
namespace Jvm.RoadKit
open Sem ClassFile Op Lib Jvm.Stand Jvm.Free Jvm.LawKit
section New
variable {p : Program} {l : Launch} {e : Env} {R : Room} {s : State} {m : MethodId} {args : Array Value} {below : List Frame} {meth : Method} {c : Code} {T : State} {locs : List Loc} {cells slots : Nat}
theorem retI (X : Stand p l e R s m args below meth c T locs cells slots) (hx : p.tables.exec = Jvm.exec) {pc : Nat} {Ls : Array Slot} {z : Int32} {rest : List Value} (hret : meth.sig.returnType = some .int) (hd : decode c.code pc = .ok (.ireturn, 1)) {fs : List Frame}
    (hl : ∀ (f : JFrame) (acts : List Action), f.method = m → f.locked = none → f.entered = [] → (doReturn e (T.setTop f) acts (some (.int z))).1 = T.setFrames fs) : Steps p.tables e below (T.setTop (mkF m pc Ls (.int z :: rest))) (T.setFrames fs) := by
  have hm' : T.vm.method? m = some meth := X.method'
  have hn : narrow .int (.int z) = .int z := rfl
  show Steps p.tables e below (T.setTop { method := m, pc := pc, locals := Ls, stack := _ :: rest, locked := none }) _
  jvm_step X.here [X.here.top, hx, hd, hm', hret, hn]
  first | (intro acts; rw [hl _ acts rfl rfl rfl]) | rw [hl _ _ rfl rfl rfl]
  exact Steps.refl _
end New
end Jvm.RoadKit
namespace Jvm.Pilot.@@N@@
open Jvm Jvm.ClassFile Sem Op Lib Jvm.Free Jvm.Stand Jvm.LawKit Jvm.RoadKit Bundle Jvm.Pilot.@@N@@.Jvm.D
theorem own_ti {n : Nat} (hn : n ≤ 255) : (Int32.ofNat n).toInt = n := Int32.toInt_ofNat_of_lt (by omega)
theorem own_lt {i n : Nat} (hi : i ≤ 255) (hn : n ≤ 255) : Int32.ofNat i < Int32.ofNat n ↔ i < n := by
  rw [Int32.lt_iff_toInt_lt, own_ti hi, own_ti hn]; omega
theorem own_nn {n : Nat} (hn : n ≤ 255) : ¬ Int32.ofNat n < 0 := by
  rw [Int32.lt_iff_toInt_lt, own_ti hn, show (0 : Int32).toInt = 0 from rfl]; omega
theorem own_n32 {n : Nat} (hn : n ≤ 255) : (Int32.ofNat n).toNatClampNeg = n := by
  rw [Int32.toNatClampNeg, own_ti hn]; rfl
theorem own_add (i j : Nat) : Int32.ofNat i + Int32.ofNat j = Int32.ofNat (i + j) := (Int32.ofNat_add i j).symm
theorem own_one (i : Nat) : Int32.ofNat i + (1 : Int32) = Int32.ofNat (i + 1) := (Int32.ofNat_add i 1).symm
theorem own_of {x : Int32} {n : Nat} (hn : n ≤ 255) (h : x.toInt = n) : x = Int32.ofNat n := Int32.toInt_inj.mp (by rw [h, own_ti hn])
/-- the array at a has n places, and place j holds F j -/
def own_V (Z : State) (h : Heap) (a : Addr) (ty : FieldType) (n : Nat) (F : Nat → Value) : Prop := ∃ c : Cell, Arr Z h a c ty ∧ c.slots.size = n ∧ ∀ j, j < n → c.slots[j]? = some (F j)
theorem own_V.keep {Z : State} {h h' : Heap} {a : Addr} {ty : FieldType} {n : Nat} {F : Nat → Value} {ws : List Addr} (V : own_V Z h a ty n F) (K : Keep h h' ws) (q : a ∉ ws) : own_V Z h' a ty n F := by
  obtain ⟨c, A, r⟩ := V; exact ⟨c, ⟨K.2.1 a c A.1 q, A.2⟩, r⟩
theorem own_V.lt {Z : State} {h : Heap} {a : Addr} {ty : FieldType} {n : Nat} {F : Nat → Value} (V : own_V Z h a ty n F) : a < h.size := by obtain ⟨c, A, r⟩ := V; exact A.lt
theorem own_V.eqv {Z : State} {h : Heap} {a : Addr} {ty : FieldType} {n : Nat} {F G : Nat → Value} (V : own_V Z h a ty n F) (q : ∀ j, j < n → F j = G j) : own_V Z h a ty n G := by
  obtain ⟨c, A, r1, r2⟩ := V; exact ⟨c, A, r1, fun j hj => by rw [← q j hj]; exact r2 j hj⟩
theorem own_inb {c : Cell} {n i : Nat} (S : c.slots.size = n) (hi : i < n) (hn : n ≤ 255) : ¬ (Int32.ofNat i < 0 ∨ c.slots.size ≤ (Int32.ofNat i).toNatClampNeg) := by
  rw [own_n32 (by omega), S]; intro q; rcases q with q | q
  · exact own_nn (by omega) q
  · omega
theorem own_hat {c : Cell} {n i : Nat} {F : Nat → Value} (H : ∀ j, j < n → c.slots[j]? = some (F j)) (hi : i < n) (hn : n ≤ 255) : c.slots[(Int32.ofNat i).toNatClampNeg]? = some (F i) := by
  rw [own_n32 (by omega)]; exact H i hi
theorem own_set {Z : State} {h : Heap} {a : Addr} {c : Cell} {ty : FieldType} {n i : Nat} {F : Nat → Value} {v : Value} (A : Arr Z h a (c.setSlot (Int32.ofNat i).toNatClampNeg v) ty) (S : c.slots.size = n) (H : ∀ j, j < n → c.slots[j]? = some (F j)) (hi : i < n) (hn : n ≤ 255) : own_V Z h a ty n (fun j => if j = i then v else F j) := by
  rw [own_n32 (by omega)] at A
  refine ⟨_, A, by rw [sz_set]; exact S, fun j hj => ?_⟩
  show (c.slots.setIfInBounds i v)[j]? = some (if j = i then v else F j)
  rw [Array.getElem?_setIfInBounds]
  by_cases q : j = i
  · subst q; simp [S, hj]
  · rw [if_neg (fun e => q e.symm), if_neg q]; exact H j hj
theorem own_mask (x m : Int32) (k : Nat) (hk : k ≤ 7) (hm : m.toBitVec.toNat = 2 ^ k - 1) : ∃ n : Nat, n < 2 ^ k ∧ (x &&& m) = Int32.ofNat n := by
  have h := c_mask x m k (by omega) hm
  have p : 2 ^ k ≤ 128 := Nat.pow_le_pow_right (n := 2) (by decide) hk
  have p0 : 0 < 2 ^ k := Nat.pow_pos (by decide)
  refine ⟨(x.toInt % ((2 ^ k : Nat) : Int)).toNat, ?_, own_of ?_ ?_⟩ <;> generalize 2 ^ k = P at * <;> have q1 := Int.emod_nonneg x.toInt (b := (P : Int)) (by omega) <;> have q2 := Int.emod_lt_of_pos x.toInt (b := (P : Int)) (by omega) <;> omega
/-- what the loop has summed up when k turns are made from the place A on -/
def own_run (f : Nat → Int32) (A : Nat) (b : Int64) : Nat → Int64
  | 0 => b
  | k + 1 => own_run f A b k + ((f (A + k)).toInt64 + (1 : Int64))
/-- the array then -/
def own_g (f : Nat → Int32) (A : Nat) (b : Int64) (k j : Nat) : Int32 := if A ≤ j ∧ j < A + k then (own_run f A b (j - A + 1)).toInt32 else f j
theorem own_g0 (f : Nat → Int32) (A : Nat) (b : Int64) (j : Nat) : own_g f A b 0 j = f j := if_neg (by omega)
theorem own_gi (f : Nat → Int32) (A : Nat) (b : Int64) (k : Nat) : own_g f A b k (A + k) = f (A + k) := if_neg (by omega)
theorem own_gs (f : Nat → Int32) (A : Nat) (b : Int64) (k j : Nat) : (if j = A + k then Value.int ((own_run f A b k + ((f (A + k)).toInt64 + (1 : Int64))).toInt32) else Value.int (own_g f A b k j)) = Value.int (own_g f A b (k + 1) j) := by
  by_cases h : j = A + k
  · subst h; rw [if_pos rfl, own_g, if_pos (by omega), show A + k - A + 1 = k + 1 by omega]; rfl
  · rw [if_neg h]
    unfold own_g
    by_cases q : A ≤ j ∧ j < A + k
    · rw [if_pos q, if_pos (by omega)]
    · rw [if_neg q, if_neg (by omega)]
def own_x (x0 x1 x2 x3 : Int32) : Nat → Int32
  | 0 => x0
  | 1 => x1
  | 2 => x2
  | _ => x3
/-- the sum of the first n -/
def own_S (f : Nat → Int32) : Nat → Int64
  | 0 => 0
  | n + 1 => own_S f n + (f n).toInt64
def own_sb (S : Nat → Int64) (n : Nat) : Int64 := if n = 0 then 0 else S (n - 1)
theorem own_alg (b k S T f : Int64) : b + k + S - T + (f + 1) = b + (k + 1) + (S + f) - T := by
  rw [Int64.sub_eq_add_neg, Int64.sub_eq_add_neg]; ac_rfl
theorem own_alg0 (b T : Int64) : b = b + (0 : Int64) + T - T := by
  rw [Int64.add_zero, Int64.add_sub_cancel]
theorem own_runS (f : Nat → Int32) (A : Nat) (b : Int64) : ∀ k, own_run f A b k = b + Int64.ofNat k + own_S f (A + k) - own_S f A
  | 0 => own_alg0 b _
  | k + 1 => by
    rw [own_run, own_runS f A b k, Int64.ofNat_add]
    exact own_alg b (Int64.ofNat k) (own_S f (A + k)) (own_S f A) (f (A + k)).toInt64
theorem own_sums (x0 x1 x2 x3 : Int32) (n : Nat) (hn : n ≤ 4) (L : Nat → Int64) (h0 : L 0 = x0.toInt64) (h1 : L 1 = x0.toInt64 + x1.toInt64) (h2 : L 2 = x0.toInt64 + x1.toInt64 + x2.toInt64) (h3 : L 3 = x0.toInt64 + x1.toInt64 + x2.toInt64 + x3.toInt64) : own_sb L n = own_S (own_x x0 x1 x2 x3) n := by
  match n, hn with
  | 0, _ => rfl
  | 1, _ => show L 0 = (0 : Int64) + x0.toInt64; rw [h0, Int64.zero_add]
  | 2, _ => show L 1 = (0 : Int64) + x0.toInt64 + x1.toInt64; rw [h1, Int64.zero_add]
  | 3, _ => show L 2 = (0 : Int64) + x0.toInt64 + x1.toInt64 + x2.toInt64; rw [h2, Int64.zero_add]
  | 4, _ => show L 3 = (0 : Int64) + x0.toInt64 + x1.toInt64 + x2.toInt64 + x3.toInt64; rw [h3, Int64.zero_add]
theorem own_i64 {n : Nat} (hn : n ≤ 255) : (Int32.ofNat n).toInt64 = Int64.ofNat n := by
  apply Int64.toInt_inj.mp; rw [c_i2l, own_ti hn, Int64.toInt_ofNat_of_lt (by omega)]
theorem own_rem : ∀ (a : Fin 4) (m : Fin 8), ∃ K : Fin 5, a.val + K.val ≤ 4 ∧ Int32.ofNat m.val % ((5 : Int32) - Int32.ofNat a.val) = Int32.ofNat K.val ∧ ¬ ((5 : Int32) - Int32.ofNat a.val = 0) := by decide
theorem own_split (sel : Int32) : ∃ A K : Nat, A ≤ 3 ∧ A + K ≤ 4 ∧ (sel &&& (3 : Int32)) = Int32.ofNat A ∧ ((((sel.toUInt32 >>> ((2 : Int32) &&& 31).toUInt32).toInt32) &&& (7 : Int32)) % ((5 : Int32) - Int32.ofNat A)) = Int32.ofNat K ∧ ¬ ((5 : Int32) - Int32.ofNat A = 0) := by
  obtain ⟨A, hA, eA⟩ := own_mask sel 3 2 (by decide) (by decide)
  obtain ⟨M, hM, eM⟩ := own_mask ((sel.toUInt32 >>> ((2 : Int32) &&& 31).toUInt32).toInt32) 7 3 (by decide) (by decide)
  obtain ⟨K, h1, h2, h3⟩ := own_rem ⟨A, hA⟩ ⟨M, hM⟩
  exact ⟨A, K.val, by omega, h1, eA, by rw [eM]; exact h2, h3⟩
theorem own_ofI {Z : State} {h : Heap} {a : Addr} {k : ClassId} {x0 x1 x2 x3 : Int32} {d : Value} (V : Arv Z h a k .int (4 : Int32) [(.int x0), (.int x1), (.int x2), (.int x3)] d) : own_V Z h a .int 4 (fun j => .int (own_x x0 x1 x2 x3 j)) := by
  obtain ⟨c, A, -, S, -, H, -⟩ := V
  have S4 : c.slots.size = 4 := S
  refine ⟨c, A, S4, fun j hj => ?_⟩
  rw [H j (by omega)]
  match j, hj with
  | 0, _ => rfl
  | 1, _ => rfl
  | 2, _ => rfl
  | 3, _ => rfl
def own_y (x0 x1 x2 x3 : Int64) : Nat → Int64
  | 0 => x0
  | 1 => x1
  | 2 => x2
  | _ => x3
theorem own_ofL {Z : State} {h : Heap} {a : Addr} {k : ClassId} {x0 x1 x2 x3 : Int64} {d : Value} (V : Arv Z h a k .long (4 : Int32) [(.long x0), (.long x1), (.long x2), (.long x3)] d) : own_V Z h a .long 4 (fun j => .long (own_y x0 x1 x2 x3 j)) := by
  obtain ⟨c, A, -, S, -, H, -⟩ := V
  have S4 : c.slots.size = 4 := S
  refine ⟨c, A, S4, fun j hj => ?_⟩
  rw [H j (by omega)]
  match j, hj with
  | 0, _ => rfl
  | 1, _ => rfl
  | 2, _ => rfl
  | 3, _ => rfl
theorem d1_6 : decode prog_15_method_34_code 6 = .ok (.iload 7, 2) := by decide +kernel
theorem d1_8 : decode prog_15_method_34_code 8 = .ok (.iload_n 1, 1) := by decide +kernel
theorem d1_9 : decode prog_15_method_34_code 9 = .ok (.iload_n 2, 1) := by decide +kernel
theorem d1_10 : decode prog_15_method_34_code 10 = .ok (.iadd, 1) := by decide +kernel
theorem d1_11 : decode prog_15_method_34_code 11 = .ok (.if_icmp .ge 28, 3) := by decide +kernel
theorem d1_14 : decode prog_15_method_34_code 14 = .ok (.lload 5, 2) := by decide +kernel
theorem d1_16 : decode prog_15_method_34_code 16 = .ok (.aload_n 0, 1) := by decide +kernel
theorem d1_17 : decode prog_15_method_34_code 17 = .ok (.iload 7, 2) := by decide +kernel
theorem d1_19 : decode prog_15_method_34_code 19 = .ok (.iaload, 1) := by decide +kernel
theorem d1_20 : decode prog_15_method_34_code 20 = .ok (.i2l, 1) := by decide +kernel
theorem d1_21 : decode prog_15_method_34_code 21 = .ok (.lconst 1, 1) := by decide +kernel
theorem d1_22 : decode prog_15_method_34_code 22 = .ok (.ladd, 1) := by decide +kernel
theorem d1_23 : decode prog_15_method_34_code 23 = .ok (.ladd, 1) := by decide +kernel
theorem d1_24 : decode prog_15_method_34_code 24 = .ok (.lstore 5, 2) := by decide +kernel
theorem d1_26 : decode prog_15_method_34_code 26 = .ok (.aload_n 0, 1) := by decide +kernel
theorem d1_27 : decode prog_15_method_34_code 27 = .ok (.iload 7, 2) := by decide +kernel
theorem d1_29 : decode prog_15_method_34_code 29 = .ok (.lload 5, 2) := by decide +kernel
theorem d1_31 : decode prog_15_method_34_code 31 = .ok (.l2i, 1) := by decide +kernel
theorem d1_32 : decode prog_15_method_34_code 32 = .ok (.iastore, 1) := by decide +kernel
theorem d1_33 : decode prog_15_method_34_code 33 = .ok (.iinc 7 1, 3) := by decide +kernel
theorem d1_36 : decode prog_15_method_34_code 36 = .ok (.goto (-30), 3) := by decide +kernel
set_option maxRecDepth 65536 in
set_option maxHeartbeats 40000000 in
theorem tn1_6_6 {p : Program} {l : Launch} {e : Env} {R : Room} {s : State} {m : MethodId} {args : Array Value} {below : List Frame} {meth : Method} {c : Code} {T0 : State} {locs : List Loc} {cells slots : Nat} {Z : State} {a0 : Array Value} {h0 : Heap} (o0 : Addr) (i1 : Int32) (i2 : Int32) (s3 : Slot) (s4 : Slot) (j5 : Int64) (i7 : Int32) (w5 : Int32) (cl_o0 : Cell) (n0 : Nat)
    (X0 : Stand p l e R s m args below meth c T0 locs cells slots) (hx : p.tables.exec = Jvm.exec) (hZ : Z.Warmed39 s.vm) (hw : ∀ d ∈ tables_1, d.before a0 Z = true) (hby : c.code = prog_15_method_34_code) (hml : c.maxLocals = 8) (hown : s.vm.findClass "com/example/packstone/packstone/io/GapGroups" = some m.cls) (e0 : T0.heap = h0) (Ar_o0 : Arr Z h0 o0 cl_o0 .int) (hin19 : ¬ (i7 < 0 ∨ cl_o0.slots.size ≤ (i7).toNatClampNeg)) (hat19 : cl_o0.slots[(i7).toNatClampNeg]? = some (.int w5)) (hin32 : ¬ (i7 < 0 ∨ cl_o0.slots.size ≤ (i7).toNatClampNeg)) (g_o0 : n0 ≤ o0) (N0 : Fr n0 locs) (hc11 : i7 < (i1 + i2)) :
    ∃ (T' : State) (h' : Heap) (locs' : List Loc), Stand p l e R s m args below meth c T' locs' cells slots ∧ T'.heap = h' ∧ Fr n0 locs' ∧ Keep h0 h' [o0] ∧ Arr Z h' o0 (cl_o0.setSlot (i7).toNatClampNeg (.int ((j5 + ((w5.toInt64) + (1 : Int64))).toInt32))) .int ∧
      ∀ target, Steps p.tables e below (T'.setTop (mkF m 6 #[.val (.ref o0), .val (.int i1), .val (.int i2), s3, s4, .val (.long (j5 + ((w5.toInt64) + (1 : Int64)))), .second, .val (.int (i7 + (1 : Int32)))] [])) target → Steps p.tables e below (T0.setTop (mkF m 6 #[.val (.ref o0), .val (.int i1), .val (.int i2), s3, s4, .val (.long j5), .second, .val (.int i7)] [])) target := by
  -- 3. LAWS
  obtain ⟨T6, h6, X6, e6, W6, st6⟩ := stI X0 hx hZ e0 Ar_o0 (j := i7) hin32 (g := (mkF m 32 #[.val (.ref o0), .val (.int i1), .val (.int i2), s3, s4, .val (.long (j5 + ((w5.toInt64) + (1 : Int64)))), .second, .val (.int i7)] [(.int ((j5 + ((w5.toInt64) + (1 : Int64))).toInt32)), (.int i7), (.ref o0)])) rfl rfl (hb hby d1_32)
  have N6 := Fr.snoc X6 N0 g_o0
  -- Ar_o0.same W6 : the array with (.int ((j5 + ((w5.toInt64) + (1 : Int64))).toInt32)) at the place i7
  have K6 : Keep h0 h6 [o0] := (Keep.refl h0 [o0]).wr W6 (Or.inl (List.mem_of_getElem? (i := 0) rfl))
  refine ⟨T6, h6, _, X6, e6, N6, K6, Ar_o0.same W6, fun target kt => ?_⟩
  -- 4. STEPS
  show Steps p.tables e below (T0.setTop (mkF m 6 #[.val (.ref o0), .val (.int i1), .val (.int i2), s3, s4, .val (.long j5), .second, .val (.int i7)] [])) _
  refine XS.iload X0.here hx rfl (hb hby d1_6) rfl ?_
  show Steps p.tables e below (T0.setTop (mkF m 8 #[.val (.ref o0), .val (.int i1), .val (.int i2), s3, s4, .val (.long j5), .second, .val (.int i7)] [(.int i7)])) _
  refine XS.iloadN X0.here hx rfl (hb hby d1_8) rfl ?_
  show Steps p.tables e below (T0.setTop (mkF m 9 #[.val (.ref o0), .val (.int i1), .val (.int i2), s3, s4, .val (.long j5), .second, .val (.int i7)] [(.int i1), (.int i7)])) _
  refine XS.iloadN X0.here hx rfl (hb hby d1_9) rfl ?_
  show Steps p.tables e below (T0.setTop (mkF m 10 #[.val (.ref o0), .val (.int i1), .val (.int i2), s3, s4, .val (.long j5), .second, .val (.int i7)] [(.int i2), (.int i1), (.int i7)])) _
  refine XS.iadd X0.here hx rfl (hb hby d1_10) rfl ?_
  show Steps p.tables e below (T0.setTop (mkF m 11 #[.val (.ref o0), .val (.int i1), .val (.int i2), s3, s4, .val (.long j5), .second, .val (.int i7)] [(.int (i1 + i2)), (.int i7)])) _
  refine XS.icmpNo X0.here hx rfl (hb hby d1_11) rfl (tlt hc11).2.1 ?_
  show Steps p.tables e below (T0.setTop (mkF m 14 #[.val (.ref o0), .val (.int i1), .val (.int i2), s3, s4, .val (.long j5), .second, .val (.int i7)] [])) _
  refine XS.lload X0.here hx rfl (hb hby d1_14) rfl ?_
  show Steps p.tables e below (T0.setTop (mkF m 16 #[.val (.ref o0), .val (.int i1), .val (.int i2), s3, s4, .val (.long j5), .second, .val (.int i7)] [(.long j5)])) _
  refine XS.aloadN X0.here hx rfl (hb hby d1_16) rfl rfl ?_
  show Steps p.tables e below (T0.setTop (mkF m 17 #[.val (.ref o0), .val (.int i1), .val (.int i2), s3, s4, .val (.long j5), .second, .val (.int i7)] [(.ref o0), (.long j5)])) _
  refine XS.iload X0.here hx rfl (hb hby d1_17) rfl ?_
  show Steps p.tables e below (T0.setTop (mkF m 19 #[.val (.ref o0), .val (.int i1), .val (.int i2), s3, s4, .val (.long j5), .second, .val (.int i7)] [(.int i7), (.ref o0), (.long j5)])) _
  refine X0.iaload hx (j := i7) (v := (.int w5)) (by rw [e0]; exact Ar_o0.1) (State.isArrayOf_alike hZ.alike Ar_o0.2.1) Ar_o0.2.2 hin19 hat19 (g := (mkF m 19 #[.val (.ref o0), .val (.int i1), .val (.int i2), s3, s4, .val (.long j5), .second, .val (.int i7)] [(.int i7), (.ref o0), (.long j5)])) rfl rfl (hb hby d1_19) _ ?_
  show Steps p.tables e below (T0.setTop (mkF m 20 #[.val (.ref o0), .val (.int i1), .val (.int i2), s3, s4, .val (.long j5), .second, .val (.int i7)] [(.int w5), (.long j5)])) _
  refine XS.i2l X0.here hx rfl (hb hby d1_20) rfl ?_
  show Steps p.tables e below (T0.setTop (mkF m 21 #[.val (.ref o0), .val (.int i1), .val (.int i2), s3, s4, .val (.long j5), .second, .val (.int i7)] [(.long (w5.toInt64)), (.long j5)])) _
  refine XS.lconst X0.here hx rfl (hb hby d1_21) ?_
  show Steps p.tables e below (T0.setTop (mkF m 22 #[.val (.ref o0), .val (.int i1), .val (.int i2), s3, s4, .val (.long j5), .second, .val (.int i7)] [(.long (1 : Int64)), (.long (w5.toInt64)), (.long j5)])) _
  refine XS.ladd X0.here hx rfl (hb hby d1_22) rfl ?_
  show Steps p.tables e below (T0.setTop (mkF m 23 #[.val (.ref o0), .val (.int i1), .val (.int i2), s3, s4, .val (.long j5), .second, .val (.int i7)] [(.long ((w5.toInt64) + (1 : Int64))), (.long j5)])) _
  refine XS.ladd X0.here hx rfl (hb hby d1_23) rfl ?_
  show Steps p.tables e below (T0.setTop (mkF m 24 #[.val (.ref o0), .val (.int i1), .val (.int i2), s3, s4, .val (.long j5), .second, .val (.int i7)] [(.long (j5 + ((w5.toInt64) + (1 : Int64))))])) _
  refine XS.lstore X0.here hx rfl (hb hby d1_24) rfl (l' := #[.val (.ref o0), .val (.int i1), .val (.int i2), s3, s4, .val (.long (j5 + ((w5.toInt64) + (1 : Int64)))), .second, .val (.int i7)]) rfl ?_
  show Steps p.tables e below (T0.setTop (mkF m 26 #[.val (.ref o0), .val (.int i1), .val (.int i2), s3, s4, .val (.long (j5 + ((w5.toInt64) + (1 : Int64)))), .second, .val (.int i7)] [])) _
  refine XS.aloadN X0.here hx rfl (hb hby d1_26) rfl rfl ?_
  show Steps p.tables e below (T0.setTop (mkF m 27 #[.val (.ref o0), .val (.int i1), .val (.int i2), s3, s4, .val (.long (j5 + ((w5.toInt64) + (1 : Int64)))), .second, .val (.int i7)] [(.ref o0)])) _
  refine XS.iload X0.here hx rfl (hb hby d1_27) rfl ?_
  show Steps p.tables e below (T0.setTop (mkF m 29 #[.val (.ref o0), .val (.int i1), .val (.int i2), s3, s4, .val (.long (j5 + ((w5.toInt64) + (1 : Int64)))), .second, .val (.int i7)] [(.int i7), (.ref o0)])) _
  refine XS.lload X0.here hx rfl (hb hby d1_29) rfl ?_
  show Steps p.tables e below (T0.setTop (mkF m 31 #[.val (.ref o0), .val (.int i1), .val (.int i2), s3, s4, .val (.long (j5 + ((w5.toInt64) + (1 : Int64)))), .second, .val (.int i7)] [(.long (j5 + ((w5.toInt64) + (1 : Int64)))), (.int i7), (.ref o0)])) _
  refine XS.l2i X0.here hx rfl (hb hby d1_31) rfl ?_
  show Steps p.tables e below (T0.setTop (mkF m 32 #[.val (.ref o0), .val (.int i1), .val (.int i2), s3, s4, .val (.long (j5 + ((w5.toInt64) + (1 : Int64)))), .second, .val (.int i7)] [(.int ((j5 + ((w5.toInt64) + (1 : Int64))).toInt32)), (.int i7), (.ref o0)])) _
  refine st6 _ ?_
  show Steps p.tables e below (T6.setTop (mkF m 33 #[.val (.ref o0), .val (.int i1), .val (.int i2), s3, s4, .val (.long (j5 + ((w5.toInt64) + (1 : Int64)))), .second, .val (.int i7)] [])) _
  refine XS.iinc X6.here hx rfl (hb hby d1_33) rfl (l' := #[.val (.ref o0), .val (.int i1), .val (.int i2), s3, s4, .val (.long (j5 + ((w5.toInt64) + (1 : Int64)))), .second, .val (.int (i7 + (1 : Int32)))]) rfl ?_
  show Steps p.tables e below (T6.setTop (mkF m 36 #[.val (.ref o0), .val (.int i1), .val (.int i2), s3, s4, .val (.long (j5 + ((w5.toInt64) + (1 : Int64)))), .second, .val (.int (i7 + (1 : Int32)))] [])) _
  refine XS.goto X6.here hx rfl (pc0 := 36) (pc' := 6) rfl (hb hby d1_36) (by decide) (by decide) ?_
  exact kt
set_option maxRecDepth 65536 in
set_option maxHeartbeats 40000000 in
theorem tn1_6_39 {p : Program} {l : Launch} {e : Env} {R : Room} {s : State} {m : MethodId} {args : Array Value} {below : List Frame} {meth : Method} {c : Code} {T0 : State} {locs : List Loc} {cells slots : Nat} {Z : State} {a0 : Array Value} {h0 : Heap} (s0 : Slot) (i1 : Int32) (i2 : Int32) (s3 : Slot) (s4 : Slot) (s5 : Slot) (s6 : Slot) (i7 : Int32)
    (X0 : Stand p l e R s m args below meth c T0 locs cells slots) (hx : p.tables.exec = Jvm.exec) (hZ : Z.Warmed39 s.vm) (hw : ∀ d ∈ tables_1, d.before a0 Z = true) (hby : c.code = prog_15_method_34_code) (hml : c.maxLocals = 8) (hown : s.vm.findClass "com/example/packstone/packstone/io/GapGroups" = some m.cls) (e0 : T0.heap = h0) (hc11 : ¬ (i7 < (i1 + i2))) :
    ∃ (T' : State), Stand p l e R s m args below meth c T' locs cells slots ∧ T'.heap = h0 ∧
      ∀ target, Steps p.tables e below (T'.setTop (mkF m 39 #[s0, .val (.int i1), .val (.int i2), s3, s4, s5, s6, .val (.int i7)] [])) target → Steps p.tables e below (T0.setTop (mkF m 6 #[s0, .val (.int i1), .val (.int i2), s3, s4, s5, s6, .val (.int i7)] [])) target := by
  -- 3. LAWS

  refine ⟨T0, X0, e0, fun target kt => ?_⟩
  -- 4. STEPS
  show Steps p.tables e below (T0.setTop (mkF m 6 #[s0, .val (.int i1), .val (.int i2), s3, s4, s5, s6, .val (.int i7)] [])) _
  refine XS.iload X0.here hx rfl (hb hby d1_6) rfl ?_
  show Steps p.tables e below (T0.setTop (mkF m 8 #[s0, .val (.int i1), .val (.int i2), s3, s4, s5, s6, .val (.int i7)] [(.int i7)])) _
  refine XS.iloadN X0.here hx rfl (hb hby d1_8) rfl ?_
  show Steps p.tables e below (T0.setTop (mkF m 9 #[s0, .val (.int i1), .val (.int i2), s3, s4, s5, s6, .val (.int i7)] [(.int i1), (.int i7)])) _
  refine XS.iloadN X0.here hx rfl (hb hby d1_9) rfl ?_
  show Steps p.tables e below (T0.setTop (mkF m 10 #[s0, .val (.int i1), .val (.int i2), s3, s4, s5, s6, .val (.int i7)] [(.int i2), (.int i1), (.int i7)])) _
  refine XS.iadd X0.here hx rfl (hb hby d1_10) rfl ?_
  show Steps p.tables e below (T0.setTop (mkF m 11 #[s0, .val (.int i1), .val (.int i2), s3, s4, s5, s6, .val (.int i7)] [(.int (i1 + i2)), (.int i7)])) _
  refine XS.icmpYes X0.here hx rfl (pc0 := 11) (pc' := 39) rfl (hb hby d1_11) rfl (flt hc11).2.1 (by decide) (by decide) ?_
  exact kt
theorem loop1 {p : Program} {l : Launch} {e : Env} {R : Room} {s : State} {m : MethodId} {args : Array Value} {below : List Frame} {meth : Method} {c : Code} {cells slots : Nat} {Z : State} {a0 : Array Value} (o0 : Addr) (s3 s4 : Slot) (f : Nat → Int32) (b : Int64) (A K : Nat) (hA : A + K ≤ 4) (n0 : Nat) (g_o0 : n0 ≤ o0)
    (hx : p.tables.exec = Jvm.exec) (hZ : Z.Warmed39 s.vm) (hw : ∀ d ∈ tables_1, d.before a0 Z = true) (hby : c.code = prog_15_method_34_code) (hml : c.maxLocals = 8) (hown : s.vm.findClass "com/example/packstone/packstone/io/GapGroups" = some m.cls) :
    ∀ (r k : Nat) (T0 : State) (h0 : Heap) (locs : List Loc), k + r = K → Stand p l e R s m args below meth c T0 locs cells slots → T0.heap = h0 → Fr n0 locs → own_V Z h0 o0 .int 4 (fun j => .int (own_g f A b k j)) →
      ∃ (T' : State) (h' : Heap) (locs' : List Loc), Stand p l e R s m args below meth c T' locs' cells slots ∧ T'.heap = h' ∧ Fr n0 locs' ∧ Keep h0 h' [o0] ∧ own_V Z h' o0 .int 4 (fun j => .int (own_g f A b K j)) ∧
        ∀ target, Steps p.tables e below (T'.setTop (mkF m 39 #[.val (.ref o0), .val (.int (Int32.ofNat A)), .val (.int (Int32.ofNat K)), s3, s4, .val (.long (own_run f A b K)), .second, .val (.int (Int32.ofNat (A + K)))] [])) target → Steps p.tables e below (T0.setTop (mkF m 6 #[.val (.ref o0), .val (.int (Int32.ofNat A)), .val (.int (Int32.ofNat K)), s3, s4, .val (.long (own_run f A b k)), .second, .val (.int (Int32.ofNat (A + k)))] [])) target := by
  intro r
  induction r with
  | zero =>
    intro k T0 h0 locs hk X0 e0 N V
    have hk' : k = K := by omega
    subst hk'
    obtain ⟨T1, X1, e1, st1⟩ := tn1_6_39 (.val (.ref o0)) (Int32.ofNat A) (Int32.ofNat k) s3 s4 (.val (.long (own_run f A b k))) .second (Int32.ofNat (A + k)) X0 hx hZ hw hby hml hown e0 (by rw [own_add]; exact Int32.lt_irrefl)
    exact ⟨T1, h0, locs, X1, e1, N, Keep.refl h0 [o0], V, st1⟩
  | succ r ih =>
    intro k T0 h0 locs hk X0 e0 N V
    obtain ⟨cl, Ar, S, H⟩ := V
    obtain ⟨T1, h1, L1, X1, e1, N1, K1, Ar1, st1⟩ := tn1_6_6 o0 (Int32.ofNat A) (Int32.ofNat K) s3 s4 (own_run f A b k) (Int32.ofNat (A + k)) (f (A + k)) cl n0 X0 hx hZ hw hby hml hown e0 Ar (own_inb S (by omega) (by decide)) (by rw [own_hat H (by omega) (by decide), own_gi]) (own_inb S (by omega) (by decide)) g_o0 N (by rw [own_add]; exact (own_lt (by omega) (by omega)).mpr (by omega))
    have V1 : own_V Z h1 o0 .int 4 (fun j => .int (own_g f A b (k + 1) j)) := (own_set Ar1 S H (by omega) (by decide)).eqv (fun j _ => own_gs f A b k j)
    obtain ⟨T', h', L', X', e', N', K', V', st⟩ := ih (k + 1) T1 h1 L1 (by omega) X1 e1 N1 V1
    refine ⟨T', h', L', X', e', N', K1.trans K' (fun x hx => Or.inl hx), V', fun target q => st1 target ?_⟩
    rw [own_one]
    exact st target q
theorem d1_0 : decode prog_15_method_34_code 0 = .ok (.lload_n 3, 1) := by decide +kernel
theorem d1_1 : decode prog_15_method_34_code 1 = .ok (.lstore 5, 2) := by decide +kernel
theorem d1_3 : decode prog_15_method_34_code 3 = .ok (.iload_n 1, 1) := by decide +kernel
theorem d1_4 : decode prog_15_method_34_code 4 = .ok (.istore 7, 2) := by decide +kernel
theorem d1_39 : decode prog_15_method_34_code 39 = .ok (.lload 5, 2) := by decide +kernel
theorem d1_41 : decode prog_15_method_34_code 41 = .ok (.lreturn, 1) := by decide +kernel
theorem pn_1 : plainName "com/example/packstone/packstone/io/GapGroups" = true := by first | (simp [plainName, overriddenIn]; done) | decide +kernel
theorem ef_1 (m : MethodId) (x0 : Addr) (x1 : Int32) (x2 : Int32) (x3 : Int64) : entryFrame m #[(.ref x0), (.int x1), (.int x2), (.long x3)] 8 = mkF m 0 #[.val (.ref x0), .val (.int x1), .val (.int x2), .val (.long x3), .second, .unset, .unset, .unset] [] := by first | (simp [entryFrame, mkF, argsToLocals, Value.category]; done) | rfl
def Q1 (Z : State) (a1 : Addr) (q4 : Int64) (f : Nat → Int32) (A : Nat) (K : Nat) (h0 : Heap) (n0 : Nat) (v : Option Value) (h : Heap) (L : List Loc) : Prop := v = some (.long (own_run f A q4 K)) ∧ Fr n0 L ∧ Keep h0 h [a1] ∧ own_V Z h a1 .int 4 (fun j => .int (own_g f A q4 K j))
set_option maxRecDepth 65536 in
set_option maxHeartbeats 40000000 in
theorem rm1 (l : Launch) (Z : State) (a0 : Array Value) (hw : ∀ d ∈ tables_1, d.before a0 Z = true) (ws : List Jvm.Cond) (a1 : Addr) (q4 : Int64) (f : Nat → Int32) (A : Nat) (K : Nat) (h0 : Heap) (n0 : Nat) (Z0 : n0 ≤ h0.size) (V_a1 : own_V Z h0 a1 .int 4 (fun j => .int (f j))) (hA : A + K ≤ 4) (g_a1 : n0 ≤ a1) :
    MetFree l (⟨"com/example/packstone/packstone/io/GapGroups", "addUp", "([IIIJ)J"⟩ : MethodName) (head1 (Jvm.Cond.code (⟨"com/example/packstone/packstone/io/GapGroups", "addUp", "([IIIJ)J"⟩ : MethodName) prog_15_method_34_code 8 (some .long) :: ws) ({ frames := 0, cells := 0, slots := 0, locals := 0 } : Room)) (fun a U => a = #[(.ref a1), (.int (Int32.ofNat A)), (.int (Int32.ofNat K)), (.long q4)] ∧ Z.Warmed39 U.vm ∧ U.heap = h0) (fun _ _ _ _ _ => True) (fun _ U o U' => ∃ v L, o = .returned v ∧ Q1 Z a1 q4 f A K h0 n0 v U'.heap L ∧ FrameEnd U o U' L ({ frames := 0, cells := 0, slots := 0, locals := 0 } : Room).cells ({ frames := 0, cells := 0, slots := 0, locals := 0 } : Room).slots) := by
  refine MetFree.of_bodySF (plainFor_of_name pn_1) hisR ?_
  intro p e s m args below meth c s₁ Bd hml0 hP hK
  obtain ⟨rfl, hZ, hh⟩ := hP
  have hx := Bd.exec
  have hby := Bd.bytes
  have hml : c.maxLocals = 8 := hml0
  have hown : s.vm.findClass "com/example/packstone/packstone/io/GapGroups" = some m.cls := findClass_of_methodNamed Bd.named
  have hnm := (name_of_methodNamed Bd.named Bd.method).1
  have X0 : Stand p l e ({ frames := 0, cells := 0, slots := 0, locals := 0 } : Room) s m #[(.ref a1), (.int (Int32.ofNat A)), (.int (Int32.ofNat K)), (.long q4)] below meth c s₁ [] 0 0 := Stand.of_body Bd
  have e0 : s₁.heap = h0 := by rw [← hh, Bd.state]; rfl
  have N0 := Fr.nil n0
  have go0 : ∀ t, Steps p.tables e below (s₁.setTop (mkF m 0 #[.val (.ref a1), .val (.int (Int32.ofNat A)), .val (.int (Int32.ofNat K)), .val (.long q4), .second, .unset, .unset, .unset] [])) t → Steps p.tables e below (s₁.setTop (entryFrame m #[(.ref a1), (.int (Int32.ofNat A)), (.int (Int32.ofNat K)), (.long q4)] 8)) t := fun t k => castTop (ef_1 m a1 (Int32.ofNat A) (Int32.ofNat K) q4) k
  have go1 : ∀ t, Steps p.tables e below (s₁.setTop (mkF m 6 #[.val (.ref a1), .val (.int (Int32.ofNat A)), .val (.int (Int32.ofNat K)), .val (.long q4), .second, .val (.long q4), .second, .val (.int (Int32.ofNat A))] [])) t → Steps p.tables e below (s₁.setTop (entryFrame m #[(.ref a1), (.int (Int32.ofNat A)), (.int (Int32.ofNat K)), (.long q4)] 8)) t := by
    intro t k
    refine go0 t ?_
    show Steps p.tables e below (s₁.setTop (mkF m 0 #[.val (.ref a1), .val (.int (Int32.ofNat A)), .val (.int (Int32.ofNat K)), .val (.long q4), .second, .unset, .unset, .unset] [])) _
    refine XS.lloadN X0.here hx rfl (hb hby d1_0) rfl ?_
    show Steps p.tables e below (s₁.setTop (mkF m 1 #[.val (.ref a1), .val (.int (Int32.ofNat A)), .val (.int (Int32.ofNat K)), .val (.long q4), .second, .unset, .unset, .unset] [(.long q4)])) _
    refine XS.lstore X0.here hx rfl (hb hby d1_1) rfl (l' := #[.val (.ref a1), .val (.int (Int32.ofNat A)), .val (.int (Int32.ofNat K)), .val (.long q4), .second, .val (.long q4), .second, .unset]) rfl ?_
    show Steps p.tables e below (s₁.setTop (mkF m 3 #[.val (.ref a1), .val (.int (Int32.ofNat A)), .val (.int (Int32.ofNat K)), .val (.long q4), .second, .val (.long q4), .second, .unset] [])) _
    refine XS.iloadN X0.here hx rfl (hb hby d1_3) rfl ?_
    show Steps p.tables e below (s₁.setTop (mkF m 4 #[.val (.ref a1), .val (.int (Int32.ofNat A)), .val (.int (Int32.ofNat K)), .val (.long q4), .second, .val (.long q4), .second, .unset] [(.int (Int32.ofNat A))])) _
    refine XS.istore X0.here hx rfl (hb hby d1_4) rfl (l' := #[.val (.ref a1), .val (.int (Int32.ofNat A)), .val (.int (Int32.ofNat K)), .val (.long q4), .second, .val (.long q4), .second, .val (.int (Int32.ofNat A))]) rfl ?_
    exact k
  obtain ⟨TL, hL, LL, XL, eL, NL, KL, VL, stL⟩ := loop1 a1 (.val (.long q4)) .second f q4 A K hA n0 g_a1 hx hZ hw hby hml hown K 0 s₁ h0 [] (by omega) X0 e0 N0 (V_a1.eqv (fun j _ => by rw [own_g0]))
  have go2 : ∀ t, Steps p.tables e below (TL.setTop (mkF m 39 #[.val (.ref a1), .val (.int (Int32.ofNat A)), .val (.int (Int32.ofNat K)), .val (.long q4), .second, .val (.long (own_run f A q4 K)), .second, .val (.int (Int32.ofNat (A + K)))] [])) t → Steps p.tables e below (s₁.setTop (entryFrame m #[(.ref a1), (.int (Int32.ofNat A)), (.int (Int32.ofNat K)), (.long q4)] 8)) t := fun t k => go1 t (stL _ k)
  have go3 : ∀ t, Steps p.tables e below (TL.setTop (mkF m 41 #[.val (.ref a1), .val (.int (Int32.ofNat A)), .val (.int (Int32.ofNat K)), .val (.long q4), .second, .val (.long (own_run f A q4 K)), .second, .val (.int (Int32.ofNat (A + K)))] [(.long (own_run f A q4 K))])) t → Steps p.tables e below (s₁.setTop (entryFrame m #[(.ref a1), (.int (Int32.ofNat A)), (.int (Int32.ofNat K)), (.long q4)] 8)) t := by
    intro t k
    refine go2 t ?_
    show Steps p.tables e below (TL.setTop (mkF m 39 #[.val (.ref a1), .val (.int (Int32.ofNat A)), .val (.int (Int32.ofNat K)), .val (.long q4), .second, .val (.long (own_run f A q4 K)), .second, .val (.int (Int32.ofNat (A + K)))] [])) _
    refine XS.lload XL.here hx rfl (hb hby d1_39) rfl ?_
    exact k
  obtain ⟨fs, hr, hrun, hended, hW, hsame⟩ := XL.leave (v := some (.long (own_run f A q4 K))) (fun h => by rw [Bd.returns] at h; cases h)
  refine ⟨_, _, go3 _ ?_, hrun, hended, _, _, rfl, ?_, ⟨_, rfl⟩, hW, hsame.mono (by decide) (by decide)⟩
  · show Steps p.tables e below (TL.setTop (mkF m 41 #[.val (.ref a1), .val (.int (Int32.ofNat A)), .val (.int (Int32.ofNat K)), .val (.long q4), .second, .val (.long (own_run f A q4 K)), .second, .val (.int (Int32.ofNat (A + K)))] [(.long (own_run f A q4 K))])) _
    exact XL.lreturnOut hx Bd.returns (hb hby d1_41) hr
  · show Q1 Z a1 q4 f A K h0 n0 _ TL.heap _
    rw [eL]
    exact ⟨rfl, NL, KL, VL⟩
theorem d2_0 : decode method_3_code 0 = .ok (.iload_n 1, 1) := by decide +kernel
theorem d2_1 : decode method_3_code 1 = .ok (.ifCond .ne 7, 3) := by decide +kernel
theorem d2_4 : decode method_3_code 4 = .ok (.lconst 0, 1) := by decide +kernel
theorem d2_5 : decode method_3_code 5 = .ok (.goto 8, 3) := by decide +kernel
theorem d2_8 : decode method_3_code 8 = .ok (.aload_n 0, 1) := by decide +kernel
theorem d2_9 : decode method_3_code 9 = .ok (.iload_n 1, 1) := by decide +kernel
theorem d2_10 : decode method_3_code 10 = .ok (.iconst 1, 1) := by decide +kernel
theorem d2_11 : decode method_3_code 11 = .ok (.isub, 1) := by decide +kernel
theorem d2_12 : decode method_3_code 12 = .ok (.laload, 1) := by decide +kernel
theorem d2_13 : decode method_3_code 13 = .ok (.lreturn, 1) := by decide +kernel
theorem pn_2 : plainName "com/example/packstone/packstone/io/GapGroupsAddUpPinLaw" = true := by first | (simp [plainName, overriddenIn]; done) | decide +kernel
theorem ef_2 (m : MethodId) (x0 : Addr) (x1 : Int32) : entryFrame m #[(.ref x0), (.int x1)] 2 = mkF m 0 #[.val (.ref x0), .val (.int x1)] [] := by first | (simp [entryFrame, mkF, argsToLocals, Value.category]; done) | rfl
def Q2 (Z : State) (a1 : Addr) (p2 : Int32) (S : Nat → Int64) (n : Nat) (h0 : Heap) (n0 : Nat) (v : Option Value) (h : Heap) (L : List Loc) : Prop := v = some (.long (own_sb S n)) ∧ Fr n0 L ∧ h = h0
set_option maxRecDepth 65536 in
set_option maxHeartbeats 40000000 in
theorem rm2 (l : Launch) (Z : State) (a0 : Array Value) (hw : ∀ d ∈ tables_1, d.before a0 Z = true) (ws : List Jvm.Cond) (a1 : Addr) (p2 : Int32) (S : Nat → Int64) (n : Nat) (h0 : Heap) (n0 : Nat) (Z0 : n0 ≤ h0.size) (V_a1 : own_V Z h0 a1 .long 4 (fun j => .long (S j))) (hn : n ≤ 4) (hp2 : p2 = Int32.ofNat n) :
    MetFree l (⟨"com/example/packstone/packstone/io/GapGroupsAddUpPinLaw", "sumBefore", "([JI)J"⟩ : MethodName) (head1 (Jvm.Cond.code (⟨"com/example/packstone/packstone/io/GapGroupsAddUpPinLaw", "sumBefore", "([JI)J"⟩ : MethodName) method_3_code 2 (some .long) :: ws) ({ frames := 0, cells := 0, slots := 0, locals := 0 } : Room)) (fun a U => a = #[(.ref a1), (.int p2)] ∧ Z.Warmed39 U.vm ∧ U.heap = h0) (fun _ _ _ _ _ => True) (fun _ U o U' => ∃ v L, o = .returned v ∧ Q2 Z a1 p2 S n h0 n0 v U'.heap L ∧ FrameEnd U o U' L ({ frames := 0, cells := 0, slots := 0, locals := 0 } : Room).cells ({ frames := 0, cells := 0, slots := 0, locals := 0 } : Room).slots) := by
  refine MetFree.of_bodySF (plainFor_of_name pn_2) hisR ?_
  intro p e s m args below meth c s₁ Bd hml0 hP hK
  obtain ⟨rfl, hZ, hh⟩ := hP
  have hx := Bd.exec
  have hby := Bd.bytes
  have hml : c.maxLocals = 2 := hml0
  have hown : s.vm.findClass "com/example/packstone/packstone/io/GapGroupsAddUpPinLaw" = some m.cls := findClass_of_methodNamed Bd.named
  have hnm := (name_of_methodNamed Bd.named Bd.method).1
  have X0 : Stand p l e ({ frames := 0, cells := 0, slots := 0, locals := 0 } : Room) s m #[(.ref a1), (.int p2)] below meth c s₁ [] 0 0 := Stand.of_body Bd
  have e0 : s₁.heap = h0 := by rw [← hh, Bd.state]; rfl
  have N0 := Fr.nil n0
  have go0 : ∀ t, Steps p.tables e below (s₁.setTop (mkF m 0 #[.val (.ref a1), .val (.int p2)] [])) t → Steps p.tables e below (s₁.setTop (entryFrame m #[(.ref a1), (.int p2)] 2)) t := fun t k => castTop (ef_2 m a1 p2) k
  obtain ⟨cl, Ar, Sz, H⟩ := V_a1
  have go1 : ∀ t, Steps p.tables e below (s₁.setTop (mkF m 1 #[.val (.ref a1), .val (.int p2)] [(.int p2)])) t → Steps p.tables e below (s₁.setTop (entryFrame m #[(.ref a1), (.int p2)] 2)) t := by
    intro t k
    refine go0 t ?_
    show Steps p.tables e below (s₁.setTop (mkF m 0 #[.val (.ref a1), .val (.int p2)] [])) _
    refine XS.iloadN X0.here hx rfl (hb hby d2_0) rfl ?_
    exact k
  by_cases hc1 : p2 = (0 : Int32)
  · skip
    have go2 : ∀ t, Steps p.tables e below (s₁.setTop (mkF m 13 #[.val (.ref a1), .val (.int p2)] [(.long (0 : Int64))])) t → Steps p.tables e below (s₁.setTop (entryFrame m #[(.ref a1), (.int p2)] 2)) t := by
      intro t k
      refine go1 t ?_
      show Steps p.tables e below (s₁.setTop (mkF m 1 #[.val (.ref a1), .val (.int p2)] [(.int p2)])) _
      refine XS.ifNo X0.here hx rfl (hb hby d2_1) rfl ((if0 _ _).trans (teq hc1).2) ?_
      show Steps p.tables e below (s₁.setTop (mkF m 4 #[.val (.ref a1), .val (.int p2)] [])) _
      refine XS.lconst X0.here hx rfl (hb hby d2_4) ?_
      show Steps p.tables e below (s₁.setTop (mkF m 5 #[.val (.ref a1), .val (.int p2)] [(.long (0 : Int64))])) _
      refine XS.goto X0.here hx rfl (pc0 := 5) (pc' := 13) rfl (hb hby d2_5) (by decide) (by decide) ?_
      exact k
    obtain ⟨fs, hr, hrun, hended, hW, hsame⟩ := X0.leave (v := some (.long (0 : Int64))) (fun h => by rw [Bd.returns] at h; cases h)
    refine ⟨_, _, go2 _ ?_, hrun, hended, _, _, rfl, ?_, ⟨_, rfl⟩, hW, hsame.mono (by decide) (by decide)⟩
    · show Steps p.tables e below (s₁.setTop (mkF m 13 #[.val (.ref a1), .val (.int p2)] [(.long (0 : Int64))])) _
      exact X0.lreturnOut hx Bd.returns (hb hby d2_13) hr
    · show Q2 Z a1 p2 S n h0 n0 _ s₁.heap _
      rw [e0]
      exact ⟨by rw [own_sb, if_pos (by have q := congrArg Int32.toInt (hp2.symm.trans hc1); rw [own_ti (by omega)] at q; exact Int.ofNat_inj.mp q)], N0, rfl⟩
  · skip
    have hn0 : n ≠ 0 := fun q => hc1 (by rw [hp2, q]; rfl)
    have e1 : p2 - (1 : Int32) = Int32.ofNat (n - 1) := own_of (by omega) (by have := c_isub p2 1; have r := rng32 (p2 - 1); rw [hp2, own_ti (by omega), show (1 : Int32).toInt = 1 from rfl] at this; rw [hp2] at r; rw [hp2]; omega)
    have hin : ¬ ((p2 - (1 : Int32)) < 0 ∨ cl.slots.size ≤ (p2 - (1 : Int32)).toNatClampNeg) := by rw [e1]; exact own_inb Sz (by omega) (by decide)
    have hat : cl.slots[(p2 - (1 : Int32)).toNatClampNeg]? = some (.long (S (n - 1))) := by rw [e1]; exact own_hat H (by omega) (by decide)
    have go3 : ∀ t, Steps p.tables e below (s₁.setTop (mkF m 13 #[.val (.ref a1), .val (.int p2)] [(.long (S (n - 1)))])) t → Steps p.tables e below (s₁.setTop (entryFrame m #[(.ref a1), (.int p2)] 2)) t := by
      intro t k
      refine go1 t ?_
      show Steps p.tables e below (s₁.setTop (mkF m 1 #[.val (.ref a1), .val (.int p2)] [(.int p2)])) _
      refine XS.ifYes X0.here hx rfl (pc0 := 1) (pc' := 8) rfl (hb hby d2_1) rfl ((if0 _ _).trans (feq hc1).2) (by decide) (by decide) ?_
      show Steps p.tables e below (s₁.setTop (mkF m 8 #[.val (.ref a1), .val (.int p2)] [])) _
      refine XS.aloadN X0.here hx rfl (hb hby d2_8) rfl rfl ?_
      show Steps p.tables e below (s₁.setTop (mkF m 9 #[.val (.ref a1), .val (.int p2)] [(.ref a1)])) _
      refine XS.iloadN X0.here hx rfl (hb hby d2_9) rfl ?_
      show Steps p.tables e below (s₁.setTop (mkF m 10 #[.val (.ref a1), .val (.int p2)] [(.int p2), (.ref a1)])) _
      refine XS.iconst X0.here hx rfl (hb hby d2_10) ?_
      show Steps p.tables e below (s₁.setTop (mkF m 11 #[.val (.ref a1), .val (.int p2)] [(.int (1 : Int32)), (.int p2), (.ref a1)])) _
      refine XS.isub X0.here hx rfl (hb hby d2_11) rfl ?_
      show Steps p.tables e below (s₁.setTop (mkF m 12 #[.val (.ref a1), .val (.int p2)] [(.int (p2 - (1 : Int32))), (.ref a1)])) _
      refine X0.laload hx (j := (p2 - (1 : Int32))) (v := (.long (S (n - 1)))) (by rw [e0]; exact Ar.1) (State.isArrayOf_alike hZ.alike Ar.2.1) Ar.2.2 hin hat (g := (mkF m 12 #[.val (.ref a1), .val (.int p2)] [(.int (p2 - (1 : Int32))), (.ref a1)])) rfl rfl (hb hby d2_12) _ ?_
      exact k
    obtain ⟨fs, hr, hrun, hended, hW, hsame⟩ := X0.leave (v := some (.long (S (n - 1)))) (fun h => by rw [Bd.returns] at h; cases h)
    refine ⟨_, _, go3 _ ?_, hrun, hended, _, _, rfl, ?_, ⟨_, rfl⟩, hW, hsame.mono (by decide) (by decide)⟩
    · show Steps p.tables e below (s₁.setTop (mkF m 13 #[.val (.ref a1), .val (.int p2)] [(.long (S (n - 1)))])) _
      exact X0.lreturnOut hx Bd.returns (hb hby d2_13) hr
    · show Q2 Z a1 p2 S n h0 n0 _ s₁.heap _
      rw [e0]
      exact ⟨by rw [own_sb, if_neg hn0], N0, rfl⟩
theorem d3_0 : decode method_4_code 0 = .ok (.iload 7, 2) := by decide +kernel
theorem d3_2 : decode method_4_code 2 = .ok (.iload 5, 2) := by decide +kernel
theorem d3_4 : decode method_4_code 4 = .ok (.if_icmp .lt 40, 3) := by decide +kernel
theorem d3_7 : decode method_4_code 7 = .ok (.iload 7, 2) := by decide +kernel
theorem d3_9 : decode method_4_code 9 = .ok (.iload 6, 2) := by decide +kernel
theorem d3_11 : decode method_4_code 11 = .ok (.if_icmp .ge 33, 3) := by decide +kernel
theorem d3_14 : decode method_4_code 14 = .ok (.lload_n 3, 1) := by decide +kernel
theorem d3_15 : decode method_4_code 15 = .ok (.iload 7, 2) := by decide +kernel
theorem d3_17 : decode method_4_code 17 = .ok (.iload 5, 2) := by decide +kernel
theorem d3_19 : decode method_4_code 19 = .ok (.isub, 1) := by decide +kernel
theorem d3_20 : decode method_4_code 20 = .ok (.iconst 1, 1) := by decide +kernel
theorem d3_21 : decode method_4_code 21 = .ok (.iadd, 1) := by decide +kernel
theorem d3_22 : decode method_4_code 22 = .ok (.i2l, 1) := by decide +kernel
theorem d3_23 : decode method_4_code 23 = .ok (.ladd, 1) := by decide +kernel
theorem d3_24 : decode method_4_code 24 = .ok (.aload_n 2, 1) := by decide +kernel
theorem d3_25 : decode method_4_code 25 = .ok (.iload 7, 2) := by decide +kernel
theorem d3_27 : decode method_4_code 27 = .ok (.iconst 1, 1) := by decide +kernel
theorem d3_28 : decode method_4_code 28 = .ok (.iadd, 1) := by decide +kernel
theorem d3_29 : decode method_4_code 29 = .ok (.invokestatic 13, 3) := by decide +kernel
theorem d3_32 : decode method_4_code 32 = .ok (.ladd, 1) := by decide +kernel
theorem d3_33 : decode method_4_code 33 = .ok (.aload_n 2, 1) := by decide +kernel
theorem d3_34 : decode method_4_code 34 = .ok (.iload 5, 2) := by decide +kernel
theorem d3_36 : decode method_4_code 36 = .ok (.invokestatic 13, 3) := by decide +kernel
theorem d3_39 : decode method_4_code 39 = .ok (.lsub, 1) := by decide +kernel
theorem d3_40 : decode method_4_code 40 = .ok (.l2i, 1) := by decide +kernel
theorem d3_41 : decode method_4_code 41 = .ok (.goto 7, 3) := by decide +kernel
theorem d3_44 : decode method_4_code 44 = .ok (.aload_n 1, 1) := by decide +kernel
theorem d3_45 : decode method_4_code 45 = .ok (.iload 7, 2) := by decide +kernel
theorem d3_47 : decode method_4_code 47 = .ok (.iaload, 1) := by decide +kernel
theorem d3_48 : decode method_4_code 48 = .ok (.istore 8, 2) := by decide +kernel
theorem d3_50 : decode method_4_code 50 = .ok (.aload_n 0, 1) := by decide +kernel
theorem d3_51 : decode method_4_code 51 = .ok (.iload 7, 2) := by decide +kernel
theorem d3_53 : decode method_4_code 53 = .ok (.iaload, 1) := by decide +kernel
theorem d3_54 : decode method_4_code 54 = .ok (.iload 8, 2) := by decide +kernel
theorem d3_56 : decode method_4_code 56 = .ok (.if_icmp .ne 7, 3) := by decide +kernel
theorem d3_59 : decode method_4_code 59 = .ok (.iconst 1, 1) := by decide +kernel
theorem d3_60 : decode method_4_code 60 = .ok (.goto 4, 3) := by decide +kernel
theorem d3_64 : decode method_4_code 64 = .ok (.ireturn, 1) := by decide +kernel
theorem pd_3_0 : parseMethodDescriptor "([JI)J" = some ⟨[(.array .long), .int], some .long⟩ := by decide +kernel
theorem pn_3 : plainName "com/example/packstone/packstone/io/GapGroupsAddUpPinLaw" = true := by first | (simp [plainName, overriddenIn]; done) | decide +kernel
theorem ef_3 (m : MethodId) (x0 : Addr) (x1 : Addr) (x2 : Addr) (x3 : Int64) (x4 : Int32) (x5 : Int32) (x6 : Int32) : entryFrame m #[(.ref x0), (.ref x1), (.ref x2), (.long x3), (.int x4), (.int x5), (.int x6)] 9 = mkF m 0 #[.val (.ref x0), .val (.ref x1), .val (.ref x2), .val (.long x3), .second, .val (.int x4), .val (.int x5), .val (.int x6), .unset] [] := by first | (simp [entryFrame, mkF, argsToLocals, Value.category]; done) | rfl
def Q3 (Z : State) (a1 : Addr) (a2 : Addr) (a3 : Addr) (q4 : Int64) (p5 : Int32) (p6 : Int32) (p7 : Int32) (G : Nat → Int32) (O : Nat → Int32) (S : Nat → Int64) (A : Nat) (B : Nat) (j : Nat) (h0 : Heap) (n0 : Nat) (v : Option Value) (h : Heap) (L : List Loc) : Prop := v = some (.int (1 : Int32)) ∧ Fr n0 L ∧ h = h0
set_option maxRecDepth 65536 in
set_option maxHeartbeats 40000000 in
theorem rm3 (l : Launch) (Z : State) (a0 : Array Value) (hw : ∀ d ∈ tables_1, d.before a0 Z = true) (ws : List Jvm.Cond) (a1 : Addr) (a2 : Addr) (a3 : Addr) (q4 : Int64) (p5 : Int32) (p6 : Int32) (p7 : Int32) (G : Nat → Int32) (O : Nat → Int32) (S : Nat → Int64) (A : Nat) (B : Nat) (j : Nat) (h0 : Heap) (n0 : Nat) (Z0 : n0 ≤ h0.size) (V1 : own_V Z h0 a1 .int 4 (fun i => .int (G i))) (V2 : own_V Z h0 a2 .int 4 (fun i => .int (O i))) (V3 : own_V Z h0 a3 .long 4 (fun i => .long (S i))) (hA : A ≤ 3) (hB : B ≤ 4) (hj : j ≤ 3) (hp5 : p5 = Int32.ofNat A) (hp6 : p6 = Int32.ofNat B) (hp7 : p7 = Int32.ofNat j) (hi : A ≤ j ∧ j < B → G j = (q4 + Int64.ofNat (j - A + 1) + own_sb S (j + 1) - own_sb S A).toInt32) (ho : ¬ (A ≤ j ∧ j < B) → G j = O j) :
    MetFree l (⟨"com/example/packstone/packstone/io/GapGroupsAddUpPinLaw", "same", "([I[I[JJIII)Z"⟩ : MethodName) (head1 (Jvm.Cond.code (⟨"com/example/packstone/packstone/io/GapGroupsAddUpPinLaw", "same", "([I[I[JJIII)Z"⟩ : MethodName) method_4_code 9 (some .boolean) :: ws) ({ frames := 1, cells := 0, slots := 0, locals := 15 } : Room)) (fun a U => a = #[(.ref a1), (.ref a2), (.ref a3), (.long q4), (.int p5), (.int p6), (.int p7)] ∧ Z.Warmed39 U.vm ∧ U.heap = h0) (fun _ _ _ _ _ => True) (fun _ U o U' => ∃ v L, o = .returned v ∧ Q3 Z a1 a2 a3 q4 p5 p6 p7 G O S A B j h0 n0 v U'.heap L ∧ FrameEnd U o U' L ({ frames := 1, cells := 0, slots := 0, locals := 15 } : Room).cells ({ frames := 1, cells := 0, slots := 0, locals := 15 } : Room).slots) := by
  refine MetFree.of_bodySF (plainFor_of_name pn_3) hisR ?_
  intro p e s m args below meth c s₁ Bd hml0 hP hK
  obtain ⟨rfl, hZ, hh⟩ := hP
  have hx := Bd.exec
  have hby := Bd.bytes
  have hml : c.maxLocals = 9 := hml0
  have hown : s.vm.findClass "com/example/packstone/packstone/io/GapGroupsAddUpPinLaw" = some m.cls := findClass_of_methodNamed Bd.named
  have hnm := (name_of_methodNamed Bd.named Bd.method).1
  have X0 : Stand p l e ({ frames := 1, cells := 0, slots := 0, locals := 15 } : Room) s m #[(.ref a1), (.ref a2), (.ref a3), (.long q4), (.int p5), (.int p6), (.int p7)] below meth c s₁ [] 0 0 := Stand.of_body Bd
  have e0 : s₁.heap = h0 := by rw [← hh, Bd.state]; rfl
  have N0 := Fr.nil n0
  have go0 : ∀ t, Steps p.tables e below (s₁.setTop (mkF m 0 #[.val (.ref a1), .val (.ref a2), .val (.ref a3), .val (.long q4), .second, .val (.int p5), .val (.int p6), .val (.int p7), .unset] [])) t → Steps p.tables e below (s₁.setTop (entryFrame m #[(.ref a1), (.ref a2), (.ref a3), (.long q4), (.int p5), (.int p6), (.int p7)] 9)) t := fun t k => castTop (ef_3 m a1 a2 a3 q4 p5 p6 p7) k
  have W3 := V3
  obtain ⟨c1, A1, S1, H1⟩ := V1
  obtain ⟨c2, A2, S2, H2⟩ := V2
  have hin1 : ¬ (p7 < 0 ∨ c1.slots.size ≤ (p7).toNatClampNeg) := by rw [hp7]; exact own_inb S1 (by omega) (by decide)
  have hat1 : c1.slots[(p7).toNatClampNeg]? = some (.int (G j)) := by rw [hp7]; exact own_hat H1 (by omega) (by decide)
  have hin2 : ¬ (p7 < 0 ∨ c2.slots.size ≤ (p7).toNatClampNeg) := by rw [hp7]; exact own_inb S2 (by omega) (by decide)
  have hat2 : c2.slots[(p7).toNatClampNeg]? = some (.int (O j)) := by rw [hp7]; exact own_hat H2 (by omega) (by decide)
  have q74 : p7 < p5 ↔ j < A := by rw [hp7, hp5]; exact own_lt (by omega) (by omega)
  have q76 : p7 < p6 ↔ j < B := by rw [hp7, hp6]; exact own_lt (by omega) (by omega)
  have go1 : ∀ t, Steps p.tables e below (s₁.setTop (mkF m 4 #[.val (.ref a1), .val (.ref a2), .val (.ref a3), .val (.long q4), .second, .val (.int p5), .val (.int p6), .val (.int p7), .unset] [(.int p5), (.int p7)])) t → Steps p.tables e below (s₁.setTop (entryFrame m #[(.ref a1), (.ref a2), (.ref a3), (.long q4), (.int p5), (.int p6), (.int p7)] 9)) t := by
    intro t k
    refine go0 t ?_
    show Steps p.tables e below (s₁.setTop (mkF m 0 #[.val (.ref a1), .val (.ref a2), .val (.ref a3), .val (.long q4), .second, .val (.int p5), .val (.int p6), .val (.int p7), .unset] [])) _
    refine XS.iload X0.here hx rfl (hb hby d3_0) rfl ?_
    show Steps p.tables e below (s₁.setTop (mkF m 2 #[.val (.ref a1), .val (.ref a2), .val (.ref a3), .val (.long q4), .second, .val (.int p5), .val (.int p6), .val (.int p7), .unset] [(.int p7)])) _
    refine XS.iload X0.here hx rfl (hb hby d3_2) rfl ?_
    exact k
  by_cases hc4 : p7 < p5
  · skip
    have go2 : ∀ t, Steps p.tables e below (s₁.setTop (mkF m 64 #[.val (.ref a1), .val (.ref a2), .val (.ref a3), .val (.long q4), .second, .val (.int p5), .val (.int p6), .val (.int p7), .val (.int (O j))] [(.int (1 : Int32))])) t → Steps p.tables e below (s₁.setTop (entryFrame m #[(.ref a1), (.ref a2), (.ref a3), (.long q4), (.int p5), (.int p6), (.int p7)] 9)) t := by
      intro t k
      refine go1 t ?_
      show Steps p.tables e below (s₁.setTop (mkF m 4 #[.val (.ref a1), .val (.ref a2), .val (.ref a3), .val (.long q4), .second, .val (.int p5), .val (.int p6), .val (.int p7), .unset] [(.int p5), (.int p7)])) _
      refine XS.icmpYes X0.here hx rfl (pc0 := 4) (pc' := 44) rfl (hb hby d3_4) rfl (tlt hc4).1 (by decide) (by decide) ?_
      show Steps p.tables e below (s₁.setTop (mkF m 44 #[.val (.ref a1), .val (.ref a2), .val (.ref a3), .val (.long q4), .second, .val (.int p5), .val (.int p6), .val (.int p7), .unset] [])) _
      refine XS.aloadN X0.here hx rfl (hb hby d3_44) rfl rfl ?_
      show Steps p.tables e below (s₁.setTop (mkF m 45 #[.val (.ref a1), .val (.ref a2), .val (.ref a3), .val (.long q4), .second, .val (.int p5), .val (.int p6), .val (.int p7), .unset] [(.ref a2)])) _
      refine XS.iload X0.here hx rfl (hb hby d3_45) rfl ?_
      show Steps p.tables e below (s₁.setTop (mkF m 47 #[.val (.ref a1), .val (.ref a2), .val (.ref a3), .val (.long q4), .second, .val (.int p5), .val (.int p6), .val (.int p7), .unset] [(.int p7), (.ref a2)])) _
      refine X0.iaload hx (j := p7) (v := (.int (O j))) (by rw [e0]; exact A2.1) (State.isArrayOf_alike hZ.alike A2.2.1) A2.2.2 hin2 hat2 (g := (mkF m 47 #[.val (.ref a1), .val (.ref a2), .val (.ref a3), .val (.long q4), .second, .val (.int p5), .val (.int p6), .val (.int p7), .unset] [(.int p7), (.ref a2)])) rfl rfl (hb hby d3_47) _ ?_
      show Steps p.tables e below (s₁.setTop (mkF m 48 #[.val (.ref a1), .val (.ref a2), .val (.ref a3), .val (.long q4), .second, .val (.int p5), .val (.int p6), .val (.int p7), .unset] [(.int (O j))])) _
      refine XS.istore X0.here hx rfl (hb hby d3_48) rfl (l' := #[.val (.ref a1), .val (.ref a2), .val (.ref a3), .val (.long q4), .second, .val (.int p5), .val (.int p6), .val (.int p7), .val (.int (O j))]) rfl ?_
      show Steps p.tables e below (s₁.setTop (mkF m 50 #[.val (.ref a1), .val (.ref a2), .val (.ref a3), .val (.long q4), .second, .val (.int p5), .val (.int p6), .val (.int p7), .val (.int (O j))] [])) _
      refine XS.aloadN X0.here hx rfl (hb hby d3_50) rfl rfl ?_
      show Steps p.tables e below (s₁.setTop (mkF m 51 #[.val (.ref a1), .val (.ref a2), .val (.ref a3), .val (.long q4), .second, .val (.int p5), .val (.int p6), .val (.int p7), .val (.int (O j))] [(.ref a1)])) _
      refine XS.iload X0.here hx rfl (hb hby d3_51) rfl ?_
      show Steps p.tables e below (s₁.setTop (mkF m 53 #[.val (.ref a1), .val (.ref a2), .val (.ref a3), .val (.long q4), .second, .val (.int p5), .val (.int p6), .val (.int p7), .val (.int (O j))] [(.int p7), (.ref a1)])) _
      refine X0.iaload hx (j := p7) (v := (.int (G j))) (by rw [e0]; exact A1.1) (State.isArrayOf_alike hZ.alike A1.2.1) A1.2.2 hin1 hat1 (g := (mkF m 53 #[.val (.ref a1), .val (.ref a2), .val (.ref a3), .val (.long q4), .second, .val (.int p5), .val (.int p6), .val (.int p7), .val (.int (O j))] [(.int p7), (.ref a1)])) rfl rfl (hb hby d3_53) _ ?_
      show Steps p.tables e below (s₁.setTop (mkF m 54 #[.val (.ref a1), .val (.ref a2), .val (.ref a3), .val (.long q4), .second, .val (.int p5), .val (.int p6), .val (.int p7), .val (.int (O j))] [(.int (G j))])) _
      refine XS.iload X0.here hx rfl (hb hby d3_54) rfl ?_
      show Steps p.tables e below (s₁.setTop (mkF m 56 #[.val (.ref a1), .val (.ref a2), .val (.ref a3), .val (.long q4), .second, .val (.int p5), .val (.int p6), .val (.int p7), .val (.int (O j))] [(.int (O j)), (.int (G j))])) _
      refine XS.icmpNo X0.here hx rfl (hb hby d3_56) rfl (teq (ho (fun u => absurd (q74.mp hc4) (Nat.not_lt.mpr u.1)))).2 ?_
      show Steps p.tables e below (s₁.setTop (mkF m 59 #[.val (.ref a1), .val (.ref a2), .val (.ref a3), .val (.long q4), .second, .val (.int p5), .val (.int p6), .val (.int p7), .val (.int (O j))] [])) _
      refine XS.iconst X0.here hx rfl (hb hby d3_59) ?_
      show Steps p.tables e below (s₁.setTop (mkF m 60 #[.val (.ref a1), .val (.ref a2), .val (.ref a3), .val (.long q4), .second, .val (.int p5), .val (.int p6), .val (.int p7), .val (.int (O j))] [(.int (1 : Int32))])) _
      refine XS.goto X0.here hx rfl (pc0 := 60) (pc' := 64) rfl (hb hby d3_60) (by decide) (by decide) ?_
      exact k
    obtain ⟨fs, hr, hrun, hended, hW, hsame⟩ := X0.leave (v := some (.int (1 : Int32))) (fun h => by rw [Bd.returns] at h; cases h)
    refine ⟨_, _, go2 _ ?_, hrun, hended, _, _, rfl, ?_, ⟨_, rfl⟩, hW, hsame.mono (by decide) (by decide)⟩
    · show Steps p.tables e below (s₁.setTop (mkF m 64 #[.val (.ref a1), .val (.ref a2), .val (.ref a3), .val (.long q4), .second, .val (.int p5), .val (.int p6), .val (.int p7), .val (.int (O j))] [(.int (1 : Int32))])) _
      exact retN X0 hx (t := .boolean) Bd.returns (by simp) (hb hby d3_64) hr
    · show Q3 Z a1 a2 a3 q4 p5 p6 p7 G O S A B j h0 n0 _ s₁.heap _
      rw [e0]
      exact ⟨rfl, N0, rfl⟩
  · skip
    have go3 : ∀ t, Steps p.tables e below (s₁.setTop (mkF m 11 #[.val (.ref a1), .val (.ref a2), .val (.ref a3), .val (.long q4), .second, .val (.int p5), .val (.int p6), .val (.int p7), .unset] [(.int p6), (.int p7)])) t → Steps p.tables e below (s₁.setTop (entryFrame m #[(.ref a1), (.ref a2), (.ref a3), (.long q4), (.int p5), (.int p6), (.int p7)] 9)) t := by
      intro t k
      refine go1 t ?_
      show Steps p.tables e below (s₁.setTop (mkF m 4 #[.val (.ref a1), .val (.ref a2), .val (.ref a3), .val (.long q4), .second, .val (.int p5), .val (.int p6), .val (.int p7), .unset] [(.int p5), (.int p7)])) _
      refine XS.icmpNo X0.here hx rfl (hb hby d3_4) rfl (flt hc4).1 ?_
      show Steps p.tables e below (s₁.setTop (mkF m 7 #[.val (.ref a1), .val (.ref a2), .val (.ref a3), .val (.long q4), .second, .val (.int p5), .val (.int p6), .val (.int p7), .unset] [])) _
      refine XS.iload X0.here hx rfl (hb hby d3_7) rfl ?_
      show Steps p.tables e below (s₁.setTop (mkF m 9 #[.val (.ref a1), .val (.ref a2), .val (.ref a3), .val (.long q4), .second, .val (.int p5), .val (.int p6), .val (.int p7), .unset] [(.int p7)])) _
      refine XS.iload X0.here hx rfl (hb hby d3_9) rfl ?_
      exact k
    by_cases hc11 : p7 < p6
    · skip
      have hAj : A ≤ j := Nat.not_lt.mp (fun u => hc4 (q74.mpr u))
      have ej : ((p7 - p5) + (1 : Int32)).toInt64 = Int64.ofNat (j - A + 1) := by rw [show (p7 - p5) + (1 : Int32) = Int32.ofNat (j - A + 1) from own_of (by omega) (by have u1 := c_isub p7 p5; have u2 := c_iadd (p7 - p5) 1; have r1 := rng32 (p7 - p5); have r2 := rng32 ((p7 - p5) + 1); rw [show (1 : Int32).toInt = 1 from rfl] at u2; have e7 : p7.toInt = j := (by rw [hp7, own_ti (by omega)]); have e5 : p5.toInt = A := (by rw [hp5, own_ti (by omega)]); rw [e7, e5] at u1; omega)]; exact own_i64 (by omega)
      have hval : G j = (((q4 + (((p7 - p5) + (1 : Int32)).toInt64)) + (own_sb S (j + 1))) - (own_sb S A)).toInt32 := by rw [ej]; exact hi ⟨hAj, q76.mp hc11⟩
      have go4 : ∀ t, Steps p.tables e below (s₁.setTop (mkF m 29 #[.val (.ref a1), .val (.ref a2), .val (.ref a3), .val (.long q4), .second, .val (.int p5), .val (.int p6), .val (.int p7), .unset] [(.int (p7 + (1 : Int32))), (.ref a3), (.long (q4 + (((p7 - p5) + (1 : Int32)).toInt64)))])) t → Steps p.tables e below (s₁.setTop (entryFrame m #[(.ref a1), (.ref a2), (.ref a3), (.long q4), (.int p5), (.int p6), (.int p7)] 9)) t := by
        intro t k
        refine go3 t ?_
        show Steps p.tables e below (s₁.setTop (mkF m 11 #[.val (.ref a1), .val (.ref a2), .val (.ref a3), .val (.long q4), .second, .val (.int p5), .val (.int p6), .val (.int p7), .unset] [(.int p6), (.int p7)])) _
        refine XS.icmpNo X0.here hx rfl (hb hby d3_11) rfl (tlt hc11).2.1 ?_
        show Steps p.tables e below (s₁.setTop (mkF m 14 #[.val (.ref a1), .val (.ref a2), .val (.ref a3), .val (.long q4), .second, .val (.int p5), .val (.int p6), .val (.int p7), .unset] [])) _
        refine XS.lloadN X0.here hx rfl (hb hby d3_14) rfl ?_
        show Steps p.tables e below (s₁.setTop (mkF m 15 #[.val (.ref a1), .val (.ref a2), .val (.ref a3), .val (.long q4), .second, .val (.int p5), .val (.int p6), .val (.int p7), .unset] [(.long q4)])) _
        refine XS.iload X0.here hx rfl (hb hby d3_15) rfl ?_
        show Steps p.tables e below (s₁.setTop (mkF m 17 #[.val (.ref a1), .val (.ref a2), .val (.ref a3), .val (.long q4), .second, .val (.int p5), .val (.int p6), .val (.int p7), .unset] [(.int p7), (.long q4)])) _
        refine XS.iload X0.here hx rfl (hb hby d3_17) rfl ?_
        show Steps p.tables e below (s₁.setTop (mkF m 19 #[.val (.ref a1), .val (.ref a2), .val (.ref a3), .val (.long q4), .second, .val (.int p5), .val (.int p6), .val (.int p7), .unset] [(.int p5), (.int p7), (.long q4)])) _
        refine XS.isub X0.here hx rfl (hb hby d3_19) rfl ?_
        show Steps p.tables e below (s₁.setTop (mkF m 20 #[.val (.ref a1), .val (.ref a2), .val (.ref a3), .val (.long q4), .second, .val (.int p5), .val (.int p6), .val (.int p7), .unset] [(.int (p7 - p5)), (.long q4)])) _
        refine XS.iconst X0.here hx rfl (hb hby d3_20) ?_
        show Steps p.tables e below (s₁.setTop (mkF m 21 #[.val (.ref a1), .val (.ref a2), .val (.ref a3), .val (.long q4), .second, .val (.int p5), .val (.int p6), .val (.int p7), .unset] [(.int (1 : Int32)), (.int (p7 - p5)), (.long q4)])) _
        refine XS.iadd X0.here hx rfl (hb hby d3_21) rfl ?_
        show Steps p.tables e below (s₁.setTop (mkF m 22 #[.val (.ref a1), .val (.ref a2), .val (.ref a3), .val (.long q4), .second, .val (.int p5), .val (.int p6), .val (.int p7), .unset] [(.int ((p7 - p5) + (1 : Int32))), (.long q4)])) _
        refine XS.i2l X0.here hx rfl (hb hby d3_22) rfl ?_
        show Steps p.tables e below (s₁.setTop (mkF m 23 #[.val (.ref a1), .val (.ref a2), .val (.ref a3), .val (.long q4), .second, .val (.int p5), .val (.int p6), .val (.int p7), .unset] [(.long (((p7 - p5) + (1 : Int32)).toInt64)), (.long q4)])) _
        refine XS.ladd X0.here hx rfl (hb hby d3_23) rfl ?_
        show Steps p.tables e below (s₁.setTop (mkF m 24 #[.val (.ref a1), .val (.ref a2), .val (.ref a3), .val (.long q4), .second, .val (.int p5), .val (.int p6), .val (.int p7), .unset] [(.long (q4 + (((p7 - p5) + (1 : Int32)).toInt64)))])) _
        refine XS.aloadN X0.here hx rfl (hb hby d3_24) rfl rfl ?_
        show Steps p.tables e below (s₁.setTop (mkF m 25 #[.val (.ref a1), .val (.ref a2), .val (.ref a3), .val (.long q4), .second, .val (.int p5), .val (.int p6), .val (.int p7), .unset] [(.ref a3), (.long (q4 + (((p7 - p5) + (1 : Int32)).toInt64)))])) _
        refine XS.iload X0.here hx rfl (hb hby d3_25) rfl ?_
        show Steps p.tables e below (s₁.setTop (mkF m 27 #[.val (.ref a1), .val (.ref a2), .val (.ref a3), .val (.long q4), .second, .val (.int p5), .val (.int p6), .val (.int p7), .unset] [(.int p7), (.ref a3), (.long (q4 + (((p7 - p5) + (1 : Int32)).toInt64)))])) _
        refine XS.iconst X0.here hx rfl (hb hby d3_27) ?_
        show Steps p.tables e below (s₁.setTop (mkF m 28 #[.val (.ref a1), .val (.ref a2), .val (.ref a3), .val (.long q4), .second, .val (.int p5), .val (.int p6), .val (.int p7), .unset] [(.int (1 : Int32)), (.int p7), (.ref a3), (.long (q4 + (((p7 - p5) + (1 : Int32)).toInt64)))])) _
        refine XS.iadd X0.here hx rfl (hb hby d3_28) rfl ?_
        exact k
      obtain ⟨_, _, ⟨T5, L5, k5, n5⟩, -, X5, ⟨Lc5, hQ5, l5, y5, z5⟩, st5⟩ := Jvm.LawKit.callS X0 hx (y := (⟨"com/example/packstone/packstone/io/GapGroupsAddUpPinLaw", "sumBefore", "([JI)J"⟩ : MethodName)) hown (mvT hZ (hw _ (List.mem_of_getElem? (i := 6) rfl))) (mvT hZ (hw _ (List.mem_of_getElem? (i := 7) rfl))) (mvT hZ (hw _ (List.mem_of_getElem? (i := 8) rfl))) (mvT hZ (hw _ (List.mem_of_getElem? (i := 9) rfl))) (by decide) (backOf (W := 2) (rm2 l Z a0 hw [] a3 (p7 + (1 : Int32)) S (j + 1) h0 n0 Z0 W3 (by omega) (by rw [hp7, own_one])) hZ (hw _ (List.mem_of_getElem? (i := 9) rfl)) (hw _ (List.mem_of_getElem? (i := 8) rfl)) (by decide) (by decide)) (g := (mkF m 29 #[.val (.ref a1), .val (.ref a2), .val (.ref a3), .val (.long q4), .second, .val (.int p5), .val (.int p6), .val (.int p7), .unset] [(.int (p7 + (1 : Int32))), (.ref a3), (.long (q4 + (((p7 - p5) + (1 : Int32)).toInt64)))])) rfl (by rw [hml]; rfl) (argsL := [(.ref a3), (.int (p7 + (1 : Int32)))]) (rest := [(.long (q4 + (((p7 - p5) + (1 : Int32)).toInt64)))]) (lenOf pd_3_0 rfl) rfl (by show 2 * 0 + _ ≤ _; exact Nat.le_of_eq rfl) (hb hby d3_29) (fun _ _ => ⟨rfl, e0, (by decide : 0 + 0 ≤ _), (by decide : 0 + 0 ≤ _)⟩)
      dsimp only [Pt.U, Pt.locs, Pt.cells, Pt.slots] at X5 l5 y5 z5 st5 hQ5
      subst l5 y5 z5
      obtain ⟨rfl, N5q, e5⟩ := hQ5
      have N5 := Fr.app N0 N5q
      have go6 : ∀ t, Steps p.tables e below (T5.setTop (mkF m 32 #[.val (.ref a1), .val (.ref a2), .val (.ref a3), .val (.long q4), .second, .val (.int p5), .val (.int p6), .val (.int p7), .unset] [(.long (own_sb S (j + 1))), (.long (q4 + (((p7 - p5) + (1 : Int32)).toInt64)))])) t → Steps p.tables e below (s₁.setTop (entryFrame m #[(.ref a1), (.ref a2), (.ref a3), (.long q4), (.int p5), (.int p6), (.int p7)] 9)) t := fun t k => go4 t (st5 _ k)
      have go7 : ∀ t, Steps p.tables e below (T5.setTop (mkF m 36 #[.val (.ref a1), .val (.ref a2), .val (.ref a3), .val (.long q4), .second, .val (.int p5), .val (.int p6), .val (.int p7), .unset] [(.int p5), (.ref a3), (.long ((q4 + (((p7 - p5) + (1 : Int32)).toInt64)) + (own_sb S (j + 1))))])) t → Steps p.tables e below (s₁.setTop (entryFrame m #[(.ref a1), (.ref a2), (.ref a3), (.long q4), (.int p5), (.int p6), (.int p7)] 9)) t := by
        intro t k
        refine go6 t ?_
        show Steps p.tables e below (T5.setTop (mkF m 32 #[.val (.ref a1), .val (.ref a2), .val (.ref a3), .val (.long q4), .second, .val (.int p5), .val (.int p6), .val (.int p7), .unset] [(.long (own_sb S (j + 1))), (.long (q4 + (((p7 - p5) + (1 : Int32)).toInt64)))])) _
        refine XS.ladd X5.here hx rfl (hb hby d3_32) rfl ?_
        show Steps p.tables e below (T5.setTop (mkF m 33 #[.val (.ref a1), .val (.ref a2), .val (.ref a3), .val (.long q4), .second, .val (.int p5), .val (.int p6), .val (.int p7), .unset] [(.long ((q4 + (((p7 - p5) + (1 : Int32)).toInt64)) + (own_sb S (j + 1))))])) _
        refine XS.aloadN X5.here hx rfl (hb hby d3_33) rfl rfl ?_
        show Steps p.tables e below (T5.setTop (mkF m 34 #[.val (.ref a1), .val (.ref a2), .val (.ref a3), .val (.long q4), .second, .val (.int p5), .val (.int p6), .val (.int p7), .unset] [(.ref a3), (.long ((q4 + (((p7 - p5) + (1 : Int32)).toInt64)) + (own_sb S (j + 1))))])) _
        refine XS.iload X5.here hx rfl (hb hby d3_34) rfl ?_
        exact k
      obtain ⟨_, _, ⟨T8, L8, k8, n8⟩, -, X8, ⟨Lc8, hQ8, l8, y8, z8⟩, st8⟩ := Jvm.LawKit.callS X5 hx (y := (⟨"com/example/packstone/packstone/io/GapGroupsAddUpPinLaw", "sumBefore", "([JI)J"⟩ : MethodName)) hown (mvT hZ (hw _ (List.mem_of_getElem? (i := 6) rfl))) (mvT hZ (hw _ (List.mem_of_getElem? (i := 7) rfl))) (mvT hZ (hw _ (List.mem_of_getElem? (i := 8) rfl))) (mvT hZ (hw _ (List.mem_of_getElem? (i := 9) rfl))) (by decide) (backOf (W := 2) (rm2 l Z a0 hw [] a3 p5 S A h0 n0 Z0 W3 (by omega) hp5) hZ (hw _ (List.mem_of_getElem? (i := 9) rfl)) (hw _ (List.mem_of_getElem? (i := 8) rfl)) (by decide) (by decide)) (g := (mkF m 36 #[.val (.ref a1), .val (.ref a2), .val (.ref a3), .val (.long q4), .second, .val (.int p5), .val (.int p6), .val (.int p7), .unset] [(.int p5), (.ref a3), (.long ((q4 + (((p7 - p5) + (1 : Int32)).toInt64)) + (own_sb S (j + 1))))])) rfl (by rw [hml]; rfl) (argsL := [(.ref a3), (.int p5)]) (rest := [(.long ((q4 + (((p7 - p5) + (1 : Int32)).toInt64)) + (own_sb S (j + 1))))]) (lenOf pd_3_0 rfl) rfl (by show 2 * 0 + _ ≤ _; exact Nat.le_of_eq rfl) (hb hby d3_36) (fun _ _ => ⟨rfl, e5, (by decide : 0 + 0 ≤ _), (by decide : 0 + 0 ≤ _)⟩)
      dsimp only [Pt.U, Pt.locs, Pt.cells, Pt.slots] at X8 l8 y8 z8 st8 hQ8
      subst l8 y8 z8
      obtain ⟨rfl, N8q, e8⟩ := hQ8
      have N8 := Fr.app N5 N8q
      have go9 : ∀ t, Steps p.tables e below (T8.setTop (mkF m 39 #[.val (.ref a1), .val (.ref a2), .val (.ref a3), .val (.long q4), .second, .val (.int p5), .val (.int p6), .val (.int p7), .unset] [(.long (own_sb S A)), (.long ((q4 + (((p7 - p5) + (1 : Int32)).toInt64)) + (own_sb S (j + 1))))])) t → Steps p.tables e below (s₁.setTop (entryFrame m #[(.ref a1), (.ref a2), (.ref a3), (.long q4), (.int p5), (.int p6), (.int p7)] 9)) t := fun t k => go7 t (st8 _ k)
      have go10 : ∀ t, Steps p.tables e below (T8.setTop (mkF m 64 #[.val (.ref a1), .val (.ref a2), .val (.ref a3), .val (.long q4), .second, .val (.int p5), .val (.int p6), .val (.int p7), .val (.int ((((q4 + (((p7 - p5) + (1 : Int32)).toInt64)) + (own_sb S (j + 1))) - (own_sb S A)).toInt32))] [(.int (1 : Int32))])) t → Steps p.tables e below (s₁.setTop (entryFrame m #[(.ref a1), (.ref a2), (.ref a3), (.long q4), (.int p5), (.int p6), (.int p7)] 9)) t := by
        intro t k
        refine go9 t ?_
        show Steps p.tables e below (T8.setTop (mkF m 39 #[.val (.ref a1), .val (.ref a2), .val (.ref a3), .val (.long q4), .second, .val (.int p5), .val (.int p6), .val (.int p7), .unset] [(.long (own_sb S A)), (.long ((q4 + (((p7 - p5) + (1 : Int32)).toInt64)) + (own_sb S (j + 1))))])) _
        refine XS.lsub X8.here hx rfl (hb hby d3_39) rfl ?_
        show Steps p.tables e below (T8.setTop (mkF m 40 #[.val (.ref a1), .val (.ref a2), .val (.ref a3), .val (.long q4), .second, .val (.int p5), .val (.int p6), .val (.int p7), .unset] [(.long (((q4 + (((p7 - p5) + (1 : Int32)).toInt64)) + (own_sb S (j + 1))) - (own_sb S A)))])) _
        refine XS.l2i X8.here hx rfl (hb hby d3_40) rfl ?_
        show Steps p.tables e below (T8.setTop (mkF m 41 #[.val (.ref a1), .val (.ref a2), .val (.ref a3), .val (.long q4), .second, .val (.int p5), .val (.int p6), .val (.int p7), .unset] [(.int ((((q4 + (((p7 - p5) + (1 : Int32)).toInt64)) + (own_sb S (j + 1))) - (own_sb S A)).toInt32))])) _
        refine XS.goto X8.here hx rfl (pc0 := 41) (pc' := 48) rfl (hb hby d3_41) (by decide) (by decide) ?_
        show Steps p.tables e below (T8.setTop (mkF m 48 #[.val (.ref a1), .val (.ref a2), .val (.ref a3), .val (.long q4), .second, .val (.int p5), .val (.int p6), .val (.int p7), .unset] [(.int ((((q4 + (((p7 - p5) + (1 : Int32)).toInt64)) + (own_sb S (j + 1))) - (own_sb S A)).toInt32))])) _
        refine XS.istore X8.here hx rfl (hb hby d3_48) rfl (l' := #[.val (.ref a1), .val (.ref a2), .val (.ref a3), .val (.long q4), .second, .val (.int p5), .val (.int p6), .val (.int p7), .val (.int ((((q4 + (((p7 - p5) + (1 : Int32)).toInt64)) + (own_sb S (j + 1))) - (own_sb S A)).toInt32))]) rfl ?_
        show Steps p.tables e below (T8.setTop (mkF m 50 #[.val (.ref a1), .val (.ref a2), .val (.ref a3), .val (.long q4), .second, .val (.int p5), .val (.int p6), .val (.int p7), .val (.int ((((q4 + (((p7 - p5) + (1 : Int32)).toInt64)) + (own_sb S (j + 1))) - (own_sb S A)).toInt32))] [])) _
        refine XS.aloadN X8.here hx rfl (hb hby d3_50) rfl rfl ?_
        show Steps p.tables e below (T8.setTop (mkF m 51 #[.val (.ref a1), .val (.ref a2), .val (.ref a3), .val (.long q4), .second, .val (.int p5), .val (.int p6), .val (.int p7), .val (.int ((((q4 + (((p7 - p5) + (1 : Int32)).toInt64)) + (own_sb S (j + 1))) - (own_sb S A)).toInt32))] [(.ref a1)])) _
        refine XS.iload X8.here hx rfl (hb hby d3_51) rfl ?_
        show Steps p.tables e below (T8.setTop (mkF m 53 #[.val (.ref a1), .val (.ref a2), .val (.ref a3), .val (.long q4), .second, .val (.int p5), .val (.int p6), .val (.int p7), .val (.int ((((q4 + (((p7 - p5) + (1 : Int32)).toInt64)) + (own_sb S (j + 1))) - (own_sb S A)).toInt32))] [(.int p7), (.ref a1)])) _
        refine X8.iaload hx (j := p7) (v := (.int (G j))) (by rw [e8]; exact A1.1) (State.isArrayOf_alike hZ.alike A1.2.1) A1.2.2 hin1 hat1 (g := (mkF m 53 #[.val (.ref a1), .val (.ref a2), .val (.ref a3), .val (.long q4), .second, .val (.int p5), .val (.int p6), .val (.int p7), .val (.int ((((q4 + (((p7 - p5) + (1 : Int32)).toInt64)) + (own_sb S (j + 1))) - (own_sb S A)).toInt32))] [(.int p7), (.ref a1)])) rfl rfl (hb hby d3_53) _ ?_
        show Steps p.tables e below (T8.setTop (mkF m 54 #[.val (.ref a1), .val (.ref a2), .val (.ref a3), .val (.long q4), .second, .val (.int p5), .val (.int p6), .val (.int p7), .val (.int ((((q4 + (((p7 - p5) + (1 : Int32)).toInt64)) + (own_sb S (j + 1))) - (own_sb S A)).toInt32))] [(.int (G j))])) _
        refine XS.iload X8.here hx rfl (hb hby d3_54) rfl ?_
        show Steps p.tables e below (T8.setTop (mkF m 56 #[.val (.ref a1), .val (.ref a2), .val (.ref a3), .val (.long q4), .second, .val (.int p5), .val (.int p6), .val (.int p7), .val (.int ((((q4 + (((p7 - p5) + (1 : Int32)).toInt64)) + (own_sb S (j + 1))) - (own_sb S A)).toInt32))] [(.int ((((q4 + (((p7 - p5) + (1 : Int32)).toInt64)) + (own_sb S (j + 1))) - (own_sb S A)).toInt32)), (.int (G j))])) _
        refine XS.icmpNo X8.here hx rfl (hb hby d3_56) rfl (teq hval).2 ?_
        show Steps p.tables e below (T8.setTop (mkF m 59 #[.val (.ref a1), .val (.ref a2), .val (.ref a3), .val (.long q4), .second, .val (.int p5), .val (.int p6), .val (.int p7), .val (.int ((((q4 + (((p7 - p5) + (1 : Int32)).toInt64)) + (own_sb S (j + 1))) - (own_sb S A)).toInt32))] [])) _
        refine XS.iconst X8.here hx rfl (hb hby d3_59) ?_
        show Steps p.tables e below (T8.setTop (mkF m 60 #[.val (.ref a1), .val (.ref a2), .val (.ref a3), .val (.long q4), .second, .val (.int p5), .val (.int p6), .val (.int p7), .val (.int ((((q4 + (((p7 - p5) + (1 : Int32)).toInt64)) + (own_sb S (j + 1))) - (own_sb S A)).toInt32))] [(.int (1 : Int32))])) _
        refine XS.goto X8.here hx rfl (pc0 := 60) (pc' := 64) rfl (hb hby d3_60) (by decide) (by decide) ?_
        exact k
      obtain ⟨fs, hr, hrun, hended, hW, hsame⟩ := X8.leave (v := some (.int (1 : Int32))) (fun h => by rw [Bd.returns] at h; cases h)
      refine ⟨_, _, go10 _ ?_, hrun, hended, _, _, rfl, ?_, ⟨_, rfl⟩, hW, hsame.mono (by decide) (by decide)⟩
      · show Steps p.tables e below (T8.setTop (mkF m 64 #[.val (.ref a1), .val (.ref a2), .val (.ref a3), .val (.long q4), .second, .val (.int p5), .val (.int p6), .val (.int p7), .val (.int ((((q4 + (((p7 - p5) + (1 : Int32)).toInt64)) + (own_sb S (j + 1))) - (own_sb S A)).toInt32))] [(.int (1 : Int32))])) _
        exact retN X8 hx (t := .boolean) Bd.returns (by simp) (hb hby d3_64) hr
      · show Q3 Z a1 a2 a3 q4 p5 p6 p7 G O S A B j h0 n0 _ T8.heap _
        rw [e8]
        exact ⟨rfl, N8, rfl⟩
    · skip
      have go11 : ∀ t, Steps p.tables e below (s₁.setTop (mkF m 64 #[.val (.ref a1), .val (.ref a2), .val (.ref a3), .val (.long q4), .second, .val (.int p5), .val (.int p6), .val (.int p7), .val (.int (O j))] [(.int (1 : Int32))])) t → Steps p.tables e below (s₁.setTop (entryFrame m #[(.ref a1), (.ref a2), (.ref a3), (.long q4), (.int p5), (.int p6), (.int p7)] 9)) t := by
        intro t k
        refine go3 t ?_
        show Steps p.tables e below (s₁.setTop (mkF m 11 #[.val (.ref a1), .val (.ref a2), .val (.ref a3), .val (.long q4), .second, .val (.int p5), .val (.int p6), .val (.int p7), .unset] [(.int p6), (.int p7)])) _
        refine XS.icmpYes X0.here hx rfl (pc0 := 11) (pc' := 44) rfl (hb hby d3_11) rfl (flt hc11).2.1 (by decide) (by decide) ?_
        show Steps p.tables e below (s₁.setTop (mkF m 44 #[.val (.ref a1), .val (.ref a2), .val (.ref a3), .val (.long q4), .second, .val (.int p5), .val (.int p6), .val (.int p7), .unset] [])) _
        refine XS.aloadN X0.here hx rfl (hb hby d3_44) rfl rfl ?_
        show Steps p.tables e below (s₁.setTop (mkF m 45 #[.val (.ref a1), .val (.ref a2), .val (.ref a3), .val (.long q4), .second, .val (.int p5), .val (.int p6), .val (.int p7), .unset] [(.ref a2)])) _
        refine XS.iload X0.here hx rfl (hb hby d3_45) rfl ?_
        show Steps p.tables e below (s₁.setTop (mkF m 47 #[.val (.ref a1), .val (.ref a2), .val (.ref a3), .val (.long q4), .second, .val (.int p5), .val (.int p6), .val (.int p7), .unset] [(.int p7), (.ref a2)])) _
        refine X0.iaload hx (j := p7) (v := (.int (O j))) (by rw [e0]; exact A2.1) (State.isArrayOf_alike hZ.alike A2.2.1) A2.2.2 hin2 hat2 (g := (mkF m 47 #[.val (.ref a1), .val (.ref a2), .val (.ref a3), .val (.long q4), .second, .val (.int p5), .val (.int p6), .val (.int p7), .unset] [(.int p7), (.ref a2)])) rfl rfl (hb hby d3_47) _ ?_
        show Steps p.tables e below (s₁.setTop (mkF m 48 #[.val (.ref a1), .val (.ref a2), .val (.ref a3), .val (.long q4), .second, .val (.int p5), .val (.int p6), .val (.int p7), .unset] [(.int (O j))])) _
        refine XS.istore X0.here hx rfl (hb hby d3_48) rfl (l' := #[.val (.ref a1), .val (.ref a2), .val (.ref a3), .val (.long q4), .second, .val (.int p5), .val (.int p6), .val (.int p7), .val (.int (O j))]) rfl ?_
        show Steps p.tables e below (s₁.setTop (mkF m 50 #[.val (.ref a1), .val (.ref a2), .val (.ref a3), .val (.long q4), .second, .val (.int p5), .val (.int p6), .val (.int p7), .val (.int (O j))] [])) _
        refine XS.aloadN X0.here hx rfl (hb hby d3_50) rfl rfl ?_
        show Steps p.tables e below (s₁.setTop (mkF m 51 #[.val (.ref a1), .val (.ref a2), .val (.ref a3), .val (.long q4), .second, .val (.int p5), .val (.int p6), .val (.int p7), .val (.int (O j))] [(.ref a1)])) _
        refine XS.iload X0.here hx rfl (hb hby d3_51) rfl ?_
        show Steps p.tables e below (s₁.setTop (mkF m 53 #[.val (.ref a1), .val (.ref a2), .val (.ref a3), .val (.long q4), .second, .val (.int p5), .val (.int p6), .val (.int p7), .val (.int (O j))] [(.int p7), (.ref a1)])) _
        refine X0.iaload hx (j := p7) (v := (.int (G j))) (by rw [e0]; exact A1.1) (State.isArrayOf_alike hZ.alike A1.2.1) A1.2.2 hin1 hat1 (g := (mkF m 53 #[.val (.ref a1), .val (.ref a2), .val (.ref a3), .val (.long q4), .second, .val (.int p5), .val (.int p6), .val (.int p7), .val (.int (O j))] [(.int p7), (.ref a1)])) rfl rfl (hb hby d3_53) _ ?_
        show Steps p.tables e below (s₁.setTop (mkF m 54 #[.val (.ref a1), .val (.ref a2), .val (.ref a3), .val (.long q4), .second, .val (.int p5), .val (.int p6), .val (.int p7), .val (.int (O j))] [(.int (G j))])) _
        refine XS.iload X0.here hx rfl (hb hby d3_54) rfl ?_
        show Steps p.tables e below (s₁.setTop (mkF m 56 #[.val (.ref a1), .val (.ref a2), .val (.ref a3), .val (.long q4), .second, .val (.int p5), .val (.int p6), .val (.int p7), .val (.int (O j))] [(.int (O j)), (.int (G j))])) _
        refine XS.icmpNo X0.here hx rfl (hb hby d3_56) rfl (teq (ho (fun u => hc11 (q76.mpr u.2)))).2 ?_
        show Steps p.tables e below (s₁.setTop (mkF m 59 #[.val (.ref a1), .val (.ref a2), .val (.ref a3), .val (.long q4), .second, .val (.int p5), .val (.int p6), .val (.int p7), .val (.int (O j))] [])) _
        refine XS.iconst X0.here hx rfl (hb hby d3_59) ?_
        show Steps p.tables e below (s₁.setTop (mkF m 60 #[.val (.ref a1), .val (.ref a2), .val (.ref a3), .val (.long q4), .second, .val (.int p5), .val (.int p6), .val (.int p7), .val (.int (O j))] [(.int (1 : Int32))])) _
        refine XS.goto X0.here hx rfl (pc0 := 60) (pc' := 64) rfl (hb hby d3_60) (by decide) (by decide) ?_
        exact k
      obtain ⟨fs, hr, hrun, hended, hW, hsame⟩ := X0.leave (v := some (.int (1 : Int32))) (fun h => by rw [Bd.returns] at h; cases h)
      refine ⟨_, _, go11 _ ?_, hrun, hended, _, _, rfl, ?_, ⟨_, rfl⟩, hW, hsame.mono (by decide) (by decide)⟩
      · show Steps p.tables e below (s₁.setTop (mkF m 64 #[.val (.ref a1), .val (.ref a2), .val (.ref a3), .val (.long q4), .second, .val (.int p5), .val (.int p6), .val (.int p7), .val (.int (O j))] [(.int (1 : Int32))])) _
        exact retN X0 hx (t := .boolean) Bd.returns (by simp) (hb hby d3_64) hr
      · show Q3 Z a1 a2 a3 q4 p5 p6 p7 G O S A B j h0 n0 _ s₁.heap _
        rw [e0]
        exact ⟨rfl, N0, rfl⟩
theorem pd_0_0 : parseMethodDescriptor "([IIIJ)J" = some ⟨[(.array .int), .int, .int, .long], some .long⟩ := by decide +kernel
theorem pd_0_1 : parseMethodDescriptor "([JI)J" = some ⟨[(.array .long), .int], some .long⟩ := by decide +kernel
theorem pd_0_2 : parseMethodDescriptor "([I[I[JJIII)Z" = some ⟨[(.array .int), (.array .int), (.array .long), .long, .int, .int, .int], some .boolean⟩ := by decide +kernel
theorem pn_0 : plainName "com/example/packstone/packstone/io/GapGroupsAddUpPinLaw" = true := by first | (simp [plainName, overriddenIn]; done) | decide +kernel
theorem ef_0 (m : MethodId) (x0 : Int64) (x1 : Int32) (x2 : Int32) (x3 : Int32) (x4 : Int32) (x5 : Int32) : entryFrame m #[(.long x0), (.int x1), (.int x2), (.int x3), (.int x4), (.int x5)] maxLocals = mkF m 0 #[.val (.long x0), .second, .val (.int x1), .val (.int x2), .val (.int x3), .val (.int x4), .val (.int x5), .unset, .unset, .unset, .unset, .unset, .unset, .unset, .unset, .unset, .unset] [] := by first | (simp [entryFrame, mkF, argsToLocals, Value.category, maxLocals]; done) | rfl
def Q0 (Z : State) (qb : Int64) (x0 : Int32) (x1 : Int32) (x2 : Int32) (x3 : Int32) (sel : Int32) (h0 : Heap) (n0 : Nat) (v : Option Value) (h : Heap) (L : List Loc) : Prop := v = some (.int (1 : Int32)) ∧ Fr n0 L
set_option maxRecDepth 65536 in
set_option maxHeartbeats 40000000 in
theorem rm0 (l : Launch) (Z : State) (a0 : Array Value) (hw : ∀ d ∈ tables_1, d.before a0 Z = true) (ws : List Jvm.Cond) (qb : Int64) (x0 : Int32) (x1 : Int32) (x2 : Int32) (x3 : Int32) (sel : Int32) (h0 : Heap) (n0 : Nat) (Z0 : n0 ≤ h0.size) :
    MetFree l x (head1 (Jvm.Cond.code x code maxLocals ret :: ws) room_1) (fun a U => a = #[(.long qb), (.int x0), (.int x1), (.int x2), (.int x3), (.int sel)] ∧ Z.Warmed39 U.vm ∧ U.heap = h0) (fun _ _ _ _ _ => True) (fun _ U o U' => ∃ v L, o = .returned v ∧ Q0 Z qb x0 x1 x2 x3 sel h0 n0 v U'.heap L ∧ FrameEnd U o U' L room_1.cells room_1.slots) := by
  refine MetFree.of_bodySF (plainFor_of_name pn_0) hisR ?_
  intro p e s m args below meth c s₁ Bd hml0 hP hK
  obtain ⟨rfl, hZ, hh⟩ := hP
  have hx := Bd.exec
  have hby := Bd.bytes
  have hml : c.maxLocals = 17 := hml0
  have hown : s.vm.findClass "com/example/packstone/packstone/io/GapGroupsAddUpPinLaw" = some m.cls := findClass_of_methodNamed Bd.named
  have hnm := (name_of_methodNamed Bd.named Bd.method).1
  have X0 : Stand p l e room_1 s m #[(.long qb), (.int x0), (.int x1), (.int x2), (.int x3), (.int sel)] below meth c s₁ [] 0 0 := Stand.of_body Bd
  have e0 : s₁.heap = h0 := by rw [← hh, Bd.state]; rfl
  have N0 := Fr.nil n0
  have go0 : ∀ t, Steps p.tables e below (s₁.setTop (mkF m 0 #[.val (.long qb), .second, .val (.int x0), .val (.int x1), .val (.int x2), .val (.int x3), .val (.int sel), .unset, .unset, .unset, .unset, .unset, .unset, .unset, .unset, .unset, .unset] [])) t → Steps p.tables e below (s₁.setTop (entryFrame m #[(.long qb), (.int x0), (.int x1), (.int x2), (.int x3), (.int sel)] maxLocals)) t := fun t k => castTop (ef_0 m qb x0 x1 x2 x3 sel) k
  obtain ⟨A, K, hA, hAK, eA, eK, nz⟩ := own_split sel
  have go1 : ∀ t, Steps p.tables e below (s₁.setTop (mkF m 6 #[.val (.long qb), .second, .val (.int x0), .val (.int x1), .val (.int x2), .val (.int x3), .val (.int sel), .val (.int (Int32.ofNat A)), .unset, .unset, .unset, .unset, .unset, .unset, .unset, .unset, .unset] [])) t → Steps p.tables e below (s₁.setTop (entryFrame m #[(.long qb), (.int x0), (.int x1), (.int x2), (.int x3), (.int sel)] maxLocals)) t := by
    intro t k
    rw [← eA] at k
    refine go0 t ?_
    show Steps p.tables e below (s₁.setTop (mkF m 0 #[.val (.long qb), .second, .val (.int x0), .val (.int x1), .val (.int x2), .val (.int x3), .val (.int sel), .unset, .unset, .unset, .unset, .unset, .unset, .unset, .unset, .unset, .unset] [])) _
    refine XS.iload X0.here hx rfl (hb hby at_0) rfl ?_
    show Steps p.tables e below (s₁.setTop (mkF m 2 #[.val (.long qb), .second, .val (.int x0), .val (.int x1), .val (.int x2), .val (.int x3), .val (.int sel), .unset, .unset, .unset, .unset, .unset, .unset, .unset, .unset, .unset, .unset] [(.int sel)])) _
    refine XS.iconst X0.here hx rfl (hb hby at_2) ?_
    show Steps p.tables e below (s₁.setTop (mkF m 3 #[.val (.long qb), .second, .val (.int x0), .val (.int x1), .val (.int x2), .val (.int x3), .val (.int sel), .unset, .unset, .unset, .unset, .unset, .unset, .unset, .unset, .unset, .unset] [(.int (3 : Int32)), (.int sel)])) _
    refine XS.iand X0.here hx rfl (hb hby at_3) rfl ?_
    show Steps p.tables e below (s₁.setTop (mkF m 4 #[.val (.long qb), .second, .val (.int x0), .val (.int x1), .val (.int x2), .val (.int x3), .val (.int sel), .unset, .unset, .unset, .unset, .unset, .unset, .unset, .unset, .unset, .unset] [(.int (sel &&& (3 : Int32)))])) _
    refine XS.istore X0.here hx rfl (hb hby at_4) rfl (l' := #[.val (.long qb), .second, .val (.int x0), .val (.int x1), .val (.int x2), .val (.int x3), .val (.int sel), .val (.int (sel &&& (3 : Int32))), .unset, .unset, .unset, .unset, .unset, .unset, .unset, .unset, .unset]) rfl ?_
    exact k
  have go2 : ∀ t, Steps p.tables e below (s₁.setTop (mkF m 20 #[.val (.long qb), .second, .val (.int x0), .val (.int x1), .val (.int x2), .val (.int x3), .val (.int sel), .val (.int (Int32.ofNat A)), .val (.int (Int32.ofNat K)), .unset, .unset, .unset, .unset, .unset, .unset, .unset, .unset] [])) t → Steps p.tables e below (s₁.setTop (entryFrame m #[(.long qb), (.int x0), (.int x1), (.int x2), (.int x3), (.int sel)] maxLocals)) t := by
    intro t k
    rw [← eK] at k
    refine go1 t ?_
    show Steps p.tables e below (s₁.setTop (mkF m 6 #[.val (.long qb), .second, .val (.int x0), .val (.int x1), .val (.int x2), .val (.int x3), .val (.int sel), .val (.int (Int32.ofNat A)), .unset, .unset, .unset, .unset, .unset, .unset, .unset, .unset, .unset] [])) _
    refine XS.iload X0.here hx rfl (hb hby at_6) rfl ?_
    show Steps p.tables e below (s₁.setTop (mkF m 8 #[.val (.long qb), .second, .val (.int x0), .val (.int x1), .val (.int x2), .val (.int x3), .val (.int sel), .val (.int (Int32.ofNat A)), .unset, .unset, .unset, .unset, .unset, .unset, .unset, .unset, .unset] [(.int sel)])) _
    refine XS.iconst X0.here hx rfl (hb hby at_8) ?_
    show Steps p.tables e below (s₁.setTop (mkF m 9 #[.val (.long qb), .second, .val (.int x0), .val (.int x1), .val (.int x2), .val (.int x3), .val (.int sel), .val (.int (Int32.ofNat A)), .unset, .unset, .unset, .unset, .unset, .unset, .unset, .unset, .unset] [(.int (2 : Int32)), (.int sel)])) _
    refine XS.iushr X0.here hx rfl (hb hby at_9) rfl ?_
    show Steps p.tables e below (s₁.setTop (mkF m 10 #[.val (.long qb), .second, .val (.int x0), .val (.int x1), .val (.int x2), .val (.int x3), .val (.int sel), .val (.int (Int32.ofNat A)), .unset, .unset, .unset, .unset, .unset, .unset, .unset, .unset, .unset] [(.int ((sel.toUInt32 >>> ((2 : Int32) &&& 31).toUInt32).toInt32))])) _
    refine XS.bipush X0.here hx rfl (hb hby at_10) ?_
    show Steps p.tables e below (s₁.setTop (mkF m 12 #[.val (.long qb), .second, .val (.int x0), .val (.int x1), .val (.int x2), .val (.int x3), .val (.int sel), .val (.int (Int32.ofNat A)), .unset, .unset, .unset, .unset, .unset, .unset, .unset, .unset, .unset] [(.int (7 : Int32)), (.int ((sel.toUInt32 >>> ((2 : Int32) &&& 31).toUInt32).toInt32))])) _
    refine XS.iand X0.here hx rfl (hb hby at_12) rfl ?_
    show Steps p.tables e below (s₁.setTop (mkF m 13 #[.val (.long qb), .second, .val (.int x0), .val (.int x1), .val (.int x2), .val (.int x3), .val (.int sel), .val (.int (Int32.ofNat A)), .unset, .unset, .unset, .unset, .unset, .unset, .unset, .unset, .unset] [(.int (((sel.toUInt32 >>> ((2 : Int32) &&& 31).toUInt32).toInt32) &&& (7 : Int32)))])) _
    refine XS.iconst X0.here hx rfl (hb hby at_13) ?_
    show Steps p.tables e below (s₁.setTop (mkF m 14 #[.val (.long qb), .second, .val (.int x0), .val (.int x1), .val (.int x2), .val (.int x3), .val (.int sel), .val (.int (Int32.ofNat A)), .unset, .unset, .unset, .unset, .unset, .unset, .unset, .unset, .unset] [(.int (5 : Int32)), (.int (((sel.toUInt32 >>> ((2 : Int32) &&& 31).toUInt32).toInt32) &&& (7 : Int32)))])) _
    refine XS.iload X0.here hx rfl (hb hby at_14) rfl ?_
    show Steps p.tables e below (s₁.setTop (mkF m 16 #[.val (.long qb), .second, .val (.int x0), .val (.int x1), .val (.int x2), .val (.int x3), .val (.int sel), .val (.int (Int32.ofNat A)), .unset, .unset, .unset, .unset, .unset, .unset, .unset, .unset, .unset] [(.int (Int32.ofNat A)), (.int (5 : Int32)), (.int (((sel.toUInt32 >>> ((2 : Int32) &&& 31).toUInt32).toInt32) &&& (7 : Int32)))])) _
    refine XS.isub X0.here hx rfl (hb hby at_16) rfl ?_
    show Steps p.tables e below (s₁.setTop (mkF m 17 #[.val (.long qb), .second, .val (.int x0), .val (.int x1), .val (.int x2), .val (.int x3), .val (.int sel), .val (.int (Int32.ofNat A)), .unset, .unset, .unset, .unset, .unset, .unset, .unset, .unset, .unset] [(.int ((5 : Int32) - (Int32.ofNat A))), (.int (((sel.toUInt32 >>> ((2 : Int32) &&& 31).toUInt32).toInt32) &&& (7 : Int32)))])) _
    refine iremM X0 hx rfl (hb hby at_17) rfl nz ?_
    show Steps p.tables e below (s₁.setTop (mkF m 18 #[.val (.long qb), .second, .val (.int x0), .val (.int x1), .val (.int x2), .val (.int x3), .val (.int sel), .val (.int (Int32.ofNat A)), .unset, .unset, .unset, .unset, .unset, .unset, .unset, .unset, .unset] [(.int ((((sel.toUInt32 >>> ((2 : Int32) &&& 31).toUInt32).toInt32) &&& (7 : Int32)) % ((5 : Int32) - (Int32.ofNat A))))])) _
    refine XS.istore X0.here hx rfl (hb hby at_18) rfl (l' := #[.val (.long qb), .second, .val (.int x0), .val (.int x1), .val (.int x2), .val (.int x3), .val (.int sel), .val (.int (Int32.ofNat A)), .val (.int ((((sel.toUInt32 >>> ((2 : Int32) &&& 31).toUInt32).toInt32) &&& (7 : Int32)) % ((5 : Int32) - (Int32.ofNat A)))), .unset, .unset, .unset, .unset, .unset, .unset, .unset, .unset]) rfl ?_
    exact k
  have go3 : ∀ t, Steps p.tables e below (s₁.setTop (mkF m 27 #[.val (.long qb), .second, .val (.int x0), .val (.int x1), .val (.int x2), .val (.int x3), .val (.int sel), .val (.int (Int32.ofNat A)), .val (.int (Int32.ofNat K)), .val (.int (Int32.ofNat (A + K))), .unset, .unset, .unset, .unset, .unset, .unset, .unset] [])) t → Steps p.tables e below (s₁.setTop (entryFrame m #[(.long qb), (.int x0), (.int x1), (.int x2), (.int x3), (.int sel)] maxLocals)) t := by
    intro t k
    rw [← own_add A K] at k
    refine go2 t ?_
    show Steps p.tables e below (s₁.setTop (mkF m 20 #[.val (.long qb), .second, .val (.int x0), .val (.int x1), .val (.int x2), .val (.int x3), .val (.int sel), .val (.int (Int32.ofNat A)), .val (.int (Int32.ofNat K)), .unset, .unset, .unset, .unset, .unset, .unset, .unset, .unset] [])) _
    refine XS.iload X0.here hx rfl (hb hby at_20) rfl ?_
    show Steps p.tables e below (s₁.setTop (mkF m 22 #[.val (.long qb), .second, .val (.int x0), .val (.int x1), .val (.int x2), .val (.int x3), .val (.int sel), .val (.int (Int32.ofNat A)), .val (.int (Int32.ofNat K)), .unset, .unset, .unset, .unset, .unset, .unset, .unset, .unset] [(.int (Int32.ofNat A))])) _
    refine XS.iload X0.here hx rfl (hb hby at_22) rfl ?_
    show Steps p.tables e below (s₁.setTop (mkF m 24 #[.val (.long qb), .second, .val (.int x0), .val (.int x1), .val (.int x2), .val (.int x3), .val (.int sel), .val (.int (Int32.ofNat A)), .val (.int (Int32.ofNat K)), .unset, .unset, .unset, .unset, .unset, .unset, .unset, .unset] [(.int (Int32.ofNat K)), (.int (Int32.ofNat A))])) _
    refine XS.iadd X0.here hx rfl (hb hby at_24) rfl ?_
    show Steps p.tables e below (s₁.setTop (mkF m 25 #[.val (.long qb), .second, .val (.int x0), .val (.int x1), .val (.int x2), .val (.int x3), .val (.int sel), .val (.int (Int32.ofNat A)), .val (.int (Int32.ofNat K)), .unset, .unset, .unset, .unset, .unset, .unset, .unset, .unset] [(.int ((Int32.ofNat A) + (Int32.ofNat K)))])) _
    refine XS.istore X0.here hx rfl (hb hby at_25) rfl (l' := #[.val (.long qb), .second, .val (.int x0), .val (.int x1), .val (.int x2), .val (.int x3), .val (.int sel), .val (.int (Int32.ofNat A)), .val (.int (Int32.ofNat K)), .val (.int ((Int32.ofNat A) + (Int32.ofNat K))), .unset, .unset, .unset, .unset, .unset, .unset, .unset]) rfl ?_
    exact k
  have go4 : ∀ t, Steps p.tables e below (s₁.setTop (mkF m 28 #[.val (.long qb), .second, .val (.int x0), .val (.int x1), .val (.int x2), .val (.int x3), .val (.int sel), .val (.int (Int32.ofNat A)), .val (.int (Int32.ofNat K)), .val (.int (Int32.ofNat (A + K))), .unset, .unset, .unset, .unset, .unset, .unset, .unset] [(.int (4 : Int32))])) t → Steps p.tables e below (s₁.setTop (entryFrame m #[(.long qb), (.int x0), (.int x1), (.int x2), (.int x3), (.int sel)] maxLocals)) t := by
    intro t k
    refine go3 t ?_
    show Steps p.tables e below (s₁.setTop (mkF m 27 #[.val (.long qb), .second, .val (.int x0), .val (.int x1), .val (.int x2), .val (.int x3), .val (.int sel), .val (.int (Int32.ofNat A)), .val (.int (Int32.ofNat K)), .val (.int (Int32.ofNat (A + K))), .unset, .unset, .unset, .unset, .unset, .unset, .unset] [])) _
    refine XS.iconst X0.here hx rfl (hb hby at_27) ?_
    exact k
  obtain ⟨T5, h5, k5, X5, e5, E5, A5, st5⟩ := newP X0 hx hZ (hw _ (List.mem_of_getElem? (i := 0) rfl)) e0 (g := (mkF m 28 #[.val (.long qb), .second, .val (.int x0), .val (.int x1), .val (.int x2), .val (.int x3), .val (.int sel), .val (.int (Int32.ofNat A)), .val (.int (Int32.ofNat K)), .val (.int (Int32.ofNat (A + K))), .unset, .unset, .unset, .unset, .unset, .unset, .unset] [(.int (4 : Int32))])) rfl (hb hby at_28) rfl (by decide) (cap := 4) (by decide) (by decide) (by decide) (by decide)
  obtain ⟨b5, g5⟩ : ∃ z, z = h0.size := ⟨_, rfl⟩
  rw [← g5] at A5 st5
  have g_b5 : n0 ≤ b5 := Nat.le_trans Z0 (Nat.le_of_eq g5.symm)
  have Z5 : n0 ≤ h5.size := Nat.le_trans Z0 E5.1
  have V5 : Arv Z h5 b5 k5 .int (4 : Int32) [(.int (0 : Int32)), (.int (0 : Int32)), (.int (0 : Int32)), (.int (0 : Int32))] (.int (0 : Int32)) := (Arv.new A5 (by decide)).pad (pad_rep [] (.int (0 : Int32)) 4)
  have go6 : ∀ t, Steps p.tables e below (T5.setTop (mkF m 30 #[.val (.long qb), .second, .val (.int x0), .val (.int x1), .val (.int x2), .val (.int x3), .val (.int sel), .val (.int (Int32.ofNat A)), .val (.int (Int32.ofNat K)), .val (.int (Int32.ofNat (A + K))), .unset, .unset, .unset, .unset, .unset, .unset, .unset] [(.ref b5)])) t → Steps p.tables e below (s₁.setTop (entryFrame m #[(.long qb), (.int x0), (.int x1), (.int x2), (.int x3), (.int sel)] maxLocals)) t := fun t k => go4 t (st5 _ k)
  have go7 : ∀ t, Steps p.tables e below (T5.setTop (mkF m 33 #[.val (.long qb), .second, .val (.int x0), .val (.int x1), .val (.int x2), .val (.int x3), .val (.int sel), .val (.int (Int32.ofNat A)), .val (.int (Int32.ofNat K)), .val (.int (Int32.ofNat (A + K))), .unset, .unset, .unset, .unset, .unset, .unset, .unset] [(.int x0), (.int (0 : Int32)), (.ref b5), (.ref b5)])) t → Steps p.tables e below (s₁.setTop (entryFrame m #[(.long qb), (.int x0), (.int x1), (.int x2), (.int x3), (.int sel)] maxLocals)) t := by
    intro t k
    refine go6 t ?_
    show Steps p.tables e below (T5.setTop (mkF m 30 #[.val (.long qb), .second, .val (.int x0), .val (.int x1), .val (.int x2), .val (.int x3), .val (.int sel), .val (.int (Int32.ofNat A)), .val (.int (Int32.ofNat K)), .val (.int (Int32.ofNat (A + K))), .unset, .unset, .unset, .unset, .unset, .unset, .unset] [(.ref b5)])) _
    refine XS.dup X5.here hx rfl (hb hby at_30) rfl rfl ?_
    show Steps p.tables e below (T5.setTop (mkF m 31 #[.val (.long qb), .second, .val (.int x0), .val (.int x1), .val (.int x2), .val (.int x3), .val (.int sel), .val (.int (Int32.ofNat A)), .val (.int (Int32.ofNat K)), .val (.int (Int32.ofNat (A + K))), .unset, .unset, .unset, .unset, .unset, .unset, .unset] [(.ref b5), (.ref b5)])) _
    refine XS.iconst X5.here hx rfl (hb hby at_31) ?_
    show Steps p.tables e below (T5.setTop (mkF m 32 #[.val (.long qb), .second, .val (.int x0), .val (.int x1), .val (.int x2), .val (.int x3), .val (.int sel), .val (.int (Int32.ofNat A)), .val (.int (Int32.ofNat K)), .val (.int (Int32.ofNat (A + K))), .unset, .unset, .unset, .unset, .unset, .unset, .unset] [(.int (0 : Int32)), (.ref b5), (.ref b5)])) _
    refine XS.iloadN X5.here hx rfl (hb hby at_32) rfl ?_
    exact k
  obtain ⟨cl8, Ar8, qa8, Sa8, Na8, Ha8, Ga8⟩ := V5
  have hin8 : ¬ ((0 : Int32) < 0 ∨ cl8.slots.size ≤ ((0 : Int32)).toNatClampNeg) := inb_of Sa8 ⟨by decide, by decide⟩
  obtain ⟨T8, h8, X8, e8, W8, st8⟩ := stI X5 hx hZ e5 Ar8 (j := (0 : Int32)) hin8 (g := (mkF m 33 #[.val (.long qb), .second, .val (.int x0), .val (.int x1), .val (.int x2), .val (.int x3), .val (.int sel), .val (.int (Int32.ofNat A)), .val (.int (Int32.ofNat K)), .val (.int (Int32.ofNat (A + K))), .unset, .unset, .unset, .unset, .unset, .unset, .unset] [(.int x0), (.int (0 : Int32)), (.ref b5), (.ref b5)])) rfl rfl (hb hby at_33)
  have V8 : Arv Z h8 b5 k5 .int (4 : Int32) [(.int x0), (.int (0 : Int32)), (.int (0 : Int32)), (.int (0 : Int32))] (.int (0 : Int32)) := Arv.set Ar8 qa8 Sa8 Na8 Ha8 Ga8 rfl W8 0 rfl (Nat.le_of_ble_eq_true rfl)
  have Z8 : n0 ≤ h8.size := Nat.le_trans Z5 (Keep.of_wr W8).1
  have N8 := Fr.snoc X8 N0 g_b5
  have go9 : ∀ t, Steps p.tables e below (T8.setTop (mkF m 34 #[.val (.long qb), .second, .val (.int x0), .val (.int x1), .val (.int x2), .val (.int x3), .val (.int sel), .val (.int (Int32.ofNat A)), .val (.int (Int32.ofNat K)), .val (.int (Int32.ofNat (A + K))), .unset, .unset, .unset, .unset, .unset, .unset, .unset] [(.ref b5)])) t → Steps p.tables e below (s₁.setTop (entryFrame m #[(.long qb), (.int x0), (.int x1), (.int x2), (.int x3), (.int sel)] maxLocals)) t := fun t k => go7 t (st8 _ k)
  have go10 : ∀ t, Steps p.tables e below (T8.setTop (mkF m 37 #[.val (.long qb), .second, .val (.int x0), .val (.int x1), .val (.int x2), .val (.int x3), .val (.int sel), .val (.int (Int32.ofNat A)), .val (.int (Int32.ofNat K)), .val (.int (Int32.ofNat (A + K))), .unset, .unset, .unset, .unset, .unset, .unset, .unset] [(.int x1), (.int (1 : Int32)), (.ref b5), (.ref b5)])) t → Steps p.tables e below (s₁.setTop (entryFrame m #[(.long qb), (.int x0), (.int x1), (.int x2), (.int x3), (.int sel)] maxLocals)) t := by
    intro t k
    refine go9 t ?_
    show Steps p.tables e below (T8.setTop (mkF m 34 #[.val (.long qb), .second, .val (.int x0), .val (.int x1), .val (.int x2), .val (.int x3), .val (.int sel), .val (.int (Int32.ofNat A)), .val (.int (Int32.ofNat K)), .val (.int (Int32.ofNat (A + K))), .unset, .unset, .unset, .unset, .unset, .unset, .unset] [(.ref b5)])) _
    refine XS.dup X8.here hx rfl (hb hby at_34) rfl rfl ?_
    show Steps p.tables e below (T8.setTop (mkF m 35 #[.val (.long qb), .second, .val (.int x0), .val (.int x1), .val (.int x2), .val (.int x3), .val (.int sel), .val (.int (Int32.ofNat A)), .val (.int (Int32.ofNat K)), .val (.int (Int32.ofNat (A + K))), .unset, .unset, .unset, .unset, .unset, .unset, .unset] [(.ref b5), (.ref b5)])) _
    refine XS.iconst X8.here hx rfl (hb hby at_35) ?_
    show Steps p.tables e below (T8.setTop (mkF m 36 #[.val (.long qb), .second, .val (.int x0), .val (.int x1), .val (.int x2), .val (.int x3), .val (.int sel), .val (.int (Int32.ofNat A)), .val (.int (Int32.ofNat K)), .val (.int (Int32.ofNat (A + K))), .unset, .unset, .unset, .unset, .unset, .unset, .unset] [(.int (1 : Int32)), (.ref b5), (.ref b5)])) _
    refine XS.iloadN X8.here hx rfl (hb hby at_36) rfl ?_
    exact k
  obtain ⟨cl11, Ar11, qa11, Sa11, Na11, Ha11, Ga11⟩ := V8
  have hin11 : ¬ ((1 : Int32) < 0 ∨ cl11.slots.size ≤ ((1 : Int32)).toNatClampNeg) := inb_of Sa11 ⟨by decide, by decide⟩
  obtain ⟨T11, h11, X11, e11, W11, st11⟩ := stI X8 hx hZ e8 Ar11 (j := (1 : Int32)) hin11 (g := (mkF m 37 #[.val (.long qb), .second, .val (.int x0), .val (.int x1), .val (.int x2), .val (.int x3), .val (.int sel), .val (.int (Int32.ofNat A)), .val (.int (Int32.ofNat K)), .val (.int (Int32.ofNat (A + K))), .unset, .unset, .unset, .unset, .unset, .unset, .unset] [(.int x1), (.int (1 : Int32)), (.ref b5), (.ref b5)])) rfl rfl (hb hby at_37)
  have V11 : Arv Z h11 b5 k5 .int (4 : Int32) [(.int x0), (.int x1), (.int (0 : Int32)), (.int (0 : Int32))] (.int (0 : Int32)) := Arv.set Ar11 qa11 Sa11 Na11 Ha11 Ga11 rfl W11 1 rfl (Nat.le_of_ble_eq_true rfl)
  have Z11 : n0 ≤ h11.size := Nat.le_trans Z8 (Keep.of_wr W11).1
  have N11 := Fr.snoc X11 N8 g_b5
  have go12 : ∀ t, Steps p.tables e below (T11.setTop (mkF m 38 #[.val (.long qb), .second, .val (.int x0), .val (.int x1), .val (.int x2), .val (.int x3), .val (.int sel), .val (.int (Int32.ofNat A)), .val (.int (Int32.ofNat K)), .val (.int (Int32.ofNat (A + K))), .unset, .unset, .unset, .unset, .unset, .unset, .unset] [(.ref b5)])) t → Steps p.tables e below (s₁.setTop (entryFrame m #[(.long qb), (.int x0), (.int x1), (.int x2), (.int x3), (.int sel)] maxLocals)) t := fun t k => go10 t (st11 _ k)
  have go13 : ∀ t, Steps p.tables e below (T11.setTop (mkF m 42 #[.val (.long qb), .second, .val (.int x0), .val (.int x1), .val (.int x2), .val (.int x3), .val (.int sel), .val (.int (Int32.ofNat A)), .val (.int (Int32.ofNat K)), .val (.int (Int32.ofNat (A + K))), .unset, .unset, .unset, .unset, .unset, .unset, .unset] [(.int x2), (.int (2 : Int32)), (.ref b5), (.ref b5)])) t → Steps p.tables e below (s₁.setTop (entryFrame m #[(.long qb), (.int x0), (.int x1), (.int x2), (.int x3), (.int sel)] maxLocals)) t := by
    intro t k
    refine go12 t ?_
    show Steps p.tables e below (T11.setTop (mkF m 38 #[.val (.long qb), .second, .val (.int x0), .val (.int x1), .val (.int x2), .val (.int x3), .val (.int sel), .val (.int (Int32.ofNat A)), .val (.int (Int32.ofNat K)), .val (.int (Int32.ofNat (A + K))), .unset, .unset, .unset, .unset, .unset, .unset, .unset] [(.ref b5)])) _
    refine XS.dup X11.here hx rfl (hb hby at_38) rfl rfl ?_
    show Steps p.tables e below (T11.setTop (mkF m 39 #[.val (.long qb), .second, .val (.int x0), .val (.int x1), .val (.int x2), .val (.int x3), .val (.int sel), .val (.int (Int32.ofNat A)), .val (.int (Int32.ofNat K)), .val (.int (Int32.ofNat (A + K))), .unset, .unset, .unset, .unset, .unset, .unset, .unset] [(.ref b5), (.ref b5)])) _
    refine XS.iconst X11.here hx rfl (hb hby at_39) ?_
    show Steps p.tables e below (T11.setTop (mkF m 40 #[.val (.long qb), .second, .val (.int x0), .val (.int x1), .val (.int x2), .val (.int x3), .val (.int sel), .val (.int (Int32.ofNat A)), .val (.int (Int32.ofNat K)), .val (.int (Int32.ofNat (A + K))), .unset, .unset, .unset, .unset, .unset, .unset, .unset] [(.int (2 : Int32)), (.ref b5), (.ref b5)])) _
    refine XS.iload X11.here hx rfl (hb hby at_40) rfl ?_
    exact k
  obtain ⟨cl14, Ar14, qa14, Sa14, Na14, Ha14, Ga14⟩ := V11
  have hin14 : ¬ ((2 : Int32) < 0 ∨ cl14.slots.size ≤ ((2 : Int32)).toNatClampNeg) := inb_of Sa14 ⟨by decide, by decide⟩
  obtain ⟨T14, h14, X14, e14, W14, st14⟩ := stI X11 hx hZ e11 Ar14 (j := (2 : Int32)) hin14 (g := (mkF m 42 #[.val (.long qb), .second, .val (.int x0), .val (.int x1), .val (.int x2), .val (.int x3), .val (.int sel), .val (.int (Int32.ofNat A)), .val (.int (Int32.ofNat K)), .val (.int (Int32.ofNat (A + K))), .unset, .unset, .unset, .unset, .unset, .unset, .unset] [(.int x2), (.int (2 : Int32)), (.ref b5), (.ref b5)])) rfl rfl (hb hby at_42)
  have V14 : Arv Z h14 b5 k5 .int (4 : Int32) [(.int x0), (.int x1), (.int x2), (.int (0 : Int32))] (.int (0 : Int32)) := Arv.set Ar14 qa14 Sa14 Na14 Ha14 Ga14 rfl W14 2 rfl (Nat.le_of_ble_eq_true rfl)
  have Z14 : n0 ≤ h14.size := Nat.le_trans Z11 (Keep.of_wr W14).1
  have N14 := Fr.snoc X14 N11 g_b5
  have go15 : ∀ t, Steps p.tables e below (T14.setTop (mkF m 43 #[.val (.long qb), .second, .val (.int x0), .val (.int x1), .val (.int x2), .val (.int x3), .val (.int sel), .val (.int (Int32.ofNat A)), .val (.int (Int32.ofNat K)), .val (.int (Int32.ofNat (A + K))), .unset, .unset, .unset, .unset, .unset, .unset, .unset] [(.ref b5)])) t → Steps p.tables e below (s₁.setTop (entryFrame m #[(.long qb), (.int x0), (.int x1), (.int x2), (.int x3), (.int sel)] maxLocals)) t := fun t k => go13 t (st14 _ k)
  have go16 : ∀ t, Steps p.tables e below (T14.setTop (mkF m 47 #[.val (.long qb), .second, .val (.int x0), .val (.int x1), .val (.int x2), .val (.int x3), .val (.int sel), .val (.int (Int32.ofNat A)), .val (.int (Int32.ofNat K)), .val (.int (Int32.ofNat (A + K))), .unset, .unset, .unset, .unset, .unset, .unset, .unset] [(.int x3), (.int (3 : Int32)), (.ref b5), (.ref b5)])) t → Steps p.tables e below (s₁.setTop (entryFrame m #[(.long qb), (.int x0), (.int x1), (.int x2), (.int x3), (.int sel)] maxLocals)) t := by
    intro t k
    refine go15 t ?_
    show Steps p.tables e below (T14.setTop (mkF m 43 #[.val (.long qb), .second, .val (.int x0), .val (.int x1), .val (.int x2), .val (.int x3), .val (.int sel), .val (.int (Int32.ofNat A)), .val (.int (Int32.ofNat K)), .val (.int (Int32.ofNat (A + K))), .unset, .unset, .unset, .unset, .unset, .unset, .unset] [(.ref b5)])) _
    refine XS.dup X14.here hx rfl (hb hby at_43) rfl rfl ?_
    show Steps p.tables e below (T14.setTop (mkF m 44 #[.val (.long qb), .second, .val (.int x0), .val (.int x1), .val (.int x2), .val (.int x3), .val (.int sel), .val (.int (Int32.ofNat A)), .val (.int (Int32.ofNat K)), .val (.int (Int32.ofNat (A + K))), .unset, .unset, .unset, .unset, .unset, .unset, .unset] [(.ref b5), (.ref b5)])) _
    refine XS.iconst X14.here hx rfl (hb hby at_44) ?_
    show Steps p.tables e below (T14.setTop (mkF m 45 #[.val (.long qb), .second, .val (.int x0), .val (.int x1), .val (.int x2), .val (.int x3), .val (.int sel), .val (.int (Int32.ofNat A)), .val (.int (Int32.ofNat K)), .val (.int (Int32.ofNat (A + K))), .unset, .unset, .unset, .unset, .unset, .unset, .unset] [(.int (3 : Int32)), (.ref b5), (.ref b5)])) _
    refine XS.iload X14.here hx rfl (hb hby at_45) rfl ?_
    exact k
  obtain ⟨cl17, Ar17, qa17, Sa17, Na17, Ha17, Ga17⟩ := V14
  have hin17 : ¬ ((3 : Int32) < 0 ∨ cl17.slots.size ≤ ((3 : Int32)).toNatClampNeg) := inb_of Sa17 ⟨by decide, by decide⟩
  obtain ⟨T17, h17, X17, e17, W17, st17⟩ := stI X14 hx hZ e14 Ar17 (j := (3 : Int32)) hin17 (g := (mkF m 47 #[.val (.long qb), .second, .val (.int x0), .val (.int x1), .val (.int x2), .val (.int x3), .val (.int sel), .val (.int (Int32.ofNat A)), .val (.int (Int32.ofNat K)), .val (.int (Int32.ofNat (A + K))), .unset, .unset, .unset, .unset, .unset, .unset, .unset] [(.int x3), (.int (3 : Int32)), (.ref b5), (.ref b5)])) rfl rfl (hb hby at_47)
  have V17 : Arv Z h17 b5 k5 .int (4 : Int32) [(.int x0), (.int x1), (.int x2), (.int x3)] (.int (0 : Int32)) := Arv.set Ar17 qa17 Sa17 Na17 Ha17 Ga17 rfl W17 3 rfl (Nat.le_of_ble_eq_true rfl)
  have Z17 : n0 ≤ h17.size := Nat.le_trans Z14 (Keep.of_wr W17).1
  have N17 := Fr.snoc X17 N14 g_b5
  have go18 : ∀ t, Steps p.tables e below (T17.setTop (mkF m 48 #[.val (.long qb), .second, .val (.int x0), .val (.int x1), .val (.int x2), .val (.int x3), .val (.int sel), .val (.int (Int32.ofNat A)), .val (.int (Int32.ofNat K)), .val (.int (Int32.ofNat (A + K))), .unset, .unset, .unset, .unset, .unset, .unset, .unset] [(.ref b5)])) t → Steps p.tables e below (s₁.setTop (entryFrame m #[(.long qb), (.int x0), (.int x1), (.int x2), (.int x3), (.int sel)] maxLocals)) t := fun t k => go16 t (st17 _ k)
  have go19 : ∀ t, Steps p.tables e below (T17.setTop (mkF m 51 #[.val (.long qb), .second, .val (.int x0), .val (.int x1), .val (.int x2), .val (.int x3), .val (.int sel), .val (.int (Int32.ofNat A)), .val (.int (Int32.ofNat K)), .val (.int (Int32.ofNat (A + K))), .val (.ref b5), .unset, .unset, .unset, .unset, .unset, .unset] [(.int (4 : Int32))])) t → Steps p.tables e below (s₁.setTop (entryFrame m #[(.long qb), (.int x0), (.int x1), (.int x2), (.int x3), (.int sel)] maxLocals)) t := by
    intro t k
    refine go18 t ?_
    show Steps p.tables e below (T17.setTop (mkF m 48 #[.val (.long qb), .second, .val (.int x0), .val (.int x1), .val (.int x2), .val (.int x3), .val (.int sel), .val (.int (Int32.ofNat A)), .val (.int (Int32.ofNat K)), .val (.int (Int32.ofNat (A + K))), .unset, .unset, .unset, .unset, .unset, .unset, .unset] [(.ref b5)])) _
    refine XS.astore X17.here hx rfl (hb hby at_48) rfl rfl (l' := #[.val (.long qb), .second, .val (.int x0), .val (.int x1), .val (.int x2), .val (.int x3), .val (.int sel), .val (.int (Int32.ofNat A)), .val (.int (Int32.ofNat K)), .val (.int (Int32.ofNat (A + K))), .val (.ref b5), .unset, .unset, .unset, .unset, .unset, .unset]) rfl ?_
    show Steps p.tables e below (T17.setTop (mkF m 50 #[.val (.long qb), .second, .val (.int x0), .val (.int x1), .val (.int x2), .val (.int x3), .val (.int sel), .val (.int (Int32.ofNat A)), .val (.int (Int32.ofNat K)), .val (.int (Int32.ofNat (A + K))), .val (.ref b5), .unset, .unset, .unset, .unset, .unset, .unset] [])) _
    refine XS.iconst X17.here hx rfl (hb hby at_50) ?_
    exact k
  obtain ⟨T20, h20, k20, X20, e20, E20, A20, st20⟩ := newP X17 hx hZ (hw _ (List.mem_of_getElem? (i := 0) rfl)) e17 (g := (mkF m 51 #[.val (.long qb), .second, .val (.int x0), .val (.int x1), .val (.int x2), .val (.int x3), .val (.int sel), .val (.int (Int32.ofNat A)), .val (.int (Int32.ofNat K)), .val (.int (Int32.ofNat (A + K))), .val (.ref b5), .unset, .unset, .unset, .unset, .unset, .unset] [(.int (4 : Int32))])) rfl (hb hby at_51) rfl (by decide) (cap := 4) (by decide) (by decide) (by decide) (by decide)
  obtain ⟨b20, g20⟩ : ∃ z, z = h17.size := ⟨_, rfl⟩
  rw [← g20] at A20 st20
  have g_b20 : n0 ≤ b20 := Nat.le_trans Z17 (Nat.le_of_eq g20.symm)
  have Z20 : n0 ≤ h20.size := Nat.le_trans Z17 E20.1
  have ne_b5_b20 : b5 ≠ b20 := Nat.ne_of_lt (Nat.lt_of_lt_of_le V17.lt (Nat.le_of_eq g20.symm))
  have ne_b20_b5 : b20 ≠ b5 := Ne.symm ne_b5_b20
  have c21 := V17.ext E20
  have V20 : Arv Z h20 b20 k20 .int (4 : Int32) [(.int (0 : Int32)), (.int (0 : Int32)), (.int (0 : Int32)), (.int (0 : Int32))] (.int (0 : Int32)) := (Arv.new A20 (by decide)).pad (pad_rep [] (.int (0 : Int32)) 4)
  have go22 : ∀ t, Steps p.tables e below (T20.setTop (mkF m 53 #[.val (.long qb), .second, .val (.int x0), .val (.int x1), .val (.int x2), .val (.int x3), .val (.int sel), .val (.int (Int32.ofNat A)), .val (.int (Int32.ofNat K)), .val (.int (Int32.ofNat (A + K))), .val (.ref b5), .unset, .unset, .unset, .unset, .unset, .unset] [(.ref b20)])) t → Steps p.tables e below (s₁.setTop (entryFrame m #[(.long qb), (.int x0), (.int x1), (.int x2), (.int x3), (.int sel)] maxLocals)) t := fun t k => go19 t (st20 _ k)
  have go23 : ∀ t, Steps p.tables e below (T20.setTop (mkF m 56 #[.val (.long qb), .second, .val (.int x0), .val (.int x1), .val (.int x2), .val (.int x3), .val (.int sel), .val (.int (Int32.ofNat A)), .val (.int (Int32.ofNat K)), .val (.int (Int32.ofNat (A + K))), .val (.ref b5), .unset, .unset, .unset, .unset, .unset, .unset] [(.int x0), (.int (0 : Int32)), (.ref b20), (.ref b20)])) t → Steps p.tables e below (s₁.setTop (entryFrame m #[(.long qb), (.int x0), (.int x1), (.int x2), (.int x3), (.int sel)] maxLocals)) t := by
    intro t k
    refine go22 t ?_
    show Steps p.tables e below (T20.setTop (mkF m 53 #[.val (.long qb), .second, .val (.int x0), .val (.int x1), .val (.int x2), .val (.int x3), .val (.int sel), .val (.int (Int32.ofNat A)), .val (.int (Int32.ofNat K)), .val (.int (Int32.ofNat (A + K))), .val (.ref b5), .unset, .unset, .unset, .unset, .unset, .unset] [(.ref b20)])) _
    refine XS.dup X20.here hx rfl (hb hby at_53) rfl rfl ?_
    show Steps p.tables e below (T20.setTop (mkF m 54 #[.val (.long qb), .second, .val (.int x0), .val (.int x1), .val (.int x2), .val (.int x3), .val (.int sel), .val (.int (Int32.ofNat A)), .val (.int (Int32.ofNat K)), .val (.int (Int32.ofNat (A + K))), .val (.ref b5), .unset, .unset, .unset, .unset, .unset, .unset] [(.ref b20), (.ref b20)])) _
    refine XS.iconst X20.here hx rfl (hb hby at_54) ?_
    show Steps p.tables e below (T20.setTop (mkF m 55 #[.val (.long qb), .second, .val (.int x0), .val (.int x1), .val (.int x2), .val (.int x3), .val (.int sel), .val (.int (Int32.ofNat A)), .val (.int (Int32.ofNat K)), .val (.int (Int32.ofNat (A + K))), .val (.ref b5), .unset, .unset, .unset, .unset, .unset, .unset] [(.int (0 : Int32)), (.ref b20), (.ref b20)])) _
    refine XS.iloadN X20.here hx rfl (hb hby at_55) rfl ?_
    exact k
  obtain ⟨cl24, Ar24, qa24, Sa24, Na24, Ha24, Ga24⟩ := V20
  have hin24 : ¬ ((0 : Int32) < 0 ∨ cl24.slots.size ≤ ((0 : Int32)).toNatClampNeg) := inb_of Sa24 ⟨by decide, by decide⟩
  obtain ⟨T24, h24, X24, e24, W24, st24⟩ := stI X20 hx hZ e20 Ar24 (j := (0 : Int32)) hin24 (g := (mkF m 56 #[.val (.long qb), .second, .val (.int x0), .val (.int x1), .val (.int x2), .val (.int x3), .val (.int sel), .val (.int (Int32.ofNat A)), .val (.int (Int32.ofNat K)), .val (.int (Int32.ofNat (A + K))), .val (.ref b5), .unset, .unset, .unset, .unset, .unset, .unset] [(.int x0), (.int (0 : Int32)), (.ref b20), (.ref b20)])) rfl rfl (hb hby at_56)
  have V24 : Arv Z h24 b20 k20 .int (4 : Int32) [(.int x0), (.int (0 : Int32)), (.int (0 : Int32)), (.int (0 : Int32))] (.int (0 : Int32)) := Arv.set Ar24 qa24 Sa24 Na24 Ha24 Ga24 rfl W24 0 rfl (Nat.le_of_ble_eq_true rfl)
  have c25 := c21.other W24 ne_b5_b20
  have Z24 : n0 ≤ h24.size := Nat.le_trans Z20 (Keep.of_wr W24).1
  have N24 := Fr.snoc X24 N17 g_b20
  have go26 : ∀ t, Steps p.tables e below (T24.setTop (mkF m 57 #[.val (.long qb), .second, .val (.int x0), .val (.int x1), .val (.int x2), .val (.int x3), .val (.int sel), .val (.int (Int32.ofNat A)), .val (.int (Int32.ofNat K)), .val (.int (Int32.ofNat (A + K))), .val (.ref b5), .unset, .unset, .unset, .unset, .unset, .unset] [(.ref b20)])) t → Steps p.tables e below (s₁.setTop (entryFrame m #[(.long qb), (.int x0), (.int x1), (.int x2), (.int x3), (.int sel)] maxLocals)) t := fun t k => go23 t (st24 _ k)
  have go27 : ∀ t, Steps p.tables e below (T24.setTop (mkF m 60 #[.val (.long qb), .second, .val (.int x0), .val (.int x1), .val (.int x2), .val (.int x3), .val (.int sel), .val (.int (Int32.ofNat A)), .val (.int (Int32.ofNat K)), .val (.int (Int32.ofNat (A + K))), .val (.ref b5), .unset, .unset, .unset, .unset, .unset, .unset] [(.int x1), (.int (1 : Int32)), (.ref b20), (.ref b20)])) t → Steps p.tables e below (s₁.setTop (entryFrame m #[(.long qb), (.int x0), (.int x1), (.int x2), (.int x3), (.int sel)] maxLocals)) t := by
    intro t k
    refine go26 t ?_
    show Steps p.tables e below (T24.setTop (mkF m 57 #[.val (.long qb), .second, .val (.int x0), .val (.int x1), .val (.int x2), .val (.int x3), .val (.int sel), .val (.int (Int32.ofNat A)), .val (.int (Int32.ofNat K)), .val (.int (Int32.ofNat (A + K))), .val (.ref b5), .unset, .unset, .unset, .unset, .unset, .unset] [(.ref b20)])) _
    refine XS.dup X24.here hx rfl (hb hby at_57) rfl rfl ?_
    show Steps p.tables e below (T24.setTop (mkF m 58 #[.val (.long qb), .second, .val (.int x0), .val (.int x1), .val (.int x2), .val (.int x3), .val (.int sel), .val (.int (Int32.ofNat A)), .val (.int (Int32.ofNat K)), .val (.int (Int32.ofNat (A + K))), .val (.ref b5), .unset, .unset, .unset, .unset, .unset, .unset] [(.ref b20), (.ref b20)])) _
    refine XS.iconst X24.here hx rfl (hb hby at_58) ?_
    show Steps p.tables e below (T24.setTop (mkF m 59 #[.val (.long qb), .second, .val (.int x0), .val (.int x1), .val (.int x2), .val (.int x3), .val (.int sel), .val (.int (Int32.ofNat A)), .val (.int (Int32.ofNat K)), .val (.int (Int32.ofNat (A + K))), .val (.ref b5), .unset, .unset, .unset, .unset, .unset, .unset] [(.int (1 : Int32)), (.ref b20), (.ref b20)])) _
    refine XS.iloadN X24.here hx rfl (hb hby at_59) rfl ?_
    exact k
  obtain ⟨cl28, Ar28, qa28, Sa28, Na28, Ha28, Ga28⟩ := V24
  have hin28 : ¬ ((1 : Int32) < 0 ∨ cl28.slots.size ≤ ((1 : Int32)).toNatClampNeg) := inb_of Sa28 ⟨by decide, by decide⟩
  obtain ⟨T28, h28, X28, e28, W28, st28⟩ := stI X24 hx hZ e24 Ar28 (j := (1 : Int32)) hin28 (g := (mkF m 60 #[.val (.long qb), .second, .val (.int x0), .val (.int x1), .val (.int x2), .val (.int x3), .val (.int sel), .val (.int (Int32.ofNat A)), .val (.int (Int32.ofNat K)), .val (.int (Int32.ofNat (A + K))), .val (.ref b5), .unset, .unset, .unset, .unset, .unset, .unset] [(.int x1), (.int (1 : Int32)), (.ref b20), (.ref b20)])) rfl rfl (hb hby at_60)
  have V28 : Arv Z h28 b20 k20 .int (4 : Int32) [(.int x0), (.int x1), (.int (0 : Int32)), (.int (0 : Int32))] (.int (0 : Int32)) := Arv.set Ar28 qa28 Sa28 Na28 Ha28 Ga28 rfl W28 1 rfl (Nat.le_of_ble_eq_true rfl)
  have c29 := c25.other W28 ne_b5_b20
  have Z28 : n0 ≤ h28.size := Nat.le_trans Z24 (Keep.of_wr W28).1
  have N28 := Fr.snoc X28 N24 g_b20
  have go30 : ∀ t, Steps p.tables e below (T28.setTop (mkF m 61 #[.val (.long qb), .second, .val (.int x0), .val (.int x1), .val (.int x2), .val (.int x3), .val (.int sel), .val (.int (Int32.ofNat A)), .val (.int (Int32.ofNat K)), .val (.int (Int32.ofNat (A + K))), .val (.ref b5), .unset, .unset, .unset, .unset, .unset, .unset] [(.ref b20)])) t → Steps p.tables e below (s₁.setTop (entryFrame m #[(.long qb), (.int x0), (.int x1), (.int x2), (.int x3), (.int sel)] maxLocals)) t := fun t k => go27 t (st28 _ k)
  have go31 : ∀ t, Steps p.tables e below (T28.setTop (mkF m 65 #[.val (.long qb), .second, .val (.int x0), .val (.int x1), .val (.int x2), .val (.int x3), .val (.int sel), .val (.int (Int32.ofNat A)), .val (.int (Int32.ofNat K)), .val (.int (Int32.ofNat (A + K))), .val (.ref b5), .unset, .unset, .unset, .unset, .unset, .unset] [(.int x2), (.int (2 : Int32)), (.ref b20), (.ref b20)])) t → Steps p.tables e below (s₁.setTop (entryFrame m #[(.long qb), (.int x0), (.int x1), (.int x2), (.int x3), (.int sel)] maxLocals)) t := by
    intro t k
    refine go30 t ?_
    show Steps p.tables e below (T28.setTop (mkF m 61 #[.val (.long qb), .second, .val (.int x0), .val (.int x1), .val (.int x2), .val (.int x3), .val (.int sel), .val (.int (Int32.ofNat A)), .val (.int (Int32.ofNat K)), .val (.int (Int32.ofNat (A + K))), .val (.ref b5), .unset, .unset, .unset, .unset, .unset, .unset] [(.ref b20)])) _
    refine XS.dup X28.here hx rfl (hb hby at_61) rfl rfl ?_
    show Steps p.tables e below (T28.setTop (mkF m 62 #[.val (.long qb), .second, .val (.int x0), .val (.int x1), .val (.int x2), .val (.int x3), .val (.int sel), .val (.int (Int32.ofNat A)), .val (.int (Int32.ofNat K)), .val (.int (Int32.ofNat (A + K))), .val (.ref b5), .unset, .unset, .unset, .unset, .unset, .unset] [(.ref b20), (.ref b20)])) _
    refine XS.iconst X28.here hx rfl (hb hby at_62) ?_
    show Steps p.tables e below (T28.setTop (mkF m 63 #[.val (.long qb), .second, .val (.int x0), .val (.int x1), .val (.int x2), .val (.int x3), .val (.int sel), .val (.int (Int32.ofNat A)), .val (.int (Int32.ofNat K)), .val (.int (Int32.ofNat (A + K))), .val (.ref b5), .unset, .unset, .unset, .unset, .unset, .unset] [(.int (2 : Int32)), (.ref b20), (.ref b20)])) _
    refine XS.iload X28.here hx rfl (hb hby at_63) rfl ?_
    exact k
  obtain ⟨cl32, Ar32, qa32, Sa32, Na32, Ha32, Ga32⟩ := V28
  have hin32 : ¬ ((2 : Int32) < 0 ∨ cl32.slots.size ≤ ((2 : Int32)).toNatClampNeg) := inb_of Sa32 ⟨by decide, by decide⟩
  obtain ⟨T32, h32, X32, e32, W32, st32⟩ := stI X28 hx hZ e28 Ar32 (j := (2 : Int32)) hin32 (g := (mkF m 65 #[.val (.long qb), .second, .val (.int x0), .val (.int x1), .val (.int x2), .val (.int x3), .val (.int sel), .val (.int (Int32.ofNat A)), .val (.int (Int32.ofNat K)), .val (.int (Int32.ofNat (A + K))), .val (.ref b5), .unset, .unset, .unset, .unset, .unset, .unset] [(.int x2), (.int (2 : Int32)), (.ref b20), (.ref b20)])) rfl rfl (hb hby at_65)
  have V32 : Arv Z h32 b20 k20 .int (4 : Int32) [(.int x0), (.int x1), (.int x2), (.int (0 : Int32))] (.int (0 : Int32)) := Arv.set Ar32 qa32 Sa32 Na32 Ha32 Ga32 rfl W32 2 rfl (Nat.le_of_ble_eq_true rfl)
  have c33 := c29.other W32 ne_b5_b20
  have Z32 : n0 ≤ h32.size := Nat.le_trans Z28 (Keep.of_wr W32).1
  have N32 := Fr.snoc X32 N28 g_b20
  have go34 : ∀ t, Steps p.tables e below (T32.setTop (mkF m 66 #[.val (.long qb), .second, .val (.int x0), .val (.int x1), .val (.int x2), .val (.int x3), .val (.int sel), .val (.int (Int32.ofNat A)), .val (.int (Int32.ofNat K)), .val (.int (Int32.ofNat (A + K))), .val (.ref b5), .unset, .unset, .unset, .unset, .unset, .unset] [(.ref b20)])) t → Steps p.tables e below (s₁.setTop (entryFrame m #[(.long qb), (.int x0), (.int x1), (.int x2), (.int x3), (.int sel)] maxLocals)) t := fun t k => go31 t (st32 _ k)
  have go35 : ∀ t, Steps p.tables e below (T32.setTop (mkF m 70 #[.val (.long qb), .second, .val (.int x0), .val (.int x1), .val (.int x2), .val (.int x3), .val (.int sel), .val (.int (Int32.ofNat A)), .val (.int (Int32.ofNat K)), .val (.int (Int32.ofNat (A + K))), .val (.ref b5), .unset, .unset, .unset, .unset, .unset, .unset] [(.int x3), (.int (3 : Int32)), (.ref b20), (.ref b20)])) t → Steps p.tables e below (s₁.setTop (entryFrame m #[(.long qb), (.int x0), (.int x1), (.int x2), (.int x3), (.int sel)] maxLocals)) t := by
    intro t k
    refine go34 t ?_
    show Steps p.tables e below (T32.setTop (mkF m 66 #[.val (.long qb), .second, .val (.int x0), .val (.int x1), .val (.int x2), .val (.int x3), .val (.int sel), .val (.int (Int32.ofNat A)), .val (.int (Int32.ofNat K)), .val (.int (Int32.ofNat (A + K))), .val (.ref b5), .unset, .unset, .unset, .unset, .unset, .unset] [(.ref b20)])) _
    refine XS.dup X32.here hx rfl (hb hby at_66) rfl rfl ?_
    show Steps p.tables e below (T32.setTop (mkF m 67 #[.val (.long qb), .second, .val (.int x0), .val (.int x1), .val (.int x2), .val (.int x3), .val (.int sel), .val (.int (Int32.ofNat A)), .val (.int (Int32.ofNat K)), .val (.int (Int32.ofNat (A + K))), .val (.ref b5), .unset, .unset, .unset, .unset, .unset, .unset] [(.ref b20), (.ref b20)])) _
    refine XS.iconst X32.here hx rfl (hb hby at_67) ?_
    show Steps p.tables e below (T32.setTop (mkF m 68 #[.val (.long qb), .second, .val (.int x0), .val (.int x1), .val (.int x2), .val (.int x3), .val (.int sel), .val (.int (Int32.ofNat A)), .val (.int (Int32.ofNat K)), .val (.int (Int32.ofNat (A + K))), .val (.ref b5), .unset, .unset, .unset, .unset, .unset, .unset] [(.int (3 : Int32)), (.ref b20), (.ref b20)])) _
    refine XS.iload X32.here hx rfl (hb hby at_68) rfl ?_
    exact k
  obtain ⟨cl36, Ar36, qa36, Sa36, Na36, Ha36, Ga36⟩ := V32
  have hin36 : ¬ ((3 : Int32) < 0 ∨ cl36.slots.size ≤ ((3 : Int32)).toNatClampNeg) := inb_of Sa36 ⟨by decide, by decide⟩
  obtain ⟨T36, h36, X36, e36, W36, st36⟩ := stI X32 hx hZ e32 Ar36 (j := (3 : Int32)) hin36 (g := (mkF m 70 #[.val (.long qb), .second, .val (.int x0), .val (.int x1), .val (.int x2), .val (.int x3), .val (.int sel), .val (.int (Int32.ofNat A)), .val (.int (Int32.ofNat K)), .val (.int (Int32.ofNat (A + K))), .val (.ref b5), .unset, .unset, .unset, .unset, .unset, .unset] [(.int x3), (.int (3 : Int32)), (.ref b20), (.ref b20)])) rfl rfl (hb hby at_70)
  have V36 : Arv Z h36 b20 k20 .int (4 : Int32) [(.int x0), (.int x1), (.int x2), (.int x3)] (.int (0 : Int32)) := Arv.set Ar36 qa36 Sa36 Na36 Ha36 Ga36 rfl W36 3 rfl (Nat.le_of_ble_eq_true rfl)
  have c37 := c33.other W36 ne_b5_b20
  have Z36 : n0 ≤ h36.size := Nat.le_trans Z32 (Keep.of_wr W36).1
  have N36 := Fr.snoc X36 N32 g_b20
  have go38 : ∀ t, Steps p.tables e below (T36.setTop (mkF m 71 #[.val (.long qb), .second, .val (.int x0), .val (.int x1), .val (.int x2), .val (.int x3), .val (.int sel), .val (.int (Int32.ofNat A)), .val (.int (Int32.ofNat K)), .val (.int (Int32.ofNat (A + K))), .val (.ref b5), .unset, .unset, .unset, .unset, .unset, .unset] [(.ref b20)])) t → Steps p.tables e below (s₁.setTop (entryFrame m #[(.long qb), (.int x0), (.int x1), (.int x2), (.int x3), (.int sel)] maxLocals)) t := fun t k => go35 t (st36 _ k)
  have go39 : ∀ t, Steps p.tables e below (T36.setTop (mkF m 74 #[.val (.long qb), .second, .val (.int x0), .val (.int x1), .val (.int x2), .val (.int x3), .val (.int sel), .val (.int (Int32.ofNat A)), .val (.int (Int32.ofNat K)), .val (.int (Int32.ofNat (A + K))), .val (.ref b5), .val (.ref b20), .unset, .unset, .unset, .unset, .unset] [(.int (4 : Int32))])) t → Steps p.tables e below (s₁.setTop (entryFrame m #[(.long qb), (.int x0), (.int x1), (.int x2), (.int x3), (.int sel)] maxLocals)) t := by
    intro t k
    refine go38 t ?_
    show Steps p.tables e below (T36.setTop (mkF m 71 #[.val (.long qb), .second, .val (.int x0), .val (.int x1), .val (.int x2), .val (.int x3), .val (.int sel), .val (.int (Int32.ofNat A)), .val (.int (Int32.ofNat K)), .val (.int (Int32.ofNat (A + K))), .val (.ref b5), .unset, .unset, .unset, .unset, .unset, .unset] [(.ref b20)])) _
    refine XS.astore X36.here hx rfl (hb hby at_71) rfl rfl (l' := #[.val (.long qb), .second, .val (.int x0), .val (.int x1), .val (.int x2), .val (.int x3), .val (.int sel), .val (.int (Int32.ofNat A)), .val (.int (Int32.ofNat K)), .val (.int (Int32.ofNat (A + K))), .val (.ref b5), .val (.ref b20), .unset, .unset, .unset, .unset, .unset]) rfl ?_
    show Steps p.tables e below (T36.setTop (mkF m 73 #[.val (.long qb), .second, .val (.int x0), .val (.int x1), .val (.int x2), .val (.int x3), .val (.int sel), .val (.int (Int32.ofNat A)), .val (.int (Int32.ofNat K)), .val (.int (Int32.ofNat (A + K))), .val (.ref b5), .val (.ref b20), .unset, .unset, .unset, .unset, .unset] [])) _
    refine XS.iconst X36.here hx rfl (hb hby at_73) ?_
    exact k
  obtain ⟨T40, h40, k40, X40, e40, E40, A40, st40⟩ := newP X36 hx hZ (hw _ (List.mem_of_getElem? (i := 1) rfl)) e36 (g := (mkF m 74 #[.val (.long qb), .second, .val (.int x0), .val (.int x1), .val (.int x2), .val (.int x3), .val (.int sel), .val (.int (Int32.ofNat A)), .val (.int (Int32.ofNat K)), .val (.int (Int32.ofNat (A + K))), .val (.ref b5), .val (.ref b20), .unset, .unset, .unset, .unset, .unset] [(.int (4 : Int32))])) rfl (hb hby at_74) rfl (by decide) (cap := 4) (by decide) (by decide) (by decide) (by decide)
  obtain ⟨b40, g40⟩ : ∃ z, z = h36.size := ⟨_, rfl⟩
  rw [← g40] at A40 st40
  have g_b40 : n0 ≤ b40 := Nat.le_trans Z36 (Nat.le_of_eq g40.symm)
  have Z40 : n0 ≤ h40.size := Nat.le_trans Z36 E40.1
  have ne_b5_b40 : b5 ≠ b40 := Nat.ne_of_lt (Nat.lt_of_lt_of_le c37.lt (Nat.le_of_eq g40.symm))
  have ne_b40_b5 : b40 ≠ b5 := Ne.symm ne_b5_b40
  have ne_b20_b40 : b20 ≠ b40 := Nat.ne_of_lt (Nat.lt_of_lt_of_le V36.lt (Nat.le_of_eq g40.symm))
  have ne_b40_b20 : b40 ≠ b20 := Ne.symm ne_b20_b40
  have c41 := c37.ext E40
  have c42 := V36.ext E40
  have V40 : Arv Z h40 b40 k40 .long (4 : Int32) [(.long (0 : Int64)), (.long (0 : Int64)), (.long (0 : Int64)), (.long (0 : Int64))] (.long (0 : Int64)) := (Arv.new A40 (by decide)).pad (pad_rep [] (.long (0 : Int64)) 4)
  have go43 : ∀ t, Steps p.tables e below (T40.setTop (mkF m 76 #[.val (.long qb), .second, .val (.int x0), .val (.int x1), .val (.int x2), .val (.int x3), .val (.int sel), .val (.int (Int32.ofNat A)), .val (.int (Int32.ofNat K)), .val (.int (Int32.ofNat (A + K))), .val (.ref b5), .val (.ref b20), .unset, .unset, .unset, .unset, .unset] [(.ref b40)])) t → Steps p.tables e below (s₁.setTop (entryFrame m #[(.long qb), (.int x0), (.int x1), (.int x2), (.int x3), (.int sel)] maxLocals)) t := fun t k => go39 t (st40 _ k)
  have go44 : ∀ t, Steps p.tables e below (T40.setTop (mkF m 80 #[.val (.long qb), .second, .val (.int x0), .val (.int x1), .val (.int x2), .val (.int x3), .val (.int sel), .val (.int (Int32.ofNat A)), .val (.int (Int32.ofNat K)), .val (.int (Int32.ofNat (A + K))), .val (.ref b5), .val (.ref b20), .unset, .unset, .unset, .unset, .unset] [(.long (x0.toInt64)), (.int (0 : Int32)), (.ref b40), (.ref b40)])) t → Steps p.tables e below (s₁.setTop (entryFrame m #[(.long qb), (.int x0), (.int x1), (.int x2), (.int x3), (.int sel)] maxLocals)) t := by
    intro t k
    refine go43 t ?_
    show Steps p.tables e below (T40.setTop (mkF m 76 #[.val (.long qb), .second, .val (.int x0), .val (.int x1), .val (.int x2), .val (.int x3), .val (.int sel), .val (.int (Int32.ofNat A)), .val (.int (Int32.ofNat K)), .val (.int (Int32.ofNat (A + K))), .val (.ref b5), .val (.ref b20), .unset, .unset, .unset, .unset, .unset] [(.ref b40)])) _
    refine XS.dup X40.here hx rfl (hb hby at_76) rfl rfl ?_
    show Steps p.tables e below (T40.setTop (mkF m 77 #[.val (.long qb), .second, .val (.int x0), .val (.int x1), .val (.int x2), .val (.int x3), .val (.int sel), .val (.int (Int32.ofNat A)), .val (.int (Int32.ofNat K)), .val (.int (Int32.ofNat (A + K))), .val (.ref b5), .val (.ref b20), .unset, .unset, .unset, .unset, .unset] [(.ref b40), (.ref b40)])) _
    refine XS.iconst X40.here hx rfl (hb hby at_77) ?_
    show Steps p.tables e below (T40.setTop (mkF m 78 #[.val (.long qb), .second, .val (.int x0), .val (.int x1), .val (.int x2), .val (.int x3), .val (.int sel), .val (.int (Int32.ofNat A)), .val (.int (Int32.ofNat K)), .val (.int (Int32.ofNat (A + K))), .val (.ref b5), .val (.ref b20), .unset, .unset, .unset, .unset, .unset] [(.int (0 : Int32)), (.ref b40), (.ref b40)])) _
    refine XS.iloadN X40.here hx rfl (hb hby at_78) rfl ?_
    show Steps p.tables e below (T40.setTop (mkF m 79 #[.val (.long qb), .second, .val (.int x0), .val (.int x1), .val (.int x2), .val (.int x3), .val (.int sel), .val (.int (Int32.ofNat A)), .val (.int (Int32.ofNat K)), .val (.int (Int32.ofNat (A + K))), .val (.ref b5), .val (.ref b20), .unset, .unset, .unset, .unset, .unset] [(.int x0), (.int (0 : Int32)), (.ref b40), (.ref b40)])) _
    refine XS.i2l X40.here hx rfl (hb hby at_79) rfl ?_
    exact k
  obtain ⟨cl45, Ar45, qa45, Sa45, Na45, Ha45, Ga45⟩ := V40
  have hin45 : ¬ ((0 : Int32) < 0 ∨ cl45.slots.size ≤ ((0 : Int32)).toNatClampNeg) := inb_of Sa45 ⟨by decide, by decide⟩
  obtain ⟨T45, h45, X45, e45, W45, st45⟩ := stJ X40 hx hZ e40 Ar45 (j := (0 : Int32)) hin45 (g := (mkF m 80 #[.val (.long qb), .second, .val (.int x0), .val (.int x1), .val (.int x2), .val (.int x3), .val (.int sel), .val (.int (Int32.ofNat A)), .val (.int (Int32.ofNat K)), .val (.int (Int32.ofNat (A + K))), .val (.ref b5), .val (.ref b20), .unset, .unset, .unset, .unset, .unset] [(.long (x0.toInt64)), (.int (0 : Int32)), (.ref b40), (.ref b40)])) rfl rfl (hb hby at_80)
  have V45 : Arv Z h45 b40 k40 .long (4 : Int32) [(.long (x0.toInt64)), (.long (0 : Int64)), (.long (0 : Int64)), (.long (0 : Int64))] (.long (0 : Int64)) := Arv.set Ar45 qa45 Sa45 Na45 Ha45 Ga45 rfl W45 0 rfl (Nat.le_of_ble_eq_true rfl)
  have c46 := c41.other W45 ne_b5_b40
  have c47 := c42.other W45 ne_b20_b40
  have Z45 : n0 ≤ h45.size := Nat.le_trans Z40 (Keep.of_wr W45).1
  have N45 := Fr.snoc X45 N36 g_b40
  have go48 : ∀ t, Steps p.tables e below (T45.setTop (mkF m 81 #[.val (.long qb), .second, .val (.int x0), .val (.int x1), .val (.int x2), .val (.int x3), .val (.int sel), .val (.int (Int32.ofNat A)), .val (.int (Int32.ofNat K)), .val (.int (Int32.ofNat (A + K))), .val (.ref b5), .val (.ref b20), .unset, .unset, .unset, .unset, .unset] [(.ref b40)])) t → Steps p.tables e below (s₁.setTop (entryFrame m #[(.long qb), (.int x0), (.int x1), (.int x2), (.int x3), (.int sel)] maxLocals)) t := fun t k => go44 t (st45 _ k)
  have go49 : ∀ t, Steps p.tables e below (T45.setTop (mkF m 88 #[.val (.long qb), .second, .val (.int x0), .val (.int x1), .val (.int x2), .val (.int x3), .val (.int sel), .val (.int (Int32.ofNat A)), .val (.int (Int32.ofNat K)), .val (.int (Int32.ofNat (A + K))), .val (.ref b5), .val (.ref b20), .unset, .unset, .unset, .unset, .unset] [(.long ((x0.toInt64) + (x1.toInt64))), (.int (1 : Int32)), (.ref b40), (.ref b40)])) t → Steps p.tables e below (s₁.setTop (entryFrame m #[(.long qb), (.int x0), (.int x1), (.int x2), (.int x3), (.int sel)] maxLocals)) t := by
    intro t k
    refine go48 t ?_
    show Steps p.tables e below (T45.setTop (mkF m 81 #[.val (.long qb), .second, .val (.int x0), .val (.int x1), .val (.int x2), .val (.int x3), .val (.int sel), .val (.int (Int32.ofNat A)), .val (.int (Int32.ofNat K)), .val (.int (Int32.ofNat (A + K))), .val (.ref b5), .val (.ref b20), .unset, .unset, .unset, .unset, .unset] [(.ref b40)])) _
    refine XS.dup X45.here hx rfl (hb hby at_81) rfl rfl ?_
    show Steps p.tables e below (T45.setTop (mkF m 82 #[.val (.long qb), .second, .val (.int x0), .val (.int x1), .val (.int x2), .val (.int x3), .val (.int sel), .val (.int (Int32.ofNat A)), .val (.int (Int32.ofNat K)), .val (.int (Int32.ofNat (A + K))), .val (.ref b5), .val (.ref b20), .unset, .unset, .unset, .unset, .unset] [(.ref b40), (.ref b40)])) _
    refine XS.iconst X45.here hx rfl (hb hby at_82) ?_
    show Steps p.tables e below (T45.setTop (mkF m 83 #[.val (.long qb), .second, .val (.int x0), .val (.int x1), .val (.int x2), .val (.int x3), .val (.int sel), .val (.int (Int32.ofNat A)), .val (.int (Int32.ofNat K)), .val (.int (Int32.ofNat (A + K))), .val (.ref b5), .val (.ref b20), .unset, .unset, .unset, .unset, .unset] [(.int (1 : Int32)), (.ref b40), (.ref b40)])) _
    refine XS.iloadN X45.here hx rfl (hb hby at_83) rfl ?_
    show Steps p.tables e below (T45.setTop (mkF m 84 #[.val (.long qb), .second, .val (.int x0), .val (.int x1), .val (.int x2), .val (.int x3), .val (.int sel), .val (.int (Int32.ofNat A)), .val (.int (Int32.ofNat K)), .val (.int (Int32.ofNat (A + K))), .val (.ref b5), .val (.ref b20), .unset, .unset, .unset, .unset, .unset] [(.int x0), (.int (1 : Int32)), (.ref b40), (.ref b40)])) _
    refine XS.i2l X45.here hx rfl (hb hby at_84) rfl ?_
    show Steps p.tables e below (T45.setTop (mkF m 85 #[.val (.long qb), .second, .val (.int x0), .val (.int x1), .val (.int x2), .val (.int x3), .val (.int sel), .val (.int (Int32.ofNat A)), .val (.int (Int32.ofNat K)), .val (.int (Int32.ofNat (A + K))), .val (.ref b5), .val (.ref b20), .unset, .unset, .unset, .unset, .unset] [(.long (x0.toInt64)), (.int (1 : Int32)), (.ref b40), (.ref b40)])) _
    refine XS.iloadN X45.here hx rfl (hb hby at_85) rfl ?_
    show Steps p.tables e below (T45.setTop (mkF m 86 #[.val (.long qb), .second, .val (.int x0), .val (.int x1), .val (.int x2), .val (.int x3), .val (.int sel), .val (.int (Int32.ofNat A)), .val (.int (Int32.ofNat K)), .val (.int (Int32.ofNat (A + K))), .val (.ref b5), .val (.ref b20), .unset, .unset, .unset, .unset, .unset] [(.int x1), (.long (x0.toInt64)), (.int (1 : Int32)), (.ref b40), (.ref b40)])) _
    refine XS.i2l X45.here hx rfl (hb hby at_86) rfl ?_
    show Steps p.tables e below (T45.setTop (mkF m 87 #[.val (.long qb), .second, .val (.int x0), .val (.int x1), .val (.int x2), .val (.int x3), .val (.int sel), .val (.int (Int32.ofNat A)), .val (.int (Int32.ofNat K)), .val (.int (Int32.ofNat (A + K))), .val (.ref b5), .val (.ref b20), .unset, .unset, .unset, .unset, .unset] [(.long (x1.toInt64)), (.long (x0.toInt64)), (.int (1 : Int32)), (.ref b40), (.ref b40)])) _
    refine XS.ladd X45.here hx rfl (hb hby at_87) rfl ?_
    exact k
  obtain ⟨cl50, Ar50, qa50, Sa50, Na50, Ha50, Ga50⟩ := V45
  have hin50 : ¬ ((1 : Int32) < 0 ∨ cl50.slots.size ≤ ((1 : Int32)).toNatClampNeg) := inb_of Sa50 ⟨by decide, by decide⟩
  obtain ⟨T50, h50, X50, e50, W50, st50⟩ := stJ X45 hx hZ e45 Ar50 (j := (1 : Int32)) hin50 (g := (mkF m 88 #[.val (.long qb), .second, .val (.int x0), .val (.int x1), .val (.int x2), .val (.int x3), .val (.int sel), .val (.int (Int32.ofNat A)), .val (.int (Int32.ofNat K)), .val (.int (Int32.ofNat (A + K))), .val (.ref b5), .val (.ref b20), .unset, .unset, .unset, .unset, .unset] [(.long ((x0.toInt64) + (x1.toInt64))), (.int (1 : Int32)), (.ref b40), (.ref b40)])) rfl rfl (hb hby at_88)
  have V50 : Arv Z h50 b40 k40 .long (4 : Int32) [(.long (x0.toInt64)), (.long ((x0.toInt64) + (x1.toInt64))), (.long (0 : Int64)), (.long (0 : Int64))] (.long (0 : Int64)) := Arv.set Ar50 qa50 Sa50 Na50 Ha50 Ga50 rfl W50 1 rfl (Nat.le_of_ble_eq_true rfl)
  have c51 := c46.other W50 ne_b5_b40
  have c52 := c47.other W50 ne_b20_b40
  have Z50 : n0 ≤ h50.size := Nat.le_trans Z45 (Keep.of_wr W50).1
  have N50 := Fr.snoc X50 N45 g_b40
  have go53 : ∀ t, Steps p.tables e below (T50.setTop (mkF m 89 #[.val (.long qb), .second, .val (.int x0), .val (.int x1), .val (.int x2), .val (.int x3), .val (.int sel), .val (.int (Int32.ofNat A)), .val (.int (Int32.ofNat K)), .val (.int (Int32.ofNat (A + K))), .val (.ref b5), .val (.ref b20), .unset, .unset, .unset, .unset, .unset] [(.ref b40)])) t → Steps p.tables e below (s₁.setTop (entryFrame m #[(.long qb), (.int x0), (.int x1), (.int x2), (.int x3), (.int sel)] maxLocals)) t := fun t k => go49 t (st50 _ k)
  have go54 : ∀ t, Steps p.tables e below (T50.setTop (mkF m 100 #[.val (.long qb), .second, .val (.int x0), .val (.int x1), .val (.int x2), .val (.int x3), .val (.int sel), .val (.int (Int32.ofNat A)), .val (.int (Int32.ofNat K)), .val (.int (Int32.ofNat (A + K))), .val (.ref b5), .val (.ref b20), .unset, .unset, .unset, .unset, .unset] [(.long (((x0.toInt64) + (x1.toInt64)) + (x2.toInt64))), (.int (2 : Int32)), (.ref b40), (.ref b40)])) t → Steps p.tables e below (s₁.setTop (entryFrame m #[(.long qb), (.int x0), (.int x1), (.int x2), (.int x3), (.int sel)] maxLocals)) t := by
    intro t k
    refine go53 t ?_
    show Steps p.tables e below (T50.setTop (mkF m 89 #[.val (.long qb), .second, .val (.int x0), .val (.int x1), .val (.int x2), .val (.int x3), .val (.int sel), .val (.int (Int32.ofNat A)), .val (.int (Int32.ofNat K)), .val (.int (Int32.ofNat (A + K))), .val (.ref b5), .val (.ref b20), .unset, .unset, .unset, .unset, .unset] [(.ref b40)])) _
    refine XS.dup X50.here hx rfl (hb hby at_89) rfl rfl ?_
    show Steps p.tables e below (T50.setTop (mkF m 90 #[.val (.long qb), .second, .val (.int x0), .val (.int x1), .val (.int x2), .val (.int x3), .val (.int sel), .val (.int (Int32.ofNat A)), .val (.int (Int32.ofNat K)), .val (.int (Int32.ofNat (A + K))), .val (.ref b5), .val (.ref b20), .unset, .unset, .unset, .unset, .unset] [(.ref b40), (.ref b40)])) _
    refine XS.iconst X50.here hx rfl (hb hby at_90) ?_
    show Steps p.tables e below (T50.setTop (mkF m 91 #[.val (.long qb), .second, .val (.int x0), .val (.int x1), .val (.int x2), .val (.int x3), .val (.int sel), .val (.int (Int32.ofNat A)), .val (.int (Int32.ofNat K)), .val (.int (Int32.ofNat (A + K))), .val (.ref b5), .val (.ref b20), .unset, .unset, .unset, .unset, .unset] [(.int (2 : Int32)), (.ref b40), (.ref b40)])) _
    refine XS.iloadN X50.here hx rfl (hb hby at_91) rfl ?_
    show Steps p.tables e below (T50.setTop (mkF m 92 #[.val (.long qb), .second, .val (.int x0), .val (.int x1), .val (.int x2), .val (.int x3), .val (.int sel), .val (.int (Int32.ofNat A)), .val (.int (Int32.ofNat K)), .val (.int (Int32.ofNat (A + K))), .val (.ref b5), .val (.ref b20), .unset, .unset, .unset, .unset, .unset] [(.int x0), (.int (2 : Int32)), (.ref b40), (.ref b40)])) _
    refine XS.i2l X50.here hx rfl (hb hby at_92) rfl ?_
    show Steps p.tables e below (T50.setTop (mkF m 93 #[.val (.long qb), .second, .val (.int x0), .val (.int x1), .val (.int x2), .val (.int x3), .val (.int sel), .val (.int (Int32.ofNat A)), .val (.int (Int32.ofNat K)), .val (.int (Int32.ofNat (A + K))), .val (.ref b5), .val (.ref b20), .unset, .unset, .unset, .unset, .unset] [(.long (x0.toInt64)), (.int (2 : Int32)), (.ref b40), (.ref b40)])) _
    refine XS.iloadN X50.here hx rfl (hb hby at_93) rfl ?_
    show Steps p.tables e below (T50.setTop (mkF m 94 #[.val (.long qb), .second, .val (.int x0), .val (.int x1), .val (.int x2), .val (.int x3), .val (.int sel), .val (.int (Int32.ofNat A)), .val (.int (Int32.ofNat K)), .val (.int (Int32.ofNat (A + K))), .val (.ref b5), .val (.ref b20), .unset, .unset, .unset, .unset, .unset] [(.int x1), (.long (x0.toInt64)), (.int (2 : Int32)), (.ref b40), (.ref b40)])) _
    refine XS.i2l X50.here hx rfl (hb hby at_94) rfl ?_
    show Steps p.tables e below (T50.setTop (mkF m 95 #[.val (.long qb), .second, .val (.int x0), .val (.int x1), .val (.int x2), .val (.int x3), .val (.int sel), .val (.int (Int32.ofNat A)), .val (.int (Int32.ofNat K)), .val (.int (Int32.ofNat (A + K))), .val (.ref b5), .val (.ref b20), .unset, .unset, .unset, .unset, .unset] [(.long (x1.toInt64)), (.long (x0.toInt64)), (.int (2 : Int32)), (.ref b40), (.ref b40)])) _
    refine XS.ladd X50.here hx rfl (hb hby at_95) rfl ?_
    show Steps p.tables e below (T50.setTop (mkF m 96 #[.val (.long qb), .second, .val (.int x0), .val (.int x1), .val (.int x2), .val (.int x3), .val (.int sel), .val (.int (Int32.ofNat A)), .val (.int (Int32.ofNat K)), .val (.int (Int32.ofNat (A + K))), .val (.ref b5), .val (.ref b20), .unset, .unset, .unset, .unset, .unset] [(.long ((x0.toInt64) + (x1.toInt64))), (.int (2 : Int32)), (.ref b40), (.ref b40)])) _
    refine XS.iload X50.here hx rfl (hb hby at_96) rfl ?_
    show Steps p.tables e below (T50.setTop (mkF m 98 #[.val (.long qb), .second, .val (.int x0), .val (.int x1), .val (.int x2), .val (.int x3), .val (.int sel), .val (.int (Int32.ofNat A)), .val (.int (Int32.ofNat K)), .val (.int (Int32.ofNat (A + K))), .val (.ref b5), .val (.ref b20), .unset, .unset, .unset, .unset, .unset] [(.int x2), (.long ((x0.toInt64) + (x1.toInt64))), (.int (2 : Int32)), (.ref b40), (.ref b40)])) _
    refine XS.i2l X50.here hx rfl (hb hby at_98) rfl ?_
    show Steps p.tables e below (T50.setTop (mkF m 99 #[.val (.long qb), .second, .val (.int x0), .val (.int x1), .val (.int x2), .val (.int x3), .val (.int sel), .val (.int (Int32.ofNat A)), .val (.int (Int32.ofNat K)), .val (.int (Int32.ofNat (A + K))), .val (.ref b5), .val (.ref b20), .unset, .unset, .unset, .unset, .unset] [(.long (x2.toInt64)), (.long ((x0.toInt64) + (x1.toInt64))), (.int (2 : Int32)), (.ref b40), (.ref b40)])) _
    refine XS.ladd X50.here hx rfl (hb hby at_99) rfl ?_
    exact k
  obtain ⟨cl55, Ar55, qa55, Sa55, Na55, Ha55, Ga55⟩ := V50
  have hin55 : ¬ ((2 : Int32) < 0 ∨ cl55.slots.size ≤ ((2 : Int32)).toNatClampNeg) := inb_of Sa55 ⟨by decide, by decide⟩
  obtain ⟨T55, h55, X55, e55, W55, st55⟩ := stJ X50 hx hZ e50 Ar55 (j := (2 : Int32)) hin55 (g := (mkF m 100 #[.val (.long qb), .second, .val (.int x0), .val (.int x1), .val (.int x2), .val (.int x3), .val (.int sel), .val (.int (Int32.ofNat A)), .val (.int (Int32.ofNat K)), .val (.int (Int32.ofNat (A + K))), .val (.ref b5), .val (.ref b20), .unset, .unset, .unset, .unset, .unset] [(.long (((x0.toInt64) + (x1.toInt64)) + (x2.toInt64))), (.int (2 : Int32)), (.ref b40), (.ref b40)])) rfl rfl (hb hby at_100)
  have V55 : Arv Z h55 b40 k40 .long (4 : Int32) [(.long (x0.toInt64)), (.long ((x0.toInt64) + (x1.toInt64))), (.long (((x0.toInt64) + (x1.toInt64)) + (x2.toInt64))), (.long (0 : Int64))] (.long (0 : Int64)) := Arv.set Ar55 qa55 Sa55 Na55 Ha55 Ga55 rfl W55 2 rfl (Nat.le_of_ble_eq_true rfl)
  have c56 := c51.other W55 ne_b5_b40
  have c57 := c52.other W55 ne_b20_b40
  have Z55 : n0 ≤ h55.size := Nat.le_trans Z50 (Keep.of_wr W55).1
  have N55 := Fr.snoc X55 N50 g_b40
  have go58 : ∀ t, Steps p.tables e below (T55.setTop (mkF m 101 #[.val (.long qb), .second, .val (.int x0), .val (.int x1), .val (.int x2), .val (.int x3), .val (.int sel), .val (.int (Int32.ofNat A)), .val (.int (Int32.ofNat K)), .val (.int (Int32.ofNat (A + K))), .val (.ref b5), .val (.ref b20), .unset, .unset, .unset, .unset, .unset] [(.ref b40)])) t → Steps p.tables e below (s₁.setTop (entryFrame m #[(.long qb), (.int x0), (.int x1), (.int x2), (.int x3), (.int sel)] maxLocals)) t := fun t k => go54 t (st55 _ k)
  have go59 : ∀ t, Steps p.tables e below (T55.setTop (mkF m 116 #[.val (.long qb), .second, .val (.int x0), .val (.int x1), .val (.int x2), .val (.int x3), .val (.int sel), .val (.int (Int32.ofNat A)), .val (.int (Int32.ofNat K)), .val (.int (Int32.ofNat (A + K))), .val (.ref b5), .val (.ref b20), .unset, .unset, .unset, .unset, .unset] [(.long ((((x0.toInt64) + (x1.toInt64)) + (x2.toInt64)) + (x3.toInt64))), (.int (3 : Int32)), (.ref b40), (.ref b40)])) t → Steps p.tables e below (s₁.setTop (entryFrame m #[(.long qb), (.int x0), (.int x1), (.int x2), (.int x3), (.int sel)] maxLocals)) t := by
    intro t k
    refine go58 t ?_
    show Steps p.tables e below (T55.setTop (mkF m 101 #[.val (.long qb), .second, .val (.int x0), .val (.int x1), .val (.int x2), .val (.int x3), .val (.int sel), .val (.int (Int32.ofNat A)), .val (.int (Int32.ofNat K)), .val (.int (Int32.ofNat (A + K))), .val (.ref b5), .val (.ref b20), .unset, .unset, .unset, .unset, .unset] [(.ref b40)])) _
    refine XS.dup X55.here hx rfl (hb hby at_101) rfl rfl ?_
    show Steps p.tables e below (T55.setTop (mkF m 102 #[.val (.long qb), .second, .val (.int x0), .val (.int x1), .val (.int x2), .val (.int x3), .val (.int sel), .val (.int (Int32.ofNat A)), .val (.int (Int32.ofNat K)), .val (.int (Int32.ofNat (A + K))), .val (.ref b5), .val (.ref b20), .unset, .unset, .unset, .unset, .unset] [(.ref b40), (.ref b40)])) _
    refine XS.iconst X55.here hx rfl (hb hby at_102) ?_
    show Steps p.tables e below (T55.setTop (mkF m 103 #[.val (.long qb), .second, .val (.int x0), .val (.int x1), .val (.int x2), .val (.int x3), .val (.int sel), .val (.int (Int32.ofNat A)), .val (.int (Int32.ofNat K)), .val (.int (Int32.ofNat (A + K))), .val (.ref b5), .val (.ref b20), .unset, .unset, .unset, .unset, .unset] [(.int (3 : Int32)), (.ref b40), (.ref b40)])) _
    refine XS.iloadN X55.here hx rfl (hb hby at_103) rfl ?_
    show Steps p.tables e below (T55.setTop (mkF m 104 #[.val (.long qb), .second, .val (.int x0), .val (.int x1), .val (.int x2), .val (.int x3), .val (.int sel), .val (.int (Int32.ofNat A)), .val (.int (Int32.ofNat K)), .val (.int (Int32.ofNat (A + K))), .val (.ref b5), .val (.ref b20), .unset, .unset, .unset, .unset, .unset] [(.int x0), (.int (3 : Int32)), (.ref b40), (.ref b40)])) _
    refine XS.i2l X55.here hx rfl (hb hby at_104) rfl ?_
    show Steps p.tables e below (T55.setTop (mkF m 105 #[.val (.long qb), .second, .val (.int x0), .val (.int x1), .val (.int x2), .val (.int x3), .val (.int sel), .val (.int (Int32.ofNat A)), .val (.int (Int32.ofNat K)), .val (.int (Int32.ofNat (A + K))), .val (.ref b5), .val (.ref b20), .unset, .unset, .unset, .unset, .unset] [(.long (x0.toInt64)), (.int (3 : Int32)), (.ref b40), (.ref b40)])) _
    refine XS.iloadN X55.here hx rfl (hb hby at_105) rfl ?_
    show Steps p.tables e below (T55.setTop (mkF m 106 #[.val (.long qb), .second, .val (.int x0), .val (.int x1), .val (.int x2), .val (.int x3), .val (.int sel), .val (.int (Int32.ofNat A)), .val (.int (Int32.ofNat K)), .val (.int (Int32.ofNat (A + K))), .val (.ref b5), .val (.ref b20), .unset, .unset, .unset, .unset, .unset] [(.int x1), (.long (x0.toInt64)), (.int (3 : Int32)), (.ref b40), (.ref b40)])) _
    refine XS.i2l X55.here hx rfl (hb hby at_106) rfl ?_
    show Steps p.tables e below (T55.setTop (mkF m 107 #[.val (.long qb), .second, .val (.int x0), .val (.int x1), .val (.int x2), .val (.int x3), .val (.int sel), .val (.int (Int32.ofNat A)), .val (.int (Int32.ofNat K)), .val (.int (Int32.ofNat (A + K))), .val (.ref b5), .val (.ref b20), .unset, .unset, .unset, .unset, .unset] [(.long (x1.toInt64)), (.long (x0.toInt64)), (.int (3 : Int32)), (.ref b40), (.ref b40)])) _
    refine XS.ladd X55.here hx rfl (hb hby at_107) rfl ?_
    show Steps p.tables e below (T55.setTop (mkF m 108 #[.val (.long qb), .second, .val (.int x0), .val (.int x1), .val (.int x2), .val (.int x3), .val (.int sel), .val (.int (Int32.ofNat A)), .val (.int (Int32.ofNat K)), .val (.int (Int32.ofNat (A + K))), .val (.ref b5), .val (.ref b20), .unset, .unset, .unset, .unset, .unset] [(.long ((x0.toInt64) + (x1.toInt64))), (.int (3 : Int32)), (.ref b40), (.ref b40)])) _
    refine XS.iload X55.here hx rfl (hb hby at_108) rfl ?_
    show Steps p.tables e below (T55.setTop (mkF m 110 #[.val (.long qb), .second, .val (.int x0), .val (.int x1), .val (.int x2), .val (.int x3), .val (.int sel), .val (.int (Int32.ofNat A)), .val (.int (Int32.ofNat K)), .val (.int (Int32.ofNat (A + K))), .val (.ref b5), .val (.ref b20), .unset, .unset, .unset, .unset, .unset] [(.int x2), (.long ((x0.toInt64) + (x1.toInt64))), (.int (3 : Int32)), (.ref b40), (.ref b40)])) _
    refine XS.i2l X55.here hx rfl (hb hby at_110) rfl ?_
    show Steps p.tables e below (T55.setTop (mkF m 111 #[.val (.long qb), .second, .val (.int x0), .val (.int x1), .val (.int x2), .val (.int x3), .val (.int sel), .val (.int (Int32.ofNat A)), .val (.int (Int32.ofNat K)), .val (.int (Int32.ofNat (A + K))), .val (.ref b5), .val (.ref b20), .unset, .unset, .unset, .unset, .unset] [(.long (x2.toInt64)), (.long ((x0.toInt64) + (x1.toInt64))), (.int (3 : Int32)), (.ref b40), (.ref b40)])) _
    refine XS.ladd X55.here hx rfl (hb hby at_111) rfl ?_
    show Steps p.tables e below (T55.setTop (mkF m 112 #[.val (.long qb), .second, .val (.int x0), .val (.int x1), .val (.int x2), .val (.int x3), .val (.int sel), .val (.int (Int32.ofNat A)), .val (.int (Int32.ofNat K)), .val (.int (Int32.ofNat (A + K))), .val (.ref b5), .val (.ref b20), .unset, .unset, .unset, .unset, .unset] [(.long (((x0.toInt64) + (x1.toInt64)) + (x2.toInt64))), (.int (3 : Int32)), (.ref b40), (.ref b40)])) _
    refine XS.iload X55.here hx rfl (hb hby at_112) rfl ?_
    show Steps p.tables e below (T55.setTop (mkF m 114 #[.val (.long qb), .second, .val (.int x0), .val (.int x1), .val (.int x2), .val (.int x3), .val (.int sel), .val (.int (Int32.ofNat A)), .val (.int (Int32.ofNat K)), .val (.int (Int32.ofNat (A + K))), .val (.ref b5), .val (.ref b20), .unset, .unset, .unset, .unset, .unset] [(.int x3), (.long (((x0.toInt64) + (x1.toInt64)) + (x2.toInt64))), (.int (3 : Int32)), (.ref b40), (.ref b40)])) _
    refine XS.i2l X55.here hx rfl (hb hby at_114) rfl ?_
    show Steps p.tables e below (T55.setTop (mkF m 115 #[.val (.long qb), .second, .val (.int x0), .val (.int x1), .val (.int x2), .val (.int x3), .val (.int sel), .val (.int (Int32.ofNat A)), .val (.int (Int32.ofNat K)), .val (.int (Int32.ofNat (A + K))), .val (.ref b5), .val (.ref b20), .unset, .unset, .unset, .unset, .unset] [(.long (x3.toInt64)), (.long (((x0.toInt64) + (x1.toInt64)) + (x2.toInt64))), (.int (3 : Int32)), (.ref b40), (.ref b40)])) _
    refine XS.ladd X55.here hx rfl (hb hby at_115) rfl ?_
    exact k
  obtain ⟨cl60, Ar60, qa60, Sa60, Na60, Ha60, Ga60⟩ := V55
  have hin60 : ¬ ((3 : Int32) < 0 ∨ cl60.slots.size ≤ ((3 : Int32)).toNatClampNeg) := inb_of Sa60 ⟨by decide, by decide⟩
  obtain ⟨T60, h60, X60, e60, W60, st60⟩ := stJ X55 hx hZ e55 Ar60 (j := (3 : Int32)) hin60 (g := (mkF m 116 #[.val (.long qb), .second, .val (.int x0), .val (.int x1), .val (.int x2), .val (.int x3), .val (.int sel), .val (.int (Int32.ofNat A)), .val (.int (Int32.ofNat K)), .val (.int (Int32.ofNat (A + K))), .val (.ref b5), .val (.ref b20), .unset, .unset, .unset, .unset, .unset] [(.long ((((x0.toInt64) + (x1.toInt64)) + (x2.toInt64)) + (x3.toInt64))), (.int (3 : Int32)), (.ref b40), (.ref b40)])) rfl rfl (hb hby at_116)
  have V60 : Arv Z h60 b40 k40 .long (4 : Int32) [(.long (x0.toInt64)), (.long ((x0.toInt64) + (x1.toInt64))), (.long (((x0.toInt64) + (x1.toInt64)) + (x2.toInt64))), (.long ((((x0.toInt64) + (x1.toInt64)) + (x2.toInt64)) + (x3.toInt64)))] (.long (0 : Int64)) := Arv.set Ar60 qa60 Sa60 Na60 Ha60 Ga60 rfl W60 3 rfl (Nat.le_of_ble_eq_true rfl)
  have c61 := c56.other W60 ne_b5_b40
  have c62 := c57.other W60 ne_b20_b40
  have Z60 : n0 ≤ h60.size := Nat.le_trans Z55 (Keep.of_wr W60).1
  have N60 := Fr.snoc X60 N55 g_b40
  have go63 : ∀ t, Steps p.tables e below (T60.setTop (mkF m 117 #[.val (.long qb), .second, .val (.int x0), .val (.int x1), .val (.int x2), .val (.int x3), .val (.int sel), .val (.int (Int32.ofNat A)), .val (.int (Int32.ofNat K)), .val (.int (Int32.ofNat (A + K))), .val (.ref b5), .val (.ref b20), .unset, .unset, .unset, .unset, .unset] [(.ref b40)])) t → Steps p.tables e below (s₁.setTop (entryFrame m #[(.long qb), (.int x0), (.int x1), (.int x2), (.int x3), (.int sel)] maxLocals)) t := fun t k => go59 t (st60 _ k)
  have go64 : ∀ t, Steps p.tables e below (T60.setTop (mkF m 126 #[.val (.long qb), .second, .val (.int x0), .val (.int x1), .val (.int x2), .val (.int x3), .val (.int sel), .val (.int (Int32.ofNat A)), .val (.int (Int32.ofNat K)), .val (.int (Int32.ofNat (A + K))), .val (.ref b5), .val (.ref b20), .val (.ref b40), .unset, .unset, .unset, .unset] [(.long qb), (.int (Int32.ofNat K)), (.int (Int32.ofNat A)), (.ref b5)])) t → Steps p.tables e below (s₁.setTop (entryFrame m #[(.long qb), (.int x0), (.int x1), (.int x2), (.int x3), (.int sel)] maxLocals)) t := by
    intro t k
    refine go63 t ?_
    show Steps p.tables e below (T60.setTop (mkF m 117 #[.val (.long qb), .second, .val (.int x0), .val (.int x1), .val (.int x2), .val (.int x3), .val (.int sel), .val (.int (Int32.ofNat A)), .val (.int (Int32.ofNat K)), .val (.int (Int32.ofNat (A + K))), .val (.ref b5), .val (.ref b20), .unset, .unset, .unset, .unset, .unset] [(.ref b40)])) _
    refine XS.astore X60.here hx rfl (hb hby at_117) rfl rfl (l' := #[.val (.long qb), .second, .val (.int x0), .val (.int x1), .val (.int x2), .val (.int x3), .val (.int sel), .val (.int (Int32.ofNat A)), .val (.int (Int32.ofNat K)), .val (.int (Int32.ofNat (A + K))), .val (.ref b5), .val (.ref b20), .val (.ref b40), .unset, .unset, .unset, .unset]) rfl ?_
    show Steps p.tables e below (T60.setTop (mkF m 119 #[.val (.long qb), .second, .val (.int x0), .val (.int x1), .val (.int x2), .val (.int x3), .val (.int sel), .val (.int (Int32.ofNat A)), .val (.int (Int32.ofNat K)), .val (.int (Int32.ofNat (A + K))), .val (.ref b5), .val (.ref b20), .val (.ref b40), .unset, .unset, .unset, .unset] [])) _
    refine XS.aload X60.here hx rfl (hb hby at_119) rfl rfl ?_
    show Steps p.tables e below (T60.setTop (mkF m 121 #[.val (.long qb), .second, .val (.int x0), .val (.int x1), .val (.int x2), .val (.int x3), .val (.int sel), .val (.int (Int32.ofNat A)), .val (.int (Int32.ofNat K)), .val (.int (Int32.ofNat (A + K))), .val (.ref b5), .val (.ref b20), .val (.ref b40), .unset, .unset, .unset, .unset] [(.ref b5)])) _
    refine XS.iload X60.here hx rfl (hb hby at_121) rfl ?_
    show Steps p.tables e below (T60.setTop (mkF m 123 #[.val (.long qb), .second, .val (.int x0), .val (.int x1), .val (.int x2), .val (.int x3), .val (.int sel), .val (.int (Int32.ofNat A)), .val (.int (Int32.ofNat K)), .val (.int (Int32.ofNat (A + K))), .val (.ref b5), .val (.ref b20), .val (.ref b40), .unset, .unset, .unset, .unset] [(.int (Int32.ofNat A)), (.ref b5)])) _
    refine XS.iload X60.here hx rfl (hb hby at_123) rfl ?_
    show Steps p.tables e below (T60.setTop (mkF m 125 #[.val (.long qb), .second, .val (.int x0), .val (.int x1), .val (.int x2), .val (.int x3), .val (.int sel), .val (.int (Int32.ofNat A)), .val (.int (Int32.ofNat K)), .val (.int (Int32.ofNat (A + K))), .val (.ref b5), .val (.ref b20), .val (.ref b40), .unset, .unset, .unset, .unset] [(.int (Int32.ofNat K)), (.int (Int32.ofNat A)), (.ref b5)])) _
    refine XS.lloadN X60.here hx rfl (hb hby at_125) rfl ?_
    exact k
  have VN := own_ofI c61
  have VO := own_ofI c62
  have VS := own_ofL V60
  obtain ⟨f, hf⟩ : ∃ z, z = own_x x0 x1 x2 x3 := ⟨_, rfl⟩
  obtain ⟨S, hS⟩ : ∃ z, z = own_y (x0.toInt64) ((x0.toInt64) + (x1.toInt64)) (((x0.toInt64) + (x1.toInt64)) + (x2.toInt64)) ((((x0.toInt64) + (x1.toInt64)) + (x2.toInt64)) + (x3.toInt64)) := ⟨_, rfl⟩
  rw [← hf] at VN VO
  rw [← hS] at VS
  have hsb : ∀ n, n ≤ 4 → own_sb S n = own_S f n := fun n hn => by rw [hf]; exact own_sums x0 x1 x2 x3 n hn S (by rw [hS]; rfl) (by rw [hS]; rfl) (by rw [hS]; rfl) (by rw [hS]; rfl)
  obtain ⟨_, _, ⟨T65, L65, k65, n65⟩, -, X65, ⟨Lc65, hQ65, l65, y65, z65⟩, st65⟩ := Jvm.LawKit.callS X60 hx (y := (⟨"com/example/packstone/packstone/io/GapGroups", "addUp", "([IIIJ)J"⟩ : MethodName)) hown (mvT hZ (hw _ (List.mem_of_getElem? (i := 2) rfl))) (mvT hZ (hw _ (List.mem_of_getElem? (i := 3) rfl))) (mvT hZ (hw _ (List.mem_of_getElem? (i := 4) rfl))) (mvT hZ (hw _ (List.mem_of_getElem? (i := 5) rfl))) (by decide) (backOf (W := 0) (rm1 l Z a0 hw [] b5 qb f A K h60 n0 Z60 VN hAK g_b5) hZ (hw _ (List.mem_of_getElem? (i := 5) rfl)) (hw _ (List.mem_of_getElem? (i := 4) rfl)) (by decide) (by decide)) (g := (mkF m 126 #[.val (.long qb), .second, .val (.int x0), .val (.int x1), .val (.int x2), .val (.int x3), .val (.int sel), .val (.int (Int32.ofNat A)), .val (.int (Int32.ofNat K)), .val (.int (Int32.ofNat (A + K))), .val (.ref b5), .val (.ref b20), .val (.ref b40), .unset, .unset, .unset, .unset] [(.long qb), (.int (Int32.ofNat K)), (.int (Int32.ofNat A)), (.ref b5)])) rfl (by rw [hml]; rfl) (argsL := [(.ref b5), (.int (Int32.ofNat A)), (.int (Int32.ofNat K)), (.long qb)]) (rest := []) (lenOf pd_0_0 rfl) rfl (by show 2 * 0 + _ ≤ _; exact Nat.le_of_eq rfl) (hb hby at_126) (fun _ _ => ⟨rfl, e60, (by decide : 3 + 0 ≤ _), (by decide : 12 + 0 ≤ _)⟩)
  dsimp only [Pt.U, Pt.locs, Pt.cells, Pt.slots] at X65 l65 y65 z65 st65 hQ65
  subst l65 y65 z65
  obtain ⟨rfl, N65q, KA, WN⟩ := hQ65
  have ZA : n0 ≤ T65.heap.size := Nat.le_trans Z60 KA.1
  have WO := VO.keep KA (fun hm => ne_b20_b5 (List.mem_singleton.mp hm))
  have WS := VS.keep KA (fun hm => ne_b40_b5 (List.mem_singleton.mp hm))
  have N65 := Fr.app N60 N65q
  have go66 : ∀ t, Steps p.tables e below (T65.setTop (mkF m 129 #[.val (.long qb), .second, .val (.int x0), .val (.int x1), .val (.int x2), .val (.int x3), .val (.int sel), .val (.int (Int32.ofNat A)), .val (.int (Int32.ofNat K)), .val (.int (Int32.ofNat (A + K))), .val (.ref b5), .val (.ref b20), .val (.ref b40), .unset, .unset, .unset, .unset] [(.long (own_run f A qb K))])) t → Steps p.tables e below (s₁.setTop (entryFrame m #[(.long qb), (.int x0), (.int x1), (.int x2), (.int x3), (.int sel)] maxLocals)) t := fun t k => go64 t (st65 _ k)
  have hi : ∀ j, j ≤ 3 → A ≤ j ∧ j < A + K → own_g f A qb K j = (qb + Int64.ofNat (j - A + 1) + own_sb S (j + 1) - own_sb S A).toInt32 := fun j hj u => by rw [own_g, if_pos u, own_runS, hsb _ (by omega), hsb _ (by omega), show A + (j - A + 1) = j + 1 by omega]
  have ho : ∀ j, ¬ (A ≤ j ∧ j < A + K) → own_g f A qb K j = f j := fun j u => if_neg u
  have hlast : own_run f A qb K = ((qb + ((Int32.ofNat K).toInt64)) + (own_sb S (A + K))) - (own_sb S A) := by rw [own_runS, hsb _ (by omega), hsb _ (by omega), own_i64 (by omega)]
  have go67 : ∀ t, Steps p.tables e below (T65.setTop (mkF m 140 #[.val (.long qb), .second, .val (.int x0), .val (.int x1), .val (.int x2), .val (.int x3), .val (.int sel), .val (.int (Int32.ofNat A)), .val (.int (Int32.ofNat K)), .val (.int (Int32.ofNat (A + K))), .val (.ref b5), .val (.ref b20), .val (.ref b40), .val (.long (own_run f A qb K)), .second, .unset, .unset] [(.int (Int32.ofNat (A + K))), (.ref b40), (.long (qb + ((Int32.ofNat K).toInt64)))])) t → Steps p.tables e below (s₁.setTop (entryFrame m #[(.long qb), (.int x0), (.int x1), (.int x2), (.int x3), (.int sel)] maxLocals)) t := by
    intro t k
    refine go66 t ?_
    show Steps p.tables e below (T65.setTop (mkF m 129 #[.val (.long qb), .second, .val (.int x0), .val (.int x1), .val (.int x2), .val (.int x3), .val (.int sel), .val (.int (Int32.ofNat A)), .val (.int (Int32.ofNat K)), .val (.int (Int32.ofNat (A + K))), .val (.ref b5), .val (.ref b20), .val (.ref b40), .unset, .unset, .unset, .unset] [(.long (own_run f A qb K))])) _
    refine XS.lstore X65.here hx rfl (hb hby at_129) rfl (l' := #[.val (.long qb), .second, .val (.int x0), .val (.int x1), .val (.int x2), .val (.int x3), .val (.int sel), .val (.int (Int32.ofNat A)), .val (.int (Int32.ofNat K)), .val (.int (Int32.ofNat (A + K))), .val (.ref b5), .val (.ref b20), .val (.ref b40), .val (.long (own_run f A qb K)), .second, .unset, .unset]) rfl ?_
    show Steps p.tables e below (T65.setTop (mkF m 131 #[.val (.long qb), .second, .val (.int x0), .val (.int x1), .val (.int x2), .val (.int x3), .val (.int sel), .val (.int (Int32.ofNat A)), .val (.int (Int32.ofNat K)), .val (.int (Int32.ofNat (A + K))), .val (.ref b5), .val (.ref b20), .val (.ref b40), .val (.long (own_run f A qb K)), .second, .unset, .unset] [])) _
    refine XS.lloadN X65.here hx rfl (hb hby at_131) rfl ?_
    show Steps p.tables e below (T65.setTop (mkF m 132 #[.val (.long qb), .second, .val (.int x0), .val (.int x1), .val (.int x2), .val (.int x3), .val (.int sel), .val (.int (Int32.ofNat A)), .val (.int (Int32.ofNat K)), .val (.int (Int32.ofNat (A + K))), .val (.ref b5), .val (.ref b20), .val (.ref b40), .val (.long (own_run f A qb K)), .second, .unset, .unset] [(.long qb)])) _
    refine XS.iload X65.here hx rfl (hb hby at_132) rfl ?_
    show Steps p.tables e below (T65.setTop (mkF m 134 #[.val (.long qb), .second, .val (.int x0), .val (.int x1), .val (.int x2), .val (.int x3), .val (.int sel), .val (.int (Int32.ofNat A)), .val (.int (Int32.ofNat K)), .val (.int (Int32.ofNat (A + K))), .val (.ref b5), .val (.ref b20), .val (.ref b40), .val (.long (own_run f A qb K)), .second, .unset, .unset] [(.int (Int32.ofNat K)), (.long qb)])) _
    refine XS.i2l X65.here hx rfl (hb hby at_134) rfl ?_
    show Steps p.tables e below (T65.setTop (mkF m 135 #[.val (.long qb), .second, .val (.int x0), .val (.int x1), .val (.int x2), .val (.int x3), .val (.int sel), .val (.int (Int32.ofNat A)), .val (.int (Int32.ofNat K)), .val (.int (Int32.ofNat (A + K))), .val (.ref b5), .val (.ref b20), .val (.ref b40), .val (.long (own_run f A qb K)), .second, .unset, .unset] [(.long ((Int32.ofNat K).toInt64)), (.long qb)])) _
    refine XS.ladd X65.here hx rfl (hb hby at_135) rfl ?_
    show Steps p.tables e below (T65.setTop (mkF m 136 #[.val (.long qb), .second, .val (.int x0), .val (.int x1), .val (.int x2), .val (.int x3), .val (.int sel), .val (.int (Int32.ofNat A)), .val (.int (Int32.ofNat K)), .val (.int (Int32.ofNat (A + K))), .val (.ref b5), .val (.ref b20), .val (.ref b40), .val (.long (own_run f A qb K)), .second, .unset, .unset] [(.long (qb + ((Int32.ofNat K).toInt64)))])) _
    refine XS.aload X65.here hx rfl (hb hby at_136) rfl rfl ?_
    show Steps p.tables e below (T65.setTop (mkF m 138 #[.val (.long qb), .second, .val (.int x0), .val (.int x1), .val (.int x2), .val (.int x3), .val (.int sel), .val (.int (Int32.ofNat A)), .val (.int (Int32.ofNat K)), .val (.int (Int32.ofNat (A + K))), .val (.ref b5), .val (.ref b20), .val (.ref b40), .val (.long (own_run f A qb K)), .second, .unset, .unset] [(.ref b40), (.long (qb + ((Int32.ofNat K).toInt64)))])) _
    refine XS.iload X65.here hx rfl (hb hby at_138) rfl ?_
    exact k
  obtain ⟨_, _, ⟨T68, L68, k68, n68⟩, -, X68, ⟨Lc68, hQ68, l68, y68, z68⟩, st68⟩ := Jvm.LawKit.callS X65 hx (y := (⟨"com/example/packstone/packstone/io/GapGroupsAddUpPinLaw", "sumBefore", "([JI)J"⟩ : MethodName)) hown (mvT hZ (hw _ (List.mem_of_getElem? (i := 6) rfl))) (mvT hZ (hw _ (List.mem_of_getElem? (i := 7) rfl))) (mvT hZ (hw _ (List.mem_of_getElem? (i := 8) rfl))) (mvT hZ (hw _ (List.mem_of_getElem? (i := 9) rfl))) (by decide) (backOf (W := 2) (rm2 l Z a0 hw [] b40 (Int32.ofNat (A + K)) S (A + K) T65.heap n0 ZA WS (by omega) rfl) hZ (hw _ (List.mem_of_getElem? (i := 9) rfl)) (hw _ (List.mem_of_getElem? (i := 8) rfl)) (by decide) (by decide)) (g := (mkF m 140 #[.val (.long qb), .second, .val (.int x0), .val (.int x1), .val (.int x2), .val (.int x3), .val (.int sel), .val (.int (Int32.ofNat A)), .val (.int (Int32.ofNat K)), .val (.int (Int32.ofNat (A + K))), .val (.ref b5), .val (.ref b20), .val (.ref b40), .val (.long (own_run f A qb K)), .second, .unset, .unset] [(.int (Int32.ofNat (A + K))), (.ref b40), (.long (qb + ((Int32.ofNat K).toInt64)))])) rfl (by rw [hml]; rfl) (argsL := [(.ref b40), (.int (Int32.ofNat (A + K)))]) (rest := [(.long (qb + ((Int32.ofNat K).toInt64)))]) (lenOf pd_0_1 rfl) rfl (by show 2 * 0 + _ ≤ _; exact Nat.le_of_eq rfl) (hb hby at_140) (fun _ _ => ⟨rfl, rfl, (by decide : 3 + 0 ≤ _), (by decide : 12 + 0 ≤ _)⟩)
  dsimp only [Pt.U, Pt.locs, Pt.cells, Pt.slots] at X68 l68 y68 z68 st68 hQ68
  subst l68 y68 z68
  obtain ⟨rfl, N68q, e68⟩ := hQ68
  have N68 := Fr.app N65 N68q
  have go69 : ∀ t, Steps p.tables e below (T68.setTop (mkF m 143 #[.val (.long qb), .second, .val (.int x0), .val (.int x1), .val (.int x2), .val (.int x3), .val (.int sel), .val (.int (Int32.ofNat A)), .val (.int (Int32.ofNat K)), .val (.int (Int32.ofNat (A + K))), .val (.ref b5), .val (.ref b20), .val (.ref b40), .val (.long (own_run f A qb K)), .second, .unset, .unset] [(.long (own_sb S (A + K))), (.long (qb + ((Int32.ofNat K).toInt64)))])) t → Steps p.tables e below (s₁.setTop (entryFrame m #[(.long qb), (.int x0), (.int x1), (.int x2), (.int x3), (.int sel)] maxLocals)) t := fun t k => go67 t (st68 _ k)
  have go70 : ∀ t, Steps p.tables e below (T68.setTop (mkF m 148 #[.val (.long qb), .second, .val (.int x0), .val (.int x1), .val (.int x2), .val (.int x3), .val (.int sel), .val (.int (Int32.ofNat A)), .val (.int (Int32.ofNat K)), .val (.int (Int32.ofNat (A + K))), .val (.ref b5), .val (.ref b20), .val (.ref b40), .val (.long (own_run f A qb K)), .second, .unset, .unset] [(.int (Int32.ofNat A)), (.ref b40), (.long ((qb + ((Int32.ofNat K).toInt64)) + (own_sb S (A + K))))])) t → Steps p.tables e below (s₁.setTop (entryFrame m #[(.long qb), (.int x0), (.int x1), (.int x2), (.int x3), (.int sel)] maxLocals)) t := by
    intro t k
    refine go69 t ?_
    show Steps p.tables e below (T68.setTop (mkF m 143 #[.val (.long qb), .second, .val (.int x0), .val (.int x1), .val (.int x2), .val (.int x3), .val (.int sel), .val (.int (Int32.ofNat A)), .val (.int (Int32.ofNat K)), .val (.int (Int32.ofNat (A + K))), .val (.ref b5), .val (.ref b20), .val (.ref b40), .val (.long (own_run f A qb K)), .second, .unset, .unset] [(.long (own_sb S (A + K))), (.long (qb + ((Int32.ofNat K).toInt64)))])) _
    refine XS.ladd X68.here hx rfl (hb hby at_143) rfl ?_
    show Steps p.tables e below (T68.setTop (mkF m 144 #[.val (.long qb), .second, .val (.int x0), .val (.int x1), .val (.int x2), .val (.int x3), .val (.int sel), .val (.int (Int32.ofNat A)), .val (.int (Int32.ofNat K)), .val (.int (Int32.ofNat (A + K))), .val (.ref b5), .val (.ref b20), .val (.ref b40), .val (.long (own_run f A qb K)), .second, .unset, .unset] [(.long ((qb + ((Int32.ofNat K).toInt64)) + (own_sb S (A + K))))])) _
    refine XS.aload X68.here hx rfl (hb hby at_144) rfl rfl ?_
    show Steps p.tables e below (T68.setTop (mkF m 146 #[.val (.long qb), .second, .val (.int x0), .val (.int x1), .val (.int x2), .val (.int x3), .val (.int sel), .val (.int (Int32.ofNat A)), .val (.int (Int32.ofNat K)), .val (.int (Int32.ofNat (A + K))), .val (.ref b5), .val (.ref b20), .val (.ref b40), .val (.long (own_run f A qb K)), .second, .unset, .unset] [(.ref b40), (.long ((qb + ((Int32.ofNat K).toInt64)) + (own_sb S (A + K))))])) _
    refine XS.iload X68.here hx rfl (hb hby at_146) rfl ?_
    exact k
  obtain ⟨_, _, ⟨T71, L71, k71, n71⟩, -, X71, ⟨Lc71, hQ71, l71, y71, z71⟩, st71⟩ := Jvm.LawKit.callS X68 hx (y := (⟨"com/example/packstone/packstone/io/GapGroupsAddUpPinLaw", "sumBefore", "([JI)J"⟩ : MethodName)) hown (mvT hZ (hw _ (List.mem_of_getElem? (i := 6) rfl))) (mvT hZ (hw _ (List.mem_of_getElem? (i := 7) rfl))) (mvT hZ (hw _ (List.mem_of_getElem? (i := 8) rfl))) (mvT hZ (hw _ (List.mem_of_getElem? (i := 9) rfl))) (by decide) (backOf (W := 2) (rm2 l Z a0 hw [] b40 (Int32.ofNat A) S A T65.heap n0 ZA WS (by omega) rfl) hZ (hw _ (List.mem_of_getElem? (i := 9) rfl)) (hw _ (List.mem_of_getElem? (i := 8) rfl)) (by decide) (by decide)) (g := (mkF m 148 #[.val (.long qb), .second, .val (.int x0), .val (.int x1), .val (.int x2), .val (.int x3), .val (.int sel), .val (.int (Int32.ofNat A)), .val (.int (Int32.ofNat K)), .val (.int (Int32.ofNat (A + K))), .val (.ref b5), .val (.ref b20), .val (.ref b40), .val (.long (own_run f A qb K)), .second, .unset, .unset] [(.int (Int32.ofNat A)), (.ref b40), (.long ((qb + ((Int32.ofNat K).toInt64)) + (own_sb S (A + K))))])) rfl (by rw [hml]; rfl) (argsL := [(.ref b40), (.int (Int32.ofNat A))]) (rest := [(.long ((qb + ((Int32.ofNat K).toInt64)) + (own_sb S (A + K))))]) (lenOf pd_0_1 rfl) rfl (by show 2 * 0 + _ ≤ _; exact Nat.le_of_eq rfl) (hb hby at_148) (fun _ _ => ⟨rfl, e68, (by decide : 3 + 0 ≤ _), (by decide : 12 + 0 ≤ _)⟩)
  dsimp only [Pt.U, Pt.locs, Pt.cells, Pt.slots] at X71 l71 y71 z71 st71 hQ71
  subst l71 y71 z71
  obtain ⟨rfl, N71q, e71⟩ := hQ71
  have N71 := Fr.app N68 N71q
  have go72 : ∀ t, Steps p.tables e below (T71.setTop (mkF m 151 #[.val (.long qb), .second, .val (.int x0), .val (.int x1), .val (.int x2), .val (.int x3), .val (.int sel), .val (.int (Int32.ofNat A)), .val (.int (Int32.ofNat K)), .val (.int (Int32.ofNat (A + K))), .val (.ref b5), .val (.ref b20), .val (.ref b40), .val (.long (own_run f A qb K)), .second, .unset, .unset] [(.long (own_sb S A)), (.long ((qb + ((Int32.ofNat K).toInt64)) + (own_sb S (A + K))))])) t → Steps p.tables e below (s₁.setTop (entryFrame m #[(.long qb), (.int x0), (.int x1), (.int x2), (.int x3), (.int sel)] maxLocals)) t := fun t k => go70 t (st71 _ k)
  have go73 : ∀ t, Steps p.tables e below (T71.setTop (mkF m 174 #[.val (.long qb), .second, .val (.int x0), .val (.int x1), .val (.int x2), .val (.int x3), .val (.int sel), .val (.int (Int32.ofNat A)), .val (.int (Int32.ofNat K)), .val (.int (Int32.ofNat (A + K))), .val (.ref b5), .val (.ref b20), .val (.ref b40), .val (.long (own_run f A qb K)), .second, .val (.long (((qb + ((Int32.ofNat K).toInt64)) + (own_sb S (A + K))) - (own_sb S A))), .second] [(.int (0 : Int32)), (.int (Int32.ofNat (A + K))), (.int (Int32.ofNat A)), (.long qb), (.ref b40), (.ref b20), (.ref b5)])) t → Steps p.tables e below (s₁.setTop (entryFrame m #[(.long qb), (.int x0), (.int x1), (.int x2), (.int x3), (.int sel)] maxLocals)) t := by
    intro t k
    refine go72 t ?_
    show Steps p.tables e below (T71.setTop (mkF m 151 #[.val (.long qb), .second, .val (.int x0), .val (.int x1), .val (.int x2), .val (.int x3), .val (.int sel), .val (.int (Int32.ofNat A)), .val (.int (Int32.ofNat K)), .val (.int (Int32.ofNat (A + K))), .val (.ref b5), .val (.ref b20), .val (.ref b40), .val (.long (own_run f A qb K)), .second, .unset, .unset] [(.long (own_sb S A)), (.long ((qb + ((Int32.ofNat K).toInt64)) + (own_sb S (A + K))))])) _
    refine XS.lsub X71.here hx rfl (hb hby at_151) rfl ?_
    show Steps p.tables e below (T71.setTop (mkF m 152 #[.val (.long qb), .second, .val (.int x0), .val (.int x1), .val (.int x2), .val (.int x3), .val (.int sel), .val (.int (Int32.ofNat A)), .val (.int (Int32.ofNat K)), .val (.int (Int32.ofNat (A + K))), .val (.ref b5), .val (.ref b20), .val (.ref b40), .val (.long (own_run f A qb K)), .second, .unset, .unset] [(.long (((qb + ((Int32.ofNat K).toInt64)) + (own_sb S (A + K))) - (own_sb S A)))])) _
    refine XS.lstore X71.here hx rfl (hb hby at_152) rfl (l' := #[.val (.long qb), .second, .val (.int x0), .val (.int x1), .val (.int x2), .val (.int x3), .val (.int sel), .val (.int (Int32.ofNat A)), .val (.int (Int32.ofNat K)), .val (.int (Int32.ofNat (A + K))), .val (.ref b5), .val (.ref b20), .val (.ref b40), .val (.long (own_run f A qb K)), .second, .val (.long (((qb + ((Int32.ofNat K).toInt64)) + (own_sb S (A + K))) - (own_sb S A))), .second]) rfl ?_
    show Steps p.tables e below (T71.setTop (mkF m 154 #[.val (.long qb), .second, .val (.int x0), .val (.int x1), .val (.int x2), .val (.int x3), .val (.int sel), .val (.int (Int32.ofNat A)), .val (.int (Int32.ofNat K)), .val (.int (Int32.ofNat (A + K))), .val (.ref b5), .val (.ref b20), .val (.ref b40), .val (.long (own_run f A qb K)), .second, .val (.long (((qb + ((Int32.ofNat K).toInt64)) + (own_sb S (A + K))) - (own_sb S A))), .second] [])) _
    refine XS.lload X71.here hx rfl (hb hby at_154) rfl ?_
    show Steps p.tables e below (T71.setTop (mkF m 156 #[.val (.long qb), .second, .val (.int x0), .val (.int x1), .val (.int x2), .val (.int x3), .val (.int sel), .val (.int (Int32.ofNat A)), .val (.int (Int32.ofNat K)), .val (.int (Int32.ofNat (A + K))), .val (.ref b5), .val (.ref b20), .val (.ref b40), .val (.long (own_run f A qb K)), .second, .val (.long (((qb + ((Int32.ofNat K).toInt64)) + (own_sb S (A + K))) - (own_sb S A))), .second] [(.long (own_run f A qb K))])) _
    refine XS.lload X71.here hx rfl (hb hby at_156) rfl ?_
    show Steps p.tables e below (T71.setTop (mkF m 158 #[.val (.long qb), .second, .val (.int x0), .val (.int x1), .val (.int x2), .val (.int x3), .val (.int sel), .val (.int (Int32.ofNat A)), .val (.int (Int32.ofNat K)), .val (.int (Int32.ofNat (A + K))), .val (.ref b5), .val (.ref b20), .val (.ref b40), .val (.long (own_run f A qb K)), .second, .val (.long (((qb + ((Int32.ofNat K).toInt64)) + (own_sb S (A + K))) - (own_sb S A))), .second] [(.long (((qb + ((Int32.ofNat K).toInt64)) + (own_sb S (A + K))) - (own_sb S A))), (.long (own_run f A qb K))])) _
    refine XS.lcmp X71.here hx rfl (hb hby at_158) rfl ?_
    show Steps p.tables e below (T71.setTop (mkF m 159 #[.val (.long qb), .second, .val (.int x0), .val (.int x1), .val (.int x2), .val (.int x3), .val (.int sel), .val (.int (Int32.ofNat A)), .val (.int (Int32.ofNat K)), .val (.int (Int32.ofNat (A + K))), .val (.ref b5), .val (.ref b20), .val (.ref b40), .val (.long (own_run f A qb K)), .second, .val (.long (((qb + ((Int32.ofNat K).toInt64)) + (own_sb S (A + K))) - (own_sb S A))), .second] [(.int (lcmpW (own_run f A qb K) (((qb + ((Int32.ofNat K).toInt64)) + (own_sb S (A + K))) - (own_sb S A))))])) _
    refine XS.ifNo X71.here hx rfl (hb hby at_159) rfl ((if0 _ _).trans (teq ((lw_eq _ _).mpr hlast)).2) ?_
    show Steps p.tables e below (T71.setTop (mkF m 162 #[.val (.long qb), .second, .val (.int x0), .val (.int x1), .val (.int x2), .val (.int x3), .val (.int sel), .val (.int (Int32.ofNat A)), .val (.int (Int32.ofNat K)), .val (.int (Int32.ofNat (A + K))), .val (.ref b5), .val (.ref b20), .val (.ref b40), .val (.long (own_run f A qb K)), .second, .val (.long (((qb + ((Int32.ofNat K).toInt64)) + (own_sb S (A + K))) - (own_sb S A))), .second] [])) _
    refine XS.aload X71.here hx rfl (hb hby at_162) rfl rfl ?_
    show Steps p.tables e below (T71.setTop (mkF m 164 #[.val (.long qb), .second, .val (.int x0), .val (.int x1), .val (.int x2), .val (.int x3), .val (.int sel), .val (.int (Int32.ofNat A)), .val (.int (Int32.ofNat K)), .val (.int (Int32.ofNat (A + K))), .val (.ref b5), .val (.ref b20), .val (.ref b40), .val (.long (own_run f A qb K)), .second, .val (.long (((qb + ((Int32.ofNat K).toInt64)) + (own_sb S (A + K))) - (own_sb S A))), .second] [(.ref b5)])) _
    refine XS.aload X71.here hx rfl (hb hby at_164) rfl rfl ?_
    show Steps p.tables e below (T71.setTop (mkF m 166 #[.val (.long qb), .second, .val (.int x0), .val (.int x1), .val (.int x2), .val (.int x3), .val (.int sel), .val (.int (Int32.ofNat A)), .val (.int (Int32.ofNat K)), .val (.int (Int32.ofNat (A + K))), .val (.ref b5), .val (.ref b20), .val (.ref b40), .val (.long (own_run f A qb K)), .second, .val (.long (((qb + ((Int32.ofNat K).toInt64)) + (own_sb S (A + K))) - (own_sb S A))), .second] [(.ref b20), (.ref b5)])) _
    refine XS.aload X71.here hx rfl (hb hby at_166) rfl rfl ?_
    show Steps p.tables e below (T71.setTop (mkF m 168 #[.val (.long qb), .second, .val (.int x0), .val (.int x1), .val (.int x2), .val (.int x3), .val (.int sel), .val (.int (Int32.ofNat A)), .val (.int (Int32.ofNat K)), .val (.int (Int32.ofNat (A + K))), .val (.ref b5), .val (.ref b20), .val (.ref b40), .val (.long (own_run f A qb K)), .second, .val (.long (((qb + ((Int32.ofNat K).toInt64)) + (own_sb S (A + K))) - (own_sb S A))), .second] [(.ref b40), (.ref b20), (.ref b5)])) _
    refine XS.lloadN X71.here hx rfl (hb hby at_168) rfl ?_
    show Steps p.tables e below (T71.setTop (mkF m 169 #[.val (.long qb), .second, .val (.int x0), .val (.int x1), .val (.int x2), .val (.int x3), .val (.int sel), .val (.int (Int32.ofNat A)), .val (.int (Int32.ofNat K)), .val (.int (Int32.ofNat (A + K))), .val (.ref b5), .val (.ref b20), .val (.ref b40), .val (.long (own_run f A qb K)), .second, .val (.long (((qb + ((Int32.ofNat K).toInt64)) + (own_sb S (A + K))) - (own_sb S A))), .second] [(.long qb), (.ref b40), (.ref b20), (.ref b5)])) _
    refine XS.iload X71.here hx rfl (hb hby at_169) rfl ?_
    show Steps p.tables e below (T71.setTop (mkF m 171 #[.val (.long qb), .second, .val (.int x0), .val (.int x1), .val (.int x2), .val (.int x3), .val (.int sel), .val (.int (Int32.ofNat A)), .val (.int (Int32.ofNat K)), .val (.int (Int32.ofNat (A + K))), .val (.ref b5), .val (.ref b20), .val (.ref b40), .val (.long (own_run f A qb K)), .second, .val (.long (((qb + ((Int32.ofNat K).toInt64)) + (own_sb S (A + K))) - (own_sb S A))), .second] [(.int (Int32.ofNat A)), (.long qb), (.ref b40), (.ref b20), (.ref b5)])) _
    refine XS.iload X71.here hx rfl (hb hby at_171) rfl ?_
    show Steps p.tables e below (T71.setTop (mkF m 173 #[.val (.long qb), .second, .val (.int x0), .val (.int x1), .val (.int x2), .val (.int x3), .val (.int sel), .val (.int (Int32.ofNat A)), .val (.int (Int32.ofNat K)), .val (.int (Int32.ofNat (A + K))), .val (.ref b5), .val (.ref b20), .val (.ref b40), .val (.long (own_run f A qb K)), .second, .val (.long (((qb + ((Int32.ofNat K).toInt64)) + (own_sb S (A + K))) - (own_sb S A))), .second] [(.int (Int32.ofNat (A + K))), (.int (Int32.ofNat A)), (.long qb), (.ref b40), (.ref b20), (.ref b5)])) _
    refine XS.iconst X71.here hx rfl (hb hby at_173) ?_
    exact k
  obtain ⟨_, _, ⟨T74, L74, k74, n74⟩, -, X74, ⟨Lc74, hQ74, l74, y74, z74⟩, st74⟩ := Jvm.LawKit.callS X71 hx (y := (⟨"com/example/packstone/packstone/io/GapGroupsAddUpPinLaw", "same", "([I[I[JJIII)Z"⟩ : MethodName)) hown (mvT hZ (hw _ (List.mem_of_getElem? (i := 10) rfl))) (mvT hZ (hw _ (List.mem_of_getElem? (i := 11) rfl))) (mvT hZ (hw _ (List.mem_of_getElem? (i := 8) rfl))) (mvT hZ (hw _ (List.mem_of_getElem? (i := 12) rfl))) (by decide) (backOf (W := 0) (rm3 l Z a0 hw [] b5 b20 b40 qb (Int32.ofNat A) (Int32.ofNat (A + K)) (0 : Int32) (own_g f A qb K) f S A (A + K) 0 T65.heap n0 ZA WN WO WS hA hAK (by decide) rfl rfl rfl (hi 0 (by decide)) (ho 0)) hZ (hw _ (List.mem_of_getElem? (i := 12) rfl)) (hw _ (List.mem_of_getElem? (i := 8) rfl)) (by decide) (by decide)) (g := (mkF m 174 #[.val (.long qb), .second, .val (.int x0), .val (.int x1), .val (.int x2), .val (.int x3), .val (.int sel), .val (.int (Int32.ofNat A)), .val (.int (Int32.ofNat K)), .val (.int (Int32.ofNat (A + K))), .val (.ref b5), .val (.ref b20), .val (.ref b40), .val (.long (own_run f A qb K)), .second, .val (.long (((qb + ((Int32.ofNat K).toInt64)) + (own_sb S (A + K))) - (own_sb S A))), .second] [(.int (0 : Int32)), (.int (Int32.ofNat (A + K))), (.int (Int32.ofNat A)), (.long qb), (.ref b40), (.ref b20), (.ref b5)])) rfl (by rw [hml]; rfl) (argsL := [(.ref b5), (.ref b20), (.ref b40), (.long qb), (.int (Int32.ofNat A)), (.int (Int32.ofNat (A + K))), (.int (0 : Int32))]) (rest := []) (lenOf pd_0_2 rfl) rfl (by show 2 * 0 + _ ≤ _; exact Nat.le_of_eq rfl) (hb hby at_174) (fun _ _ => ⟨rfl, e71, (by decide : 3 + 0 ≤ _), (by decide : 12 + 0 ≤ _)⟩)
  dsimp only [Pt.U, Pt.locs, Pt.cells, Pt.slots] at X74 l74 y74 z74 st74 hQ74
  subst l74 y74 z74
  obtain ⟨rfl, N74q, e74⟩ := hQ74
  have N74 := Fr.app N71 N74q
  have go75 : ∀ t, Steps p.tables e below (T74.setTop (mkF m 177 #[.val (.long qb), .second, .val (.int x0), .val (.int x1), .val (.int x2), .val (.int x3), .val (.int sel), .val (.int (Int32.ofNat A)), .val (.int (Int32.ofNat K)), .val (.int (Int32.ofNat (A + K))), .val (.ref b5), .val (.ref b20), .val (.ref b40), .val (.long (own_run f A qb K)), .second, .val (.long (((qb + ((Int32.ofNat K).toInt64)) + (own_sb S (A + K))) - (own_sb S A))), .second] [(.int (1 : Int32))])) t → Steps p.tables e below (s₁.setTop (entryFrame m #[(.long qb), (.int x0), (.int x1), (.int x2), (.int x3), (.int sel)] maxLocals)) t := fun t k => go73 t (st74 _ k)
  have go76 : ∀ t, Steps p.tables e below (T74.setTop (mkF m 192 #[.val (.long qb), .second, .val (.int x0), .val (.int x1), .val (.int x2), .val (.int x3), .val (.int sel), .val (.int (Int32.ofNat A)), .val (.int (Int32.ofNat K)), .val (.int (Int32.ofNat (A + K))), .val (.ref b5), .val (.ref b20), .val (.ref b40), .val (.long (own_run f A qb K)), .second, .val (.long (((qb + ((Int32.ofNat K).toInt64)) + (own_sb S (A + K))) - (own_sb S A))), .second] [(.int (1 : Int32)), (.int (Int32.ofNat (A + K))), (.int (Int32.ofNat A)), (.long qb), (.ref b40), (.ref b20), (.ref b5)])) t → Steps p.tables e below (s₁.setTop (entryFrame m #[(.long qb), (.int x0), (.int x1), (.int x2), (.int x3), (.int sel)] maxLocals)) t := by
    intro t k
    refine go75 t ?_
    show Steps p.tables e below (T74.setTop (mkF m 177 #[.val (.long qb), .second, .val (.int x0), .val (.int x1), .val (.int x2), .val (.int x3), .val (.int sel), .val (.int (Int32.ofNat A)), .val (.int (Int32.ofNat K)), .val (.int (Int32.ofNat (A + K))), .val (.ref b5), .val (.ref b20), .val (.ref b40), .val (.long (own_run f A qb K)), .second, .val (.long (((qb + ((Int32.ofNat K).toInt64)) + (own_sb S (A + K))) - (own_sb S A))), .second] [(.int (1 : Int32))])) _
    refine XS.ifNo X74.here hx rfl (hb hby at_177) rfl ((if0 _ _).trans (feq (by decide)).1) ?_
    show Steps p.tables e below (T74.setTop (mkF m 180 #[.val (.long qb), .second, .val (.int x0), .val (.int x1), .val (.int x2), .val (.int x3), .val (.int sel), .val (.int (Int32.ofNat A)), .val (.int (Int32.ofNat K)), .val (.int (Int32.ofNat (A + K))), .val (.ref b5), .val (.ref b20), .val (.ref b40), .val (.long (own_run f A qb K)), .second, .val (.long (((qb + ((Int32.ofNat K).toInt64)) + (own_sb S (A + K))) - (own_sb S A))), .second] [])) _
    refine XS.aload X74.here hx rfl (hb hby at_180) rfl rfl ?_
    show Steps p.tables e below (T74.setTop (mkF m 182 #[.val (.long qb), .second, .val (.int x0), .val (.int x1), .val (.int x2), .val (.int x3), .val (.int sel), .val (.int (Int32.ofNat A)), .val (.int (Int32.ofNat K)), .val (.int (Int32.ofNat (A + K))), .val (.ref b5), .val (.ref b20), .val (.ref b40), .val (.long (own_run f A qb K)), .second, .val (.long (((qb + ((Int32.ofNat K).toInt64)) + (own_sb S (A + K))) - (own_sb S A))), .second] [(.ref b5)])) _
    refine XS.aload X74.here hx rfl (hb hby at_182) rfl rfl ?_
    show Steps p.tables e below (T74.setTop (mkF m 184 #[.val (.long qb), .second, .val (.int x0), .val (.int x1), .val (.int x2), .val (.int x3), .val (.int sel), .val (.int (Int32.ofNat A)), .val (.int (Int32.ofNat K)), .val (.int (Int32.ofNat (A + K))), .val (.ref b5), .val (.ref b20), .val (.ref b40), .val (.long (own_run f A qb K)), .second, .val (.long (((qb + ((Int32.ofNat K).toInt64)) + (own_sb S (A + K))) - (own_sb S A))), .second] [(.ref b20), (.ref b5)])) _
    refine XS.aload X74.here hx rfl (hb hby at_184) rfl rfl ?_
    show Steps p.tables e below (T74.setTop (mkF m 186 #[.val (.long qb), .second, .val (.int x0), .val (.int x1), .val (.int x2), .val (.int x3), .val (.int sel), .val (.int (Int32.ofNat A)), .val (.int (Int32.ofNat K)), .val (.int (Int32.ofNat (A + K))), .val (.ref b5), .val (.ref b20), .val (.ref b40), .val (.long (own_run f A qb K)), .second, .val (.long (((qb + ((Int32.ofNat K).toInt64)) + (own_sb S (A + K))) - (own_sb S A))), .second] [(.ref b40), (.ref b20), (.ref b5)])) _
    refine XS.lloadN X74.here hx rfl (hb hby at_186) rfl ?_
    show Steps p.tables e below (T74.setTop (mkF m 187 #[.val (.long qb), .second, .val (.int x0), .val (.int x1), .val (.int x2), .val (.int x3), .val (.int sel), .val (.int (Int32.ofNat A)), .val (.int (Int32.ofNat K)), .val (.int (Int32.ofNat (A + K))), .val (.ref b5), .val (.ref b20), .val (.ref b40), .val (.long (own_run f A qb K)), .second, .val (.long (((qb + ((Int32.ofNat K).toInt64)) + (own_sb S (A + K))) - (own_sb S A))), .second] [(.long qb), (.ref b40), (.ref b20), (.ref b5)])) _
    refine XS.iload X74.here hx rfl (hb hby at_187) rfl ?_
    show Steps p.tables e below (T74.setTop (mkF m 189 #[.val (.long qb), .second, .val (.int x0), .val (.int x1), .val (.int x2), .val (.int x3), .val (.int sel), .val (.int (Int32.ofNat A)), .val (.int (Int32.ofNat K)), .val (.int (Int32.ofNat (A + K))), .val (.ref b5), .val (.ref b20), .val (.ref b40), .val (.long (own_run f A qb K)), .second, .val (.long (((qb + ((Int32.ofNat K).toInt64)) + (own_sb S (A + K))) - (own_sb S A))), .second] [(.int (Int32.ofNat A)), (.long qb), (.ref b40), (.ref b20), (.ref b5)])) _
    refine XS.iload X74.here hx rfl (hb hby at_189) rfl ?_
    show Steps p.tables e below (T74.setTop (mkF m 191 #[.val (.long qb), .second, .val (.int x0), .val (.int x1), .val (.int x2), .val (.int x3), .val (.int sel), .val (.int (Int32.ofNat A)), .val (.int (Int32.ofNat K)), .val (.int (Int32.ofNat (A + K))), .val (.ref b5), .val (.ref b20), .val (.ref b40), .val (.long (own_run f A qb K)), .second, .val (.long (((qb + ((Int32.ofNat K).toInt64)) + (own_sb S (A + K))) - (own_sb S A))), .second] [(.int (Int32.ofNat (A + K))), (.int (Int32.ofNat A)), (.long qb), (.ref b40), (.ref b20), (.ref b5)])) _
    refine XS.iconst X74.here hx rfl (hb hby at_191) ?_
    exact k
  obtain ⟨_, _, ⟨T77, L77, k77, n77⟩, -, X77, ⟨Lc77, hQ77, l77, y77, z77⟩, st77⟩ := Jvm.LawKit.callS X74 hx (y := (⟨"com/example/packstone/packstone/io/GapGroupsAddUpPinLaw", "same", "([I[I[JJIII)Z"⟩ : MethodName)) hown (mvT hZ (hw _ (List.mem_of_getElem? (i := 10) rfl))) (mvT hZ (hw _ (List.mem_of_getElem? (i := 11) rfl))) (mvT hZ (hw _ (List.mem_of_getElem? (i := 8) rfl))) (mvT hZ (hw _ (List.mem_of_getElem? (i := 12) rfl))) (by decide) (backOf (W := 0) (rm3 l Z a0 hw [] b5 b20 b40 qb (Int32.ofNat A) (Int32.ofNat (A + K)) (1 : Int32) (own_g f A qb K) f S A (A + K) 1 T65.heap n0 ZA WN WO WS hA hAK (by decide) rfl rfl rfl (hi 1 (by decide)) (ho 1)) hZ (hw _ (List.mem_of_getElem? (i := 12) rfl)) (hw _ (List.mem_of_getElem? (i := 8) rfl)) (by decide) (by decide)) (g := (mkF m 192 #[.val (.long qb), .second, .val (.int x0), .val (.int x1), .val (.int x2), .val (.int x3), .val (.int sel), .val (.int (Int32.ofNat A)), .val (.int (Int32.ofNat K)), .val (.int (Int32.ofNat (A + K))), .val (.ref b5), .val (.ref b20), .val (.ref b40), .val (.long (own_run f A qb K)), .second, .val (.long (((qb + ((Int32.ofNat K).toInt64)) + (own_sb S (A + K))) - (own_sb S A))), .second] [(.int (1 : Int32)), (.int (Int32.ofNat (A + K))), (.int (Int32.ofNat A)), (.long qb), (.ref b40), (.ref b20), (.ref b5)])) rfl (by rw [hml]; rfl) (argsL := [(.ref b5), (.ref b20), (.ref b40), (.long qb), (.int (Int32.ofNat A)), (.int (Int32.ofNat (A + K))), (.int (1 : Int32))]) (rest := []) (lenOf pd_0_2 rfl) rfl (by show 2 * 0 + _ ≤ _; exact Nat.le_of_eq rfl) (hb hby at_192) (fun _ _ => ⟨rfl, e74, (by decide : 3 + 0 ≤ _), (by decide : 12 + 0 ≤ _)⟩)
  dsimp only [Pt.U, Pt.locs, Pt.cells, Pt.slots] at X77 l77 y77 z77 st77 hQ77
  subst l77 y77 z77
  obtain ⟨rfl, N77q, e77⟩ := hQ77
  have N77 := Fr.app N74 N77q
  have go78 : ∀ t, Steps p.tables e below (T77.setTop (mkF m 195 #[.val (.long qb), .second, .val (.int x0), .val (.int x1), .val (.int x2), .val (.int x3), .val (.int sel), .val (.int (Int32.ofNat A)), .val (.int (Int32.ofNat K)), .val (.int (Int32.ofNat (A + K))), .val (.ref b5), .val (.ref b20), .val (.ref b40), .val (.long (own_run f A qb K)), .second, .val (.long (((qb + ((Int32.ofNat K).toInt64)) + (own_sb S (A + K))) - (own_sb S A))), .second] [(.int (1 : Int32))])) t → Steps p.tables e below (s₁.setTop (entryFrame m #[(.long qb), (.int x0), (.int x1), (.int x2), (.int x3), (.int sel)] maxLocals)) t := fun t k => go76 t (st77 _ k)
  have go79 : ∀ t, Steps p.tables e below (T77.setTop (mkF m 210 #[.val (.long qb), .second, .val (.int x0), .val (.int x1), .val (.int x2), .val (.int x3), .val (.int sel), .val (.int (Int32.ofNat A)), .val (.int (Int32.ofNat K)), .val (.int (Int32.ofNat (A + K))), .val (.ref b5), .val (.ref b20), .val (.ref b40), .val (.long (own_run f A qb K)), .second, .val (.long (((qb + ((Int32.ofNat K).toInt64)) + (own_sb S (A + K))) - (own_sb S A))), .second] [(.int (2 : Int32)), (.int (Int32.ofNat (A + K))), (.int (Int32.ofNat A)), (.long qb), (.ref b40), (.ref b20), (.ref b5)])) t → Steps p.tables e below (s₁.setTop (entryFrame m #[(.long qb), (.int x0), (.int x1), (.int x2), (.int x3), (.int sel)] maxLocals)) t := by
    intro t k
    refine go78 t ?_
    show Steps p.tables e below (T77.setTop (mkF m 195 #[.val (.long qb), .second, .val (.int x0), .val (.int x1), .val (.int x2), .val (.int x3), .val (.int sel), .val (.int (Int32.ofNat A)), .val (.int (Int32.ofNat K)), .val (.int (Int32.ofNat (A + K))), .val (.ref b5), .val (.ref b20), .val (.ref b40), .val (.long (own_run f A qb K)), .second, .val (.long (((qb + ((Int32.ofNat K).toInt64)) + (own_sb S (A + K))) - (own_sb S A))), .second] [(.int (1 : Int32))])) _
    refine XS.ifNo X77.here hx rfl (hb hby at_195) rfl ((if0 _ _).trans (feq (by decide)).1) ?_
    show Steps p.tables e below (T77.setTop (mkF m 198 #[.val (.long qb), .second, .val (.int x0), .val (.int x1), .val (.int x2), .val (.int x3), .val (.int sel), .val (.int (Int32.ofNat A)), .val (.int (Int32.ofNat K)), .val (.int (Int32.ofNat (A + K))), .val (.ref b5), .val (.ref b20), .val (.ref b40), .val (.long (own_run f A qb K)), .second, .val (.long (((qb + ((Int32.ofNat K).toInt64)) + (own_sb S (A + K))) - (own_sb S A))), .second] [])) _
    refine XS.aload X77.here hx rfl (hb hby at_198) rfl rfl ?_
    show Steps p.tables e below (T77.setTop (mkF m 200 #[.val (.long qb), .second, .val (.int x0), .val (.int x1), .val (.int x2), .val (.int x3), .val (.int sel), .val (.int (Int32.ofNat A)), .val (.int (Int32.ofNat K)), .val (.int (Int32.ofNat (A + K))), .val (.ref b5), .val (.ref b20), .val (.ref b40), .val (.long (own_run f A qb K)), .second, .val (.long (((qb + ((Int32.ofNat K).toInt64)) + (own_sb S (A + K))) - (own_sb S A))), .second] [(.ref b5)])) _
    refine XS.aload X77.here hx rfl (hb hby at_200) rfl rfl ?_
    show Steps p.tables e below (T77.setTop (mkF m 202 #[.val (.long qb), .second, .val (.int x0), .val (.int x1), .val (.int x2), .val (.int x3), .val (.int sel), .val (.int (Int32.ofNat A)), .val (.int (Int32.ofNat K)), .val (.int (Int32.ofNat (A + K))), .val (.ref b5), .val (.ref b20), .val (.ref b40), .val (.long (own_run f A qb K)), .second, .val (.long (((qb + ((Int32.ofNat K).toInt64)) + (own_sb S (A + K))) - (own_sb S A))), .second] [(.ref b20), (.ref b5)])) _
    refine XS.aload X77.here hx rfl (hb hby at_202) rfl rfl ?_
    show Steps p.tables e below (T77.setTop (mkF m 204 #[.val (.long qb), .second, .val (.int x0), .val (.int x1), .val (.int x2), .val (.int x3), .val (.int sel), .val (.int (Int32.ofNat A)), .val (.int (Int32.ofNat K)), .val (.int (Int32.ofNat (A + K))), .val (.ref b5), .val (.ref b20), .val (.ref b40), .val (.long (own_run f A qb K)), .second, .val (.long (((qb + ((Int32.ofNat K).toInt64)) + (own_sb S (A + K))) - (own_sb S A))), .second] [(.ref b40), (.ref b20), (.ref b5)])) _
    refine XS.lloadN X77.here hx rfl (hb hby at_204) rfl ?_
    show Steps p.tables e below (T77.setTop (mkF m 205 #[.val (.long qb), .second, .val (.int x0), .val (.int x1), .val (.int x2), .val (.int x3), .val (.int sel), .val (.int (Int32.ofNat A)), .val (.int (Int32.ofNat K)), .val (.int (Int32.ofNat (A + K))), .val (.ref b5), .val (.ref b20), .val (.ref b40), .val (.long (own_run f A qb K)), .second, .val (.long (((qb + ((Int32.ofNat K).toInt64)) + (own_sb S (A + K))) - (own_sb S A))), .second] [(.long qb), (.ref b40), (.ref b20), (.ref b5)])) _
    refine XS.iload X77.here hx rfl (hb hby at_205) rfl ?_
    show Steps p.tables e below (T77.setTop (mkF m 207 #[.val (.long qb), .second, .val (.int x0), .val (.int x1), .val (.int x2), .val (.int x3), .val (.int sel), .val (.int (Int32.ofNat A)), .val (.int (Int32.ofNat K)), .val (.int (Int32.ofNat (A + K))), .val (.ref b5), .val (.ref b20), .val (.ref b40), .val (.long (own_run f A qb K)), .second, .val (.long (((qb + ((Int32.ofNat K).toInt64)) + (own_sb S (A + K))) - (own_sb S A))), .second] [(.int (Int32.ofNat A)), (.long qb), (.ref b40), (.ref b20), (.ref b5)])) _
    refine XS.iload X77.here hx rfl (hb hby at_207) rfl ?_
    show Steps p.tables e below (T77.setTop (mkF m 209 #[.val (.long qb), .second, .val (.int x0), .val (.int x1), .val (.int x2), .val (.int x3), .val (.int sel), .val (.int (Int32.ofNat A)), .val (.int (Int32.ofNat K)), .val (.int (Int32.ofNat (A + K))), .val (.ref b5), .val (.ref b20), .val (.ref b40), .val (.long (own_run f A qb K)), .second, .val (.long (((qb + ((Int32.ofNat K).toInt64)) + (own_sb S (A + K))) - (own_sb S A))), .second] [(.int (Int32.ofNat (A + K))), (.int (Int32.ofNat A)), (.long qb), (.ref b40), (.ref b20), (.ref b5)])) _
    refine XS.iconst X77.here hx rfl (hb hby at_209) ?_
    exact k
  obtain ⟨_, _, ⟨T80, L80, k80, n80⟩, -, X80, ⟨Lc80, hQ80, l80, y80, z80⟩, st80⟩ := Jvm.LawKit.callS X77 hx (y := (⟨"com/example/packstone/packstone/io/GapGroupsAddUpPinLaw", "same", "([I[I[JJIII)Z"⟩ : MethodName)) hown (mvT hZ (hw _ (List.mem_of_getElem? (i := 10) rfl))) (mvT hZ (hw _ (List.mem_of_getElem? (i := 11) rfl))) (mvT hZ (hw _ (List.mem_of_getElem? (i := 8) rfl))) (mvT hZ (hw _ (List.mem_of_getElem? (i := 12) rfl))) (by decide) (backOf (W := 0) (rm3 l Z a0 hw [] b5 b20 b40 qb (Int32.ofNat A) (Int32.ofNat (A + K)) (2 : Int32) (own_g f A qb K) f S A (A + K) 2 T65.heap n0 ZA WN WO WS hA hAK (by decide) rfl rfl rfl (hi 2 (by decide)) (ho 2)) hZ (hw _ (List.mem_of_getElem? (i := 12) rfl)) (hw _ (List.mem_of_getElem? (i := 8) rfl)) (by decide) (by decide)) (g := (mkF m 210 #[.val (.long qb), .second, .val (.int x0), .val (.int x1), .val (.int x2), .val (.int x3), .val (.int sel), .val (.int (Int32.ofNat A)), .val (.int (Int32.ofNat K)), .val (.int (Int32.ofNat (A + K))), .val (.ref b5), .val (.ref b20), .val (.ref b40), .val (.long (own_run f A qb K)), .second, .val (.long (((qb + ((Int32.ofNat K).toInt64)) + (own_sb S (A + K))) - (own_sb S A))), .second] [(.int (2 : Int32)), (.int (Int32.ofNat (A + K))), (.int (Int32.ofNat A)), (.long qb), (.ref b40), (.ref b20), (.ref b5)])) rfl (by rw [hml]; rfl) (argsL := [(.ref b5), (.ref b20), (.ref b40), (.long qb), (.int (Int32.ofNat A)), (.int (Int32.ofNat (A + K))), (.int (2 : Int32))]) (rest := []) (lenOf pd_0_2 rfl) rfl (by show 2 * 0 + _ ≤ _; exact Nat.le_of_eq rfl) (hb hby at_210) (fun _ _ => ⟨rfl, e77, (by decide : 3 + 0 ≤ _), (by decide : 12 + 0 ≤ _)⟩)
  dsimp only [Pt.U, Pt.locs, Pt.cells, Pt.slots] at X80 l80 y80 z80 st80 hQ80
  subst l80 y80 z80
  obtain ⟨rfl, N80q, e80⟩ := hQ80
  have N80 := Fr.app N77 N80q
  have go81 : ∀ t, Steps p.tables e below (T80.setTop (mkF m 213 #[.val (.long qb), .second, .val (.int x0), .val (.int x1), .val (.int x2), .val (.int x3), .val (.int sel), .val (.int (Int32.ofNat A)), .val (.int (Int32.ofNat K)), .val (.int (Int32.ofNat (A + K))), .val (.ref b5), .val (.ref b20), .val (.ref b40), .val (.long (own_run f A qb K)), .second, .val (.long (((qb + ((Int32.ofNat K).toInt64)) + (own_sb S (A + K))) - (own_sb S A))), .second] [(.int (1 : Int32))])) t → Steps p.tables e below (s₁.setTop (entryFrame m #[(.long qb), (.int x0), (.int x1), (.int x2), (.int x3), (.int sel)] maxLocals)) t := fun t k => go79 t (st80 _ k)
  have go82 : ∀ t, Steps p.tables e below (T80.setTop (mkF m 228 #[.val (.long qb), .second, .val (.int x0), .val (.int x1), .val (.int x2), .val (.int x3), .val (.int sel), .val (.int (Int32.ofNat A)), .val (.int (Int32.ofNat K)), .val (.int (Int32.ofNat (A + K))), .val (.ref b5), .val (.ref b20), .val (.ref b40), .val (.long (own_run f A qb K)), .second, .val (.long (((qb + ((Int32.ofNat K).toInt64)) + (own_sb S (A + K))) - (own_sb S A))), .second] [(.int (3 : Int32)), (.int (Int32.ofNat (A + K))), (.int (Int32.ofNat A)), (.long qb), (.ref b40), (.ref b20), (.ref b5)])) t → Steps p.tables e below (s₁.setTop (entryFrame m #[(.long qb), (.int x0), (.int x1), (.int x2), (.int x3), (.int sel)] maxLocals)) t := by
    intro t k
    refine go81 t ?_
    show Steps p.tables e below (T80.setTop (mkF m 213 #[.val (.long qb), .second, .val (.int x0), .val (.int x1), .val (.int x2), .val (.int x3), .val (.int sel), .val (.int (Int32.ofNat A)), .val (.int (Int32.ofNat K)), .val (.int (Int32.ofNat (A + K))), .val (.ref b5), .val (.ref b20), .val (.ref b40), .val (.long (own_run f A qb K)), .second, .val (.long (((qb + ((Int32.ofNat K).toInt64)) + (own_sb S (A + K))) - (own_sb S A))), .second] [(.int (1 : Int32))])) _
    refine XS.ifNo X80.here hx rfl (hb hby at_213) rfl ((if0 _ _).trans (feq (by decide)).1) ?_
    show Steps p.tables e below (T80.setTop (mkF m 216 #[.val (.long qb), .second, .val (.int x0), .val (.int x1), .val (.int x2), .val (.int x3), .val (.int sel), .val (.int (Int32.ofNat A)), .val (.int (Int32.ofNat K)), .val (.int (Int32.ofNat (A + K))), .val (.ref b5), .val (.ref b20), .val (.ref b40), .val (.long (own_run f A qb K)), .second, .val (.long (((qb + ((Int32.ofNat K).toInt64)) + (own_sb S (A + K))) - (own_sb S A))), .second] [])) _
    refine XS.aload X80.here hx rfl (hb hby at_216) rfl rfl ?_
    show Steps p.tables e below (T80.setTop (mkF m 218 #[.val (.long qb), .second, .val (.int x0), .val (.int x1), .val (.int x2), .val (.int x3), .val (.int sel), .val (.int (Int32.ofNat A)), .val (.int (Int32.ofNat K)), .val (.int (Int32.ofNat (A + K))), .val (.ref b5), .val (.ref b20), .val (.ref b40), .val (.long (own_run f A qb K)), .second, .val (.long (((qb + ((Int32.ofNat K).toInt64)) + (own_sb S (A + K))) - (own_sb S A))), .second] [(.ref b5)])) _
    refine XS.aload X80.here hx rfl (hb hby at_218) rfl rfl ?_
    show Steps p.tables e below (T80.setTop (mkF m 220 #[.val (.long qb), .second, .val (.int x0), .val (.int x1), .val (.int x2), .val (.int x3), .val (.int sel), .val (.int (Int32.ofNat A)), .val (.int (Int32.ofNat K)), .val (.int (Int32.ofNat (A + K))), .val (.ref b5), .val (.ref b20), .val (.ref b40), .val (.long (own_run f A qb K)), .second, .val (.long (((qb + ((Int32.ofNat K).toInt64)) + (own_sb S (A + K))) - (own_sb S A))), .second] [(.ref b20), (.ref b5)])) _
    refine XS.aload X80.here hx rfl (hb hby at_220) rfl rfl ?_
    show Steps p.tables e below (T80.setTop (mkF m 222 #[.val (.long qb), .second, .val (.int x0), .val (.int x1), .val (.int x2), .val (.int x3), .val (.int sel), .val (.int (Int32.ofNat A)), .val (.int (Int32.ofNat K)), .val (.int (Int32.ofNat (A + K))), .val (.ref b5), .val (.ref b20), .val (.ref b40), .val (.long (own_run f A qb K)), .second, .val (.long (((qb + ((Int32.ofNat K).toInt64)) + (own_sb S (A + K))) - (own_sb S A))), .second] [(.ref b40), (.ref b20), (.ref b5)])) _
    refine XS.lloadN X80.here hx rfl (hb hby at_222) rfl ?_
    show Steps p.tables e below (T80.setTop (mkF m 223 #[.val (.long qb), .second, .val (.int x0), .val (.int x1), .val (.int x2), .val (.int x3), .val (.int sel), .val (.int (Int32.ofNat A)), .val (.int (Int32.ofNat K)), .val (.int (Int32.ofNat (A + K))), .val (.ref b5), .val (.ref b20), .val (.ref b40), .val (.long (own_run f A qb K)), .second, .val (.long (((qb + ((Int32.ofNat K).toInt64)) + (own_sb S (A + K))) - (own_sb S A))), .second] [(.long qb), (.ref b40), (.ref b20), (.ref b5)])) _
    refine XS.iload X80.here hx rfl (hb hby at_223) rfl ?_
    show Steps p.tables e below (T80.setTop (mkF m 225 #[.val (.long qb), .second, .val (.int x0), .val (.int x1), .val (.int x2), .val (.int x3), .val (.int sel), .val (.int (Int32.ofNat A)), .val (.int (Int32.ofNat K)), .val (.int (Int32.ofNat (A + K))), .val (.ref b5), .val (.ref b20), .val (.ref b40), .val (.long (own_run f A qb K)), .second, .val (.long (((qb + ((Int32.ofNat K).toInt64)) + (own_sb S (A + K))) - (own_sb S A))), .second] [(.int (Int32.ofNat A)), (.long qb), (.ref b40), (.ref b20), (.ref b5)])) _
    refine XS.iload X80.here hx rfl (hb hby at_225) rfl ?_
    show Steps p.tables e below (T80.setTop (mkF m 227 #[.val (.long qb), .second, .val (.int x0), .val (.int x1), .val (.int x2), .val (.int x3), .val (.int sel), .val (.int (Int32.ofNat A)), .val (.int (Int32.ofNat K)), .val (.int (Int32.ofNat (A + K))), .val (.ref b5), .val (.ref b20), .val (.ref b40), .val (.long (own_run f A qb K)), .second, .val (.long (((qb + ((Int32.ofNat K).toInt64)) + (own_sb S (A + K))) - (own_sb S A))), .second] [(.int (Int32.ofNat (A + K))), (.int (Int32.ofNat A)), (.long qb), (.ref b40), (.ref b20), (.ref b5)])) _
    refine XS.iconst X80.here hx rfl (hb hby at_227) ?_
    exact k
  obtain ⟨_, _, ⟨T83, L83, k83, n83⟩, -, X83, ⟨Lc83, hQ83, l83, y83, z83⟩, st83⟩ := Jvm.LawKit.callS X80 hx (y := (⟨"com/example/packstone/packstone/io/GapGroupsAddUpPinLaw", "same", "([I[I[JJIII)Z"⟩ : MethodName)) hown (mvT hZ (hw _ (List.mem_of_getElem? (i := 10) rfl))) (mvT hZ (hw _ (List.mem_of_getElem? (i := 11) rfl))) (mvT hZ (hw _ (List.mem_of_getElem? (i := 8) rfl))) (mvT hZ (hw _ (List.mem_of_getElem? (i := 12) rfl))) (by decide) (backOf (W := 0) (rm3 l Z a0 hw [] b5 b20 b40 qb (Int32.ofNat A) (Int32.ofNat (A + K)) (3 : Int32) (own_g f A qb K) f S A (A + K) 3 T65.heap n0 ZA WN WO WS hA hAK (by decide) rfl rfl rfl (hi 3 (by decide)) (ho 3)) hZ (hw _ (List.mem_of_getElem? (i := 12) rfl)) (hw _ (List.mem_of_getElem? (i := 8) rfl)) (by decide) (by decide)) (g := (mkF m 228 #[.val (.long qb), .second, .val (.int x0), .val (.int x1), .val (.int x2), .val (.int x3), .val (.int sel), .val (.int (Int32.ofNat A)), .val (.int (Int32.ofNat K)), .val (.int (Int32.ofNat (A + K))), .val (.ref b5), .val (.ref b20), .val (.ref b40), .val (.long (own_run f A qb K)), .second, .val (.long (((qb + ((Int32.ofNat K).toInt64)) + (own_sb S (A + K))) - (own_sb S A))), .second] [(.int (3 : Int32)), (.int (Int32.ofNat (A + K))), (.int (Int32.ofNat A)), (.long qb), (.ref b40), (.ref b20), (.ref b5)])) rfl (by rw [hml]; rfl) (argsL := [(.ref b5), (.ref b20), (.ref b40), (.long qb), (.int (Int32.ofNat A)), (.int (Int32.ofNat (A + K))), (.int (3 : Int32))]) (rest := []) (lenOf pd_0_2 rfl) rfl (by show 2 * 0 + _ ≤ _; exact Nat.le_of_eq rfl) (hb hby at_228) (fun _ _ => ⟨rfl, e80, (by decide : 3 + 0 ≤ _), (by decide : 12 + 0 ≤ _)⟩)
  dsimp only [Pt.U, Pt.locs, Pt.cells, Pt.slots] at X83 l83 y83 z83 st83 hQ83
  subst l83 y83 z83
  obtain ⟨rfl, N83q, e83⟩ := hQ83
  have N83 := Fr.app N80 N83q
  have go84 : ∀ t, Steps p.tables e below (T83.setTop (mkF m 231 #[.val (.long qb), .second, .val (.int x0), .val (.int x1), .val (.int x2), .val (.int x3), .val (.int sel), .val (.int (Int32.ofNat A)), .val (.int (Int32.ofNat K)), .val (.int (Int32.ofNat (A + K))), .val (.ref b5), .val (.ref b20), .val (.ref b40), .val (.long (own_run f A qb K)), .second, .val (.long (((qb + ((Int32.ofNat K).toInt64)) + (own_sb S (A + K))) - (own_sb S A))), .second] [(.int (1 : Int32))])) t → Steps p.tables e below (s₁.setTop (entryFrame m #[(.long qb), (.int x0), (.int x1), (.int x2), (.int x3), (.int sel)] maxLocals)) t := fun t k => go82 t (st83 _ k)
  have go85 : ∀ t, Steps p.tables e below (T83.setTop (mkF m 239 #[.val (.long qb), .second, .val (.int x0), .val (.int x1), .val (.int x2), .val (.int x3), .val (.int sel), .val (.int (Int32.ofNat A)), .val (.int (Int32.ofNat K)), .val (.int (Int32.ofNat (A + K))), .val (.ref b5), .val (.ref b20), .val (.ref b40), .val (.long (own_run f A qb K)), .second, .val (.long (((qb + ((Int32.ofNat K).toInt64)) + (own_sb S (A + K))) - (own_sb S A))), .second] [(.int (1 : Int32))])) t → Steps p.tables e below (s₁.setTop (entryFrame m #[(.long qb), (.int x0), (.int x1), (.int x2), (.int x3), (.int sel)] maxLocals)) t := by
    intro t k
    refine go84 t ?_
    show Steps p.tables e below (T83.setTop (mkF m 231 #[.val (.long qb), .second, .val (.int x0), .val (.int x1), .val (.int x2), .val (.int x3), .val (.int sel), .val (.int (Int32.ofNat A)), .val (.int (Int32.ofNat K)), .val (.int (Int32.ofNat (A + K))), .val (.ref b5), .val (.ref b20), .val (.ref b40), .val (.long (own_run f A qb K)), .second, .val (.long (((qb + ((Int32.ofNat K).toInt64)) + (own_sb S (A + K))) - (own_sb S A))), .second] [(.int (1 : Int32))])) _
    refine XS.ifNo X83.here hx rfl (hb hby at_231) rfl ((if0 _ _).trans (feq (by decide)).1) ?_
    show Steps p.tables e below (T83.setTop (mkF m 234 #[.val (.long qb), .second, .val (.int x0), .val (.int x1), .val (.int x2), .val (.int x3), .val (.int sel), .val (.int (Int32.ofNat A)), .val (.int (Int32.ofNat K)), .val (.int (Int32.ofNat (A + K))), .val (.ref b5), .val (.ref b20), .val (.ref b40), .val (.long (own_run f A qb K)), .second, .val (.long (((qb + ((Int32.ofNat K).toInt64)) + (own_sb S (A + K))) - (own_sb S A))), .second] [])) _
    refine XS.iconst X83.here hx rfl (hb hby at_234) ?_
    show Steps p.tables e below (T83.setTop (mkF m 235 #[.val (.long qb), .second, .val (.int x0), .val (.int x1), .val (.int x2), .val (.int x3), .val (.int sel), .val (.int (Int32.ofNat A)), .val (.int (Int32.ofNat K)), .val (.int (Int32.ofNat (A + K))), .val (.ref b5), .val (.ref b20), .val (.ref b40), .val (.long (own_run f A qb K)), .second, .val (.long (((qb + ((Int32.ofNat K).toInt64)) + (own_sb S (A + K))) - (own_sb S A))), .second] [(.int (1 : Int32))])) _
    refine XS.goto X83.here hx rfl (pc0 := 235) (pc' := 239) rfl (hb hby at_235) (by decide) (by decide) ?_
    exact k
  obtain ⟨fs, hr, hrun, hended, hW, hsame⟩ := X83.leave (v := some (.int (1 : Int32))) (fun h => by rw [Bd.returns] at h; cases h)
  refine ⟨_, _, go85 _ ?_, hrun, hended, _, _, rfl, ?_, ⟨_, rfl⟩, hW, hsame.mono (by decide) (by decide)⟩
  · show Steps p.tables e below (T83.setTop (mkF m 239 #[.val (.long qb), .second, .val (.int x0), .val (.int x1), .val (.int x2), .val (.int x3), .val (.int sel), .val (.int (Int32.ofNat A)), .val (.int (Int32.ofNat K)), .val (.int (Int32.ofNat (A + K))), .val (.ref b5), .val (.ref b20), .val (.ref b40), .val (.long (own_run f A qb K)), .second, .val (.long (((qb + ((Int32.ofNat K).toInt64)) + (own_sb S (A + K))) - (own_sb S A))), .second] [(.int (1 : Int32))])) _
    exact retN X83 hx (t := .boolean) Bd.returns (by simp) (hb hby at_239) hr
  · show Q0 Z qb x0 x1 x2 x3 sel h0 n0 _ T83.heap _
    rw [e83]
    exact ⟨rfl, N83⟩
set_option maxRecDepth 65536 in
set_option maxHeartbeats 40000000 in
theorem comes_1 {Post : Tables → Env → Array Value → State → Outcome → State → Prop} (hpost : ∀ tb e args s v u, (limb_1_1.after args s (.returned v) u = true ∧ limb_1_2.after args s (.returned v) u = true ∧ True) → FrameEnd s (.returned v) u (Jvm.fieldLocs frame_1_writes args s ++ Jvm.arrayLocs frame_1_arrays args s ++ Jvm.staticLocs frame_1_statics s) 16 128 → Post tb e args s (.returned v) u) :
    ArmFor flags0 classFile x code maxLocals ret World_1 tables_1 room_1 Calls_1 rest_1 Pre_1 Post := by
  intro l hfl _ _ p e ha hc hk s m args below hf hA hF happ hP
  obtain ⟨hcalls, hrest, hpre⟩ := hP
  obtain ⟨-, -, -, hnamed, -, -, -, hat⟩ := (Spec.applies_iff hf).mp happ
  obtain ⟨hg, hn⟩ := and_e (Cond.before_iff.mp (show (Jvm.Cond.and given_1 narrow_1).before args s = true from hpre))
  obtain ⟨gc, r0⟩ := and_e hg
  obtain ⟨g0, r1⟩ := and_e r0
  obtain ⟨g1, r2⟩ := and_e r1
  obtain ⟨g2, r3⟩ := and_e r2
  obtain ⟨g3, r4⟩ := and_e r3
  obtain ⟨g4, r5⟩ := and_e r4
  obtain ⟨w0, w1, w2, w3, w4, w5, rfl⟩ : ∃ w0 w1 w2 w3 w4 w5 : Value, args = #[w0, w1, w2, w3, w4, w5] := by
    have hs : args.size = 6 := by simpa [Cond.value, given_1] using gc
    obtain ⟨L⟩ := args
    match L, hs with
    | [w0, w1, w2, w3, w4, w5], _ => exact ⟨w0, w1, w2, w3, w4, w5, rfl⟩
  have hw := fun d (hd : d ∈ tables_1) => atoms_spec (ws := Jvm.Cond.code x code maxLocals ret :: tables_1) hat d (List.mem_cons_of_mem _ hd)
  obtain ⟨i0, ei0⟩ := isL_v g0
  obtain rfl : w0 = (.long i0) := Option.some.inj ei0
  obtain ⟨i1, ei1⟩ := is_v g1
  obtain rfl : w1 = (.int i1) := Option.some.inj ei1
  obtain ⟨i2, ei2⟩ := is_v g2
  obtain rfl : w2 = (.int i2) := Option.some.inj ei2
  obtain ⟨i3, ei3⟩ := is_v g3
  obtain rfl : w3 = (.int i3) := Option.some.inj ei3
  obtain ⟨i4, ei4⟩ := is_v g4
  obtain rfl : w4 = (.int i4) := Option.some.inj ei4
  obtain ⟨i5, ei5⟩ := is_v r5
  obtain rfl : w5 = (.int i5) := Option.some.inj ei5
  obtain ⟨n, o, h1, h2, h3, _, L, rfl, ⟨rfl, N⟩, hq⟩ := rm0 l s _ hw tables_1 i0 i1 i2 i3 i4 i5 s.heap s.heap.size (Nat.le_refl _) p e ha hc hk s m _ below hf ((Spec.applies_iff_loose hf).mp happ).1 ⟨rfl, State.Warmed39.refl s, rfl⟩ trivial
  refine ⟨n, _, h1, h2, h3, hpost _ _ _ _ _ _ ⟨Cond.after_iff.mpr rfl, Cond.after_iff.mpr (eq_i res_at (Term.int_eval (1)) rfl), trivial⟩ ⟨hq.1, hq.2.1, (hq.2.2.sift fun y hy => Or.inr (N y hy)).mono (by decide) (by decide)⟩⟩
theorem main_1_1 : Claimed_1_1 := comes_1 fun _ _ _ _ _ _ h hF => ⟨h.1, hF⟩
theorem main_1_2 : Claimed_1_2 := comes_1 fun _ _ _ _ _ _ h hF => ⟨h.2.1, hF⟩
end Jvm.Pilot.@@N@@
namespace Jvm.Pilot.@@N@@
open Jvm Jvm.ClassFile Sem Op Lib Jvm.Free Jvm.Stand Jvm.Pilot.@@N@@.Jvm.D
/-! MADE BY PROGRAM (witnessworld.py) out of the Statement's table words and the real class files: 11 classes; the members and pool entries that the words name. The judged class is class 1, her method 1. -/
namespace start1
open Jvm.ClassFile
def u (s : String) : CpInfo := .utf8 (stringToUtf16 s)
/-- a pool by its gaps: so many unusable entries, then the entry; so many at the end -/
def gap : Nat → List CpInfo → List CpInfo
  | 0, r => r
  | n + 1, r => .unusable :: gap n r
def poolList (es : List (Nat × CpInfo)) (last : Nat) : List CpInfo := es.foldr (fun e r => gap e.1 (e.2 :: r)) (gap last [])
def pool (es : List (Nat × CpInfo)) (last : Nat) : Array CpInfo := ⟨poolList es last⟩
def fileOf (pool : Array CpInfo) (this : Nat) (attrs : Array Attribute := #[]) (ms : Array MethodInfo := #[]) (fl : Nat := 33) (sup : Nat := 0) (ifs : Array Nat := #[]) (fds : Array FieldInfo := #[]) : ClassFile where
  minorVersion := 0
  majorVersion := 65
  constantPool := pool
  accessFlags := fl
  thisClass := this
  superClass := sup
  interfaces := ifs
  fields := fds
  methods := ms
  attributes := attrs
def plain (name : String) (sup : Option ClassId) : Class where
  name := name
  kind := .ordinary
  loader := none
  accessFlags := 33
  super := sup
  interfaces := #[]
  cf := none
  fields := #[]
  methods := #[]
  instanceTypes := #[]
  staticTypes := #[]
  resolved := #[]
  callSites := []
  init := .initialized
  statics := none
  mirror := none

def pool0 : Array CpInfo := pool [(5, u "<init>"), (0, u "()V"), (1, .class_ 10), (1, u "java/lang/Object")] 113

def k0m0 : Method := { name := "<init>", desc := "()V", sig := { parameters := [], returnType := none }, accessFlags := 1, code := none }
/-- java/lang/Object -/
def k0 : Class := { plain "java/lang/Object" none with
  accessFlags := 33
  interfaces := #[]
  cf := some (fileOf pool0 8 #[] #[{ accessFlags := 1, nameIndex := 5, descriptorIndex := 6, attributes := #[] }] 33 0 #[] #[])
  fields := #[]
  methods := #[k0m0]
  instanceTypes := #[]
  staticTypes := #[]
  resolved := Array.replicate 124 none
  statics := none }

def pool1 : Array CpInfo := pool [(2, .class_ 4), (1, u "java/lang/Object"), (0, u "<init>"), (0, u "()V"), (0, .methodref 8 9), (0, .class_ 10), (0, .nameAndType 11 12), (0, u "com/example/packstone/packstone/io/GapGroups"), (0, u "addUp"), (0, u "([IIIJ)J"), (0, .methodref 14 15), (0, .class_ 16), (0, .nameAndType 17 18), (0, u "com/example/packstone/packstone/io/GapGroupsAddUpPinLaw"), (0, u "sumBefore"), (0, u "([JI)J"), (0, .methodref 14 20), (0, .nameAndType 21 22), (0, u "same"), (0, u "([I[I[JJIII)Z"), (2, u "law"), (0, u "(JIIIII)Z")] 7

def k1m0 : Method := { name := "<init>", desc := "()V", sig := { parameters := [], returnType := none }, accessFlags := 1, code := none }
def k1c1 : Code := { maxStack := 8, maxLocals := 17, code := code, exceptionTable := #[], attributes := #[] }
def k1m1 : Method := { name := "law", desc := "(JIIIII)Z", sig := { parameters := [.long, .int, .int, .int, .int, .int], returnType := some .boolean }, accessFlags := 9, code := some k1c1 }
def k1c2 : Code := { maxStack := 3, maxLocals := 2, code := method_3_code, exceptionTable := #[], attributes := #[] }
def k1m2 : Method := { name := "sumBefore", desc := "([JI)J", sig := { parameters := [(.array .long), .int], returnType := some .long }, accessFlags := 10, code := some k1c2 }
def k1c3 : Code := { maxStack := 5, maxLocals := 9, code := method_4_code, exceptionTable := #[], attributes := #[] }
def k1m3 : Method := { name := "same", desc := "([I[I[JJIII)Z", sig := { parameters := [(.array .int), (.array .int), (.array .long), .long, .int, .int, .int], returnType := some .boolean }, accessFlags := 10, code := some k1c3 }
/-- com/example/packstone/packstone/io/GapGroupsAddUpPinLaw -/
def k1 : Class := { plain "com/example/packstone/packstone/io/GapGroupsAddUpPinLaw" (some 0) with
  accessFlags := 49
  interfaces := #[]
  cf := some (fileOf pool1 14 #[] #[{ accessFlags := 1, nameIndex := 5, descriptorIndex := 6, attributes := #[] }, { accessFlags := 9, nameIndex := 25, descriptorIndex := 26, attributes := #[] }, { accessFlags := 10, nameIndex := 17, descriptorIndex := 18, attributes := #[] }, { accessFlags := 10, nameIndex := 21, descriptorIndex := 22, attributes := #[] }] 49 2 #[] #[])
  fields := #[]
  methods := #[k1m0, k1m1, k1m2, k1m3]
  instanceTypes := #[]
  staticTypes := #[]
  resolved := Array.replicate 34 none
  statics := none }

def pool2 : Array CpInfo := pool [(4, .class_ 6), (1, u "java/lang/Object"), (3, .class_ 12), (1, u "com/example/packstone/packstone/io/GapGroups"), (0, u "packed"), (0, u "[B"), (2, u "layout"), (0, u "Lcom/example/packstone/packstone/io/GapGroups$Layout;"), (2, u "refusal"), (0, u "Ljava/util/function/Function;"), (2, u "bytes"), (0, u "Lcom/example/packstone/packstone/io/ByteInput;"), (2, u "end"), (0, u "I"), (2, u "count"), (2, u "groupCount"), (5, u "limit"), (2, u "skipTable"), (2, u "nextGroup"), (13, u "nextPosition"), (2, u "last"), (2, u "failure"), (0, u "Ljava/io/IOException;"), (18, .class_ 90), (1, u "com/example/packstone/packstone/io/GapGroups$Layout"), (28, u "width"), (2, u "exceptions"), (5, u "codeBytes"), (11, u "firstException"), (9, u "addUp"), (0, u "([IIIJ)J"), (2, u "exceptionWidth"), (2, u "highWidth"), (22, u "decodedBytes"), (49, .class_ 231), (0, u "com/example/packstone/packstone/io/GapGroups$Span"), (146, .class_ 379), (0, u "com/example/packstone/packstone/io/GapGroups$Count"), (1, u "GROUP_GAPS"), (2, u "LONG_HEADER_BYTES"), (1, u "SKIP_ENTRY_BYTES"), (1, u "GAP_BITS"), (1, u "WIDTH_MASK"), (0, u "EXCEPTIONS_SHIFT"), (1, u "EXCEPTIONS_MASK"), (1, u "FIRST_SHIFT"), (1, u "FIRST_MASK"), (0, u "EXCEPTION_WIDTH_SHIFT"), (1, u "HAS_EXCEPTIONS"), (1, u "PATCHED_EXCEPTIONS_SHIFT"), (1, u "STEP_WIDTH_SHIFT"), (1, u "STEP_WIDTH_MASK"), (1, u "MAX_STEP_WIDTH"), (0, u "HIGH_WIDTH_SHIFT"), (1, u "HIGH_WIDTH_MASK"), (0, u "COUNT_BITS_PER_BYTE"), (0, u "COUNT_BITS"), (0, u "MORE_COUNT_BYTES"), (0, u "MAX_COUNT_BYTES"), (36, .class_ 453), (0, u "com/example/packstone/packstone/io/GapGroups$Writer")] 41

def k2c0 : Code := { maxStack := 6, maxLocals := 8, code := prog_15_method_34_code, exceptionTable := #[], attributes := #[] }
def k2m0 : Method := { name := "addUp", desc := "([IIIJ)J", sig := { parameters := [(.array .int), .int, .int, .long], returnType := some .long }, accessFlags := 8, code := some k2c0 }
/-- com/example/packstone/packstone/io/GapGroups -/
def k2 : Class := { plain "com/example/packstone/packstone/io/GapGroups" (some 0) with
  accessFlags := 49
  interfaces := #[]
  cf := some (fileOf pool2 10 #[.nestMembers #[452, 378, 230, 88]] #[{ accessFlags := 8, nameIndex := 150, descriptorIndex := 151, attributes := #[] }] 49 4 #[] #[{ accessFlags := 25, nameIndex := 381, descriptorIndex := 30, attributes := #[] }, { accessFlags := 26, nameIndex := 384, descriptorIndex := 30, attributes := #[] }, { accessFlags := 26, nameIndex := 386, descriptorIndex := 30, attributes := #[] }, { accessFlags := 26, nameIndex := 388, descriptorIndex := 30, attributes := #[] }, { accessFlags := 26, nameIndex := 390, descriptorIndex := 30, attributes := #[] }, { accessFlags := 26, nameIndex := 391, descriptorIndex := 30, attributes := #[] }, { accessFlags := 26, nameIndex := 393, descriptorIndex := 30, attributes := #[] }, { accessFlags := 26, nameIndex := 395, descriptorIndex := 30, attributes := #[] }, { accessFlags := 26, nameIndex := 397, descriptorIndex := 30, attributes := #[] }, { accessFlags := 26, nameIndex := 398, descriptorIndex := 30, attributes := #[] }, { accessFlags := 26, nameIndex := 400, descriptorIndex := 30, attributes := #[] }, { accessFlags := 26, nameIndex := 402, descriptorIndex := 30, attributes := #[] }, { accessFlags := 26, nameIndex := 404, descriptorIndex := 30, attributes := #[] }, { accessFlags := 26, nameIndex := 406, descriptorIndex := 30, attributes := #[] }, { accessFlags := 26, nameIndex := 408, descriptorIndex := 30, attributes := #[] }, { accessFlags := 26, nameIndex := 409, descriptorIndex := 30, attributes := #[] }, { accessFlags := 26, nameIndex := 411, descriptorIndex := 30, attributes := #[] }, { accessFlags := 26, nameIndex := 412, descriptorIndex := 30, attributes := #[] }, { accessFlags := 26, nameIndex := 413, descriptorIndex := 30, attributes := #[] }, { accessFlags := 26, nameIndex := 414, descriptorIndex := 30, attributes := #[] }, { accessFlags := 26, nameIndex := 415, descriptorIndex := 30, attributes := #[] }, { accessFlags := 18, nameIndex := 17, descriptorIndex := 18, attributes := #[] }, { accessFlags := 18, nameIndex := 21, descriptorIndex := 22, attributes := #[] }, { accessFlags := 2, nameIndex := 25, descriptorIndex := 26, attributes := #[] }, { accessFlags := 2, nameIndex := 29, descriptorIndex := 30, attributes := #[] }, { accessFlags := 2, nameIndex := 33, descriptorIndex := 30, attributes := #[] }, { accessFlags := 2, nameIndex := 36, descriptorIndex := 30, attributes := #[] }, { accessFlags := 2, nameIndex := 42, descriptorIndex := 30, attributes := #[] }, { accessFlags := 2, nameIndex := 45, descriptorIndex := 30, attributes := #[] }, { accessFlags := 2, nameIndex := 48, descriptorIndex := 30, attributes := #[] }, { accessFlags := 2, nameIndex := 62, descriptorIndex := 30, attributes := #[] }, { accessFlags := 2, nameIndex := 65, descriptorIndex := 30, attributes := #[] }, { accessFlags := 2, nameIndex := 68, descriptorIndex := 69, attributes := #[] }, { accessFlags := 2, nameIndex := 119, descriptorIndex := 30, attributes := #[] }, { accessFlags := 2, nameIndex := 122, descriptorIndex := 30, attributes := #[] }, { accessFlags := 2, nameIndex := 140, descriptorIndex := 30, attributes := #[] }, { accessFlags := 2, nameIndex := 154, descriptorIndex := 30, attributes := #[] }, { accessFlags := 2, nameIndex := 157, descriptorIndex := 30, attributes := #[] }, { accessFlags := 2, nameIndex := 128, descriptorIndex := 30, attributes := #[] }, { accessFlags := 2, nameIndex := 180, descriptorIndex := 30, attributes := #[] }, { accessFlags := 2, nameIndex := 13, descriptorIndex := 14, attributes := #[] }])
  fields := #[{ name := "GROUP_GAPS", type := .int, accessFlags := 25, slot := 0, constantValue := 0 }, { name := "LONG_HEADER_BYTES", type := .int, accessFlags := 26, slot := 1, constantValue := 0 }, { name := "SKIP_ENTRY_BYTES", type := .int, accessFlags := 26, slot := 2, constantValue := 0 }, { name := "GAP_BITS", type := .int, accessFlags := 26, slot := 3, constantValue := 0 }, { name := "WIDTH_MASK", type := .int, accessFlags := 26, slot := 4, constantValue := 0 }, { name := "EXCEPTIONS_SHIFT", type := .int, accessFlags := 26, slot := 5, constantValue := 0 }, { name := "EXCEPTIONS_MASK", type := .int, accessFlags := 26, slot := 6, constantValue := 0 }, { name := "FIRST_SHIFT", type := .int, accessFlags := 26, slot := 7, constantValue := 0 }, { name := "FIRST_MASK", type := .int, accessFlags := 26, slot := 8, constantValue := 0 }, { name := "EXCEPTION_WIDTH_SHIFT", type := .int, accessFlags := 26, slot := 9, constantValue := 0 }, { name := "HAS_EXCEPTIONS", type := .int, accessFlags := 26, slot := 10, constantValue := 0 }, { name := "PATCHED_EXCEPTIONS_SHIFT", type := .int, accessFlags := 26, slot := 11, constantValue := 0 }, { name := "STEP_WIDTH_SHIFT", type := .int, accessFlags := 26, slot := 12, constantValue := 0 }, { name := "STEP_WIDTH_MASK", type := .int, accessFlags := 26, slot := 13, constantValue := 0 }, { name := "MAX_STEP_WIDTH", type := .int, accessFlags := 26, slot := 14, constantValue := 0 }, { name := "HIGH_WIDTH_SHIFT", type := .int, accessFlags := 26, slot := 15, constantValue := 0 }, { name := "HIGH_WIDTH_MASK", type := .int, accessFlags := 26, slot := 16, constantValue := 0 }, { name := "COUNT_BITS_PER_BYTE", type := .int, accessFlags := 26, slot := 17, constantValue := 0 }, { name := "COUNT_BITS", type := .int, accessFlags := 26, slot := 18, constantValue := 0 }, { name := "MORE_COUNT_BYTES", type := .int, accessFlags := 26, slot := 19, constantValue := 0 }, { name := "MAX_COUNT_BYTES", type := .int, accessFlags := 26, slot := 20, constantValue := 0 }, { name := "layout", type := (.object "com/example/packstone/packstone/io/GapGroups$Layout"), accessFlags := 18, slot := 0, constantValue := 0 }, { name := "refusal", type := (.object "java/util/function/Function"), accessFlags := 18, slot := 1, constantValue := 0 }, { name := "bytes", type := (.object "com/example/packstone/packstone/io/ByteInput"), accessFlags := 2, slot := 2, constantValue := 0 }, { name := "end", type := .int, accessFlags := 2, slot := 3, constantValue := 0 }, { name := "count", type := .int, accessFlags := 2, slot := 4, constantValue := 0 }, { name := "groupCount", type := .int, accessFlags := 2, slot := 5, constantValue := 0 }, { name := "limit", type := .int, accessFlags := 2, slot := 6, constantValue := 0 }, { name := "skipTable", type := .int, accessFlags := 2, slot := 7, constantValue := 0 }, { name := "nextGroup", type := .int, accessFlags := 2, slot := 8, constantValue := 0 }, { name := "nextPosition", type := .int, accessFlags := 2, slot := 9, constantValue := 0 }, { name := "last", type := .int, accessFlags := 2, slot := 10, constantValue := 0 }, { name := "failure", type := (.object "java/io/IOException"), accessFlags := 2, slot := 11, constantValue := 0 }, { name := "width", type := .int, accessFlags := 2, slot := 12, constantValue := 0 }, { name := "exceptions", type := .int, accessFlags := 2, slot := 13, constantValue := 0 }, { name := "firstException", type := .int, accessFlags := 2, slot := 14, constantValue := 0 }, { name := "exceptionWidth", type := .int, accessFlags := 2, slot := 15, constantValue := 0 }, { name := "highWidth", type := .int, accessFlags := 2, slot := 16, constantValue := 0 }, { name := "codeBytes", type := .int, accessFlags := 2, slot := 17, constantValue := 0 }, { name := "decodedBytes", type := .int, accessFlags := 2, slot := 18, constantValue := 0 }, { name := "packed", type := (.array .byte), accessFlags := 2, slot := 19, constantValue := 0 }]
  methods := #[k2m0]
  instanceTypes := #[(.object "com/example/packstone/packstone/io/GapGroups$Layout"), (.object "java/util/function/Function"), (.object "com/example/packstone/packstone/io/ByteInput"), .int, .int, .int, .int, .int, .int, .int, .int, (.object "java/io/IOException"), .int, .int, .int, .int, .int, .int, .int, (.array .byte)]
  staticTypes := #[.int, .int, .int, .int, .int, .int, .int, .int, .int, .int, .int, .int, .int, .int, .int, .int, .int, .int, .int, .int, .int]
  resolved := Array.replicate 495 none
  statics := none }

def pool3 : Array CpInfo := pool [(1, u "java/lang/Cloneable"), (0, .class_ 1), (0, u "java/lang/Object"), (0, .class_ 3)] 3

/-- java/lang/Cloneable -/
def k3 : Class := { plain "java/lang/Cloneable" (some 0) with
  accessFlags := 1537
  interfaces := #[]
  cf := some (fileOf pool3 2 #[] #[] 1537 4 #[] #[])
  fields := #[]
  methods := #[]
  instanceTypes := #[]
  staticTypes := #[]
  resolved := Array.replicate 8 none
  statics := none }

def pool4 : Array CpInfo := pool [(1, u "java/io/Serializable"), (0, .class_ 1), (0, u "java/lang/Object"), (0, .class_ 3)] 3

/-- java/io/Serializable -/
def k4 : Class := { plain "java/io/Serializable" (some 0) with
  accessFlags := 1537
  interfaces := #[]
  cf := some (fileOf pool4 2 #[] #[] 1537 4 #[] #[])
  fields := #[]
  methods := #[]
  instanceTypes := #[]
  staticTypes := #[]
  resolved := Array.replicate 8 none
  statics := none }

/-- the primitive byte -/
def k5 : Class := { plain "byte" none with kind := .primitive 'B', accessFlags := 0x411 }
/-- [B -/
def k6 : Class := { plain "[B" (some 0) with kind := .array 5 .byte, interfaces := #[3, 4], accessFlags := 1041 }

/-- the primitive int -/
def k7 : Class := { plain "int" none with kind := .primitive 'I', accessFlags := 0x411 }
/-- [I -/
def k8 : Class := { plain "[I" (some 0) with kind := .array 7 .int, interfaces := #[3, 4], accessFlags := 1041 }

/-- the primitive long -/
def k9 : Class := { plain "long" none with kind := .primitive 'J', accessFlags := 0x411 }
/-- [J -/
def k10 : Class := { plain "[J" (some 0) with kind := .array 9 .long, interfaces := #[3, 4], accessFlags := 1041 }

def heap : Heap := #[]
def classes : Array Class := #[k0, k1, k2, k3, k4, k5, k6, k7, k8, k9, k10]
def interned : List (Array UInt16 × Addr) := []
def slotsUsed : Nat := 0
def theMethod : MethodId := ⟨1, 1⟩
def args0 : Array Value := #[.long 5, .int 6, .int 7, .int 8, .int 9, .int 10]
def aboutOver (below : List Frame) : State where
  vm := { classes := classes, interned := interned.toArray }
  heap := heap
  slotsUsed := slotsUsed
  threads := #[{ frames := .invoking theMethod args0 :: below }]
def below0 : List Frame := [.native { method := ⟨0, 0⟩, args := #[] }]
def about1 : State := aboutOver below0
def p0 : Program := .bare "" "" ""
def e0 : Env := launch0.env 0 0 0
theorem w_frames : about1.frames = Frame.invoking theMethod args0 :: below0 := rfl
set_option maxRecDepth 65536 in
theorem w_args : argsFit about1.vm theMethod args0 = true := by decide +kernel
set_option maxRecDepth 65536 in
theorem w_heap : heapFits about1 = true := by decide +kernel
set_option maxRecDepth 65536 in
theorem w_runnable : about1.curStatus? = some .runnable := by decide +kernel
set_option maxRecDepth 65536 in
theorem w_alone : about1.alone = true := by decide +kernel
set_option maxRecDepth 65536 in
theorem w_named : about1.methodNamed? x = some theMethod := by decide +kernel
set_option maxRecDepth 65536 in
theorem w_hears : about1.hears theMethod below0 = true := by decide +kernel
set_option maxRecDepth 65536 in
theorem w_ripe : about1.ripe theMethod args0 below0 = true := by decide +kernel
theorem w_running : about1.status = .running := rfl
set_option maxRecDepth 65536 in
theorem w_room : about1.hasRoom e0.platform room_1 = true :=
  launch0.hasRoom_least _ room_1 (by decide +kernel) (by decide +kernel) (by decide +kernel) (by decide +kernel) (by decide +kernel) (by decide +kernel)
theorem allAtoms_all (ts : List Jvm.Cond) (a : Array Jvm.Value) (st : Jvm.State) : (allAtoms ts).before a st = ts.all (fun c => c.before a st) := by
  induction ts with
  | nil => rfl
  | cons c t ih =>
    show (Jvm.Cond.and c (allAtoms t)).before a st = _
    rw [Jvm.Cond.before_and, ih, List.all_cons]
def words1 : List Jvm.Cond := Jvm.Cond.code x code maxLocals ret :: tables_1
/-- a 'code' word, met by the world's own term for the bytes: nothing is compared byte by byte -/
theorem code_word {y : MethodName} {bytes : ByteArray} {mx : Nat} {rt : Option FieldType} {a : Array Value} {s : State} {m : MethodId} {meth : Method} {c : Code} (h1 : s.methodNamed? y = some m) (h2 : s.vm.method? m = some meth) (h3 : meth.code = some c) (h4 : c.code = bytes)
    (h5 : (c.maxLocals == mx && c.exceptionTable.isEmpty && decide (c.maxStack ≤ mostOperands) && decide (meth.sig.returnType = rt) && !meth.locks && decide (parseMethodDescriptor y.desc = some meth.sig)) = true) : (Jvm.Cond.code y bytes mx rt).before a s = true := by
  simp only [Bool.and_eq_true, beq_iff_eq, Bool.not_eq_true', decide_eq_true_eq] at h5
  obtain ⟨⟨⟨⟨⟨g1, g2⟩, g3⟩, g4⟩, g5⟩, g6⟩ := h5
  simp [Cond.before, Cond.holds, Cond.value, h1, h2, h3, h4, g1, g2, g3, g4, g5, g6]
def isCode : Jvm.Cond → Bool
  | .code _ _ _ _ => true
  | _ => false
theorem all_split {L : List Jvm.Cond} {P : Jvm.Cond → Bool} (h1 : L.all (fun c => isCode c || P c) = true) (h2 : ∀ c ∈ L.filter isCode, P c = true) : L.all P = true := by
  refine List.all_eq_true.mpr fun c hc => ?_
  have h := List.all_eq_true.mp h1 c hc
  rcases Bool.eq_false_or_eq_true (isCode c) with hi | hi
  · exact h2 c (List.mem_filter.mpr ⟨hc, hi⟩)
  · simpa [hi] using h
set_option maxRecDepth 65536 in
theorem w_c0 : (Jvm.Cond.code x code maxLocals ret).before args0 about1 = true := code_word (m := ⟨1, 1⟩) (meth := k1m1) (c := k1c1) (by decide +kernel) rfl rfl rfl (by decide +kernel)
set_option maxRecDepth 65536 in
theorem w_c1 : (Jvm.Cond.code ({ cls := "com/example/packstone/packstone/io/GapGroups", name := "addUp", desc := "([IIIJ)J" } : Jvm.MethodName) prog_15_method_34_code (8 : Nat) (Option.some Jvm.ClassFile.FieldType.long)).before args0 about1 = true := code_word (m := ⟨2, 0⟩) (meth := k2m0) (c := k2c0) (by decide +kernel) rfl rfl rfl (by decide +kernel)
set_option maxRecDepth 65536 in
theorem w_c2 : (Jvm.Cond.code ({ cls := "com/example/packstone/packstone/io/GapGroupsAddUpPinLaw", name := "sumBefore", desc := "([JI)J" } : Jvm.MethodName) method_3_code (2 : Nat) (Option.some Jvm.ClassFile.FieldType.long)).before args0 about1 = true := code_word (m := ⟨1, 2⟩) (meth := k1m2) (c := k1c2) (by decide +kernel) rfl rfl rfl (by decide +kernel)
set_option maxRecDepth 65536 in
theorem w_c3 : (Jvm.Cond.code ({ cls := "com/example/packstone/packstone/io/GapGroupsAddUpPinLaw", name := "same", desc := "([I[I[JJIII)Z" } : Jvm.MethodName) method_4_code (9 : Nat) (Option.some Jvm.ClassFile.FieldType.boolean)).before args0 about1 = true := code_word (m := ⟨1, 3⟩) (meth := k1m3) (c := k1c3) (by decide +kernel) rfl rfl rfl (by decide +kernel)
def codes1 : List Jvm.Cond := [Jvm.Cond.code x code maxLocals ret, Jvm.Cond.code ({ cls := "com/example/packstone/packstone/io/GapGroups", name := "addUp", desc := "([IIIJ)J" } : Jvm.MethodName) prog_15_method_34_code (8 : Nat) (Option.some Jvm.ClassFile.FieldType.long), Jvm.Cond.code ({ cls := "com/example/packstone/packstone/io/GapGroupsAddUpPinLaw", name := "sumBefore", desc := "([JI)J" } : Jvm.MethodName) method_3_code (2 : Nat) (Option.some Jvm.ClassFile.FieldType.long), Jvm.Cond.code ({ cls := "com/example/packstone/packstone/io/GapGroupsAddUpPinLaw", name := "same", desc := "([I[I[JJIII)Z" } : Jvm.MethodName) method_4_code (9 : Nat) (Option.some Jvm.ClassFile.FieldType.boolean)]
set_option maxRecDepth 65536 in
theorem codes_eq : words1.filter isCode = codes1 := rfl
theorem w_codes : ∀ c ∈ words1.filter isCode, c.before args0 about1 = true := by
  rw [codes_eq]
  intro c hc
  simp only [codes1, List.mem_cons, List.not_mem_nil, or_false] at hc
  rcases hc with rfl | rfl | rfl | rfl
  · exact w_c0
  · exact w_c1
  · exact w_c2
  · exact w_c3
set_option maxRecDepth 65536 in
theorem w_t1 : words1.all (fun c => isCode c || c.before args0 about1) = true := by decide +kernel
theorem w_tables : (allAtoms (Jvm.Cond.code x code maxLocals ret :: tables_1)).before args0 about1 = true := by
  rw [allAtoms_all]
  show words1.all (fun c => c.before args0 about1) = true
  refine all_split ?_ w_codes
  rw [w_t1]
set_option maxRecDepth 65536 in
theorem w_case : (Jvm.Cond.and given_1 narrow_1).before args0 about1 = true := by decide +kernel
theorem w_applies : (headSpec (Jvm.Cond.code x code maxLocals ret :: tables_1) room_1).applies x e0.platform about1 = true :=
  (Spec.applies_iff w_frames).mpr ⟨w_running, w_runnable, w_alone, w_named, w_hears, w_ripe, w_room, w_tables⟩
theorem atStart : AtStart classFile x code maxLocals ret World_1 tables_1 room_1 Calls_1 rest_1 Pre_1 launch0 p0 e0 about1 theMethod args0 below0 :=
  ⟨lists_1, trivial, launch0.admits_env _ _ _, launch0.least_env, fairChoices_fair.cas, fairChoices_fair.clock, w_frames, w_args, w_heap, w_applies, trivial, trivial, w_case⟩
end start1
theorem witness_1 : WitnessClaimed_1 := ⟨start1.p0, start1.e0, start1.about1, start1.theMethod, start1.args0, start1.below0, start1.atStart⟩
end Jvm.Pilot.@@N@@

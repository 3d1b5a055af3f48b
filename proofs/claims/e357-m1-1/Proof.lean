import JvmDerived
import JvmDerived.Pilot.@@N@@Statement
import JvmDerived.Pilot.@@N@@Code
set_option linter.unusedVariables false
set_option linter.unusedSimpArgs false
namespace Jvm.RoadKit
open Sem ClassFile Op Lib Jvm.Stand Jvm.Free Jvm.LawKit
section New
variable {p : Program} {l : Launch} {e : Env} {R : Room} {s : State} {m : MethodId} {args : Array Value} {below : List Frame} {meth : Method} {c : Code} {T : State} {locs : List Loc} {cells slots : Nat}
theorem retI (X : Stand p l e R s m args below meth c T locs cells slots) (hx : p.tables.exec = Jvm.exec) {pc : Nat} {Ls : Array Slot} {z : Int32} {rest : List Value} (hret : meth.sig.returnType = some .int) (hd : decode c.code pc = .ok (.ireturn, 1)) {fs : List Frame}
    (hl : ∀ (f : JFrame) (acts : List Action), f.method = m → f.locked = none → f.entered = [] → (doReturn e (T.setTop f) acts (some (.int z))).1 = T.setFrames fs) : Steps p.tables e below (T.setTop (mkF m pc Ls (.int z :: rest))) (T.setFrames fs) := by
  have hm' : T.vm.method? m = some meth := X.method'
  have hn : narrow .int (.int z) = .int z := rfl
  show Steps p.tables e below (T.setTop { method := m, pc := pc, locals := Ls, stack := _ :: rest, locked := none }) _
  jvm_step X.here [X.here.top, hx, hd, hm', hret, hn]
  first | (intro acts; rw [hl _ acts rfl rfl rfl]) | rw [hl _ _ rfl rfl rfl]
  exact Steps.refl _
end New
end Jvm.RoadKit
namespace Jvm.Pilot.@@N@@
open Jvm Jvm.ClassFile Sem Op Lib Jvm.Free Jvm.Stand Jvm.LawKit Jvm.RoadKit Bundle Jvm.Pilot.@@N@@.Jvm.D
def Qv (r : Option Value) (h0 : Heap) (n0 : Nat) (v : Option Value) (h : Heap) (L : List Loc) : Prop := v = r ∧ Fr n0 L ∧ h = h0
def own_it (g : Nat → Nat) : Nat → Nat → (Nat → Nat) → (Nat → Nat)
  | _, 0, f => f
  | i, k + 1, f => own_it g (i + 1) k (fun j => if j = g i + 1 then f j + 1 else f j)
def own_ct (g : Nat → Nat) : Nat → Nat → Nat → Nat
  | _, 0, _ => 0
  | i, k + 1, j => (if j = g i + 1 then 1 else 0) + own_ct g (i + 1) k j
theorem own_it_eq (g : Nat → Nat) : ∀ k i f j, own_it g i k f j = f j + own_ct g i k j
  | 0, _, _, _ => rfl
  | k + 1, i, f, j => by
    rw [own_it, own_ct, own_it_eq g k]
    split <;> omega
def own_pt : Nat → Nat → (Nat → Nat) → (Nat → Nat)
  | _, 0, f => f
  | i, k + 1, f => own_pt (i + 1) k (fun j => if j = i + 1 then f (i + 1) + f i else f j)
def own_sm (f : Nat → Nat) : Nat → Nat
  | 0 => f 0
  | j + 1 => own_sm f j + f (j + 1)
theorem own_pt_eq (F : Nat → Nat) : ∀ k i (f : Nat → Nat), (∀ j, j ≤ i → f j = own_sm F j) → (∀ j, i < j → f j = F j) → ∀ j, j ≤ i + k → own_pt i k f j = own_sm F j
  | 0, _, _, h1, _, j, hj => h1 j (by omega)
  | k + 1, i, f, h1, h2, j, hj => by
    rw [own_pt]
    refine own_pt_eq F k (i + 1) _ (fun t ht => ?_) (fun t ht => ?_) j (by omega)
    · split
      · rename_i e
        subst e
        rw [own_sm, h2 (i + 1) (by omega), h1 i (by omega)]; omega
      · exact h1 t (by omega)
    · rw [if_neg (by omega)]; exact h2 t (by omega)
def own_lt (g : Nat → Nat) : Nat → Nat → Nat → Nat
  | _, 0, _ => 0
  | i, k + 1, j => (if g i < j then 1 else 0) + own_lt g (i + 1) k j
theorem own_sm_add (a b : Nat → Nat) : ∀ j, own_sm (fun t => a t + b t) j = own_sm a j + own_sm b j
  | 0 => rfl
  | j + 1 => by rw [own_sm, own_sm, own_sm, own_sm_add a b j]; omega
theorem own_sm_one (x : Nat) : ∀ j, own_sm (fun t => if t = x + 1 then 1 else 0) j = if x < j then 1 else 0
  | 0 => by simp [own_sm]
  | j + 1 => by
    rw [own_sm, own_sm_one x j]
    split <;> split <;> split <;> omega
theorem own_sm_zero : ∀ j, own_sm (fun _ => 0) j = 0
  | 0 => rfl
  | j + 1 => by rw [own_sm, own_sm_zero j]
theorem own_sm_ct (g : Nat → Nat) : ∀ k i j, own_sm (fun t => own_ct g i k t) j = own_lt g i k j
  | 0, _, j => own_sm_zero j
  | k + 1, i, j => by
    rw [own_lt, ← own_sm_ct g k (i + 1) j, ← own_sm_one (g i) j, ← own_sm_add]
    rfl
theorem own_done (g : Nat → Nat) (n cc j : Nat) (hj : j ≤ cc) : own_pt 0 cc (own_it g 0 n (fun _ => 0)) j = own_lt g 0 n j := by
  rw [← own_sm_ct, own_pt_eq (fun t => own_ct g 0 n t) cc 0 (own_it g 0 n (fun _ => 0)) (fun t ht => ?_) (fun t _ => ?_) j (by omega)]
  · obtain rfl : t = 0 := by omega
    rw [own_it_eq, own_sm]; omega
  · rw [own_it_eq]; omega
def own_b (n : Nat) (g : Nat → Nat) (i k : Nat) : Int32 := if i < n ∧ g i < k then 1 else 0
def own_cnt (n : Nat) (g : Nat → Nat) (k : Nat) : Int32 := own_b n g 0 k + own_b n g 1 k + own_b n g 2 k + own_b n g 3 k + own_b n g 4 k
theorem own_cnt_eq (n : Nat) (g : Nat → Nat) (k : Nat) (hn : n ≤ 5) : own_cnt n g k = Int32.ofNat (own_lt g 0 n k) := by
  unfold own_cnt own_b
  have h : n = 0 ∨ n = 1 ∨ n = 2 ∨ n = 3 ∨ n = 4 ∨ n = 5 := by omega
  by_cases h0 : g 0 < k <;> by_cases h1 : g 1 < k <;> by_cases h2 : g 2 < k <;> by_cases h3 : g 3 < k <;> by_cases h4 : g 4 < k <;>
    rcases h with rfl | rfl | rfl | rfl | rfl | rfl <;> simp [own_lt, h0, h1, h2, h3, h4] <;> rfl
theorem own_ofInt {a : Nat} (h : a < 2 ^ 31) : (Int32.ofNat a).toInt = a := Int32.toInt_ofNat_of_lt h
theorem own_ltN {a b : Nat} (ha : a < 2 ^ 31) (hb : b < 2 ^ 31) : Int32.ofNat a < Int32.ofNat b ↔ a < b := by
  rw [Int32.lt_iff_toInt_lt, own_ofInt ha, own_ofInt hb]; omega
theorem own_add (a b : Nat) : Int32.ofNat a + Int32.ofNat b = Int32.ofNat (a + b) := (Int32.ofNat_add a b).symm
theorem own_clamp {a : Nat} (h : a < 2 ^ 31) : (Int32.ofNat a).toNatClampNeg = a := by
  show (Int32.ofNat a).toInt.toNat = a
  rw [own_ofInt h]; rfl
theorem own_eqN {a b : Nat} (ha : a < 2 ^ 31) (hb : b < 2 ^ 31) : Int32.ofNat a = Int32.ofNat b ↔ a = b := by
  rw [← Int32.toInt_inj, own_ofInt ha, own_ofInt hb]; omega
/-- a number that isn't negative is its own natural -/
theorem own_nat {x : Int32} (h : 0 ≤ x.toInt) : x = Int32.ofNat x.toNatClampNeg := by
  rw [← Int32.toInt_inj]
  have u := Int32.toInt_lt x
  have e : (x.toNatClampNeg : Int) = x.toInt := Int.toNat_of_nonneg h
  rw [own_ofInt (by omega)]; omega
theorem own_mod {x m : Int32} (hx : 0 ≤ x.toInt) (hm : 0 < m.toInt) : 0 ≤ (x % m).toInt ∧ (x % m).toInt < m.toInt := by
  rw [Int32.toInt_mod]
  rw [Int.tmod_eq_emod_of_nonneg hx]
  exact ⟨Int.emod_nonneg _ (by omega), Int.emod_lt_of_pos _ hm⟩
theorem own_and_nonneg (x m : Int32) (hm : 0 ≤ m.toInt) : 0 ≤ (x &&& m).toInt := by
  have e1 : m.toBitVec.msb = false := by
    rw [BitVec.msb_eq_toInt]; exact decide_eq_false (fun h => by have : m.toInt < 0 := h; omega)
  have e2 : (x &&& m).toBitVec.msb = false := by
    rw [Int32.toBitVec_and, BitVec.msb_and, e1, Bool.and_false]
  rw [BitVec.msb_eq_toInt] at e2
  have := of_decide_eq_false e2
  have e3 : (x &&& m).toBitVec.toInt = (x &&& m).toInt := rfl
  omega
def own_cc (p : Int32) : Int32 := (p &&& 7) % 5
def own_nn (p : Int32) : Int32 := if own_cc p = 0 then 0 else (((p.toUInt32 >>> ((3 : Int32) &&& 31).toUInt32).toInt32) &&& 7) % 6
def own_max (a b : Int32) : Int32 := if a < b then b else a
theorem own_cc_ex (p : Int32) : ∃ c : Nat, c ≤ 4 ∧ own_cc p = Int32.ofNat c := by
  have h := own_mod (x := p &&& 7) (m := 5) (own_and_nonneg p 7 (by decide)) (by decide)
  have z : (5 : Int32).toInt = 5 := by decide
  refine ⟨(own_cc p).toNatClampNeg, ?_, own_nat h.1⟩
  show (own_cc p).toInt.toNat ≤ 4
  have : own_cc p = (p &&& 7) % 5 := rfl
  rw [this]; omega
theorem own_nn_ex (p : Int32) : ∃ n : Nat, n ≤ 5 ∧ own_nn p = Int32.ofNat n ∧ (own_cc p = 0 → n = 0) := by
  by_cases q : own_cc p = 0
  · exact ⟨0, by omega, if_pos q, fun _ => rfl⟩
  · have e : own_nn p = (((p.toUInt32 >>> ((3 : Int32) &&& 31).toUInt32).toInt32) &&& 7) % 6 := if_neg q
    have h := own_mod (x := ((p.toUInt32 >>> ((3 : Int32) &&& 31).toUInt32).toInt32) &&& 7) (m := 6) (own_and_nonneg _ 7 (by decide)) (by decide)
    have z : (6 : Int32).toInt = 6 := by decide
    rw [← e] at h
    refine ⟨(own_nn p).toNatClampNeg, ?_, own_nat h.1, fun u => absurd u q⟩
    show (own_nn p).toInt.toNat ≤ 5
    omega
theorem own_max_pos (a : Int32) : 0 < (own_max a 1).toInt := by
  have z : (1 : Int32).toInt = 1 := by decide
  unfold own_max
  split
  · omega
  · rename_i h; rw [Int32.lt_iff_toInt_lt] at h; omega
theorem own_max_ne (a : Int32) : ¬ own_max a 1 = 0 := fun q => by
  have := own_max_pos a
  rw [q] at this; exact absurd this (by decide)
theorem own_v (x a : Int32) : 0 ≤ ((x &&& 2147483647) % own_max a 1).toInt ∧ ((x &&& 2147483647) % own_max a 1).toInt < (own_max a 1).toInt :=
  own_mod (own_and_nonneg x 2147483647 (by decide)) (own_max_pos a)
theorem own_v_lt (x : Int32) {c : Nat} (hc : c ≤ 4) (h0 : 0 < c) : ((x &&& 2147483647) % own_max (Int32.ofNat c) 1).toNatClampNeg < c := by
  have h := own_v x (Int32.ofNat c)
  have e := own_ofInt (a := c) (by omega)
  have z : (1 : Int32).toInt = 1 := by decide
  have m : (own_max (Int32.ofNat c) 1) = Int32.ofNat c := if_neg (by rw [Int32.lt_iff_toInt_lt]; omega)
  rw [m] at h ⊢
  show (((x &&& 2147483647) % Int32.ofNat c).toInt).toNat < c
  omega
/-- an array of n ints: its j-th is f j -/
def own_AF (Z : State) (h : Heap) (a : Addr) (n : Nat) (f : Nat → Int32) : Prop := ∃ c : Cell, Arr Z h a c .int ∧ c.slots.size = n ∧ ∀ j, j < n → c.slots[j]? = some (.int (f j))
section AF
variable {Z : State} {h h' : Heap} {a b : Addr} {n sl : Nat} {f f' : Nat → Int32} {v : Value} {ws : List Addr}
theorem own_AF.lt (F : own_AF Z h a n f) : a < h.size := by obtain ⟨c, A, -⟩ := F; exact A.lt
theorem own_AF.ext (F : own_AF Z h a n f) (E : Ext h h') : own_AF Z h' a n f := by obtain ⟨c, A, r⟩ := F; exact ⟨c, A.ext E, r⟩
theorem own_AF.other (F : own_AF Z h a n f) (W : Wr h h' b sl v) (q : a ≠ b) : own_AF Z h' a n f := by obtain ⟨c, A, r⟩ := F; exact ⟨c, A.other W q, r⟩
theorem own_AF.keep (F : own_AF Z h a n f) (K : Keep h h' ws) (q : a ∉ ws) : own_AF Z h' a n f := by obtain ⟨c, A, r⟩ := F; exact ⟨c, ⟨K.2.1 a c A.1 q, A.2⟩, r⟩
theorem own_AF.congr (F : own_AF Z h a n f) (q : ∀ j, j < n → f j = f' j) : own_AF Z h a n f' := by obtain ⟨c, A, S, r⟩ := F; exact ⟨c, A, S, fun j hj => by rw [r j hj, q j hj]⟩
theorem own_AF.put {x : Int32} {j : Nat} (F : own_AF Z h a n f) (W : Wr h h' a j (.int x)) (hj : j < n) : own_AF Z h' a n (fun i => if i = j then x else f i) := by
  obtain ⟨c, A, S, r⟩ := F
  refine ⟨_, A.same W, by rw [sz_set]; exact S, fun i hi => ?_⟩
  by_cases u : i = j
  · subst u; simp [Cell.setSlot, S, hi]
  · have := r i hi
    simp only [Cell.setSlot, if_neg u]
    rw [Array.getElem?_setIfInBounds_ne (Ne.symm u)]; exact this
theorem own_AF.ofArv {k : ClassId} {z : Int32} {vs : List Value} (V : Arv Z h a k .int z vs (.int 0)) (hz : z.toNatClampNeg = n) (hv : ∀ j, j < n → vs.getD j (.int 0) = .int (f j)) : own_AF Z h a n f := by
  obtain ⟨c, A, -, S, -, H, -⟩ := V
  exact ⟨c, A, S.trans hz, fun j hj => by rw [H j (by rw [S, hz]; exact hj), hv j hj]⟩
end AF
theorem own_notneg {a : Nat} (h : a < 2 ^ 31) : ¬ Int32.ofNat a < 0 := by
  rw [Int32.lt_iff_toInt_lt, own_ofInt h]; have z : (0 : Int32).toInt = 0 := by decide
  omega
theorem own_inb {a n : Nat} {cl : Cell} (S : cl.slots.size = n) (ha : a < n) (hn : n < 2 ^ 31) : ¬ (Int32.ofNat a < 0 ∨ cl.slots.size ≤ (Int32.ofNat a).toNatClampNeg) := by
  rw [own_clamp (by omega), S]; exact fun q => q.elim (own_notneg (by omega)) (by omega)
theorem own_one (a : Nat) : Int32.ofNat a + (1 : Int32) = Int32.ofNat (a + 1) := own_add a 1
theorem d1_0 : decode jdk_29_method_65_code 0 = .ok (.iload_n 0, 1) := by decide +kernel
theorem d1_1 : decode jdk_29_method_65_code 1 = .ok (.iload_n 1, 1) := by decide +kernel
theorem d1_2 : decode jdk_29_method_65_code 2 = .ok (.if_icmp .lt 7, 3) := by decide +kernel
theorem d1_9 : decode jdk_29_method_65_code 9 = .ok (.iload_n 1, 1) := by decide +kernel
theorem d1_10 : decode jdk_29_method_65_code 10 = .ok (.ireturn, 1) := by decide +kernel
theorem ef_1 (m : MethodId) (x0 : Int32) (x1 : Int32) : entryFrame m #[(.int x0), (.int x1)] 2 = mkF m 0 #[.val (.int x0), .val (.int x1)] [] := by first | (simp [entryFrame, mkF, argsToLocals, Value.category]; done) | rfl
set_option maxRecDepth 65536 in
set_option maxHeartbeats 40000000 in
theorem rm1a (l : Launch) (Z : State) (a0 : Array Value) (hw : ∀ d ∈ tables_1, d.before a0 Z = true) (ws : List Jvm.Cond) (p1 : Int32) (p2 : Int32) (h0 : Heap) (n0 : Nat) (Z0 : n0 ≤ h0.size) (hc2 : p1 < p2) :
    MetFree l (⟨"java/lang/Math", "max", "(II)I"⟩ : MethodName) (head1 (Jvm.Cond.code (⟨"java/lang/Math", "max", "(II)I"⟩ : MethodName) jdk_29_method_65_code 2 (some .int) :: ws) ({ frames := 0, cells := 0, slots := 0, locals := 0 } : Room)) (fun a U => a = #[(.int p1), (.int p2)] ∧ Z.Warmed39 U.vm ∧ U.heap = h0) (fun _ _ _ _ _ => True) (fun _ U o U' => ∃ v L, o = .returned v ∧ Qv (some (.int p2)) h0 n0 v U'.heap L ∧ FrameEnd U o U' L ({ frames := 0, cells := 0, slots := 0, locals := 0 } : Room).cells ({ frames := 0, cells := 0, slots := 0, locals := 0 } : Room).slots) := by
  refine MetFree.of_bodySF (Jvm.Free.JP.mathPlain rfl (by decide +kernel)) hisR ?_
  intro p e s m args below meth c s₁ Bd hml0 hP hK
  obtain ⟨rfl, hZ, hh⟩ := hP
  have hx := Bd.exec
  have hby := Bd.bytes
  have hml : c.maxLocals = 2 := hml0
  have hown : s.vm.findClass "java/lang/Math" = some m.cls := findClass_of_methodNamed Bd.named
  have hnm := (name_of_methodNamed Bd.named Bd.method).1
  have X0 : Stand p l e ({ frames := 0, cells := 0, slots := 0, locals := 0 } : Room) s m #[(.int p1), (.int p2)] below meth c s₁ [] 0 0 := Stand.of_body Bd
  have e0 : s₁.heap = h0 := by rw [← hh, Bd.state]; rfl
  have N0 := Fr.nil n0
  have pre0 : ∀ t, Steps p.tables e below (s₁.setTop (mkF m 0 #[.val (.int p1), .val (.int p2)] [])) t → Steps p.tables e below (s₁.setTop (entryFrame m #[(.int p1), (.int p2)] 2)) t := fun t k => castTop (ef_1 m p1 p2) k

  obtain ⟨fs, hr, hrun, hended, hW, hsame⟩ := X0.leave (v := some (.int p2)) (fun h => by rw [Bd.returns] at h; cases h)
  refine ⟨_, _, pre0 _ ?_, hrun, hended, _, _, rfl, ?_, ⟨_, rfl⟩, hW, hsame.mono (by decide) (by decide)⟩
  · show Steps p.tables e below (s₁.setTop (mkF m 0 #[.val (.int p1), .val (.int p2)] [])) _
    refine XS.iloadN X0.here hx rfl (hb hby d1_0) rfl ?_
    show Steps p.tables e below (s₁.setTop (mkF m 1 #[.val (.int p1), .val (.int p2)] [(.int p1)])) _
    refine XS.iloadN X0.here hx rfl (hb hby d1_1) rfl ?_
    show Steps p.tables e below (s₁.setTop (mkF m 2 #[.val (.int p1), .val (.int p2)] [(.int p2), (.int p1)])) _
    refine XS.icmpYes X0.here hx rfl (pc0 := 2) (pc' := 9) rfl (hb hby d1_2) rfl (tlt hc2).1 (by decide) (by decide) ?_
    show Steps p.tables e below (s₁.setTop (mkF m 9 #[.val (.int p1), .val (.int p2)] [])) _
    refine XS.iloadN X0.here hx rfl (hb hby d1_9) rfl ?_
    show Steps p.tables e below (s₁.setTop (mkF m 10 #[.val (.int p1), .val (.int p2)] [(.int p2)])) _
    exact retI X0 hx Bd.returns (hb hby d1_10) hr
  · show Qv (some (.int p2)) h0 n0 _ s₁.heap _
    rw [e0]
    exact ⟨rfl, N0, rfl⟩
theorem d1_5 : decode jdk_29_method_65_code 5 = .ok (.iload_n 0, 1) := by decide +kernel
theorem d1_6 : decode jdk_29_method_65_code 6 = .ok (.goto 4, 3) := by decide +kernel
set_option maxRecDepth 65536 in
set_option maxHeartbeats 40000000 in
theorem rm1b (l : Launch) (Z : State) (a0 : Array Value) (hw : ∀ d ∈ tables_1, d.before a0 Z = true) (ws : List Jvm.Cond) (p1 : Int32) (p2 : Int32) (h0 : Heap) (n0 : Nat) (Z0 : n0 ≤ h0.size) (hc2 : ¬ (p1 < p2)) :
    MetFree l (⟨"java/lang/Math", "max", "(II)I"⟩ : MethodName) (head1 (Jvm.Cond.code (⟨"java/lang/Math", "max", "(II)I"⟩ : MethodName) jdk_29_method_65_code 2 (some .int) :: ws) ({ frames := 0, cells := 0, slots := 0, locals := 0 } : Room)) (fun a U => a = #[(.int p1), (.int p2)] ∧ Z.Warmed39 U.vm ∧ U.heap = h0) (fun _ _ _ _ _ => True) (fun _ U o U' => ∃ v L, o = .returned v ∧ Qv (some (.int p1)) h0 n0 v U'.heap L ∧ FrameEnd U o U' L ({ frames := 0, cells := 0, slots := 0, locals := 0 } : Room).cells ({ frames := 0, cells := 0, slots := 0, locals := 0 } : Room).slots) := by
  refine MetFree.of_bodySF (Jvm.Free.JP.mathPlain rfl (by decide +kernel)) hisR ?_
  intro p e s m args below meth c s₁ Bd hml0 hP hK
  obtain ⟨rfl, hZ, hh⟩ := hP
  have hx := Bd.exec
  have hby := Bd.bytes
  have hml : c.maxLocals = 2 := hml0
  have hown : s.vm.findClass "java/lang/Math" = some m.cls := findClass_of_methodNamed Bd.named
  have hnm := (name_of_methodNamed Bd.named Bd.method).1
  have X0 : Stand p l e ({ frames := 0, cells := 0, slots := 0, locals := 0 } : Room) s m #[(.int p1), (.int p2)] below meth c s₁ [] 0 0 := Stand.of_body Bd
  have e0 : s₁.heap = h0 := by rw [← hh, Bd.state]; rfl
  have N0 := Fr.nil n0
  have pre0 : ∀ t, Steps p.tables e below (s₁.setTop (mkF m 0 #[.val (.int p1), .val (.int p2)] [])) t → Steps p.tables e below (s₁.setTop (entryFrame m #[(.int p1), (.int p2)] 2)) t := fun t k => castTop (ef_1 m p1 p2) k

  obtain ⟨fs, hr, hrun, hended, hW, hsame⟩ := X0.leave (v := some (.int p1)) (fun h => by rw [Bd.returns] at h; cases h)
  refine ⟨_, _, pre0 _ ?_, hrun, hended, _, _, rfl, ?_, ⟨_, rfl⟩, hW, hsame.mono (by decide) (by decide)⟩
  · show Steps p.tables e below (s₁.setTop (mkF m 0 #[.val (.int p1), .val (.int p2)] [])) _
    refine XS.iloadN X0.here hx rfl (hb hby d1_0) rfl ?_
    show Steps p.tables e below (s₁.setTop (mkF m 1 #[.val (.int p1), .val (.int p2)] [(.int p1)])) _
    refine XS.iloadN X0.here hx rfl (hb hby d1_1) rfl ?_
    show Steps p.tables e below (s₁.setTop (mkF m 2 #[.val (.int p1), .val (.int p2)] [(.int p2), (.int p1)])) _
    refine XS.icmpNo X0.here hx rfl (hb hby d1_2) rfl (flt hc2).1 ?_
    show Steps p.tables e below (s₁.setTop (mkF m 5 #[.val (.int p1), .val (.int p2)] [])) _
    refine XS.iloadN X0.here hx rfl (hb hby d1_5) rfl ?_
    show Steps p.tables e below (s₁.setTop (mkF m 6 #[.val (.int p1), .val (.int p2)] [(.int p1)])) _
    refine XS.goto X0.here hx rfl (pc0 := 6) (pc' := 10) rfl (hb hby d1_6) (by decide) (by decide) ?_
    show Steps p.tables e below (s₁.setTop (mkF m 10 #[.val (.int p1), .val (.int p2)] [(.int p1)])) _
    exact retI X0 hx Bd.returns (hb hby d1_10) hr
  · show Qv (some (.int p1)) h0 n0 _ s₁.heap _
    rw [e0]
    exact ⟨rfl, N0, rfl⟩
theorem rm1 (l : Launch) (Z : State) (a0 : Array Value) (hw : ∀ d ∈ tables_1, d.before a0 Z = true) (ws : List Jvm.Cond) (p1 : Int32) (p2 : Int32) (h0 : Heap) (n0 : Nat) (Z0 : n0 ≤ h0.size) :
    MetFree l (⟨"java/lang/Math", "max", "(II)I"⟩ : MethodName) (head1 (Jvm.Cond.code (⟨"java/lang/Math", "max", "(II)I"⟩ : MethodName) jdk_29_method_65_code 2 (some .int) :: ws) ({ frames := 0, cells := 0, slots := 0, locals := 0 } : Room)) (fun a U => a = #[(.int p1), (.int p2)] ∧ Z.Warmed39 U.vm ∧ U.heap = h0) (fun _ _ _ _ _ => True) (fun _ U o U' => ∃ v L, o = .returned v ∧ Qv (some (.int (own_max p1 p2))) h0 n0 v U'.heap L ∧ FrameEnd U o U' L ({ frames := 0, cells := 0, slots := 0, locals := 0 } : Room).cells ({ frames := 0, cells := 0, slots := 0, locals := 0 } : Room).slots) := by
  by_cases c2 : p1 < p2
  · rw [show own_max p1 p2 = p2 from if_pos c2]; exact rm1a l Z a0 hw ws p1 p2 h0 n0 Z0 c2
  · rw [show own_max p1 p2 = p1 from if_neg c2]; exact rm1b l Z a0 hw ws p1 p2 h0 n0 Z0 c2
theorem d5_0 : decode method_5_code 0 = .ok (.iload_n 1, 1) := by decide +kernel
theorem d5_1 : decode method_5_code 1 = .ok (.aload_n 0, 1) := by decide +kernel
theorem d5_2 : decode method_5_code 2 = .ok (.arraylength, 1) := by decide +kernel
theorem d5_3 : decode method_5_code 3 = .ok (.if_icmp .ge 14, 3) := by decide +kernel
theorem d5_17 : decode method_5_code 17 = .ok (.iconst 0, 1) := by decide +kernel
theorem d5_18 : decode method_5_code 18 = .ok (.ireturn, 1) := by decide +kernel
theorem pn_5 : plainName "com/example/nuoli/nuoli/service/StrongComponentsMemberStartPinLaw" = true := by first | (simp [plainName, overriddenIn]; done) | decide +kernel
theorem ef_5 (m : MethodId) (x0 : Addr) (x1 : Int32) (x2 : Int32) : entryFrame m #[(.ref x0), (.int x1), (.int x2)] 3 = mkF m 0 #[.val (.ref x0), .val (.int x1), .val (.int x2)] [] := by first | (simp [entryFrame, mkF, argsToLocals, Value.category]; done) | rfl
set_option maxRecDepth 65536 in
set_option maxHeartbeats 40000000 in
theorem rm5a (l : Launch) (Z : State) (a0 : Array Value) (hw : ∀ d ∈ tables_1, d.before a0 Z = true) (ws : List Jvm.Cond) (a1 : Addr) (p2 : Int32) (p3 : Int32) (cl_a1 : Cell) (z_a1 : Int32) (h0 : Heap) (n0 : Nat) (Z0 : n0 ≤ h0.size) (Ar_a1 : Arr Z h0 a1 cl_a1 .int) (S_a1 : cl_a1.slots.size = z_a1.toNatClampNeg) (N_a1 : ¬ z_a1 < 0) (hc3 : ¬ (p2 < z_a1)) :
    MetFree l (⟨"com/example/nuoli/nuoli/service/StrongComponentsMemberStartPinLaw", "below", "([III)I"⟩ : MethodName) (head1 (Jvm.Cond.code (⟨"com/example/nuoli/nuoli/service/StrongComponentsMemberStartPinLaw", "below", "([III)I"⟩ : MethodName) method_5_code 3 (some .int) :: ws) ({ frames := 0, cells := 0, slots := 0, locals := 0 } : Room)) (fun a U => a = #[(.ref a1), (.int p2), (.int p3)] ∧ Z.Warmed39 U.vm ∧ U.heap = h0) (fun _ _ _ _ _ => True) (fun _ U o U' => ∃ v L, o = .returned v ∧ Qv (some (.int (0 : Int32))) h0 n0 v U'.heap L ∧ FrameEnd U o U' L ({ frames := 0, cells := 0, slots := 0, locals := 0 } : Room).cells ({ frames := 0, cells := 0, slots := 0, locals := 0 } : Room).slots) := by
  refine MetFree.of_bodySF (plainFor_of_name pn_5) hisR ?_
  intro p e s m args below meth c s₁ Bd hml0 hP hK
  obtain ⟨rfl, hZ, hh⟩ := hP
  have hx := Bd.exec
  have hby := Bd.bytes
  have hml : c.maxLocals = 3 := hml0
  have hown : s.vm.findClass "com/example/nuoli/nuoli/service/StrongComponentsMemberStartPinLaw" = some m.cls := findClass_of_methodNamed Bd.named
  have hnm := (name_of_methodNamed Bd.named Bd.method).1
  have X0 : Stand p l e ({ frames := 0, cells := 0, slots := 0, locals := 0 } : Room) s m #[(.ref a1), (.int p2), (.int p3)] below meth c s₁ [] 0 0 := Stand.of_body Bd
  have e0 : s₁.heap = h0 := by rw [← hh, Bd.state]; rfl
  have N0 := Fr.nil n0
  have pre0 : ∀ t, Steps p.tables e below (s₁.setTop (mkF m 0 #[.val (.ref a1), .val (.int p2), .val (.int p3)] [])) t → Steps p.tables e below (s₁.setTop (entryFrame m #[(.ref a1), (.int p2), (.int p3)] 3)) t := fun t k => castTop (ef_5 m a1 p2 p3) k

  obtain ⟨fs, hr, hrun, hended, hW, hsame⟩ := X0.leave (v := some (.int (0 : Int32))) (fun h => by rw [Bd.returns] at h; cases h)
  refine ⟨_, _, pre0 _ ?_, hrun, hended, _, _, rfl, ?_, ⟨_, rfl⟩, hW, hsame.mono (by decide) (by decide)⟩
  · show Steps p.tables e below (s₁.setTop (mkF m 0 #[.val (.ref a1), .val (.int p2), .val (.int p3)] [])) _
    refine XS.iloadN X0.here hx rfl (hb hby d5_0) rfl ?_
    show Steps p.tables e below (s₁.setTop (mkF m 1 #[.val (.ref a1), .val (.int p2), .val (.int p3)] [(.int p2)])) _
    refine XS.aloadN X0.here hx rfl (hb hby d5_1) rfl rfl ?_
    show Steps p.tables e below (s₁.setTop (mkF m 2 #[.val (.ref a1), .val (.int p2), .val (.int p3)] [(.ref a1), (.int p2)])) _
    refine X0.arraylength hx (by rw [e0]; exact Ar_a1.1) (State.isArrayOf_alike hZ.alike Ar_a1.2.1) (g := (mkF m 2 #[.val (.ref a1), .val (.int p2), .val (.int p3)] [(.ref a1), (.int p2)])) rfl rfl (hb hby d5_2) _ ?_
    rw [len_of S_a1 N_a1]
    show Steps p.tables e below (s₁.setTop (mkF m 3 #[.val (.ref a1), .val (.int p2), .val (.int p3)] [(.int z_a1), (.int p2)])) _
    refine XS.icmpYes X0.here hx rfl (pc0 := 3) (pc' := 17) rfl (hb hby d5_3) rfl (flt hc3).2.1 (by decide) (by decide) ?_
    show Steps p.tables e below (s₁.setTop (mkF m 17 #[.val (.ref a1), .val (.int p2), .val (.int p3)] [])) _
    refine XS.iconst X0.here hx rfl (hb hby d5_17) ?_
    show Steps p.tables e below (s₁.setTop (mkF m 18 #[.val (.ref a1), .val (.int p2), .val (.int p3)] [(.int (0 : Int32))])) _
    exact retI X0 hx Bd.returns (hb hby d5_18) hr
  · show Qv (some (.int (0 : Int32))) h0 n0 _ s₁.heap _
    rw [e0]
    exact ⟨rfl, N0, rfl⟩
theorem d5_6 : decode method_5_code 6 = .ok (.aload_n 0, 1) := by decide +kernel
theorem d5_7 : decode method_5_code 7 = .ok (.iload_n 1, 1) := by decide +kernel
theorem d5_8 : decode method_5_code 8 = .ok (.iaload, 1) := by decide +kernel
theorem d5_9 : decode method_5_code 9 = .ok (.iload_n 2, 1) := by decide +kernel
theorem d5_10 : decode method_5_code 10 = .ok (.if_icmp .ge 7, 3) := by decide +kernel
set_option maxRecDepth 65536 in
set_option maxHeartbeats 40000000 in
theorem rm5b (l : Launch) (Z : State) (a0 : Array Value) (hw : ∀ d ∈ tables_1, d.before a0 Z = true) (ws : List Jvm.Cond) (a1 : Addr) (p2 : Int32) (p3 : Int32) (cl_a1 : Cell) (z_a1 : Int32) (w4 : Int32) (h0 : Heap) (n0 : Nat) (Z0 : n0 ≤ h0.size) (Ar_a1 : Arr Z h0 a1 cl_a1 .int) (S_a1 : cl_a1.slots.size = z_a1.toNatClampNeg) (N_a1 : ¬ z_a1 < 0) (hin8 : ¬ (p2 < 0 ∨ cl_a1.slots.size ≤ (p2).toNatClampNeg)) (hat8 : cl_a1.slots[(p2).toNatClampNeg]? = some (.int w4)) (hc3 : p2 < z_a1) (hc10 : ¬ (w4 < p3)) :
    MetFree l (⟨"com/example/nuoli/nuoli/service/StrongComponentsMemberStartPinLaw", "below", "([III)I"⟩ : MethodName) (head1 (Jvm.Cond.code (⟨"com/example/nuoli/nuoli/service/StrongComponentsMemberStartPinLaw", "below", "([III)I"⟩ : MethodName) method_5_code 3 (some .int) :: ws) ({ frames := 0, cells := 0, slots := 0, locals := 0 } : Room)) (fun a U => a = #[(.ref a1), (.int p2), (.int p3)] ∧ Z.Warmed39 U.vm ∧ U.heap = h0) (fun _ _ _ _ _ => True) (fun _ U o U' => ∃ v L, o = .returned v ∧ Qv (some (.int (0 : Int32))) h0 n0 v U'.heap L ∧ FrameEnd U o U' L ({ frames := 0, cells := 0, slots := 0, locals := 0 } : Room).cells ({ frames := 0, cells := 0, slots := 0, locals := 0 } : Room).slots) := by
  refine MetFree.of_bodySF (plainFor_of_name pn_5) hisR ?_
  intro p e s m args below meth c s₁ Bd hml0 hP hK
  obtain ⟨rfl, hZ, hh⟩ := hP
  have hx := Bd.exec
  have hby := Bd.bytes
  have hml : c.maxLocals = 3 := hml0
  have hown : s.vm.findClass "com/example/nuoli/nuoli/service/StrongComponentsMemberStartPinLaw" = some m.cls := findClass_of_methodNamed Bd.named
  have hnm := (name_of_methodNamed Bd.named Bd.method).1
  have X0 : Stand p l e ({ frames := 0, cells := 0, slots := 0, locals := 0 } : Room) s m #[(.ref a1), (.int p2), (.int p3)] below meth c s₁ [] 0 0 := Stand.of_body Bd
  have e0 : s₁.heap = h0 := by rw [← hh, Bd.state]; rfl
  have N0 := Fr.nil n0
  have pre0 : ∀ t, Steps p.tables e below (s₁.setTop (mkF m 0 #[.val (.ref a1), .val (.int p2), .val (.int p3)] [])) t → Steps p.tables e below (s₁.setTop (entryFrame m #[(.ref a1), (.int p2), (.int p3)] 3)) t := fun t k => castTop (ef_5 m a1 p2 p3) k

  obtain ⟨fs, hr, hrun, hended, hW, hsame⟩ := X0.leave (v := some (.int (0 : Int32))) (fun h => by rw [Bd.returns] at h; cases h)
  refine ⟨_, _, pre0 _ ?_, hrun, hended, _, _, rfl, ?_, ⟨_, rfl⟩, hW, hsame.mono (by decide) (by decide)⟩
  · show Steps p.tables e below (s₁.setTop (mkF m 0 #[.val (.ref a1), .val (.int p2), .val (.int p3)] [])) _
    refine XS.iloadN X0.here hx rfl (hb hby d5_0) rfl ?_
    show Steps p.tables e below (s₁.setTop (mkF m 1 #[.val (.ref a1), .val (.int p2), .val (.int p3)] [(.int p2)])) _
    refine XS.aloadN X0.here hx rfl (hb hby d5_1) rfl rfl ?_
    show Steps p.tables e below (s₁.setTop (mkF m 2 #[.val (.ref a1), .val (.int p2), .val (.int p3)] [(.ref a1), (.int p2)])) _
    refine X0.arraylength hx (by rw [e0]; exact Ar_a1.1) (State.isArrayOf_alike hZ.alike Ar_a1.2.1) (g := (mkF m 2 #[.val (.ref a1), .val (.int p2), .val (.int p3)] [(.ref a1), (.int p2)])) rfl rfl (hb hby d5_2) _ ?_
    rw [len_of S_a1 N_a1]
    show Steps p.tables e below (s₁.setTop (mkF m 3 #[.val (.ref a1), .val (.int p2), .val (.int p3)] [(.int z_a1), (.int p2)])) _
    refine XS.icmpNo X0.here hx rfl (hb hby d5_3) rfl (tlt hc3).2.1 ?_
    show Steps p.tables e below (s₁.setTop (mkF m 6 #[.val (.ref a1), .val (.int p2), .val (.int p3)] [])) _
    refine XS.aloadN X0.here hx rfl (hb hby d5_6) rfl rfl ?_
    show Steps p.tables e below (s₁.setTop (mkF m 7 #[.val (.ref a1), .val (.int p2), .val (.int p3)] [(.ref a1)])) _
    refine XS.iloadN X0.here hx rfl (hb hby d5_7) rfl ?_
    show Steps p.tables e below (s₁.setTop (mkF m 8 #[.val (.ref a1), .val (.int p2), .val (.int p3)] [(.int p2), (.ref a1)])) _
    refine X0.iaload hx (j := p2) (v := (.int w4)) (by rw [e0]; exact Ar_a1.1) (State.isArrayOf_alike hZ.alike Ar_a1.2.1) Ar_a1.2.2 hin8 hat8 (g := (mkF m 8 #[.val (.ref a1), .val (.int p2), .val (.int p3)] [(.int p2), (.ref a1)])) rfl rfl (hb hby d5_8) _ ?_
    show Steps p.tables e below (s₁.setTop (mkF m 9 #[.val (.ref a1), .val (.int p2), .val (.int p3)] [(.int w4)])) _
    refine XS.iloadN X0.here hx rfl (hb hby d5_9) rfl ?_
    show Steps p.tables e below (s₁.setTop (mkF m 10 #[.val (.ref a1), .val (.int p2), .val (.int p3)] [(.int p3), (.int w4)])) _
    refine XS.icmpYes X0.here hx rfl (pc0 := 10) (pc' := 17) rfl (hb hby d5_10) rfl (flt hc10).2.1 (by decide) (by decide) ?_
    show Steps p.tables e below (s₁.setTop (mkF m 17 #[.val (.ref a1), .val (.int p2), .val (.int p3)] [])) _
    refine XS.iconst X0.here hx rfl (hb hby d5_17) ?_
    show Steps p.tables e below (s₁.setTop (mkF m 18 #[.val (.ref a1), .val (.int p2), .val (.int p3)] [(.int (0 : Int32))])) _
    exact retI X0 hx Bd.returns (hb hby d5_18) hr
  · show Qv (some (.int (0 : Int32))) h0 n0 _ s₁.heap _
    rw [e0]
    exact ⟨rfl, N0, rfl⟩
theorem d5_13 : decode method_5_code 13 = .ok (.iconst 1, 1) := by decide +kernel
theorem d5_14 : decode method_5_code 14 = .ok (.goto 4, 3) := by decide +kernel
set_option maxRecDepth 65536 in
set_option maxHeartbeats 40000000 in
theorem rm5c (l : Launch) (Z : State) (a0 : Array Value) (hw : ∀ d ∈ tables_1, d.before a0 Z = true) (ws : List Jvm.Cond) (a1 : Addr) (p2 : Int32) (p3 : Int32) (cl_a1 : Cell) (z_a1 : Int32) (w4 : Int32) (h0 : Heap) (n0 : Nat) (Z0 : n0 ≤ h0.size) (Ar_a1 : Arr Z h0 a1 cl_a1 .int) (S_a1 : cl_a1.slots.size = z_a1.toNatClampNeg) (N_a1 : ¬ z_a1 < 0) (hin8 : ¬ (p2 < 0 ∨ cl_a1.slots.size ≤ (p2).toNatClampNeg)) (hat8 : cl_a1.slots[(p2).toNatClampNeg]? = some (.int w4)) (hc3 : p2 < z_a1) (hc10 : w4 < p3) :
    MetFree l (⟨"com/example/nuoli/nuoli/service/StrongComponentsMemberStartPinLaw", "below", "([III)I"⟩ : MethodName) (head1 (Jvm.Cond.code (⟨"com/example/nuoli/nuoli/service/StrongComponentsMemberStartPinLaw", "below", "([III)I"⟩ : MethodName) method_5_code 3 (some .int) :: ws) ({ frames := 0, cells := 0, slots := 0, locals := 0 } : Room)) (fun a U => a = #[(.ref a1), (.int p2), (.int p3)] ∧ Z.Warmed39 U.vm ∧ U.heap = h0) (fun _ _ _ _ _ => True) (fun _ U o U' => ∃ v L, o = .returned v ∧ Qv (some (.int (1 : Int32))) h0 n0 v U'.heap L ∧ FrameEnd U o U' L ({ frames := 0, cells := 0, slots := 0, locals := 0 } : Room).cells ({ frames := 0, cells := 0, slots := 0, locals := 0 } : Room).slots) := by
  refine MetFree.of_bodySF (plainFor_of_name pn_5) hisR ?_
  intro p e s m args below meth c s₁ Bd hml0 hP hK
  obtain ⟨rfl, hZ, hh⟩ := hP
  have hx := Bd.exec
  have hby := Bd.bytes
  have hml : c.maxLocals = 3 := hml0
  have hown : s.vm.findClass "com/example/nuoli/nuoli/service/StrongComponentsMemberStartPinLaw" = some m.cls := findClass_of_methodNamed Bd.named
  have hnm := (name_of_methodNamed Bd.named Bd.method).1
  have X0 : Stand p l e ({ frames := 0, cells := 0, slots := 0, locals := 0 } : Room) s m #[(.ref a1), (.int p2), (.int p3)] below meth c s₁ [] 0 0 := Stand.of_body Bd
  have e0 : s₁.heap = h0 := by rw [← hh, Bd.state]; rfl
  have N0 := Fr.nil n0
  have pre0 : ∀ t, Steps p.tables e below (s₁.setTop (mkF m 0 #[.val (.ref a1), .val (.int p2), .val (.int p3)] [])) t → Steps p.tables e below (s₁.setTop (entryFrame m #[(.ref a1), (.int p2), (.int p3)] 3)) t := fun t k => castTop (ef_5 m a1 p2 p3) k

  obtain ⟨fs, hr, hrun, hended, hW, hsame⟩ := X0.leave (v := some (.int (1 : Int32))) (fun h => by rw [Bd.returns] at h; cases h)
  refine ⟨_, _, pre0 _ ?_, hrun, hended, _, _, rfl, ?_, ⟨_, rfl⟩, hW, hsame.mono (by decide) (by decide)⟩
  · show Steps p.tables e below (s₁.setTop (mkF m 0 #[.val (.ref a1), .val (.int p2), .val (.int p3)] [])) _
    refine XS.iloadN X0.here hx rfl (hb hby d5_0) rfl ?_
    show Steps p.tables e below (s₁.setTop (mkF m 1 #[.val (.ref a1), .val (.int p2), .val (.int p3)] [(.int p2)])) _
    refine XS.aloadN X0.here hx rfl (hb hby d5_1) rfl rfl ?_
    show Steps p.tables e below (s₁.setTop (mkF m 2 #[.val (.ref a1), .val (.int p2), .val (.int p3)] [(.ref a1), (.int p2)])) _
    refine X0.arraylength hx (by rw [e0]; exact Ar_a1.1) (State.isArrayOf_alike hZ.alike Ar_a1.2.1) (g := (mkF m 2 #[.val (.ref a1), .val (.int p2), .val (.int p3)] [(.ref a1), (.int p2)])) rfl rfl (hb hby d5_2) _ ?_
    rw [len_of S_a1 N_a1]
    show Steps p.tables e below (s₁.setTop (mkF m 3 #[.val (.ref a1), .val (.int p2), .val (.int p3)] [(.int z_a1), (.int p2)])) _
    refine XS.icmpNo X0.here hx rfl (hb hby d5_3) rfl (tlt hc3).2.1 ?_
    show Steps p.tables e below (s₁.setTop (mkF m 6 #[.val (.ref a1), .val (.int p2), .val (.int p3)] [])) _
    refine XS.aloadN X0.here hx rfl (hb hby d5_6) rfl rfl ?_
    show Steps p.tables e below (s₁.setTop (mkF m 7 #[.val (.ref a1), .val (.int p2), .val (.int p3)] [(.ref a1)])) _
    refine XS.iloadN X0.here hx rfl (hb hby d5_7) rfl ?_
    show Steps p.tables e below (s₁.setTop (mkF m 8 #[.val (.ref a1), .val (.int p2), .val (.int p3)] [(.int p2), (.ref a1)])) _
    refine X0.iaload hx (j := p2) (v := (.int w4)) (by rw [e0]; exact Ar_a1.1) (State.isArrayOf_alike hZ.alike Ar_a1.2.1) Ar_a1.2.2 hin8 hat8 (g := (mkF m 8 #[.val (.ref a1), .val (.int p2), .val (.int p3)] [(.int p2), (.ref a1)])) rfl rfl (hb hby d5_8) _ ?_
    show Steps p.tables e below (s₁.setTop (mkF m 9 #[.val (.ref a1), .val (.int p2), .val (.int p3)] [(.int w4)])) _
    refine XS.iloadN X0.here hx rfl (hb hby d5_9) rfl ?_
    show Steps p.tables e below (s₁.setTop (mkF m 10 #[.val (.ref a1), .val (.int p2), .val (.int p3)] [(.int p3), (.int w4)])) _
    refine XS.icmpNo X0.here hx rfl (hb hby d5_10) rfl (tlt hc10).2.1 ?_
    show Steps p.tables e below (s₁.setTop (mkF m 13 #[.val (.ref a1), .val (.int p2), .val (.int p3)] [])) _
    refine XS.iconst X0.here hx rfl (hb hby d5_13) ?_
    show Steps p.tables e below (s₁.setTop (mkF m 14 #[.val (.ref a1), .val (.int p2), .val (.int p3)] [(.int (1 : Int32))])) _
    refine XS.goto X0.here hx rfl (pc0 := 14) (pc' := 18) rfl (hb hby d5_14) (by decide) (by decide) ?_
    show Steps p.tables e below (s₁.setTop (mkF m 18 #[.val (.ref a1), .val (.int p2), .val (.int p3)] [(.int (1 : Int32))])) _
    exact retI X0 hx Bd.returns (hb hby d5_18) hr
  · show Qv (some (.int (1 : Int32))) h0 n0 _ s₁.heap _
    rw [e0]
    exact ⟨rfl, N0, rfl⟩
theorem rm5 (l : Launch) (Z : State) (a0 : Array Value) (hw : ∀ d ∈ tables_1, d.before a0 Z = true) (ws : List Jvm.Cond) (a1 : Addr) (p2 : Int32) (p3 : Int32) (n i k : Nat) (g : Nat → Nat) (h0 : Heap) (n0 : Nat) (Z0 : n0 ≤ h0.size) (hp2 : p2 = Int32.ofNat i) (hp3 : p3 = Int32.ofNat k) (A_a1 : own_AF Z h0 a1 n (fun j => Int32.ofNat (g j))) (hn : n ≤ 5) (hi : i ≤ 5) (hk : k ≤ 5) (hg : ∀ j, j < n → g j < 2 ^ 31) :
    MetFree l (⟨"com/example/nuoli/nuoli/service/StrongComponentsMemberStartPinLaw", "below", "([III)I"⟩ : MethodName) (head1 (Jvm.Cond.code (⟨"com/example/nuoli/nuoli/service/StrongComponentsMemberStartPinLaw", "below", "([III)I"⟩ : MethodName) method_5_code 3 (some .int) :: ws) ({ frames := 0, cells := 0, slots := 0, locals := 0 } : Room)) (fun a U => a = #[(.ref a1), (.int p2), (.int p3)] ∧ Z.Warmed39 U.vm ∧ U.heap = h0) (fun _ _ _ _ _ => True) (fun _ U o U' => ∃ v L, o = .returned v ∧ Qv (some (.int (own_b n g i k))) h0 n0 v U'.heap L ∧ FrameEnd U o U' L ({ frames := 0, cells := 0, slots := 0, locals := 0 } : Room).cells ({ frames := 0, cells := 0, slots := 0, locals := 0 } : Room).slots) := by
  subst hp2 hp3
  obtain ⟨cl, Ar, S, H⟩ := A_a1
  have S' : cl.slots.size = (Int32.ofNat n).toNatClampNeg := by rw [own_clamp (by omega)]; exact S
  have M : ¬ Int32.ofNat n < 0 := own_notneg (by omega)
  by_cases c3 : i < n
  · have q3 : Int32.ofNat i < Int32.ofNat n := (own_ltN (by omega) (by omega)).mpr c3
    have hin := own_inb S c3 (by omega)
    have hat : cl.slots[(Int32.ofNat i).toNatClampNeg]? = some (.int (Int32.ofNat (g i))) := by rw [own_clamp (by omega)]; exact H i c3
    by_cases c10 : g i < k
    · rw [show own_b n g i k = 1 from if_pos ⟨c3, c10⟩]
      exact rm5c l Z a0 hw ws a1 _ _ cl (Int32.ofNat n) (Int32.ofNat (g i)) h0 n0 Z0 Ar S' M hin hat q3 ((own_ltN (hg i c3) (by omega)).mpr c10)
    · rw [show own_b n g i k = 0 from if_neg fun q => c10 q.2]
      exact rm5b l Z a0 hw ws a1 _ _ cl (Int32.ofNat n) (Int32.ofNat (g i)) h0 n0 Z0 Ar S' M hin hat q3 (fun q => c10 ((own_ltN (hg i c3) (by omega)).mp q))
  · rw [show own_b n g i k = 0 from if_neg fun q => c3 q.1]
    exact rm5a l Z a0 hw ws a1 _ _ cl (Int32.ofNat n) h0 n0 Z0 Ar S' M (fun q => c3 ((own_ltN (by omega) (by omega)).mp q))
theorem d4_0 : decode method_4_code 0 = .ok (.aload_n 0, 1) := by decide +kernel
theorem d4_1 : decode method_4_code 1 = .ok (.iconst 0, 1) := by decide +kernel
theorem d4_2 : decode method_4_code 2 = .ok (.iload_n 1, 1) := by decide +kernel
theorem d4_3 : decode method_4_code 3 = .ok (.invokestatic 30, 3) := by decide +kernel
theorem d4_6 : decode method_4_code 6 = .ok (.aload_n 0, 1) := by decide +kernel
theorem d4_7 : decode method_4_code 7 = .ok (.iconst 1, 1) := by decide +kernel
theorem d4_8 : decode method_4_code 8 = .ok (.iload_n 1, 1) := by decide +kernel
theorem d4_9 : decode method_4_code 9 = .ok (.invokestatic 30, 3) := by decide +kernel
theorem d4_12 : decode method_4_code 12 = .ok (.iadd, 1) := by decide +kernel
theorem d4_13 : decode method_4_code 13 = .ok (.aload_n 0, 1) := by decide +kernel
theorem d4_14 : decode method_4_code 14 = .ok (.iconst 2, 1) := by decide +kernel
theorem d4_15 : decode method_4_code 15 = .ok (.iload_n 1, 1) := by decide +kernel
theorem d4_16 : decode method_4_code 16 = .ok (.invokestatic 30, 3) := by decide +kernel
theorem d4_19 : decode method_4_code 19 = .ok (.iadd, 1) := by decide +kernel
theorem d4_20 : decode method_4_code 20 = .ok (.aload_n 0, 1) := by decide +kernel
theorem d4_21 : decode method_4_code 21 = .ok (.iconst 3, 1) := by decide +kernel
theorem d4_22 : decode method_4_code 22 = .ok (.iload_n 1, 1) := by decide +kernel
theorem d4_23 : decode method_4_code 23 = .ok (.invokestatic 30, 3) := by decide +kernel
theorem d4_26 : decode method_4_code 26 = .ok (.iadd, 1) := by decide +kernel
theorem d4_27 : decode method_4_code 27 = .ok (.aload_n 0, 1) := by decide +kernel
theorem d4_28 : decode method_4_code 28 = .ok (.iconst 4, 1) := by decide +kernel
theorem d4_29 : decode method_4_code 29 = .ok (.iload_n 1, 1) := by decide +kernel
theorem d4_30 : decode method_4_code 30 = .ok (.invokestatic 30, 3) := by decide +kernel
theorem d4_33 : decode method_4_code 33 = .ok (.iadd, 1) := by decide +kernel
theorem d4_34 : decode method_4_code 34 = .ok (.ireturn, 1) := by decide +kernel
theorem pn_4 : plainName "com/example/nuoli/nuoli/service/StrongComponentsMemberStartPinLaw" = true := by first | (simp [plainName, overriddenIn]; done) | decide +kernel
theorem pd_4_4 : parseMethodDescriptor "([III)I" = some ⟨[(.array .int), .int, .int], some .int⟩ := by decide +kernel
theorem ef_4 (m : MethodId) (x0 : Addr) (x1 : Int32) : entryFrame m #[(.ref x0), (.int x1)] 2 = mkF m 0 #[.val (.ref x0), .val (.int x1)] [] := by first | (simp [entryFrame, mkF, argsToLocals, Value.category]; done) | rfl
set_option maxRecDepth 65536 in
set_option maxHeartbeats 40000000 in
theorem rm4 (l : Launch) (Z : State) (a0 : Array Value) (hw : ∀ d ∈ tables_1, d.before a0 Z = true) (ws : List Jvm.Cond) (a1 : Addr) (p2 : Int32) (n k : Nat) (g : Nat → Nat) (h0 : Heap) (n0 : Nat) (Z0 : n0 ≤ h0.size) (hp2 : p2 = Int32.ofNat k) (A_a1 : own_AF Z h0 a1 n (fun j => Int32.ofNat (g j))) (hn : n ≤ 5) (hk : k ≤ 5) (hg : ∀ j, j < n → g j < 2 ^ 31) :
    MetFree l (⟨"com/example/nuoli/nuoli/service/StrongComponentsMemberStartPinLaw", "count", "([II)I"⟩ : MethodName) (head1 (Jvm.Cond.code (⟨"com/example/nuoli/nuoli/service/StrongComponentsMemberStartPinLaw", "count", "([II)I"⟩ : MethodName) method_4_code 2 (some .int) :: ws) ({ frames := 1, cells := 0, slots := 0, locals := 15 } : Room)) (fun a U => a = #[(.ref a1), (.int p2)] ∧ Z.Warmed39 U.vm ∧ U.heap = h0) (fun _ _ _ _ _ => True) (fun _ U o U' => ∃ v L, o = .returned v ∧ Qv (some (.int (own_cnt n g k))) h0 n0 v U'.heap L ∧ FrameEnd U o U' L ({ frames := 1, cells := 0, slots := 0, locals := 15 } : Room).cells ({ frames := 1, cells := 0, slots := 0, locals := 15 } : Room).slots) := by
  refine MetFree.of_bodySF (plainFor_of_name pn_4) hisR ?_
  intro p e s m args below meth c s₁ Bd hml0 hP hK
  obtain ⟨rfl, hZ, hh⟩ := hP
  have hx := Bd.exec
  have hby := Bd.bytes
  have hml : c.maxLocals = 2 := hml0
  have hown : s.vm.findClass "com/example/nuoli/nuoli/service/StrongComponentsMemberStartPinLaw" = some m.cls := findClass_of_methodNamed Bd.named
  have hnm := (name_of_methodNamed Bd.named Bd.method).1
  have X0 : Stand p l e ({ frames := 1, cells := 0, slots := 0, locals := 15 } : Room) s m #[(.ref a1), (.int p2)] below meth c s₁ [] 0 0 := Stand.of_body Bd
  have e0 : s₁.heap = h0 := by rw [← hh, Bd.state]; rfl
  have N0 := Fr.nil n0
  have pre0 : ∀ t, Steps p.tables e below (s₁.setTop (mkF m 0 #[.val (.ref a1), .val (.int p2)] [])) t → Steps p.tables e below (s₁.setTop (entryFrame m #[(.ref a1), (.int p2)] 2)) t := fun t k => castTop (ef_4 m a1 p2) k
  obtain ⟨_, _, ⟨T3, L3, k3, n3⟩, -, X3, ⟨Lc3, hQ3, l3, y3, z3⟩, st3⟩ := Jvm.LawKit.callS X0 hx (y := (⟨"com/example/nuoli/nuoli/service/StrongComponentsMemberStartPinLaw", "below", "([III)I"⟩ : MethodName)) hown (mvT hZ (hw _ (List.mem_of_getElem? (i := 17) rfl))) (mvT hZ (hw _ (List.mem_of_getElem? (i := 18) rfl))) (mvT hZ (hw _ (List.mem_of_getElem? (i := 12) rfl))) (mvT hZ (hw _ (List.mem_of_getElem? (i := 19) rfl))) (by decide) (backOf (W := 0) (rm5 l Z a0 hw [] a1 (0 : Int32) p2 n 0 k g h0 n0 Z0 rfl hp2 A_a1 hn (by decide) hk hg) hZ (hw _ (List.mem_of_getElem? (i := 19) rfl)) (hw _ (List.mem_of_getElem? (i := 12) rfl)) (by decide) (by decide)) (g := (mkF m 3 #[.val (.ref a1), .val (.int p2)] [(.int p2), (.int (0 : Int32)), (.ref a1)])) rfl (by rw [hml]; rfl) (argsL := [(.ref a1), (.int (0 : Int32)), (.int p2)]) (rest := []) (lenOf pd_4_4 rfl) rfl (by show 2 * 0 + _ ≤ _; exact Nat.le_of_eq rfl) (hb hby d4_3) (fun _ _ => ⟨rfl, e0, (by decide : 0 + 0 ≤ _), (by decide : 0 + 0 ≤ _)⟩)
  dsimp only [Pt.U, Pt.locs, Pt.cells, Pt.slots] at X3 l3 y3 z3 st3 hQ3
  subst l3 y3 z3
  obtain ⟨rfl, N3q, q3⟩ := hQ3
  have N3 := Fr.app N0 N3q
  obtain ⟨_, _, ⟨T4, L4, k4, n4⟩, -, X4, ⟨Lc4, hQ4, l4, y4, z4⟩, st4⟩ := Jvm.LawKit.callS X3 hx (y := (⟨"com/example/nuoli/nuoli/service/StrongComponentsMemberStartPinLaw", "below", "([III)I"⟩ : MethodName)) hown (mvT hZ (hw _ (List.mem_of_getElem? (i := 17) rfl))) (mvT hZ (hw _ (List.mem_of_getElem? (i := 18) rfl))) (mvT hZ (hw _ (List.mem_of_getElem? (i := 12) rfl))) (mvT hZ (hw _ (List.mem_of_getElem? (i := 19) rfl))) (by decide) (backOf (W := 1) (rm5 l Z a0 hw [] a1 (1 : Int32) p2 n 1 k g h0 n0 Z0 rfl hp2 A_a1 hn (by decide) hk hg) hZ (hw _ (List.mem_of_getElem? (i := 19) rfl)) (hw _ (List.mem_of_getElem? (i := 12) rfl)) (by decide) (by decide)) (g := (mkF m 9 #[.val (.ref a1), .val (.int p2)] [(.int p2), (.int (1 : Int32)), (.ref a1), (.int (own_b n g 0 k))])) rfl (by rw [hml]; rfl) (argsL := [(.ref a1), (.int (1 : Int32)), (.int p2)]) (rest := [(.int (own_b n g 0 k))]) (lenOf pd_4_4 rfl) rfl (by show 2 * 0 + _ ≤ _; exact Nat.le_of_eq rfl) (hb hby d4_9) (fun _ _ => ⟨rfl, (q3), (by decide : 0 + 0 ≤ _), (by decide : 0 + 0 ≤ _)⟩)
  dsimp only [Pt.U, Pt.locs, Pt.cells, Pt.slots] at X4 l4 y4 z4 st4 hQ4
  subst l4 y4 z4
  obtain ⟨rfl, N4q, q4⟩ := hQ4
  have N4 := Fr.app N3 N4q
  obtain ⟨_, _, ⟨T5, L5, k5, n5⟩, -, X5, ⟨Lc5, hQ5, l5, y5, z5⟩, st5⟩ := Jvm.LawKit.callS X4 hx (y := (⟨"com/example/nuoli/nuoli/service/StrongComponentsMemberStartPinLaw", "below", "([III)I"⟩ : MethodName)) hown (mvT hZ (hw _ (List.mem_of_getElem? (i := 17) rfl))) (mvT hZ (hw _ (List.mem_of_getElem? (i := 18) rfl))) (mvT hZ (hw _ (List.mem_of_getElem? (i := 12) rfl))) (mvT hZ (hw _ (List.mem_of_getElem? (i := 19) rfl))) (by decide) (backOf (W := 1) (rm5 l Z a0 hw [] a1 (2 : Int32) p2 n 2 k g h0 n0 Z0 rfl hp2 A_a1 hn (by decide) hk hg) hZ (hw _ (List.mem_of_getElem? (i := 19) rfl)) (hw _ (List.mem_of_getElem? (i := 12) rfl)) (by decide) (by decide)) (g := (mkF m 16 #[.val (.ref a1), .val (.int p2)] [(.int p2), (.int (2 : Int32)), (.ref a1), (.int ((own_b n g 0 k) + (own_b n g 1 k)))])) rfl (by rw [hml]; rfl) (argsL := [(.ref a1), (.int (2 : Int32)), (.int p2)]) (rest := [(.int ((own_b n g 0 k) + (own_b n g 1 k)))]) (lenOf pd_4_4 rfl) rfl (by show 2 * 0 + _ ≤ _; exact Nat.le_of_eq rfl) (hb hby d4_16) (fun _ _ => ⟨rfl, (q4), (by decide : 0 + 0 ≤ _), (by decide : 0 + 0 ≤ _)⟩)
  dsimp only [Pt.U, Pt.locs, Pt.cells, Pt.slots] at X5 l5 y5 z5 st5 hQ5
  subst l5 y5 z5
  obtain ⟨rfl, N5q, q5⟩ := hQ5
  have N5 := Fr.app N4 N5q
  obtain ⟨_, _, ⟨T6, L6, k6, n6⟩, -, X6, ⟨Lc6, hQ6, l6, y6, z6⟩, st6⟩ := Jvm.LawKit.callS X5 hx (y := (⟨"com/example/nuoli/nuoli/service/StrongComponentsMemberStartPinLaw", "below", "([III)I"⟩ : MethodName)) hown (mvT hZ (hw _ (List.mem_of_getElem? (i := 17) rfl))) (mvT hZ (hw _ (List.mem_of_getElem? (i := 18) rfl))) (mvT hZ (hw _ (List.mem_of_getElem? (i := 12) rfl))) (mvT hZ (hw _ (List.mem_of_getElem? (i := 19) rfl))) (by decide) (backOf (W := 1) (rm5 l Z a0 hw [] a1 (3 : Int32) p2 n 3 k g h0 n0 Z0 rfl hp2 A_a1 hn (by decide) hk hg) hZ (hw _ (List.mem_of_getElem? (i := 19) rfl)) (hw _ (List.mem_of_getElem? (i := 12) rfl)) (by decide) (by decide)) (g := (mkF m 23 #[.val (.ref a1), .val (.int p2)] [(.int p2), (.int (3 : Int32)), (.ref a1), (.int (((own_b n g 0 k) + (own_b n g 1 k)) + (own_b n g 2 k)))])) rfl (by rw [hml]; rfl) (argsL := [(.ref a1), (.int (3 : Int32)), (.int p2)]) (rest := [(.int (((own_b n g 0 k) + (own_b n g 1 k)) + (own_b n g 2 k)))]) (lenOf pd_4_4 rfl) rfl (by show 2 * 0 + _ ≤ _; exact Nat.le_of_eq rfl) (hb hby d4_23) (fun _ _ => ⟨rfl, (q5), (by decide : 0 + 0 ≤ _), (by decide : 0 + 0 ≤ _)⟩)
  dsimp only [Pt.U, Pt.locs, Pt.cells, Pt.slots] at X6 l6 y6 z6 st6 hQ6
  subst l6 y6 z6
  obtain ⟨rfl, N6q, q6⟩ := hQ6
  have N6 := Fr.app N5 N6q
  obtain ⟨_, _, ⟨T7, L7, k7, n7⟩, -, X7, ⟨Lc7, hQ7, l7, y7, z7⟩, st7⟩ := Jvm.LawKit.callS X6 hx (y := (⟨"com/example/nuoli/nuoli/service/StrongComponentsMemberStartPinLaw", "below", "([III)I"⟩ : MethodName)) hown (mvT hZ (hw _ (List.mem_of_getElem? (i := 17) rfl))) (mvT hZ (hw _ (List.mem_of_getElem? (i := 18) rfl))) (mvT hZ (hw _ (List.mem_of_getElem? (i := 12) rfl))) (mvT hZ (hw _ (List.mem_of_getElem? (i := 19) rfl))) (by decide) (backOf (W := 1) (rm5 l Z a0 hw [] a1 (4 : Int32) p2 n 4 k g h0 n0 Z0 rfl hp2 A_a1 hn (by decide) hk hg) hZ (hw _ (List.mem_of_getElem? (i := 19) rfl)) (hw _ (List.mem_of_getElem? (i := 12) rfl)) (by decide) (by decide)) (g := (mkF m 30 #[.val (.ref a1), .val (.int p2)] [(.int p2), (.int (4 : Int32)), (.ref a1), (.int ((((own_b n g 0 k) + (own_b n g 1 k)) + (own_b n g 2 k)) + (own_b n g 3 k)))])) rfl (by rw [hml]; rfl) (argsL := [(.ref a1), (.int (4 : Int32)), (.int p2)]) (rest := [(.int ((((own_b n g 0 k) + (own_b n g 1 k)) + (own_b n g 2 k)) + (own_b n g 3 k)))]) (lenOf pd_4_4 rfl) rfl (by show 2 * 0 + _ ≤ _; exact Nat.le_of_eq rfl) (hb hby d4_30) (fun _ _ => ⟨rfl, (q6), (by decide : 0 + 0 ≤ _), (by decide : 0 + 0 ≤ _)⟩)
  dsimp only [Pt.U, Pt.locs, Pt.cells, Pt.slots] at X7 l7 y7 z7 st7 hQ7
  subst l7 y7 z7
  obtain ⟨rfl, N7q, q7⟩ := hQ7
  have N7 := Fr.app N6 N7q
  obtain ⟨fs, hr, hrun, hended, hW, hsame⟩ := X7.leave (v := some (.int (((((own_b n g 0 k) + (own_b n g 1 k)) + (own_b n g 2 k)) + (own_b n g 3 k)) + (own_b n g 4 k)))) (fun h => by rw [Bd.returns] at h; cases h)
  refine ⟨_, _, pre0 _ ?_, hrun, hended, _, _, rfl, ?_, ⟨_, rfl⟩, hW, hsame.mono (by decide) (by decide)⟩
  · show Steps p.tables e below (s₁.setTop (mkF m 0 #[.val (.ref a1), .val (.int p2)] [])) _
    refine XS.aloadN X0.here hx rfl (hb hby d4_0) rfl rfl ?_
    show Steps p.tables e below (s₁.setTop (mkF m 1 #[.val (.ref a1), .val (.int p2)] [(.ref a1)])) _
    refine XS.iconst X0.here hx rfl (hb hby d4_1) ?_
    show Steps p.tables e below (s₁.setTop (mkF m 2 #[.val (.ref a1), .val (.int p2)] [(.int (0 : Int32)), (.ref a1)])) _
    refine XS.iloadN X0.here hx rfl (hb hby d4_2) rfl ?_
    show Steps p.tables e below (s₁.setTop (mkF m 3 #[.val (.ref a1), .val (.int p2)] [(.int p2), (.int (0 : Int32)), (.ref a1)])) _
    refine st3 _ ?_
    show Steps p.tables e below (T3.setTop (mkF m 6 #[.val (.ref a1), .val (.int p2)] [(.int (own_b n g 0 k))])) _
    refine XS.aloadN X3.here hx rfl (hb hby d4_6) rfl rfl ?_
    show Steps p.tables e below (T3.setTop (mkF m 7 #[.val (.ref a1), .val (.int p2)] [(.ref a1), (.int (own_b n g 0 k))])) _
    refine XS.iconst X3.here hx rfl (hb hby d4_7) ?_
    show Steps p.tables e below (T3.setTop (mkF m 8 #[.val (.ref a1), .val (.int p2)] [(.int (1 : Int32)), (.ref a1), (.int (own_b n g 0 k))])) _
    refine XS.iloadN X3.here hx rfl (hb hby d4_8) rfl ?_
    show Steps p.tables e below (T3.setTop (mkF m 9 #[.val (.ref a1), .val (.int p2)] [(.int p2), (.int (1 : Int32)), (.ref a1), (.int (own_b n g 0 k))])) _
    refine st4 _ ?_
    show Steps p.tables e below (T4.setTop (mkF m 12 #[.val (.ref a1), .val (.int p2)] [(.int (own_b n g 1 k)), (.int (own_b n g 0 k))])) _
    refine XS.iadd X4.here hx rfl (hb hby d4_12) rfl ?_
    show Steps p.tables e below (T4.setTop (mkF m 13 #[.val (.ref a1), .val (.int p2)] [(.int ((own_b n g 0 k) + (own_b n g 1 k)))])) _
    refine XS.aloadN X4.here hx rfl (hb hby d4_13) rfl rfl ?_
    show Steps p.tables e below (T4.setTop (mkF m 14 #[.val (.ref a1), .val (.int p2)] [(.ref a1), (.int ((own_b n g 0 k) + (own_b n g 1 k)))])) _
    refine XS.iconst X4.here hx rfl (hb hby d4_14) ?_
    show Steps p.tables e below (T4.setTop (mkF m 15 #[.val (.ref a1), .val (.int p2)] [(.int (2 : Int32)), (.ref a1), (.int ((own_b n g 0 k) + (own_b n g 1 k)))])) _
    refine XS.iloadN X4.here hx rfl (hb hby d4_15) rfl ?_
    show Steps p.tables e below (T4.setTop (mkF m 16 #[.val (.ref a1), .val (.int p2)] [(.int p2), (.int (2 : Int32)), (.ref a1), (.int ((own_b n g 0 k) + (own_b n g 1 k)))])) _
    refine st5 _ ?_
    show Steps p.tables e below (T5.setTop (mkF m 19 #[.val (.ref a1), .val (.int p2)] [(.int (own_b n g 2 k)), (.int ((own_b n g 0 k) + (own_b n g 1 k)))])) _
    refine XS.iadd X5.here hx rfl (hb hby d4_19) rfl ?_
    show Steps p.tables e below (T5.setTop (mkF m 20 #[.val (.ref a1), .val (.int p2)] [(.int (((own_b n g 0 k) + (own_b n g 1 k)) + (own_b n g 2 k)))])) _
    refine XS.aloadN X5.here hx rfl (hb hby d4_20) rfl rfl ?_
    show Steps p.tables e below (T5.setTop (mkF m 21 #[.val (.ref a1), .val (.int p2)] [(.ref a1), (.int (((own_b n g 0 k) + (own_b n g 1 k)) + (own_b n g 2 k)))])) _
    refine XS.iconst X5.here hx rfl (hb hby d4_21) ?_
    show Steps p.tables e below (T5.setTop (mkF m 22 #[.val (.ref a1), .val (.int p2)] [(.int (3 : Int32)), (.ref a1), (.int (((own_b n g 0 k) + (own_b n g 1 k)) + (own_b n g 2 k)))])) _
    refine XS.iloadN X5.here hx rfl (hb hby d4_22) rfl ?_
    show Steps p.tables e below (T5.setTop (mkF m 23 #[.val (.ref a1), .val (.int p2)] [(.int p2), (.int (3 : Int32)), (.ref a1), (.int (((own_b n g 0 k) + (own_b n g 1 k)) + (own_b n g 2 k)))])) _
    refine st6 _ ?_
    show Steps p.tables e below (T6.setTop (mkF m 26 #[.val (.ref a1), .val (.int p2)] [(.int (own_b n g 3 k)), (.int (((own_b n g 0 k) + (own_b n g 1 k)) + (own_b n g 2 k)))])) _
    refine XS.iadd X6.here hx rfl (hb hby d4_26) rfl ?_
    show Steps p.tables e below (T6.setTop (mkF m 27 #[.val (.ref a1), .val (.int p2)] [(.int ((((own_b n g 0 k) + (own_b n g 1 k)) + (own_b n g 2 k)) + (own_b n g 3 k)))])) _
    refine XS.aloadN X6.here hx rfl (hb hby d4_27) rfl rfl ?_
    show Steps p.tables e below (T6.setTop (mkF m 28 #[.val (.ref a1), .val (.int p2)] [(.ref a1), (.int ((((own_b n g 0 k) + (own_b n g 1 k)) + (own_b n g 2 k)) + (own_b n g 3 k)))])) _
    refine XS.iconst X6.here hx rfl (hb hby d4_28) ?_
    show Steps p.tables e below (T6.setTop (mkF m 29 #[.val (.ref a1), .val (.int p2)] [(.int (4 : Int32)), (.ref a1), (.int ((((own_b n g 0 k) + (own_b n g 1 k)) + (own_b n g 2 k)) + (own_b n g 3 k)))])) _
    refine XS.iloadN X6.here hx rfl (hb hby d4_29) rfl ?_
    show Steps p.tables e below (T6.setTop (mkF m 30 #[.val (.ref a1), .val (.int p2)] [(.int p2), (.int (4 : Int32)), (.ref a1), (.int ((((own_b n g 0 k) + (own_b n g 1 k)) + (own_b n g 2 k)) + (own_b n g 3 k)))])) _
    refine st7 _ ?_
    show Steps p.tables e below (T7.setTop (mkF m 33 #[.val (.ref a1), .val (.int p2)] [(.int (own_b n g 4 k)), (.int ((((own_b n g 0 k) + (own_b n g 1 k)) + (own_b n g 2 k)) + (own_b n g 3 k)))])) _
    refine XS.iadd X7.here hx rfl (hb hby d4_33) rfl ?_
    show Steps p.tables e below (T7.setTop (mkF m 34 #[.val (.ref a1), .val (.int p2)] [(.int (((((own_b n g 0 k) + (own_b n g 1 k)) + (own_b n g 2 k)) + (own_b n g 3 k)) + (own_b n g 4 k)))])) _
    exact retI X7 hx Bd.returns (hb hby d4_34) hr
  · show Qv (some (.int (own_cnt n g k))) h0 n0 _ T7.heap _
    rw [(q7)]
    exact ⟨rfl, N7, rfl⟩
theorem d3_0 : decode method_3_code 0 = .ok (.iload_n 2, 1) := by decide +kernel
theorem d3_1 : decode method_3_code 1 = .ok (.aload_n 0, 1) := by decide +kernel
theorem d3_2 : decode method_3_code 2 = .ok (.arraylength, 1) := by decide +kernel
theorem d3_3 : decode method_3_code 3 = .ok (.if_icmp .ge 14, 3) := by decide +kernel
theorem d3_17 : decode method_3_code 17 = .ok (.iconst 1, 1) := by decide +kernel
theorem d3_18 : decode method_3_code 18 = .ok (.goto 4, 3) := by decide +kernel
theorem d3_22 : decode method_3_code 22 = .ok (.ireturn, 1) := by decide +kernel
theorem pn_3 : plainName "com/example/nuoli/nuoli/service/StrongComponentsMemberStartPinLaw" = true := by first | (simp [plainName, overriddenIn]; done) | decide +kernel
theorem ef_3 (m : MethodId) (x0 : Addr) (x1 : Addr) (x2 : Int32) : entryFrame m #[(.ref x0), (.ref x1), (.int x2)] 3 = mkF m 0 #[.val (.ref x0), .val (.ref x1), .val (.int x2)] [] := by first | (simp [entryFrame, mkF, argsToLocals, Value.category]; done) | rfl
set_option maxRecDepth 65536 in
set_option maxHeartbeats 40000000 in
theorem rm3a (l : Launch) (Z : State) (a0 : Array Value) (hw : ∀ d ∈ tables_1, d.before a0 Z = true) (ws : List Jvm.Cond) (a1 : Addr) (a2 : Addr) (p3 : Int32) (cl_a1 : Cell) (z_a1 : Int32) (h0 : Heap) (n0 : Nat) (Z0 : n0 ≤ h0.size) (Ar_a1 : Arr Z h0 a1 cl_a1 .int) (S_a1 : cl_a1.slots.size = z_a1.toNatClampNeg) (N_a1 : ¬ z_a1 < 0) (hc3 : ¬ (p3 < z_a1)) :
    MetFree l (⟨"com/example/nuoli/nuoli/service/StrongComponentsMemberStartPinLaw", "check", "([I[II)Z"⟩ : MethodName) (head1 (Jvm.Cond.code (⟨"com/example/nuoli/nuoli/service/StrongComponentsMemberStartPinLaw", "check", "([I[II)Z"⟩ : MethodName) method_3_code 3 (some .boolean) :: ws) ({ frames := 2, cells := 0, slots := 0, locals := 29 } : Room)) (fun a U => a = #[(.ref a1), (.ref a2), (.int p3)] ∧ Z.Warmed39 U.vm ∧ U.heap = h0) (fun _ _ _ _ _ => True) (fun _ U o U' => ∃ v L, o = .returned v ∧ Qv (some (.int (1 : Int32))) h0 n0 v U'.heap L ∧ FrameEnd U o U' L ({ frames := 2, cells := 0, slots := 0, locals := 29 } : Room).cells ({ frames := 2, cells := 0, slots := 0, locals := 29 } : Room).slots) := by
  refine MetFree.of_bodySF (plainFor_of_name pn_3) hisR ?_
  intro p e s m args below meth c s₁ Bd hml0 hP hK
  obtain ⟨rfl, hZ, hh⟩ := hP
  have hx := Bd.exec
  have hby := Bd.bytes
  have hml : c.maxLocals = 3 := hml0
  have hown : s.vm.findClass "com/example/nuoli/nuoli/service/StrongComponentsMemberStartPinLaw" = some m.cls := findClass_of_methodNamed Bd.named
  have hnm := (name_of_methodNamed Bd.named Bd.method).1
  have X0 : Stand p l e ({ frames := 2, cells := 0, slots := 0, locals := 29 } : Room) s m #[(.ref a1), (.ref a2), (.int p3)] below meth c s₁ [] 0 0 := Stand.of_body Bd
  have e0 : s₁.heap = h0 := by rw [← hh, Bd.state]; rfl
  have N0 := Fr.nil n0
  have pre0 : ∀ t, Steps p.tables e below (s₁.setTop (mkF m 0 #[.val (.ref a1), .val (.ref a2), .val (.int p3)] [])) t → Steps p.tables e below (s₁.setTop (entryFrame m #[(.ref a1), (.ref a2), (.int p3)] 3)) t := fun t k => castTop (ef_3 m a1 a2 p3) k

  obtain ⟨fs, hr, hrun, hended, hW, hsame⟩ := X0.leave (v := some (.int (1 : Int32))) (fun h => by rw [Bd.returns] at h; cases h)
  refine ⟨_, _, pre0 _ ?_, hrun, hended, _, _, rfl, ?_, ⟨_, rfl⟩, hW, hsame.mono (by decide) (by decide)⟩
  · show Steps p.tables e below (s₁.setTop (mkF m 0 #[.val (.ref a1), .val (.ref a2), .val (.int p3)] [])) _
    refine XS.iloadN X0.here hx rfl (hb hby d3_0) rfl ?_
    show Steps p.tables e below (s₁.setTop (mkF m 1 #[.val (.ref a1), .val (.ref a2), .val (.int p3)] [(.int p3)])) _
    refine XS.aloadN X0.here hx rfl (hb hby d3_1) rfl rfl ?_
    show Steps p.tables e below (s₁.setTop (mkF m 2 #[.val (.ref a1), .val (.ref a2), .val (.int p3)] [(.ref a1), (.int p3)])) _
    refine X0.arraylength hx (by rw [e0]; exact Ar_a1.1) (State.isArrayOf_alike hZ.alike Ar_a1.2.1) (g := (mkF m 2 #[.val (.ref a1), .val (.ref a2), .val (.int p3)] [(.ref a1), (.int p3)])) rfl rfl (hb hby d3_2) _ ?_
    rw [len_of S_a1 N_a1]
    show Steps p.tables e below (s₁.setTop (mkF m 3 #[.val (.ref a1), .val (.ref a2), .val (.int p3)] [(.int z_a1), (.int p3)])) _
    refine XS.icmpYes X0.here hx rfl (pc0 := 3) (pc' := 17) rfl (hb hby d3_3) rfl (flt hc3).2.1 (by decide) (by decide) ?_
    show Steps p.tables e below (s₁.setTop (mkF m 17 #[.val (.ref a1), .val (.ref a2), .val (.int p3)] [])) _
    refine XS.iconst X0.here hx rfl (hb hby d3_17) ?_
    show Steps p.tables e below (s₁.setTop (mkF m 18 #[.val (.ref a1), .val (.ref a2), .val (.int p3)] [(.int (1 : Int32))])) _
    refine XS.goto X0.here hx rfl (pc0 := 18) (pc' := 22) rfl (hb hby d3_18) (by decide) (by decide) ?_
    show Steps p.tables e below (s₁.setTop (mkF m 22 #[.val (.ref a1), .val (.ref a2), .val (.int p3)] [(.int (1 : Int32))])) _
    exact retN X0 hx (t := .boolean) Bd.returns (by simp) (hb hby d3_22) hr
  · show Qv (some (.int (1 : Int32))) h0 n0 _ s₁.heap _
    rw [e0]
    exact ⟨rfl, N0, rfl⟩
theorem d3_6 : decode method_3_code 6 = .ok (.aload_n 0, 1) := by decide +kernel
theorem d3_7 : decode method_3_code 7 = .ok (.iload_n 2, 1) := by decide +kernel
theorem d3_8 : decode method_3_code 8 = .ok (.iaload, 1) := by decide +kernel
theorem d3_9 : decode method_3_code 9 = .ok (.aload_n 1, 1) := by decide +kernel
theorem d3_10 : decode method_3_code 10 = .ok (.iload_n 2, 1) := by decide +kernel
theorem d3_11 : decode method_3_code 11 = .ok (.invokestatic 26, 3) := by decide +kernel
theorem d3_14 : decode method_3_code 14 = .ok (.if_icmp .ne 7, 3) := by decide +kernel
theorem pd_3_3 : parseMethodDescriptor "([II)I" = some ⟨[(.array .int), .int], some .int⟩ := by decide +kernel
set_option maxRecDepth 65536 in
set_option maxHeartbeats 40000000 in
theorem rm3b (l : Launch) (Z : State) (a0 : Array Value) (hw : ∀ d ∈ tables_1, d.before a0 Z = true) (ws : List Jvm.Cond) (a1 : Addr) (a2 : Addr) (p3 : Int32) (cl_a1 : Cell) (z_a1 : Int32) (w4 : Int32) (n k : Nat) (g : Nat → Nat) (h0 : Heap) (n0 : Nat) (Z0 : n0 ≤ h0.size) (hp3 : p3 = Int32.ofNat k) (A_a2 : own_AF Z h0 a2 n (fun j => Int32.ofNat (g j))) (hn : n ≤ 5) (hk : k ≤ 5) (hg : ∀ j, j < n → g j < 2 ^ 31) (Ar_a1 : Arr Z h0 a1 cl_a1 .int) (S_a1 : cl_a1.slots.size = z_a1.toNatClampNeg) (N_a1 : ¬ z_a1 < 0) (hin8 : ¬ (p3 < 0 ∨ cl_a1.slots.size ≤ (p3).toNatClampNeg)) (hat8 : cl_a1.slots[(p3).toNatClampNeg]? = some (.int w4)) (hc3 : p3 < z_a1) (hc14 : w4 = (own_cnt n g k)) :
    MetFree l (⟨"com/example/nuoli/nuoli/service/StrongComponentsMemberStartPinLaw", "check", "([I[II)Z"⟩ : MethodName) (head1 (Jvm.Cond.code (⟨"com/example/nuoli/nuoli/service/StrongComponentsMemberStartPinLaw", "check", "([I[II)Z"⟩ : MethodName) method_3_code 3 (some .boolean) :: ws) ({ frames := 2, cells := 0, slots := 0, locals := 29 } : Room)) (fun a U => a = #[(.ref a1), (.ref a2), (.int p3)] ∧ Z.Warmed39 U.vm ∧ U.heap = h0) (fun _ _ _ _ _ => True) (fun _ U o U' => ∃ v L, o = .returned v ∧ Qv (some (.int (1 : Int32))) h0 n0 v U'.heap L ∧ FrameEnd U o U' L ({ frames := 2, cells := 0, slots := 0, locals := 29 } : Room).cells ({ frames := 2, cells := 0, slots := 0, locals := 29 } : Room).slots) := by
  refine MetFree.of_bodySF (plainFor_of_name pn_3) hisR ?_
  intro p e s m args below meth c s₁ Bd hml0 hP hK
  obtain ⟨rfl, hZ, hh⟩ := hP
  have hx := Bd.exec
  have hby := Bd.bytes
  have hml : c.maxLocals = 3 := hml0
  have hown : s.vm.findClass "com/example/nuoli/nuoli/service/StrongComponentsMemberStartPinLaw" = some m.cls := findClass_of_methodNamed Bd.named
  have hnm := (name_of_methodNamed Bd.named Bd.method).1
  have X0 : Stand p l e ({ frames := 2, cells := 0, slots := 0, locals := 29 } : Room) s m #[(.ref a1), (.ref a2), (.int p3)] below meth c s₁ [] 0 0 := Stand.of_body Bd
  have e0 : s₁.heap = h0 := by rw [← hh, Bd.state]; rfl
  have N0 := Fr.nil n0
  have pre0 : ∀ t, Steps p.tables e below (s₁.setTop (mkF m 0 #[.val (.ref a1), .val (.ref a2), .val (.int p3)] [])) t → Steps p.tables e below (s₁.setTop (entryFrame m #[(.ref a1), (.ref a2), (.int p3)] 3)) t := fun t k => castTop (ef_3 m a1 a2 p3) k
  obtain ⟨_, _, ⟨T5, L5, k5, n5⟩, -, X5, ⟨Lc5, hQ5, l5, y5, z5⟩, st5⟩ := Jvm.LawKit.callS X0 hx (y := (⟨"com/example/nuoli/nuoli/service/StrongComponentsMemberStartPinLaw", "count", "([II)I"⟩ : MethodName)) hown (mvT hZ (hw _ (List.mem_of_getElem? (i := 14) rfl))) (mvT hZ (hw _ (List.mem_of_getElem? (i := 15) rfl))) (mvT hZ (hw _ (List.mem_of_getElem? (i := 12) rfl))) (mvT hZ (hw _ (List.mem_of_getElem? (i := 16) rfl))) (by decide) (backOf (W := 1) (rm4 l Z a0 hw [] a2 p3 n k g h0 n0 Z0 hp3 A_a2 hn hk hg) hZ (hw _ (List.mem_of_getElem? (i := 16) rfl)) (hw _ (List.mem_of_getElem? (i := 12) rfl)) (by decide) (by decide)) (g := (mkF m 11 #[.val (.ref a1), .val (.ref a2), .val (.int p3)] [(.int p3), (.ref a2), (.int w4)])) rfl (by rw [hml]; rfl) (argsL := [(.ref a2), (.int p3)]) (rest := [(.int w4)]) (lenOf pd_3_3 rfl) rfl (by show 2 * 0 + _ ≤ _; exact Nat.le_of_eq rfl) (hb hby d3_11) (fun _ _ => ⟨rfl, e0, (by decide : 0 + 0 ≤ _), (by decide : 0 + 0 ≤ _)⟩)
  dsimp only [Pt.U, Pt.locs, Pt.cells, Pt.slots] at X5 l5 y5 z5 st5 hQ5
  subst l5 y5 z5
  obtain ⟨rfl, N5q, q5⟩ := hQ5
  have N5 := Fr.app N0 N5q
  obtain ⟨fs, hr, hrun, hended, hW, hsame⟩ := X5.leave (v := some (.int (1 : Int32))) (fun h => by rw [Bd.returns] at h; cases h)
  refine ⟨_, _, pre0 _ ?_, hrun, hended, _, _, rfl, ?_, ⟨_, rfl⟩, hW, hsame.mono (by decide) (by decide)⟩
  · show Steps p.tables e below (s₁.setTop (mkF m 0 #[.val (.ref a1), .val (.ref a2), .val (.int p3)] [])) _
    refine XS.iloadN X0.here hx rfl (hb hby d3_0) rfl ?_
    show Steps p.tables e below (s₁.setTop (mkF m 1 #[.val (.ref a1), .val (.ref a2), .val (.int p3)] [(.int p3)])) _
    refine XS.aloadN X0.here hx rfl (hb hby d3_1) rfl rfl ?_
    show Steps p.tables e below (s₁.setTop (mkF m 2 #[.val (.ref a1), .val (.ref a2), .val (.int p3)] [(.ref a1), (.int p3)])) _
    refine X0.arraylength hx (by rw [e0]; exact Ar_a1.1) (State.isArrayOf_alike hZ.alike Ar_a1.2.1) (g := (mkF m 2 #[.val (.ref a1), .val (.ref a2), .val (.int p3)] [(.ref a1), (.int p3)])) rfl rfl (hb hby d3_2) _ ?_
    rw [len_of S_a1 N_a1]
    show Steps p.tables e below (s₁.setTop (mkF m 3 #[.val (.ref a1), .val (.ref a2), .val (.int p3)] [(.int z_a1), (.int p3)])) _
    refine XS.icmpNo X0.here hx rfl (hb hby d3_3) rfl (tlt hc3).2.1 ?_
    show Steps p.tables e below (s₁.setTop (mkF m 6 #[.val (.ref a1), .val (.ref a2), .val (.int p3)] [])) _
    refine XS.aloadN X0.here hx rfl (hb hby d3_6) rfl rfl ?_
    show Steps p.tables e below (s₁.setTop (mkF m 7 #[.val (.ref a1), .val (.ref a2), .val (.int p3)] [(.ref a1)])) _
    refine XS.iloadN X0.here hx rfl (hb hby d3_7) rfl ?_
    show Steps p.tables e below (s₁.setTop (mkF m 8 #[.val (.ref a1), .val (.ref a2), .val (.int p3)] [(.int p3), (.ref a1)])) _
    refine X0.iaload hx (j := p3) (v := (.int w4)) (by rw [e0]; exact Ar_a1.1) (State.isArrayOf_alike hZ.alike Ar_a1.2.1) Ar_a1.2.2 hin8 hat8 (g := (mkF m 8 #[.val (.ref a1), .val (.ref a2), .val (.int p3)] [(.int p3), (.ref a1)])) rfl rfl (hb hby d3_8) _ ?_
    show Steps p.tables e below (s₁.setTop (mkF m 9 #[.val (.ref a1), .val (.ref a2), .val (.int p3)] [(.int w4)])) _
    refine XS.aloadN X0.here hx rfl (hb hby d3_9) rfl rfl ?_
    show Steps p.tables e below (s₁.setTop (mkF m 10 #[.val (.ref a1), .val (.ref a2), .val (.int p3)] [(.ref a2), (.int w4)])) _
    refine XS.iloadN X0.here hx rfl (hb hby d3_10) rfl ?_
    show Steps p.tables e below (s₁.setTop (mkF m 11 #[.val (.ref a1), .val (.ref a2), .val (.int p3)] [(.int p3), (.ref a2), (.int w4)])) _
    refine st5 _ ?_
    show Steps p.tables e below (T5.setTop (mkF m 14 #[.val (.ref a1), .val (.ref a2), .val (.int p3)] [(.int (own_cnt n g k)), (.int w4)])) _
    refine XS.icmpNo X5.here hx rfl (hb hby d3_14) rfl (teq hc14).2 ?_
    show Steps p.tables e below (T5.setTop (mkF m 17 #[.val (.ref a1), .val (.ref a2), .val (.int p3)] [])) _
    refine XS.iconst X5.here hx rfl (hb hby d3_17) ?_
    show Steps p.tables e below (T5.setTop (mkF m 18 #[.val (.ref a1), .val (.ref a2), .val (.int p3)] [(.int (1 : Int32))])) _
    refine XS.goto X5.here hx rfl (pc0 := 18) (pc' := 22) rfl (hb hby d3_18) (by decide) (by decide) ?_
    show Steps p.tables e below (T5.setTop (mkF m 22 #[.val (.ref a1), .val (.ref a2), .val (.int p3)] [(.int (1 : Int32))])) _
    exact retN X5 hx (t := .boolean) Bd.returns (by simp) (hb hby d3_22) hr
  · show Qv (some (.int (1 : Int32))) h0 n0 _ T5.heap _
    rw [(q5)]
    exact ⟨rfl, N5, rfl⟩
theorem rm3 (l : Launch) (Z : State) (a0 : Array Value) (hw : ∀ d ∈ tables_1, d.before a0 Z = true) (ws : List Jvm.Cond) (a1 : Addr) (a2 : Addr) (p3 : Int32) (n c k : Nat) (g : Nat → Nat) (f : Nat → Int32) (h0 : Heap) (n0 : Nat) (Z0 : n0 ≤ h0.size) (hp3 : p3 = Int32.ofNat k) (A_a1 : own_AF Z h0 a1 (c + 1) f) (A_a2 : own_AF Z h0 a2 n (fun j => Int32.ofNat (g j))) (hn : n ≤ 5) (hc : c ≤ 5) (hk : k ≤ 5) (hg : ∀ j, j < n → g j < 2 ^ 31) (hf : k < c + 1 → f k = own_cnt n g k) :
    MetFree l (⟨"com/example/nuoli/nuoli/service/StrongComponentsMemberStartPinLaw", "check", "([I[II)Z"⟩ : MethodName) (head1 (Jvm.Cond.code (⟨"com/example/nuoli/nuoli/service/StrongComponentsMemberStartPinLaw", "check", "([I[II)Z"⟩ : MethodName) method_3_code 3 (some .boolean) :: ws) ({ frames := 2, cells := 0, slots := 0, locals := 29 } : Room)) (fun a U => a = #[(.ref a1), (.ref a2), (.int p3)] ∧ Z.Warmed39 U.vm ∧ U.heap = h0) (fun _ _ _ _ _ => True) (fun _ U o U' => ∃ v L, o = .returned v ∧ Qv (some (.int (1 : Int32))) h0 n0 v U'.heap L ∧ FrameEnd U o U' L ({ frames := 2, cells := 0, slots := 0, locals := 29 } : Room).cells ({ frames := 2, cells := 0, slots := 0, locals := 29 } : Room).slots) := by
  obtain ⟨cl, Ar, S, H⟩ := A_a1
  have S' : cl.slots.size = (Int32.ofNat (c + 1)).toNatClampNeg := by rw [own_clamp (by omega)]; exact S
  have M : ¬ Int32.ofNat (c + 1) < 0 := own_notneg (by omega)
  by_cases c3 : k < c + 1
  · have q3 : p3 < Int32.ofNat (c + 1) := by rw [hp3]; exact (own_ltN (by omega) (by omega)).mpr c3
    have hin : ¬ (p3 < 0 ∨ cl.slots.size ≤ p3.toNatClampNeg) := by rw [hp3]; exact own_inb S c3 (by omega)
    have hat : cl.slots[p3.toNatClampNeg]? = some (.int (f k)) := by rw [hp3, own_clamp (by omega)]; exact H k c3
    exact rm3b l Z a0 hw ws a1 a2 p3 cl (Int32.ofNat (c + 1)) (f k) n k g h0 n0 Z0 hp3 A_a2 hn hk hg Ar S' M hin hat q3 (hf c3)
  · exact rm3a l Z a0 hw ws a1 a2 p3 cl (Int32.ofNat (c + 1)) h0 n0 Z0 Ar S' M (fun q => c3 ((own_ltN (by omega) (by omega)).mp (by rw [← hp3]; exact q)))
theorem d2_8 : decode prog_265_method_3_code 8 = .ok (.aload_n 3, 1) := by decide +kernel
theorem d2_9 : decode prog_265_method_3_code 9 = .ok (.arraylength, 1) := by decide +kernel
theorem d2_10 : decode prog_265_method_3_code 10 = .ok (.istore 4, 2) := by decide +kernel
theorem d2_12 : decode prog_265_method_3_code 12 = .ok (.iconst 0, 1) := by decide +kernel
theorem d2_13 : decode prog_265_method_3_code 13 = .ok (.istore 5, 2) := by decide +kernel
theorem os2_10 {s0 : Slot} {s1 : Slot} {s2 : Slot} {z3 : Value} {s4 : Slot} {s5 : Slot} {s6 : Slot} {v : Int32} (h : One s4) : storeLocals #[s0, s1, s2, .val z3, s4, s5, s6] 4 (.int v) = some #[s0, s1, s2, .val z3, .val (.int v), s5, s6] := by
  rcases h with rfl | ⟨w, rfl, hw⟩
  · rfl
  · cases w <;> first | rfl | (simp [Value.category] at hw)
theorem os2_13 {s0 : Slot} {s1 : Slot} {s2 : Slot} {z3 : Value} {z4 : Value} {s5 : Slot} {s6 : Slot} {v : Int32} (h : One s5) : storeLocals #[s0, s1, s2, .val z3, .val z4, s5, s6] 5 (.int v) = some #[s0, s1, s2, .val z3, .val z4, .val (.int v), s6] := by
  rcases h with rfl | ⟨w, rfl, hw⟩
  · rfl
  · cases w <;> first | rfl | (simp [Value.category] at hw)
set_option maxRecDepth 65536 in
set_option maxHeartbeats 40000000 in
theorem own_p8 {p : Program} {l : Launch} {e : Env} {R : Room} {s : State} {m : MethodId} {args : Array Value} {below : List Frame} {meth : Method} {c : Code} {T0 : State} {locs : List Loc} {cells slots : Nat} {Z : State} {a0 : Array Value} {h0 : Heap} (s0 : Slot) (s1 : Slot) (s2 : Slot) (o3 : Addr) (s4 : Slot) (s5 : Slot) (s6 : Slot) (cl_o3 : Cell) (z_o3 : Int32)
    (X0 : Stand p l e R s m args below meth c T0 locs cells slots) (hx : p.tables.exec = Jvm.exec) (hZ : Z.Warmed39 s.vm) (hw : ∀ d ∈ tables_1, d.before a0 Z = true) (hby : c.code = prog_265_method_3_code) (hml : c.maxLocals = 7) (hown : s.vm.findClass "com/example/nuoli/nuoli/service/StrongComponents" = some m.cls) (e0 : T0.heap = h0) (Ar_o3 : Arr Z h0 o3 cl_o3 .int) (S_o3 : cl_o3.slots.size = z_o3.toNatClampNeg) (N_o3 : ¬ z_o3 < 0) (hs4 : One s4) (hs5 : One s5) :
    ∃ (T' : State), Stand p l e R s m args below meth c T' locs cells slots ∧ T'.heap = h0 ∧
      ∀ target, Steps p.tables e below (T'.setTop (mkF m 15 #[s0, s1, s2, .val (.ref o3), .val (.int z_o3), .val (.int (0 : Int32)), s6] [])) target → Steps p.tables e below (T0.setTop (mkF m 8 #[s0, s1, s2, .val (.ref o3), s4, s5, s6] [])) target := by

  refine ⟨T0, X0, e0, fun target kt => ?_⟩
  show Steps p.tables e below (T0.setTop (mkF m 8 #[s0, s1, s2, .val (.ref o3), s4, s5, s6] [])) _
  refine XS.aloadN X0.here hx rfl (hb hby d2_8) rfl rfl ?_
  show Steps p.tables e below (T0.setTop (mkF m 9 #[s0, s1, s2, .val (.ref o3), s4, s5, s6] [(.ref o3)])) _
  refine X0.arraylength hx (by rw [e0]; exact Ar_o3.1) (State.isArrayOf_alike hZ.alike Ar_o3.2.1) (g := (mkF m 9 #[s0, s1, s2, .val (.ref o3), s4, s5, s6] [(.ref o3)])) rfl rfl (hb hby d2_9) _ ?_
  rw [len_of S_o3 N_o3]
  show Steps p.tables e below (T0.setTop (mkF m 10 #[s0, s1, s2, .val (.ref o3), s4, s5, s6] [(.int z_o3)])) _
  refine XS.istore X0.here hx rfl (hb hby d2_10) rfl (l' := #[s0, s1, s2, .val (.ref o3), .val (.int z_o3), s5, s6]) (os2_10 hs4) ?_
  show Steps p.tables e below (T0.setTop (mkF m 12 #[s0, s1, s2, .val (.ref o3), .val (.int z_o3), s5, s6] [])) _
  refine XS.iconst X0.here hx rfl (hb hby d2_12) ?_
  show Steps p.tables e below (T0.setTop (mkF m 13 #[s0, s1, s2, .val (.ref o3), .val (.int z_o3), s5, s6] [(.int (0 : Int32))])) _
  refine XS.istore X0.here hx rfl (hb hby d2_13) rfl (l' := #[s0, s1, s2, .val (.ref o3), .val (.int z_o3), .val (.int (0 : Int32)), s6]) (os2_13 hs5) ?_
  exact kt
theorem d2_15 : decode prog_265_method_3_code 15 = .ok (.iload 5, 2) := by decide +kernel
theorem d2_17 : decode prog_265_method_3_code 17 = .ok (.iload 4, 2) := by decide +kernel
theorem d2_19 : decode prog_265_method_3_code 19 = .ok (.if_icmp .ge 25, 3) := by decide +kernel
theorem d2_22 : decode prog_265_method_3_code 22 = .ok (.aload_n 3, 1) := by decide +kernel
theorem d2_23 : decode prog_265_method_3_code 23 = .ok (.iload 5, 2) := by decide +kernel
theorem d2_25 : decode prog_265_method_3_code 25 = .ok (.iaload, 1) := by decide +kernel
theorem d2_26 : decode prog_265_method_3_code 26 = .ok (.istore 6, 2) := by decide +kernel
theorem d2_28 : decode prog_265_method_3_code 28 = .ok (.aload_n 2, 1) := by decide +kernel
theorem d2_29 : decode prog_265_method_3_code 29 = .ok (.iload 6, 2) := by decide +kernel
theorem d2_31 : decode prog_265_method_3_code 31 = .ok (.iconst 1, 1) := by decide +kernel
theorem d2_32 : decode prog_265_method_3_code 32 = .ok (.iadd, 1) := by decide +kernel
theorem d2_33 : decode prog_265_method_3_code 33 = .ok (.dup2, 1) := by decide +kernel
theorem d2_34 : decode prog_265_method_3_code 34 = .ok (.iaload, 1) := by decide +kernel
theorem d2_35 : decode prog_265_method_3_code 35 = .ok (.iconst 1, 1) := by decide +kernel
theorem d2_36 : decode prog_265_method_3_code 36 = .ok (.iadd, 1) := by decide +kernel
theorem d2_37 : decode prog_265_method_3_code 37 = .ok (.iastore, 1) := by decide +kernel
theorem d2_38 : decode prog_265_method_3_code 38 = .ok (.iinc 5 1, 3) := by decide +kernel
theorem d2_41 : decode prog_265_method_3_code 41 = .ok (.goto (-26), 3) := by decide +kernel
theorem os2_26 {s0 : Slot} {s1 : Slot} {z2 : Value} {z3 : Value} {z4 : Value} {z5 : Value} {s6 : Slot} {v : Int32} (h : One s6) : storeLocals #[s0, s1, .val z2, .val z3, .val z4, .val z5, s6] 6 (.int v) = some #[s0, s1, .val z2, .val z3, .val z4, .val z5, .val (.int v)] := by
  rcases h with rfl | ⟨w, rfl, hw⟩
  · rfl
  · cases w <;> first | rfl | (simp [Value.category] at hw)
set_option maxRecDepth 65536 in
set_option maxHeartbeats 40000000 in
theorem own_t1 {p : Program} {l : Launch} {e : Env} {R : Room} {s : State} {m : MethodId} {args : Array Value} {below : List Frame} {meth : Method} {c : Code} {T0 : State} {locs : List Loc} {cells slots : Nat} {Z : State} {a0 : Array Value} {h0 : Heap} (s0 : Slot) (s1 : Slot) (o2 : Addr) (o3 : Addr) (i4 : Int32) (i5 : Int32) (s6 : Slot) (w3 : Int32) (cl_o3 : Cell) (w4 : Int32) (cl_o2 : Cell)
    (X0 : Stand p l e R s m args below meth c T0 locs cells slots) (hx : p.tables.exec = Jvm.exec) (hZ : Z.Warmed39 s.vm) (hw : ∀ d ∈ tables_1, d.before a0 Z = true) (hby : c.code = prog_265_method_3_code) (hml : c.maxLocals = 7) (hown : s.vm.findClass "com/example/nuoli/nuoli/service/StrongComponents" = some m.cls) (e0 : T0.heap = h0) (Ar_o3 : Arr Z h0 o3 cl_o3 .int) (hin25 : ¬ (i5 < 0 ∨ cl_o3.slots.size ≤ (i5).toNatClampNeg)) (hat25 : cl_o3.slots[(i5).toNatClampNeg]? = some (.int w3)) (hs6 : One s6) (Ar_o2 : Arr Z h0 o2 cl_o2 .int) (hin34 : ¬ ((w3 + (1 : Int32)) < 0 ∨ cl_o2.slots.size ≤ ((w3 + (1 : Int32))).toNatClampNeg)) (hat34 : cl_o2.slots[((w3 + (1 : Int32))).toNatClampNeg]? = some (.int w4)) (hin37 : ¬ ((w3 + (1 : Int32)) < 0 ∨ cl_o2.slots.size ≤ ((w3 + (1 : Int32))).toNatClampNeg)) (hc19 : i5 < i4) :
    ∃ (T' : State) (h' : Heap), Stand p l e R s m args below meth c T' (locs ++ [⟨o2, ((w3 + (1 : Int32))).toNatClampNeg⟩]) cells slots ∧ T'.heap = h' ∧ Wr h0 h' o2 ((w3 + (1 : Int32))).toNatClampNeg (.int (w4 + (1 : Int32))) ∧
      ∀ target, Steps p.tables e below (T'.setTop (mkF m 15 #[s0, s1, .val (.ref o2), .val (.ref o3), .val (.int i4), .val (.int (i5 + (1 : Int32))), .val (.int w3)] [])) target → Steps p.tables e below (T0.setTop (mkF m 15 #[s0, s1, .val (.ref o2), .val (.ref o3), .val (.int i4), .val (.int i5), s6] [])) target := by
  obtain ⟨T5, h5, X5, e5, W5, st5⟩ := stI X0 hx hZ e0 Ar_o2 (j := (w3 + (1 : Int32))) hin37 (g := (mkF m 37 #[s0, s1, .val (.ref o2), .val (.ref o3), .val (.int i4), .val (.int i5), .val (.int w3)] [(.int (w4 + (1 : Int32))), (.int (w3 + (1 : Int32))), (.ref o2)])) rfl rfl (hb hby d2_37)
  refine ⟨T5, _, X5, e5, W5, fun target kt => ?_⟩
  show Steps p.tables e below (T0.setTop (mkF m 15 #[s0, s1, .val (.ref o2), .val (.ref o3), .val (.int i4), .val (.int i5), s6] [])) _
  refine XS.iload X0.here hx rfl (hb hby d2_15) rfl ?_
  show Steps p.tables e below (T0.setTop (mkF m 17 #[s0, s1, .val (.ref o2), .val (.ref o3), .val (.int i4), .val (.int i5), s6] [(.int i5)])) _
  refine XS.iload X0.here hx rfl (hb hby d2_17) rfl ?_
  show Steps p.tables e below (T0.setTop (mkF m 19 #[s0, s1, .val (.ref o2), .val (.ref o3), .val (.int i4), .val (.int i5), s6] [(.int i4), (.int i5)])) _
  refine XS.icmpNo X0.here hx rfl (hb hby d2_19) rfl (tlt hc19).2.1 ?_
  show Steps p.tables e below (T0.setTop (mkF m 22 #[s0, s1, .val (.ref o2), .val (.ref o3), .val (.int i4), .val (.int i5), s6] [])) _
  refine XS.aloadN X0.here hx rfl (hb hby d2_22) rfl rfl ?_
  show Steps p.tables e below (T0.setTop (mkF m 23 #[s0, s1, .val (.ref o2), .val (.ref o3), .val (.int i4), .val (.int i5), s6] [(.ref o3)])) _
  refine XS.iload X0.here hx rfl (hb hby d2_23) rfl ?_
  show Steps p.tables e below (T0.setTop (mkF m 25 #[s0, s1, .val (.ref o2), .val (.ref o3), .val (.int i4), .val (.int i5), s6] [(.int i5), (.ref o3)])) _
  refine X0.iaload hx (j := i5) (v := (.int w3)) (by rw [e0]; exact Ar_o3.1) (State.isArrayOf_alike hZ.alike Ar_o3.2.1) Ar_o3.2.2 hin25 hat25 (g := (mkF m 25 #[s0, s1, .val (.ref o2), .val (.ref o3), .val (.int i4), .val (.int i5), s6] [(.int i5), (.ref o3)])) rfl rfl (hb hby d2_25) _ ?_
  show Steps p.tables e below (T0.setTop (mkF m 26 #[s0, s1, .val (.ref o2), .val (.ref o3), .val (.int i4), .val (.int i5), s6] [(.int w3)])) _
  refine XS.istore X0.here hx rfl (hb hby d2_26) rfl (l' := #[s0, s1, .val (.ref o2), .val (.ref o3), .val (.int i4), .val (.int i5), .val (.int w3)]) (os2_26 hs6) ?_
  show Steps p.tables e below (T0.setTop (mkF m 28 #[s0, s1, .val (.ref o2), .val (.ref o3), .val (.int i4), .val (.int i5), .val (.int w3)] [])) _
  refine XS.aloadN X0.here hx rfl (hb hby d2_28) rfl rfl ?_
  show Steps p.tables e below (T0.setTop (mkF m 29 #[s0, s1, .val (.ref o2), .val (.ref o3), .val (.int i4), .val (.int i5), .val (.int w3)] [(.ref o2)])) _
  refine XS.iload X0.here hx rfl (hb hby d2_29) rfl ?_
  show Steps p.tables e below (T0.setTop (mkF m 31 #[s0, s1, .val (.ref o2), .val (.ref o3), .val (.int i4), .val (.int i5), .val (.int w3)] [(.int w3), (.ref o2)])) _
  refine XS.iconst X0.here hx rfl (hb hby d2_31) ?_
  show Steps p.tables e below (T0.setTop (mkF m 32 #[s0, s1, .val (.ref o2), .val (.ref o3), .val (.int i4), .val (.int i5), .val (.int w3)] [(.int (1 : Int32)), (.int w3), (.ref o2)])) _
  refine XS.iadd X0.here hx rfl (hb hby d2_32) rfl ?_
  show Steps p.tables e below (T0.setTop (mkF m 33 #[s0, s1, .val (.ref o2), .val (.ref o3), .val (.int i4), .val (.int i5), .val (.int w3)] [(.int (w3 + (1 : Int32))), (.ref o2)])) _
  jvm_step X0.here [X0.here.top, hx, (hb hby d2_33), Value.category]
  show Steps p.tables e below (T0.setTop (mkF m 34 #[s0, s1, .val (.ref o2), .val (.ref o3), .val (.int i4), .val (.int i5), .val (.int w3)] [(.int (w3 + (1 : Int32))), (.ref o2), (.int (w3 + (1 : Int32))), (.ref o2)])) _
  refine X0.iaload hx (j := (w3 + (1 : Int32))) (v := (.int w4)) (by rw [e0]; exact Ar_o2.1) (State.isArrayOf_alike hZ.alike Ar_o2.2.1) Ar_o2.2.2 hin34 hat34 (g := (mkF m 34 #[s0, s1, .val (.ref o2), .val (.ref o3), .val (.int i4), .val (.int i5), .val (.int w3)] [(.int (w3 + (1 : Int32))), (.ref o2), (.int (w3 + (1 : Int32))), (.ref o2)])) rfl rfl (hb hby d2_34) _ ?_
  show Steps p.tables e below (T0.setTop (mkF m 35 #[s0, s1, .val (.ref o2), .val (.ref o3), .val (.int i4), .val (.int i5), .val (.int w3)] [(.int w4), (.int (w3 + (1 : Int32))), (.ref o2)])) _
  refine XS.iconst X0.here hx rfl (hb hby d2_35) ?_
  show Steps p.tables e below (T0.setTop (mkF m 36 #[s0, s1, .val (.ref o2), .val (.ref o3), .val (.int i4), .val (.int i5), .val (.int w3)] [(.int (1 : Int32)), (.int w4), (.int (w3 + (1 : Int32))), (.ref o2)])) _
  refine XS.iadd X0.here hx rfl (hb hby d2_36) rfl ?_
  show Steps p.tables e below (T0.setTop (mkF m 37 #[s0, s1, .val (.ref o2), .val (.ref o3), .val (.int i4), .val (.int i5), .val (.int w3)] [(.int (w4 + (1 : Int32))), (.int (w3 + (1 : Int32))), (.ref o2)])) _
  refine st5 _ ?_
  show Steps p.tables e below (T5.setTop (mkF m 38 #[s0, s1, .val (.ref o2), .val (.ref o3), .val (.int i4), .val (.int i5), .val (.int w3)] [])) _
  refine XS.iinc X5.here hx rfl (hb hby d2_38) rfl (l' := #[s0, s1, .val (.ref o2), .val (.ref o3), .val (.int i4), .val (.int (i5 + (1 : Int32))), .val (.int w3)]) rfl ?_
  show Steps p.tables e below (T5.setTop (mkF m 41 #[s0, s1, .val (.ref o2), .val (.ref o3), .val (.int i4), .val (.int (i5 + (1 : Int32))), .val (.int w3)] [])) _
  refine XS.goto X5.here hx rfl (pc0 := 41) (pc' := 15) rfl (hb hby d2_41) (by decide) (by decide) ?_
  exact kt
set_option maxRecDepth 65536 in
set_option maxHeartbeats 40000000 in
theorem own_l1 {p : Program} {l : Launch} {e : Env} {R : Room} {s : State} {m : MethodId} {args : Array Value} {below : List Frame} {meth : Method} {c : Code} {T0 : State} {locs : List Loc} {cells slots : Nat} {Z : State} {a0 : Array Value} {h0 : Heap} (s0 : Slot) (s1 : Slot) (o2 : Addr) (o3 : Addr) (i4 : Int32) (i5 : Int32) (s6 : Slot)
    (X0 : Stand p l e R s m args below meth c T0 locs cells slots) (hx : p.tables.exec = Jvm.exec) (hZ : Z.Warmed39 s.vm) (hw : ∀ d ∈ tables_1, d.before a0 Z = true) (hby : c.code = prog_265_method_3_code) (hml : c.maxLocals = 7) (hown : s.vm.findClass "com/example/nuoli/nuoli/service/StrongComponents" = some m.cls) (e0 : T0.heap = h0) (hc19 : ¬ (i5 < i4)) :
    ∃ (T' : State), Stand p l e R s m args below meth c T' locs cells slots ∧ T'.heap = h0 ∧
      ∀ target, Steps p.tables e below (T'.setTop (mkF m 44 #[s0, s1, .val (.ref o2), .val (.ref o3), .val (.int i4), .val (.int i5), s6] [])) target → Steps p.tables e below (T0.setTop (mkF m 15 #[s0, s1, .val (.ref o2), .val (.ref o3), .val (.int i4), .val (.int i5), s6] [])) target := by

  refine ⟨T0, X0, e0, fun target kt => ?_⟩
  show Steps p.tables e below (T0.setTop (mkF m 15 #[s0, s1, .val (.ref o2), .val (.ref o3), .val (.int i4), .val (.int i5), s6] [])) _
  refine XS.iload X0.here hx rfl (hb hby d2_15) rfl ?_
  show Steps p.tables e below (T0.setTop (mkF m 17 #[s0, s1, .val (.ref o2), .val (.ref o3), .val (.int i4), .val (.int i5), s6] [(.int i5)])) _
  refine XS.iload X0.here hx rfl (hb hby d2_17) rfl ?_
  show Steps p.tables e below (T0.setTop (mkF m 19 #[s0, s1, .val (.ref o2), .val (.ref o3), .val (.int i4), .val (.int i5), s6] [(.int i4), (.int i5)])) _
  refine XS.icmpYes X0.here hx rfl (pc0 := 19) (pc' := 44) rfl (hb hby d2_19) rfl (flt hc19).2.1 (by decide) (by decide) ?_
  exact kt
theorem d2_46 : decode prog_265_method_3_code 46 = .ok (.iload_n 3, 1) := by decide +kernel
theorem d2_47 : decode prog_265_method_3_code 47 = .ok (.iload_n 1, 1) := by decide +kernel
theorem d2_48 : decode prog_265_method_3_code 48 = .ok (.if_icmp .ge 20, 3) := by decide +kernel
theorem d2_51 : decode prog_265_method_3_code 51 = .ok (.aload_n 2, 1) := by decide +kernel
theorem d2_52 : decode prog_265_method_3_code 52 = .ok (.iload_n 3, 1) := by decide +kernel
theorem d2_53 : decode prog_265_method_3_code 53 = .ok (.iconst 1, 1) := by decide +kernel
theorem d2_54 : decode prog_265_method_3_code 54 = .ok (.iadd, 1) := by decide +kernel
theorem d2_55 : decode prog_265_method_3_code 55 = .ok (.dup2, 1) := by decide +kernel
theorem d2_56 : decode prog_265_method_3_code 56 = .ok (.iaload, 1) := by decide +kernel
theorem d2_57 : decode prog_265_method_3_code 57 = .ok (.aload_n 2, 1) := by decide +kernel
theorem d2_58 : decode prog_265_method_3_code 58 = .ok (.iload_n 3, 1) := by decide +kernel
theorem d2_59 : decode prog_265_method_3_code 59 = .ok (.iaload, 1) := by decide +kernel
theorem d2_60 : decode prog_265_method_3_code 60 = .ok (.iadd, 1) := by decide +kernel
theorem d2_61 : decode prog_265_method_3_code 61 = .ok (.iastore, 1) := by decide +kernel
theorem d2_62 : decode prog_265_method_3_code 62 = .ok (.iinc 3 1, 3) := by decide +kernel
theorem d2_65 : decode prog_265_method_3_code 65 = .ok (.goto (-19), 3) := by decide +kernel
set_option maxRecDepth 65536 in
set_option maxHeartbeats 40000000 in
theorem own_t2 {p : Program} {l : Launch} {e : Env} {R : Room} {s : State} {m : MethodId} {args : Array Value} {below : List Frame} {meth : Method} {c : Code} {T0 : State} {locs : List Loc} {cells slots : Nat} {Z : State} {a0 : Array Value} {h0 : Heap} (s0 : Slot) (i1 : Int32) (o2 : Addr) (i3 : Int32) (s4 : Slot) (s5 : Slot) (s6 : Slot) (w3 : Int32) (cl_o2 : Cell) (w4 : Int32)
    (X0 : Stand p l e R s m args below meth c T0 locs cells slots) (hx : p.tables.exec = Jvm.exec) (hZ : Z.Warmed39 s.vm) (hw : ∀ d ∈ tables_1, d.before a0 Z = true) (hby : c.code = prog_265_method_3_code) (hml : c.maxLocals = 7) (hown : s.vm.findClass "com/example/nuoli/nuoli/service/StrongComponents" = some m.cls) (e0 : T0.heap = h0) (Ar_o2 : Arr Z h0 o2 cl_o2 .int) (hin56 : ¬ ((i3 + (1 : Int32)) < 0 ∨ cl_o2.slots.size ≤ ((i3 + (1 : Int32))).toNatClampNeg)) (hat56 : cl_o2.slots[((i3 + (1 : Int32))).toNatClampNeg]? = some (.int w3)) (hin59 : ¬ (i3 < 0 ∨ cl_o2.slots.size ≤ (i3).toNatClampNeg)) (hat59 : cl_o2.slots[(i3).toNatClampNeg]? = some (.int w4)) (hin61 : ¬ ((i3 + (1 : Int32)) < 0 ∨ cl_o2.slots.size ≤ ((i3 + (1 : Int32))).toNatClampNeg)) (hc48 : i3 < i1) :
    ∃ (T' : State) (h' : Heap), Stand p l e R s m args below meth c T' (locs ++ [⟨o2, ((i3 + (1 : Int32))).toNatClampNeg⟩]) cells slots ∧ T'.heap = h' ∧ Wr h0 h' o2 ((i3 + (1 : Int32))).toNatClampNeg (.int (w3 + w4)) ∧
      ∀ target, Steps p.tables e below (T'.setTop (mkF m 46 #[s0, .val (.int i1), .val (.ref o2), .val (.int (i3 + (1 : Int32))), s4, s5, s6] [])) target → Steps p.tables e below (T0.setTop (mkF m 46 #[s0, .val (.int i1), .val (.ref o2), .val (.int i3), s4, s5, s6] [])) target := by
  obtain ⟨T5, h5, X5, e5, W5, st5⟩ := stI X0 hx hZ e0 Ar_o2 (j := (i3 + (1 : Int32))) hin61 (g := (mkF m 61 #[s0, .val (.int i1), .val (.ref o2), .val (.int i3), s4, s5, s6] [(.int (w3 + w4)), (.int (i3 + (1 : Int32))), (.ref o2)])) rfl rfl (hb hby d2_61)
  refine ⟨T5, _, X5, e5, W5, fun target kt => ?_⟩
  show Steps p.tables e below (T0.setTop (mkF m 46 #[s0, .val (.int i1), .val (.ref o2), .val (.int i3), s4, s5, s6] [])) _
  refine XS.iloadN X0.here hx rfl (hb hby d2_46) rfl ?_
  show Steps p.tables e below (T0.setTop (mkF m 47 #[s0, .val (.int i1), .val (.ref o2), .val (.int i3), s4, s5, s6] [(.int i3)])) _
  refine XS.iloadN X0.here hx rfl (hb hby d2_47) rfl ?_
  show Steps p.tables e below (T0.setTop (mkF m 48 #[s0, .val (.int i1), .val (.ref o2), .val (.int i3), s4, s5, s6] [(.int i1), (.int i3)])) _
  refine XS.icmpNo X0.here hx rfl (hb hby d2_48) rfl (tlt hc48).2.1 ?_
  show Steps p.tables e below (T0.setTop (mkF m 51 #[s0, .val (.int i1), .val (.ref o2), .val (.int i3), s4, s5, s6] [])) _
  refine XS.aloadN X0.here hx rfl (hb hby d2_51) rfl rfl ?_
  show Steps p.tables e below (T0.setTop (mkF m 52 #[s0, .val (.int i1), .val (.ref o2), .val (.int i3), s4, s5, s6] [(.ref o2)])) _
  refine XS.iloadN X0.here hx rfl (hb hby d2_52) rfl ?_
  show Steps p.tables e below (T0.setTop (mkF m 53 #[s0, .val (.int i1), .val (.ref o2), .val (.int i3), s4, s5, s6] [(.int i3), (.ref o2)])) _
  refine XS.iconst X0.here hx rfl (hb hby d2_53) ?_
  show Steps p.tables e below (T0.setTop (mkF m 54 #[s0, .val (.int i1), .val (.ref o2), .val (.int i3), s4, s5, s6] [(.int (1 : Int32)), (.int i3), (.ref o2)])) _
  refine XS.iadd X0.here hx rfl (hb hby d2_54) rfl ?_
  show Steps p.tables e below (T0.setTop (mkF m 55 #[s0, .val (.int i1), .val (.ref o2), .val (.int i3), s4, s5, s6] [(.int (i3 + (1 : Int32))), (.ref o2)])) _
  jvm_step X0.here [X0.here.top, hx, (hb hby d2_55), Value.category]
  show Steps p.tables e below (T0.setTop (mkF m 56 #[s0, .val (.int i1), .val (.ref o2), .val (.int i3), s4, s5, s6] [(.int (i3 + (1 : Int32))), (.ref o2), (.int (i3 + (1 : Int32))), (.ref o2)])) _
  refine X0.iaload hx (j := (i3 + (1 : Int32))) (v := (.int w3)) (by rw [e0]; exact Ar_o2.1) (State.isArrayOf_alike hZ.alike Ar_o2.2.1) Ar_o2.2.2 hin56 hat56 (g := (mkF m 56 #[s0, .val (.int i1), .val (.ref o2), .val (.int i3), s4, s5, s6] [(.int (i3 + (1 : Int32))), (.ref o2), (.int (i3 + (1 : Int32))), (.ref o2)])) rfl rfl (hb hby d2_56) _ ?_
  show Steps p.tables e below (T0.setTop (mkF m 57 #[s0, .val (.int i1), .val (.ref o2), .val (.int i3), s4, s5, s6] [(.int w3), (.int (i3 + (1 : Int32))), (.ref o2)])) _
  refine XS.aloadN X0.here hx rfl (hb hby d2_57) rfl rfl ?_
  show Steps p.tables e below (T0.setTop (mkF m 58 #[s0, .val (.int i1), .val (.ref o2), .val (.int i3), s4, s5, s6] [(.ref o2), (.int w3), (.int (i3 + (1 : Int32))), (.ref o2)])) _
  refine XS.iloadN X0.here hx rfl (hb hby d2_58) rfl ?_
  show Steps p.tables e below (T0.setTop (mkF m 59 #[s0, .val (.int i1), .val (.ref o2), .val (.int i3), s4, s5, s6] [(.int i3), (.ref o2), (.int w3), (.int (i3 + (1 : Int32))), (.ref o2)])) _
  refine X0.iaload hx (j := i3) (v := (.int w4)) (by rw [e0]; exact Ar_o2.1) (State.isArrayOf_alike hZ.alike Ar_o2.2.1) Ar_o2.2.2 hin59 hat59 (g := (mkF m 59 #[s0, .val (.int i1), .val (.ref o2), .val (.int i3), s4, s5, s6] [(.int i3), (.ref o2), (.int w3), (.int (i3 + (1 : Int32))), (.ref o2)])) rfl rfl (hb hby d2_59) _ ?_
  show Steps p.tables e below (T0.setTop (mkF m 60 #[s0, .val (.int i1), .val (.ref o2), .val (.int i3), s4, s5, s6] [(.int w4), (.int w3), (.int (i3 + (1 : Int32))), (.ref o2)])) _
  refine XS.iadd X0.here hx rfl (hb hby d2_60) rfl ?_
  show Steps p.tables e below (T0.setTop (mkF m 61 #[s0, .val (.int i1), .val (.ref o2), .val (.int i3), s4, s5, s6] [(.int (w3 + w4)), (.int (i3 + (1 : Int32))), (.ref o2)])) _
  refine st5 _ ?_
  show Steps p.tables e below (T5.setTop (mkF m 62 #[s0, .val (.int i1), .val (.ref o2), .val (.int i3), s4, s5, s6] [])) _
  refine XS.iinc X5.here hx rfl (hb hby d2_62) rfl (l' := #[s0, .val (.int i1), .val (.ref o2), .val (.int (i3 + (1 : Int32))), s4, s5, s6]) rfl ?_
  show Steps p.tables e below (T5.setTop (mkF m 65 #[s0, .val (.int i1), .val (.ref o2), .val (.int (i3 + (1 : Int32))), s4, s5, s6] [])) _
  refine XS.goto X5.here hx rfl (pc0 := 65) (pc' := 46) rfl (hb hby d2_65) (by decide) (by decide) ?_
  exact kt
set_option maxRecDepth 65536 in
set_option maxHeartbeats 40000000 in
theorem own_l2 {p : Program} {l : Launch} {e : Env} {R : Room} {s : State} {m : MethodId} {args : Array Value} {below : List Frame} {meth : Method} {c : Code} {T0 : State} {locs : List Loc} {cells slots : Nat} {Z : State} {a0 : Array Value} {h0 : Heap} (s0 : Slot) (i1 : Int32) (o2 : Addr) (i3 : Int32) (s4 : Slot) (s5 : Slot) (s6 : Slot)
    (X0 : Stand p l e R s m args below meth c T0 locs cells slots) (hx : p.tables.exec = Jvm.exec) (hZ : Z.Warmed39 s.vm) (hw : ∀ d ∈ tables_1, d.before a0 Z = true) (hby : c.code = prog_265_method_3_code) (hml : c.maxLocals = 7) (hown : s.vm.findClass "com/example/nuoli/nuoli/service/StrongComponents" = some m.cls) (e0 : T0.heap = h0) (hc48 : ¬ (i3 < i1)) :
    ∃ (T' : State), Stand p l e R s m args below meth c T' locs cells slots ∧ T'.heap = h0 ∧
      ∀ target, Steps p.tables e below (T'.setTop (mkF m 68 #[s0, .val (.int i1), .val (.ref o2), .val (.int i3), s4, s5, s6] [])) target → Steps p.tables e below (T0.setTop (mkF m 46 #[s0, .val (.int i1), .val (.ref o2), .val (.int i3), s4, s5, s6] [])) target := by

  refine ⟨T0, X0, e0, fun target kt => ?_⟩
  show Steps p.tables e below (T0.setTop (mkF m 46 #[s0, .val (.int i1), .val (.ref o2), .val (.int i3), s4, s5, s6] [])) _
  refine XS.iloadN X0.here hx rfl (hb hby d2_46) rfl ?_
  show Steps p.tables e below (T0.setTop (mkF m 47 #[s0, .val (.int i1), .val (.ref o2), .val (.int i3), s4, s5, s6] [(.int i3)])) _
  refine XS.iloadN X0.here hx rfl (hb hby d2_47) rfl ?_
  show Steps p.tables e below (T0.setTop (mkF m 48 #[s0, .val (.int i1), .val (.ref o2), .val (.int i3), s4, s5, s6] [(.int i1), (.int i3)])) _
  refine XS.icmpYes X0.here hx rfl (pc0 := 48) (pc' := 68) rfl (hb hby d2_48) rfl (flt hc48).2.1 (by decide) (by decide) ?_
  exact kt
theorem own_len {p : Program} {l : Launch} {e : Env} {R : Room} {s : State} {m : MethodId} {args : Array Value} {below : List Frame} {meth : Method} {c : Code} {cells slots : Nat} {Z : State} {a0 : Array Value} {T0 : State} {locs : List Loc} {h0 : Heap} (s0 s1 s2 : Slot) (o3 : Addr) (s4 s5 s6 : Slot) (n : Nat) (F : Nat → Int32) (X0 : Stand p l e R s m args below meth c T0 locs cells slots) (hx : p.tables.exec = Jvm.exec) (hZ : Z.Warmed39 s.vm) (hw : ∀ d ∈ tables_1, d.before a0 Z = true) (hby : c.code = prog_265_method_3_code) (hml : c.maxLocals = 7) (hown : s.vm.findClass "com/example/nuoli/nuoli/service/StrongComponents" = some m.cls) (e0 : T0.heap = h0) (A : own_AF Z h0 o3 n F) (hn : n ≤ 5) (hs4 : One s4) (hs5 : One s5) :
    ∃ (T' : State), Stand p l e R s m args below meth c T' locs cells slots ∧ T'.heap = h0 ∧
      ∀ target, Steps p.tables e below (T'.setTop (mkF m 15 #[s0, s1, s2, .val (.ref o3), .val (.int (Int32.ofNat n)), .val (.int (Int32.ofNat 0)), s6] [])) target → Steps p.tables e below (T0.setTop (mkF m 8 #[s0, s1, s2, .val (.ref o3), s4, s5, s6] [])) target := by
  obtain ⟨cl, Ar, S, H⟩ := A
  exact own_p8 s0 s1 s2 o3 s4 s5 s6 cl (Int32.ofNat n) X0 hx hZ hw hby hml hown e0 Ar (by rw [own_clamp (by omega)]; exact S) (own_notneg (by omega)) hs4 hs5
set_option maxHeartbeats 4000000 in
theorem own_loop1 {p : Program} {l : Launch} {e : Env} {R : Room} {s : State} {m : MethodId} {args : Array Value} {below : List Frame} {meth : Method} {c : Code} {cells slots : Nat} {Z : State} {a0 : Array Value} (s0 s1 : Slot) (o2 o3 : Addr) (n cc n0 : Nat) (g : Nat → Nat) (hx : p.tables.exec = Jvm.exec) (hZ : Z.Warmed39 s.vm) (hw : ∀ d ∈ tables_1, d.before a0 Z = true) (hby : c.code = prog_265_method_3_code) (hml : c.maxLocals = 7) (hown : s.vm.findClass "com/example/nuoli/nuoli/service/StrongComponents" = some m.cls) (hn : n ≤ 5) (hcc : cc ≤ 4) (hg : ∀ j, j < n → g j < cc) (ne : o3 ≠ o2) (g2 : n0 ≤ o2) :
    ∀ (k i : Nat) (f : Nat → Nat) (T0 : State) (locs : List Loc) (h0 : Heap) (s6 : Slot), i + k = n → Stand p l e R s m args below meth c T0 locs cells slots → T0.heap = h0 → One s6 → Fr n0 locs → own_AF Z h0 o3 n (fun j => Int32.ofNat (g j)) → own_AF Z h0 o2 (cc + 1) (fun j => Int32.ofNat (f j)) →
      ∃ (T' : State) (h' : Heap) (locs' : List Loc) (s6' : Slot), Stand p l e R s m args below meth c T' locs' cells slots ∧ T'.heap = h' ∧ One s6' ∧ Fr n0 locs' ∧ Keep h0 h' [o2] ∧ own_AF Z h' o3 n (fun j => Int32.ofNat (g j)) ∧ own_AF Z h' o2 (cc + 1) (fun j => Int32.ofNat (own_it g i k f j)) ∧
        ∀ target, Steps p.tables e below (T'.setTop (mkF m 44 #[s0, s1, .val (.ref o2), .val (.ref o3), .val (.int (Int32.ofNat n)), .val (.int (Int32.ofNat n)), s6'] [])) target → Steps p.tables e below (T0.setTop (mkF m 15 #[s0, s1, .val (.ref o2), .val (.ref o3), .val (.int (Int32.ofNat n)), .val (.int (Int32.ofNat i)), s6] [])) target := by
  intro k
  induction k with
  | zero =>
    intro i f T0 locs h0 s6 hi X0 e0 hs6 N A3 A2
    obtain rfl : i = n := by omega
    obtain ⟨T', X', e', st⟩ := own_l1 s0 s1 o2 o3 (Int32.ofNat i) (Int32.ofNat i) s6 X0 hx hZ hw hby hml hown e0 (by rw [own_ltN (by omega) (by omega)]; omega)
    exact ⟨T', h0, locs, s6, X', e', hs6, N, Keep.refl _ _, A3, A2, st⟩
  | succ k ih =>
    intro i f T0 locs h0 s6 hi X0 e0 hs6 N A3 A2
    have hin : i < n := by omega
    have hgi := hg i hin
    obtain ⟨c3, Ar3, S3, H3⟩ := id A3
    obtain ⟨c2, Ar2, S2, H2⟩ := id A2
    have i25 := own_inb S3 hin (by omega)
    have a25 : c3.slots[(Int32.ofNat i).toNatClampNeg]? = some (.int (Int32.ofNat (g i))) := by rw [own_clamp (by omega)]; exact H3 i hin
    have i34 : ¬ (Int32.ofNat (g i) + (1 : Int32) < 0 ∨ c2.slots.size ≤ (Int32.ofNat (g i) + (1 : Int32)).toNatClampNeg) := by rw [own_one]; exact own_inb S2 (by omega) (by omega)
    have a34 : c2.slots[(Int32.ofNat (g i) + (1 : Int32)).toNatClampNeg]? = some (.int (Int32.ofNat (f (g i + 1)))) := by rw [own_one, own_clamp (by omega)]; exact H2 (g i + 1) (by omega)
    obtain ⟨T1, h1, X1, e1, W1, st1⟩ := own_t1 s0 s1 o2 o3 (Int32.ofNat n) (Int32.ofNat i) s6 (Int32.ofNat (g i)) c3 (Int32.ofNat (f (g i + 1))) c2 X0 hx hZ hw hby hml hown e0 Ar3 i25 a25 hs6 Ar2 i34 a34 i34 ((own_ltN (by omega) (by omega)).mpr hin)
    have N1 := Fr.snoc X1 N g2
    rw [own_one, own_one] at W1
    rw [own_clamp (by omega)] at W1
    have B3 := A3.other W1 ne
    have B2 : own_AF Z h1 o2 (cc + 1) (fun j => Int32.ofNat ((fun j => if j = g i + 1 then f j + 1 else f j) j)) := (A2.put W1 (by omega)).congr (fun j _ => by
      by_cases u : j = g i + 1
      · simp only [u, if_true]
      · simp only [if_neg u])
    obtain ⟨T', h', L', s6', X', e', hs', N', K', D3, D2, st'⟩ := ih (i + 1) _ T1 _ h1 (.val (.int (Int32.ofNat (g i)))) (by omega) X1 e1 (One.val rfl) N1 B3 B2
    refine ⟨T', h', L', s6', X', e', hs', N', (Keep.of_wr W1).trans K' (allS (Or.inl (List.mem_of_getElem? (i := 0) rfl)) all0), D3, D2, fun target kt => st1 _ ?_⟩
    rw [own_one]
    exact st' _ kt
set_option maxHeartbeats 4000000 in
theorem own_loop2 {p : Program} {l : Launch} {e : Env} {R : Room} {s : State} {m : MethodId} {args : Array Value} {below : List Frame} {meth : Method} {c : Code} {cells slots : Nat} {Z : State} {a0 : Array Value} (s0 s4 s5 s6 : Slot) (o2 : Addr) (cc n0 : Nat) (hx : p.tables.exec = Jvm.exec) (hZ : Z.Warmed39 s.vm) (hw : ∀ d ∈ tables_1, d.before a0 Z = true) (hby : c.code = prog_265_method_3_code) (hml : c.maxLocals = 7) (hown : s.vm.findClass "com/example/nuoli/nuoli/service/StrongComponents" = some m.cls) (hcc : cc ≤ 4) (g2 : n0 ≤ o2) :
    ∀ (k i : Nat) (f : Nat → Nat) (T0 : State) (locs : List Loc) (h0 : Heap), i + k = cc → Stand p l e R s m args below meth c T0 locs cells slots → T0.heap = h0 → Fr n0 locs → own_AF Z h0 o2 (cc + 1) (fun j => Int32.ofNat (f j)) →
      ∃ (T' : State) (h' : Heap) (locs' : List Loc), Stand p l e R s m args below meth c T' locs' cells slots ∧ T'.heap = h' ∧ Fr n0 locs' ∧ Keep h0 h' [o2] ∧ own_AF Z h' o2 (cc + 1) (fun j => Int32.ofNat (own_pt i k f j)) ∧
        ∀ target, Steps p.tables e below (T'.setTop (mkF m 68 #[s0, .val (.int (Int32.ofNat cc)), .val (.ref o2), .val (.int (Int32.ofNat cc)), s4, s5, s6] [])) target → Steps p.tables e below (T0.setTop (mkF m 46 #[s0, .val (.int (Int32.ofNat cc)), .val (.ref o2), .val (.int (Int32.ofNat i)), s4, s5, s6] [])) target := by
  intro k
  induction k with
  | zero =>
    intro i f T0 locs h0 hi X0 e0 N A2
    obtain rfl : i = cc := by omega
    obtain ⟨T', X', e', st⟩ := own_l2 s0 (Int32.ofNat i) o2 (Int32.ofNat i) s4 s5 s6 X0 hx hZ hw hby hml hown e0 (by rw [own_ltN (by omega) (by omega)]; omega)
    exact ⟨T', h0, locs, X', e', N, Keep.refl _ _, A2, st⟩
  | succ k ih =>
    intro i f T0 locs h0 hi X0 e0 N A2
    have hin : i < cc := by omega
    obtain ⟨c2, Ar2, S2, H2⟩ := id A2
    have i56 : ¬ (Int32.ofNat i + (1 : Int32) < 0 ∨ c2.slots.size ≤ (Int32.ofNat i + (1 : Int32)).toNatClampNeg) := by rw [own_one]; exact own_inb S2 (by omega) (by omega)
    have a56 : c2.slots[(Int32.ofNat i + (1 : Int32)).toNatClampNeg]? = some (.int (Int32.ofNat (f (i + 1)))) := by rw [own_one, own_clamp (by omega)]; exact H2 (i + 1) (by omega)
    have i59 := own_inb (a := i) S2 (by omega) (by omega)
    have a59 : c2.slots[(Int32.ofNat i).toNatClampNeg]? = some (.int (Int32.ofNat (f i))) := by rw [own_clamp (by omega)]; exact H2 i (by omega)
    obtain ⟨T1, h1, X1, e1, W1, st1⟩ := own_t2 s0 (Int32.ofNat cc) o2 (Int32.ofNat i) s4 s5 s6 (Int32.ofNat (f (i + 1))) c2 (Int32.ofNat (f i)) X0 hx hZ hw hby hml hown e0 Ar2 i56 a56 i59 a59 i56 ((own_ltN (by omega) (by omega)).mpr hin)
    have N1 := Fr.snoc X1 N g2
    rw [own_one, own_add] at W1
    rw [own_clamp (by omega)] at W1
    have B2 : own_AF Z h1 o2 (cc + 1) (fun j => Int32.ofNat ((fun j => if j = i + 1 then f (i + 1) + f i else f j) j)) := (A2.put W1 (by omega)).congr (fun j _ => by
      by_cases u : j = i + 1
      · simp only [u, if_true]
      · simp only [if_neg u])
    obtain ⟨T', h', L', X', e', N', K', D2, st'⟩ := ih (i + 1) _ T1 _ h1 (by omega) X1 e1 N1 B2
    refine ⟨T', h', L', X', e', N', (Keep.of_wr W1).trans K' (allS (Or.inl (List.mem_of_getElem? (i := 0) rfl)) all0), D2, fun target kt => st1 _ ?_⟩
    rw [own_one]
    exact st' _ kt
theorem d2_0 : decode prog_265_method_3_code 0 = .ok (.iload_n 1, 1) := by decide +kernel
theorem d2_1 : decode prog_265_method_3_code 1 = .ok (.iconst 1, 1) := by decide +kernel
theorem d2_2 : decode prog_265_method_3_code 2 = .ok (.iadd, 1) := by decide +kernel
theorem d2_3 : decode prog_265_method_3_code 3 = .ok (.newarray .int, 2) := by decide +kernel
theorem d2_5 : decode prog_265_method_3_code 5 = .ok (.astore_n 2, 1) := by decide +kernel
theorem d2_6 : decode prog_265_method_3_code 6 = .ok (.aload_n 0, 1) := by decide +kernel
theorem d2_7 : decode prog_265_method_3_code 7 = .ok (.astore_n 3, 1) := by decide +kernel
theorem d2_44 : decode prog_265_method_3_code 44 = .ok (.iconst 0, 1) := by decide +kernel
theorem d2_45 : decode prog_265_method_3_code 45 = .ok (.istore_n 3, 1) := by decide +kernel
theorem d2_68 : decode prog_265_method_3_code 68 = .ok (.aload_n 2, 1) := by decide +kernel
theorem d2_69 : decode prog_265_method_3_code 69 = .ok (.areturn, 1) := by decide +kernel
theorem pn_2 : plainName "com/example/nuoli/nuoli/service/StrongComponents" = true := by first | (simp [plainName, overriddenIn]; done) | decide +kernel
theorem ef_2 (m : MethodId) (x0 : Addr) (x1 : Int32) : entryFrame m #[(.ref x0), (.int x1)] 7 = mkF m 0 #[.val (.ref x0), .val (.int x1), .unset, .unset, .unset, .unset, .unset] [] := by first | (simp [entryFrame, mkF, argsToLocals, Value.category]; done) | rfl
def Q2 (Z : State) (a1 : Addr) (n cc : Nat) (g : Nat → Nat) (h0 : Heap) (n0 : Nat) (v : Option Value) (h : Heap) (L : List Loc) : Prop := ∃ b : Addr, v = some (.ref b) ∧ Fr n0 L ∧ Keep h0 h [] ∧ h0.size ≤ b ∧ n0 ≤ b ∧ own_AF Z h b (cc + 1) (fun j => Int32.ofNat (own_lt g 0 n j))
set_option maxRecDepth 65536 in
set_option maxHeartbeats 40000000 in
theorem rm2 (l : Launch) (Z : State) (a0 : Array Value) (hw : ∀ d ∈ tables_1, d.before a0 Z = true) (ws : List Jvm.Cond) (a1 : Addr) (n cc : Nat) (g : Nat → Nat) (h0 : Heap) (n0 : Nat) (Z0 : n0 ≤ h0.size) (A_a1 : own_AF Z h0 a1 n (fun j => Int32.ofNat (g j))) (hn : n ≤ 5) (hcc : cc ≤ 4) (hg : ∀ j, j < n → g j < cc) :
    MetFree l (⟨"com/example/nuoli/nuoli/service/StrongComponents", "memberStart", "([II)[I"⟩ : MethodName) (head1 (Jvm.Cond.code (⟨"com/example/nuoli/nuoli/service/StrongComponents", "memberStart", "([II)[I"⟩ : MethodName) prog_265_method_3_code 7 (some (.array .int)) :: ws) ({ frames := 0, cells := 1, slots := 5, locals := 0 } : Room)) (fun a U => a = #[(.ref a1), (.int (Int32.ofNat cc))] ∧ Z.Warmed39 U.vm ∧ U.heap = h0) (fun _ _ _ _ _ => True) (fun _ U o U' => ∃ v L, o = .returned v ∧ Q2 Z a1 n cc g h0 n0 v U'.heap L ∧ FrameEnd U o U' L ({ frames := 0, cells := 1, slots := 5, locals := 0 } : Room).cells ({ frames := 0, cells := 1, slots := 5, locals := 0 } : Room).slots) := by
  refine MetFree.of_bodySF (plainFor_of_name pn_2) hisR ?_
  intro p e s m args below meth c s₁ Bd hml0 hP hK
  obtain ⟨rfl, hZ, hh⟩ := hP
  have hx := Bd.exec
  have hby := Bd.bytes
  have hml : c.maxLocals = 7 := hml0
  have hown : s.vm.findClass "com/example/nuoli/nuoli/service/StrongComponents" = some m.cls := findClass_of_methodNamed Bd.named
  have hnm := (name_of_methodNamed Bd.named Bd.method).1
  have X0 : Stand p l e ({ frames := 0, cells := 1, slots := 5, locals := 0 } : Room) s m #[(.ref a1), (.int (Int32.ofNat cc))] below meth c s₁ [] 0 0 := Stand.of_body Bd
  have e0 : s₁.heap = h0 := by rw [← hh, Bd.state]; rfl
  have N0 := Fr.nil n0
  have pre0 : ∀ t, Steps p.tables e below (s₁.setTop (mkF m 0 #[.val (.ref a1), .val (.int (Int32.ofNat cc)), .unset, .unset, .unset, .unset, .unset] [])) t → Steps p.tables e below (s₁.setTop (entryFrame m #[(.ref a1), (.int (Int32.ofNat cc))] 7)) t := fun t k => castTop (ef_2 m a1 (Int32.ofNat cc)) k
  obtain ⟨T3, h3, k3, X3, e3, E3, A3, st3⟩ := newP X0 hx hZ (hw _ (List.mem_of_getElem? (i := 5) rfl)) e0 (g := (mkF m 3 #[.val (.ref a1), .val (.int (Int32.ofNat cc)), .unset, .unset, .unset, .unset, .unset] [(.int ((Int32.ofNat cc) + (1 : Int32)))])) rfl (hb hby d2_3) rfl (by rw [own_one]; exact own_notneg (by omega)) (cap := 5) (by rw [own_one, own_clamp (by omega)]; omega) (by decide) (by decide) (by decide)
  obtain ⟨b3, g3⟩ : ∃ z, z = h0.size := ⟨_, rfl⟩
  rw [← g3] at A3 st3
  have V_b3 := Arv.new A3 (by rw [own_one]; exact own_notneg (by omega))
  have g_b3 : n0 ≤ b3 := Nat.le_trans Z0 (Nat.le_of_eq g3.symm)
  have sz_b3 : h0.size ≤ b3 := (Nat.le_trans (Keep.refl h0 []).1 (Nat.le_of_eq g3.symm))
  have K3 : Keep h0 h3 [] := (Keep.refl h0 []).ext E3
  obtain ⟨T4, X4, e4, st4⟩ := own_len (.val (.ref a1)) (.val (.int (Int32.ofNat cc))) (.val (.ref b3)) a1 .unset .unset .unset n _ X3 hx hZ hw hby hml hown e3 (A_a1.ext E3) hn One.u One.u
  have AB : own_AF Z h3 b3 (cc + 1) (fun j => Int32.ofNat ((fun _ => 0 : Nat → Nat) j)) := own_AF.ofArv V_b3 (by rw [own_one, own_clamp (by omega)]) (fun j _ => rfl)
  obtain ⟨T5, h5, L5, u5, X5, e5, o5, N5, K5c, A5, B5, st5⟩ := own_loop1 (.val (.ref a1)) (.val (.int (Int32.ofNat cc))) b3 a1 n cc n0 g hx hZ hw hby hml hown hn hcc hg (Nat.ne_of_lt (Nat.lt_of_lt_of_le A_a1.lt sz_b3)) g_b3 n 0 (fun _ => 0) _ _ _ .unset (by omega) X4 e4 One.u N0 (A_a1.ext E3) AB
  have K5 : Keep h0 h5 [] := K3.trans K5c (allS (Or.inr sz_b3) all0)
  obtain ⟨T6, h6, L6, X6, e6, N6, K6c, B6, st6⟩ := own_loop2 (.val (.ref a1)) (.val (.int (Int32.ofNat n))) (.val (.int (Int32.ofNat n))) (u5) b3 cc n0 hx hZ hw hby hml hown hcc g_b3 cc 0 _ _ _ _ (by omega) X5 e5 N5 B5
  have K6 : Keep h0 h6 [] := K5.trans K6c (allS (Or.inr sz_b3) all0)
  obtain ⟨fs, hr, hrun, hended, hW, hsame⟩ := X6.leave (v := some (.ref b3)) (fun h => by rw [Bd.returns] at h; cases h)
  refine ⟨_, _, pre0 _ ?_, hrun, hended, _, _, rfl, ?_, ⟨_, rfl⟩, hW, hsame.mono (by decide) (by decide)⟩
  · show Steps p.tables e below (s₁.setTop (mkF m 0 #[.val (.ref a1), .val (.int (Int32.ofNat cc)), .unset, .unset, .unset, .unset, .unset] [])) _
    refine XS.iloadN X0.here hx rfl (hb hby d2_0) rfl ?_
    show Steps p.tables e below (s₁.setTop (mkF m 1 #[.val (.ref a1), .val (.int (Int32.ofNat cc)), .unset, .unset, .unset, .unset, .unset] [(.int (Int32.ofNat cc))])) _
    refine XS.iconst X0.here hx rfl (hb hby d2_1) ?_
    show Steps p.tables e below (s₁.setTop (mkF m 2 #[.val (.ref a1), .val (.int (Int32.ofNat cc)), .unset, .unset, .unset, .unset, .unset] [(.int (1 : Int32)), (.int (Int32.ofNat cc))])) _
    refine XS.iadd X0.here hx rfl (hb hby d2_2) rfl ?_
    show Steps p.tables e below (s₁.setTop (mkF m 3 #[.val (.ref a1), .val (.int (Int32.ofNat cc)), .unset, .unset, .unset, .unset, .unset] [(.int ((Int32.ofNat cc) + (1 : Int32)))])) _
    refine st3 _ ?_
    show Steps p.tables e below (T3.setTop (mkF m 5 #[.val (.ref a1), .val (.int (Int32.ofNat cc)), .unset, .unset, .unset, .unset, .unset] [(.ref b3)])) _
    refine XS.astoreN X3.here hx rfl (hb hby d2_5) rfl rfl (l' := #[.val (.ref a1), .val (.int (Int32.ofNat cc)), .val (.ref b3), .unset, .unset, .unset, .unset]) rfl ?_
    show Steps p.tables e below (T3.setTop (mkF m 6 #[.val (.ref a1), .val (.int (Int32.ofNat cc)), .val (.ref b3), .unset, .unset, .unset, .unset] [])) _
    refine XS.aloadN X3.here hx rfl (hb hby d2_6) rfl rfl ?_
    show Steps p.tables e below (T3.setTop (mkF m 7 #[.val (.ref a1), .val (.int (Int32.ofNat cc)), .val (.ref b3), .unset, .unset, .unset, .unset] [(.ref a1)])) _
    refine XS.astoreN X3.here hx rfl (hb hby d2_7) rfl rfl (l' := #[.val (.ref a1), .val (.int (Int32.ofNat cc)), .val (.ref b3), .val (.ref a1), .unset, .unset, .unset]) rfl ?_
    show Steps p.tables e below (T3.setTop (mkF m 8 #[.val (.ref a1), .val (.int (Int32.ofNat cc)), .val (.ref b3), .val (.ref a1), .unset, .unset, .unset] [])) _
    refine st4 _ ?_
    show Steps p.tables e below (T4.setTop (mkF m 15 #[.val (.ref a1), .val (.int (Int32.ofNat cc)), .val (.ref b3), .val (.ref a1), .val (.int (Int32.ofNat n)), .val (.int (Int32.ofNat 0)), .unset] [])) _
    refine st5 _ ?_
    show Steps p.tables e below (T5.setTop (mkF m 44 #[.val (.ref a1), .val (.int (Int32.ofNat cc)), .val (.ref b3), .val (.ref a1), .val (.int (Int32.ofNat n)), .val (.int (Int32.ofNat n)), u5] [])) _
    refine XS.iconst X5.here hx rfl (hb hby d2_44) ?_
    show Steps p.tables e below (T5.setTop (mkF m 45 #[.val (.ref a1), .val (.int (Int32.ofNat cc)), .val (.ref b3), .val (.ref a1), .val (.int (Int32.ofNat n)), .val (.int (Int32.ofNat n)), u5] [(.int (0 : Int32))])) _
    refine XS.istoreN X5.here hx rfl (hb hby d2_45) rfl (l' := #[.val (.ref a1), .val (.int (Int32.ofNat cc)), .val (.ref b3), .val (.int (0 : Int32)), .val (.int (Int32.ofNat n)), .val (.int (Int32.ofNat n)), u5]) rfl ?_
    show Steps p.tables e below (T5.setTop (mkF m 46 #[.val (.ref a1), .val (.int (Int32.ofNat cc)), .val (.ref b3), .val (.int (0 : Int32)), .val (.int (Int32.ofNat n)), .val (.int (Int32.ofNat n)), u5] [])) _
    refine st6 _ ?_
    show Steps p.tables e below (T6.setTop (mkF m 68 #[.val (.ref a1), .val (.int (Int32.ofNat cc)), .val (.ref b3), .val (.int (Int32.ofNat cc)), .val (.int (Int32.ofNat n)), .val (.int (Int32.ofNat n)), u5] [])) _
    refine XS.aloadN X6.here hx rfl (hb hby d2_68) rfl rfl ?_
    show Steps p.tables e below (T6.setTop (mkF m 69 #[.val (.ref a1), .val (.int (Int32.ofNat cc)), .val (.ref b3), .val (.int (Int32.ofNat cc)), .val (.int (Int32.ofNat n)), .val (.int (Int32.ofNat n)), u5] [(.ref b3)])) _
    jvm_step X6.here [X6.here.top, hx, (hb hby d2_69), X6.method', Bd.returns, Value.isRef, FieldType.isReference]
    first | (intro acts; rw [hr _ acts rfl rfl rfl]) | rw [hr _ _ rfl rfl rfl]
    exact Steps.refl _
  · show Q2 Z a1 n cc g h0 n0 _ T6.heap _
    rw [e6]
    exact ⟨b3, rfl, N6, K6, sz_b3, g_b3, B6.congr (fun j hj => by rw [own_done g n cc j (by omega)])⟩
theorem os0_6 {z0 : Value} {s1 : Slot} {s2 : Slot} {s3 : Slot} {s4 : Slot} {s5 : Slot} {s6 : Slot} {s7 : Slot} {s8 : Slot} {s9 : Slot} {s10 : Slot} {s11 : Slot} {s12 : Slot} {s13 : Slot} {s14 : Slot} {s15 : Slot} {v : Int32} (h : One s6) : storeLocals #[.val z0, s1, s2, s3, s4, s5, s6, s7, s8, s9, s10, s11, s12, s13, s14, s15] 6 (.int v) = some #[.val z0, s1, s2, s3, s4, s5, .val (.int v), s7, s8, s9, s10, s11, s12, s13, s14, s15] := by
  rcases h with rfl | ⟨w, rfl, hw⟩
  · rfl
  · cases w <;> first | rfl | (simp [Value.category] at hw)
theorem os0_26 {z0 : Value} {s1 : Slot} {s2 : Slot} {s3 : Slot} {s4 : Slot} {s5 : Slot} {z6 : Value} {s7 : Slot} {s8 : Slot} {s9 : Slot} {s10 : Slot} {s11 : Slot} {s12 : Slot} {s13 : Slot} {s14 : Slot} {s15 : Slot} {v : Int32} (h : One s7) : storeLocals #[.val z0, s1, s2, s3, s4, s5, .val z6, s7, s8, s9, s10, s11, s12, s13, s14, s15] 7 (.int v) = some #[.val z0, s1, s2, s3, s4, s5, .val z6, .val (.int v), s8, s9, s10, s11, s12, s13, s14, s15] := by
  rcases h with rfl | ⟨w, rfl, hw⟩
  · rfl
  · cases w <;> first | rfl | (simp [Value.category] at hw)
set_option maxRecDepth 65536 in
set_option maxHeartbeats 40000000 in
theorem own_hf {p : Program} {l : Launch} {e : Env} {R : Room} {s : State} {m : MethodId} {args : Array Value} {below : List Frame} {meth : Method} {c : Code} {T0 : State} {locs : List Loc} {cells slots : Nat} {Z : State} {a0 : Array Value} {h0 : Heap} (i0 : Int32) (s1 : Slot) (s2 : Slot) (s3 : Slot) (s4 : Slot) (s5 : Slot) (s6 : Slot) (s7 : Slot) (s8 : Slot) (s9 : Slot) (s10 : Slot) (s11 : Slot) (s12 : Slot) (s13 : Slot) (s14 : Slot) (s15 : Slot)
    (X0 : Stand p l e R s m args below meth c T0 locs cells slots) (hx : p.tables.exec = Jvm.exec) (hZ : Z.Warmed39 s.vm) (hw : ∀ d ∈ tables_1, d.before a0 Z = true) (hby : c.code = code) (hml : c.maxLocals = 16) (hown : s.vm.findClass "com/example/nuoli/nuoli/service/StrongComponentsMemberStartPinLaw" = some m.cls) (e0 : T0.heap = h0) (hs6 : One s6) (hs7 : One s7) (hc10 : ((i0 &&& (7 : Int32)) % (5 : Int32)) = (0 : Int32)) :
    ∃ (T' : State), Stand p l e R s m args below meth c T' locs cells slots ∧ T'.heap = h0 ∧
      ∀ target, Steps p.tables e below (T'.setTop (mkF m 28 #[.val (.int i0), s1, s2, s3, s4, s5, .val (.int ((i0 &&& (7 : Int32)) % (5 : Int32))), .val (.int (0 : Int32)), s8, s9, s10, s11, s12, s13, s14, s15] [])) target → Steps p.tables e below (T0.setTop (mkF m 0 #[.val (.int i0), s1, s2, s3, s4, s5, s6, s7, s8, s9, s10, s11, s12, s13, s14, s15] [])) target := by

  refine ⟨T0, X0, e0, fun target kt => ?_⟩
  show Steps p.tables e below (T0.setTop (mkF m 0 #[.val (.int i0), s1, s2, s3, s4, s5, s6, s7, s8, s9, s10, s11, s12, s13, s14, s15] [])) _
  refine XS.iloadN X0.here hx rfl (hb hby at_0) rfl ?_
  show Steps p.tables e below (T0.setTop (mkF m 1 #[.val (.int i0), s1, s2, s3, s4, s5, s6, s7, s8, s9, s10, s11, s12, s13, s14, s15] [(.int i0)])) _
  refine XS.bipush X0.here hx rfl (hb hby at_1) ?_
  show Steps p.tables e below (T0.setTop (mkF m 3 #[.val (.int i0), s1, s2, s3, s4, s5, s6, s7, s8, s9, s10, s11, s12, s13, s14, s15] [(.int (7 : Int32)), (.int i0)])) _
  refine XS.iand X0.here hx rfl (hb hby at_3) rfl ?_
  show Steps p.tables e below (T0.setTop (mkF m 4 #[.val (.int i0), s1, s2, s3, s4, s5, s6, s7, s8, s9, s10, s11, s12, s13, s14, s15] [(.int (i0 &&& (7 : Int32)))])) _
  refine XS.iconst X0.here hx rfl (hb hby at_4) ?_
  show Steps p.tables e below (T0.setTop (mkF m 5 #[.val (.int i0), s1, s2, s3, s4, s5, s6, s7, s8, s9, s10, s11, s12, s13, s14, s15] [(.int (5 : Int32)), (.int (i0 &&& (7 : Int32)))])) _
  refine iremM X0 hx rfl (hb hby at_5) rfl (by decide) ?_
  show Steps p.tables e below (T0.setTop (mkF m 6 #[.val (.int i0), s1, s2, s3, s4, s5, s6, s7, s8, s9, s10, s11, s12, s13, s14, s15] [(.int ((i0 &&& (7 : Int32)) % (5 : Int32)))])) _
  refine XS.istore X0.here hx rfl (hb hby at_6) rfl (l' := #[.val (.int i0), s1, s2, s3, s4, s5, .val (.int ((i0 &&& (7 : Int32)) % (5 : Int32))), s7, s8, s9, s10, s11, s12, s13, s14, s15]) (os0_6 hs6) ?_
  show Steps p.tables e below (T0.setTop (mkF m 8 #[.val (.int i0), s1, s2, s3, s4, s5, .val (.int ((i0 &&& (7 : Int32)) % (5 : Int32))), s7, s8, s9, s10, s11, s12, s13, s14, s15] [])) _
  refine XS.iload X0.here hx rfl (hb hby at_8) rfl ?_
  show Steps p.tables e below (T0.setTop (mkF m 10 #[.val (.int i0), s1, s2, s3, s4, s5, .val (.int ((i0 &&& (7 : Int32)) % (5 : Int32))), s7, s8, s9, s10, s11, s12, s13, s14, s15] [(.int ((i0 &&& (7 : Int32)) % (5 : Int32)))])) _
  refine XS.ifNo X0.here hx rfl (hb hby at_10) rfl ((if0 _ _).trans (teq hc10).2) ?_
  show Steps p.tables e below (T0.setTop (mkF m 13 #[.val (.int i0), s1, s2, s3, s4, s5, .val (.int ((i0 &&& (7 : Int32)) % (5 : Int32))), s7, s8, s9, s10, s11, s12, s13, s14, s15] [])) _
  refine XS.iconst X0.here hx rfl (hb hby at_13) ?_
  show Steps p.tables e below (T0.setTop (mkF m 14 #[.val (.int i0), s1, s2, s3, s4, s5, .val (.int ((i0 &&& (7 : Int32)) % (5 : Int32))), s7, s8, s9, s10, s11, s12, s13, s14, s15] [(.int (0 : Int32))])) _
  refine XS.goto X0.here hx rfl (pc0 := 14) (pc' := 26) rfl (hb hby at_14) (by decide) (by decide) ?_
  show Steps p.tables e below (T0.setTop (mkF m 26 #[.val (.int i0), s1, s2, s3, s4, s5, .val (.int ((i0 &&& (7 : Int32)) % (5 : Int32))), s7, s8, s9, s10, s11, s12, s13, s14, s15] [(.int (0 : Int32))])) _
  refine XS.istore X0.here hx rfl (hb hby at_26) rfl (l' := #[.val (.int i0), s1, s2, s3, s4, s5, .val (.int ((i0 &&& (7 : Int32)) % (5 : Int32))), .val (.int (0 : Int32)), s8, s9, s10, s11, s12, s13, s14, s15]) (os0_26 hs7) ?_
  exact kt
set_option maxRecDepth 65536 in
set_option maxHeartbeats 40000000 in
theorem own_ht {p : Program} {l : Launch} {e : Env} {R : Room} {s : State} {m : MethodId} {args : Array Value} {below : List Frame} {meth : Method} {c : Code} {T0 : State} {locs : List Loc} {cells slots : Nat} {Z : State} {a0 : Array Value} {h0 : Heap} (i0 : Int32) (s1 : Slot) (s2 : Slot) (s3 : Slot) (s4 : Slot) (s5 : Slot) (s6 : Slot) (s7 : Slot) (s8 : Slot) (s9 : Slot) (s10 : Slot) (s11 : Slot) (s12 : Slot) (s13 : Slot) (s14 : Slot) (s15 : Slot)
    (X0 : Stand p l e R s m args below meth c T0 locs cells slots) (hx : p.tables.exec = Jvm.exec) (hZ : Z.Warmed39 s.vm) (hw : ∀ d ∈ tables_1, d.before a0 Z = true) (hby : c.code = code) (hml : c.maxLocals = 16) (hown : s.vm.findClass "com/example/nuoli/nuoli/service/StrongComponentsMemberStartPinLaw" = some m.cls) (e0 : T0.heap = h0) (hs6 : One s6) (hs7 : One s7) (hc10 : ¬ (((i0 &&& (7 : Int32)) % (5 : Int32)) = (0 : Int32))) :
    ∃ (T' : State), Stand p l e R s m args below meth c T' locs cells slots ∧ T'.heap = h0 ∧
      ∀ target, Steps p.tables e below (T'.setTop (mkF m 28 #[.val (.int i0), s1, s2, s3, s4, s5, .val (.int ((i0 &&& (7 : Int32)) % (5 : Int32))), .val (.int ((((i0.toUInt32 >>> ((3 : Int32) &&& 31).toUInt32).toInt32) &&& (7 : Int32)) % (6 : Int32))), s8, s9, s10, s11, s12, s13, s14, s15] [])) target → Steps p.tables e below (T0.setTop (mkF m 0 #[.val (.int i0), s1, s2, s3, s4, s5, s6, s7, s8, s9, s10, s11, s12, s13, s14, s15] [])) target := by

  refine ⟨T0, X0, e0, fun target kt => ?_⟩
  show Steps p.tables e below (T0.setTop (mkF m 0 #[.val (.int i0), s1, s2, s3, s4, s5, s6, s7, s8, s9, s10, s11, s12, s13, s14, s15] [])) _
  refine XS.iloadN X0.here hx rfl (hb hby at_0) rfl ?_
  show Steps p.tables e below (T0.setTop (mkF m 1 #[.val (.int i0), s1, s2, s3, s4, s5, s6, s7, s8, s9, s10, s11, s12, s13, s14, s15] [(.int i0)])) _
  refine XS.bipush X0.here hx rfl (hb hby at_1) ?_
  show Steps p.tables e below (T0.setTop (mkF m 3 #[.val (.int i0), s1, s2, s3, s4, s5, s6, s7, s8, s9, s10, s11, s12, s13, s14, s15] [(.int (7 : Int32)), (.int i0)])) _
  refine XS.iand X0.here hx rfl (hb hby at_3) rfl ?_
  show Steps p.tables e below (T0.setTop (mkF m 4 #[.val (.int i0), s1, s2, s3, s4, s5, s6, s7, s8, s9, s10, s11, s12, s13, s14, s15] [(.int (i0 &&& (7 : Int32)))])) _
  refine XS.iconst X0.here hx rfl (hb hby at_4) ?_
  show Steps p.tables e below (T0.setTop (mkF m 5 #[.val (.int i0), s1, s2, s3, s4, s5, s6, s7, s8, s9, s10, s11, s12, s13, s14, s15] [(.int (5 : Int32)), (.int (i0 &&& (7 : Int32)))])) _
  refine iremM X0 hx rfl (hb hby at_5) rfl (by decide) ?_
  show Steps p.tables e below (T0.setTop (mkF m 6 #[.val (.int i0), s1, s2, s3, s4, s5, s6, s7, s8, s9, s10, s11, s12, s13, s14, s15] [(.int ((i0 &&& (7 : Int32)) % (5 : Int32)))])) _
  refine XS.istore X0.here hx rfl (hb hby at_6) rfl (l' := #[.val (.int i0), s1, s2, s3, s4, s5, .val (.int ((i0 &&& (7 : Int32)) % (5 : Int32))), s7, s8, s9, s10, s11, s12, s13, s14, s15]) (os0_6 hs6) ?_
  show Steps p.tables e below (T0.setTop (mkF m 8 #[.val (.int i0), s1, s2, s3, s4, s5, .val (.int ((i0 &&& (7 : Int32)) % (5 : Int32))), s7, s8, s9, s10, s11, s12, s13, s14, s15] [])) _
  refine XS.iload X0.here hx rfl (hb hby at_8) rfl ?_
  show Steps p.tables e below (T0.setTop (mkF m 10 #[.val (.int i0), s1, s2, s3, s4, s5, .val (.int ((i0 &&& (7 : Int32)) % (5 : Int32))), s7, s8, s9, s10, s11, s12, s13, s14, s15] [(.int ((i0 &&& (7 : Int32)) % (5 : Int32)))])) _
  refine XS.ifYes X0.here hx rfl (pc0 := 10) (pc' := 17) rfl (hb hby at_10) rfl ((if0 _ _).trans (feq hc10).2) (by decide) (by decide) ?_
  show Steps p.tables e below (T0.setTop (mkF m 17 #[.val (.int i0), s1, s2, s3, s4, s5, .val (.int ((i0 &&& (7 : Int32)) % (5 : Int32))), s7, s8, s9, s10, s11, s12, s13, s14, s15] [])) _
  refine XS.iloadN X0.here hx rfl (hb hby at_17) rfl ?_
  show Steps p.tables e below (T0.setTop (mkF m 18 #[.val (.int i0), s1, s2, s3, s4, s5, .val (.int ((i0 &&& (7 : Int32)) % (5 : Int32))), s7, s8, s9, s10, s11, s12, s13, s14, s15] [(.int i0)])) _
  refine XS.iconst X0.here hx rfl (hb hby at_18) ?_
  show Steps p.tables e below (T0.setTop (mkF m 19 #[.val (.int i0), s1, s2, s3, s4, s5, .val (.int ((i0 &&& (7 : Int32)) % (5 : Int32))), s7, s8, s9, s10, s11, s12, s13, s14, s15] [(.int (3 : Int32)), (.int i0)])) _
  refine XS.iushr X0.here hx rfl (hb hby at_19) rfl ?_
  show Steps p.tables e below (T0.setTop (mkF m 20 #[.val (.int i0), s1, s2, s3, s4, s5, .val (.int ((i0 &&& (7 : Int32)) % (5 : Int32))), s7, s8, s9, s10, s11, s12, s13, s14, s15] [(.int ((i0.toUInt32 >>> ((3 : Int32) &&& 31).toUInt32).toInt32))])) _
  refine XS.bipush X0.here hx rfl (hb hby at_20) ?_
  show Steps p.tables e below (T0.setTop (mkF m 22 #[.val (.int i0), s1, s2, s3, s4, s5, .val (.int ((i0 &&& (7 : Int32)) % (5 : Int32))), s7, s8, s9, s10, s11, s12, s13, s14, s15] [(.int (7 : Int32)), (.int ((i0.toUInt32 >>> ((3 : Int32) &&& 31).toUInt32).toInt32))])) _
  refine XS.iand X0.here hx rfl (hb hby at_22) rfl ?_
  show Steps p.tables e below (T0.setTop (mkF m 23 #[.val (.int i0), s1, s2, s3, s4, s5, .val (.int ((i0 &&& (7 : Int32)) % (5 : Int32))), s7, s8, s9, s10, s11, s12, s13, s14, s15] [(.int (((i0.toUInt32 >>> ((3 : Int32) &&& 31).toUInt32).toInt32) &&& (7 : Int32)))])) _
  refine XS.bipush X0.here hx rfl (hb hby at_23) ?_
  show Steps p.tables e below (T0.setTop (mkF m 25 #[.val (.int i0), s1, s2, s3, s4, s5, .val (.int ((i0 &&& (7 : Int32)) % (5 : Int32))), s7, s8, s9, s10, s11, s12, s13, s14, s15] [(.int (6 : Int32)), (.int (((i0.toUInt32 >>> ((3 : Int32) &&& 31).toUInt32).toInt32) &&& (7 : Int32)))])) _
  refine iremM X0 hx rfl (hb hby at_25) rfl (by decide) ?_
  show Steps p.tables e below (T0.setTop (mkF m 26 #[.val (.int i0), s1, s2, s3, s4, s5, .val (.int ((i0 &&& (7 : Int32)) % (5 : Int32))), s7, s8, s9, s10, s11, s12, s13, s14, s15] [(.int ((((i0.toUInt32 >>> ((3 : Int32) &&& 31).toUInt32).toInt32) &&& (7 : Int32)) % (6 : Int32)))])) _
  refine XS.istore X0.here hx rfl (hb hby at_26) rfl (l' := #[.val (.int i0), s1, s2, s3, s4, s5, .val (.int ((i0 &&& (7 : Int32)) % (5 : Int32))), .val (.int ((((i0.toUInt32 >>> ((3 : Int32) &&& 31).toUInt32).toInt32) &&& (7 : Int32)) % (6 : Int32))), s8, s9, s10, s11, s12, s13, s14, s15]) (os0_26 hs7) ?_
  exact kt
theorem own_h {p : Program} {l : Launch} {e : Env} {R : Room} {s : State} {m : MethodId} {args : Array Value} {below : List Frame} {meth : Method} {c : Code} {T0 : State} {locs : List Loc} {cells slots : Nat} {Z : State} {a0 : Array Value} {h0 : Heap} (i0 : Int32) (s1 : Slot) (s2 : Slot) (s3 : Slot) (s4 : Slot) (s5 : Slot) (s6 : Slot) (s7 : Slot) (s8 : Slot) (s9 : Slot) (s10 : Slot) (s11 : Slot) (s12 : Slot) (s13 : Slot) (s14 : Slot) (s15 : Slot)
    (X0 : Stand p l e R s m args below meth c T0 locs cells slots) (hx : p.tables.exec = Jvm.exec) (hZ : Z.Warmed39 s.vm) (hw : ∀ d ∈ tables_1, d.before a0 Z = true) (hby : c.code = code) (hml : c.maxLocals = 16) (hown : s.vm.findClass "com/example/nuoli/nuoli/service/StrongComponentsMemberStartPinLaw" = some m.cls) (e0 : T0.heap = h0) (hs6 : One s6) (hs7 : One s7) (cc n : Nat) (ecc : own_cc i0 = Int32.ofNat cc) (enn : own_nn i0 = Int32.ofNat n) :
    ∃ (T' : State), Stand p l e R s m args below meth c T' locs cells slots ∧ T'.heap = h0 ∧
      ∀ target, Steps p.tables e below (T'.setTop (mkF m 28 #[.val (.int i0), s1, s2, s3, s4, s5, .val (.int (Int32.ofNat cc)), .val (.int (Int32.ofNat n)), s8, s9, s10, s11, s12, s13, s14, s15] [])) target → Steps p.tables e below (T0.setTop (mkF m 0 #[.val (.int i0), s1, s2, s3, s4, s5, s6, s7, s8, s9, s10, s11, s12, s13, s14, s15] [])) target := by
  rw [← ecc, ← enn]
  by_cases h : own_cc i0 = (0 : Int32)
  · rw [show own_nn i0 = 0 from if_pos h]; exact own_hf i0 s1 s2 s3 s4 s5 s6 s7 s8 s9 s10 s11 s12 s13 s14 s15 X0 hx hZ hw hby hml hown e0 hs6 hs7 h
  · rw [show own_nn i0 = ((((i0.toUInt32 >>> ((3 : Int32) &&& 31).toUInt32).toInt32) &&& (7 : Int32)) % (6 : Int32)) from if_neg h]; exact own_ht i0 s1 s2 s3 s4 s5 s6 s7 s8 s9 s10 s11 s12 s13 s14 s15 X0 hx hZ hw hby hml hown e0 hs6 hs7 h
theorem os0_91 {s0 : Slot} {s1 : Slot} {s2 : Slot} {s3 : Slot} {s4 : Slot} {s5 : Slot} {s6 : Slot} {z7 : Value} {s8 : Slot} {z9 : Value} {z10 : Value} {z11 : Value} {z12 : Value} {z13 : Value} {s14 : Slot} {s15 : Slot} {v : Addr} (h : One s14) : storeLocals #[s0, s1, s2, s3, s4, s5, s6, .val z7, s8, .val z9, .val z10, .val z11, .val z12, .val z13, s14, s15] 14 (.ref v) = some #[s0, s1, s2, s3, s4, s5, s6, .val z7, s8, .val z9, .val z10, .val z11, .val z12, .val z13, .val (.ref v), s15] := by
  rcases h with rfl | ⟨w, rfl, hw⟩
  · rfl
  · cases w <;> first | rfl | (simp [Value.category] at hw)
set_option maxRecDepth 65536 in
set_option maxHeartbeats 40000000 in
theorem own_mk0 {p : Program} {l : Launch} {e : Env} {s : State} {m : MethodId} {args : Array Value} {below : List Frame} {meth : Method} {c : Code} {T0 : State} {locs : List Loc} {Z : State} {a0 : Array Value} {h0 : Heap} (s0 : Slot) (s1 : Slot) (s2 : Slot) (s3 : Slot) (s4 : Slot) (s5 : Slot) (s6 : Slot) (i7 : Int32) (s8 : Slot) (i9 : Int32) (i10 : Int32) (i11 : Int32) (i12 : Int32) (i13 : Int32) (s14 : Slot) (s15 : Slot)
    (X0 : Stand p l e room_1 s m args below meth c T0 locs 0 0) (hx : p.tables.exec = Jvm.exec) (hZ : Z.Warmed39 s.vm) (hw : ∀ d ∈ tables_1, d.before a0 Z = true) (hby : c.code = code) (hml : c.maxLocals = 16) (hown : s.vm.findClass "com/example/nuoli/nuoli/service/StrongComponentsMemberStartPinLaw" = some m.cls) (e0 : T0.heap = h0) (n0 : Nat) (N0 : Fr n0 locs) (Z0 : n0 ≤ h0.size) (hs14 : One s14) (hc85 : i7 = (0 : Int32)) :
    ∃ (T' : State) (h' : Heap) (b : Addr) (L' : List Loc), b = h0.size ∧ Stand p l e room_1 s m args below meth c T' L' 1 5 ∧ T'.heap = h' ∧ Fr n0 L' ∧ Keep h0 h' [] ∧ own_AF Z h' b 0 (fun j => [i9, i10, i11, i12, i13].getD j 0) ∧
      ∀ target, Steps p.tables e below (T'.setTop (mkF m 232 #[s0, s1, s2, s3, s4, s5, s6, .val (.int i7), s8, .val (.int i9), .val (.int i10), .val (.int i11), .val (.int i12), .val (.int i13), .val (.ref b), s15] [])) target → Steps p.tables e below (T0.setTop (mkF m 83 #[s0, s1, s2, s3, s4, s5, s6, .val (.int i7), s8, .val (.int i9), .val (.int i10), .val (.int i11), .val (.int i12), .val (.int i13), s14, s15] [])) target := by
  obtain ⟨T7, h7, k7, X7, e7, E7, A7, st7⟩ := newP X0 hx hZ (hw _ (List.mem_of_getElem? (i := 5) rfl)) e0 (g := (mkF m 89 #[s0, s1, s2, s3, s4, s5, s6, .val (.int i7), s8, .val (.int i9), .val (.int i10), .val (.int i11), .val (.int i12), .val (.int i13), s14, s15] [(.int (0 : Int32))])) rfl (hb hby at_89) rfl (by decide) (cap := 5) (by decide) (by decide) (by decide) (by decide)
  obtain ⟨b7, g7⟩ : ∃ z, z = h0.size := ⟨_, rfl⟩
  rw [← g7] at A7 st7
  have V_b7 := Arv.new A7 (by decide)
  have g_b7 : n0 ≤ b7 := Nat.le_trans Z0 (Nat.le_of_eq g7.symm)
  have sz_b7 : h0.size ≤ b7 := (Nat.le_trans (Keep.refl h0 []).1 (Nat.le_of_eq g7.symm))
  have K7 : Keep h0 h7 [] := (Keep.refl h0 []).ext E7
  refine ⟨T7, _, b7, _, g7, X7, e7, N0, K7, own_AF.ofArv V_b7 rfl (fun j hj => ?_), fun target kt => ?_⟩
  · omega
  show Steps p.tables e below (T0.setTop (mkF m 83 #[s0, s1, s2, s3, s4, s5, s6, .val (.int i7), s8, .val (.int i9), .val (.int i10), .val (.int i11), .val (.int i12), .val (.int i13), s14, s15] [])) _
  refine XS.iload X0.here hx rfl (hb hby at_83) rfl ?_
  show Steps p.tables e below (T0.setTop (mkF m 85 #[s0, s1, s2, s3, s4, s5, s6, .val (.int i7), s8, .val (.int i9), .val (.int i10), .val (.int i11), .val (.int i12), .val (.int i13), s14, s15] [(.int i7)])) _
  refine XS.ifNo X0.here hx rfl (hb hby at_85) rfl ((if0 _ _).trans (teq hc85).2) ?_
  show Steps p.tables e below (T0.setTop (mkF m 88 #[s0, s1, s2, s3, s4, s5, s6, .val (.int i7), s8, .val (.int i9), .val (.int i10), .val (.int i11), .val (.int i12), .val (.int i13), s14, s15] [])) _
  refine XS.iconst X0.here hx rfl (hb hby at_88) ?_
  show Steps p.tables e below (T0.setTop (mkF m 89 #[s0, s1, s2, s3, s4, s5, s6, .val (.int i7), s8, .val (.int i9), .val (.int i10), .val (.int i11), .val (.int i12), .val (.int i13), s14, s15] [(.int (0 : Int32))])) _
  refine st7 _ ?_
  show Steps p.tables e below (T7.setTop (mkF m 91 #[s0, s1, s2, s3, s4, s5, s6, .val (.int i7), s8, .val (.int i9), .val (.int i10), .val (.int i11), .val (.int i12), .val (.int i13), s14, s15] [(.ref b7)])) _
  refine XS.astore X7.here hx rfl (hb hby at_91) rfl rfl (l' := #[s0, s1, s2, s3, s4, s5, s6, .val (.int i7), s8, .val (.int i9), .val (.int i10), .val (.int i11), .val (.int i12), .val (.int i13), .val (.ref b7), s15]) (os0_91 hs14) ?_
  show Steps p.tables e below (T7.setTop (mkF m 93 #[s0, s1, s2, s3, s4, s5, s6, .val (.int i7), s8, .val (.int i9), .val (.int i10), .val (.int i11), .val (.int i12), .val (.int i13), .val (.ref b7), s15] [])) _
  refine XS.goto X7.here hx rfl (pc0 := 93) (pc' := 232) rfl (hb hby at_93) (by decide) (by decide) ?_
  exact kt
theorem os0_110 {s0 : Slot} {s1 : Slot} {s2 : Slot} {s3 : Slot} {s4 : Slot} {s5 : Slot} {s6 : Slot} {z7 : Value} {s8 : Slot} {z9 : Value} {z10 : Value} {z11 : Value} {z12 : Value} {z13 : Value} {s14 : Slot} {s15 : Slot} {v : Addr} (h : One s14) : storeLocals #[s0, s1, s2, s3, s4, s5, s6, .val z7, s8, .val z9, .val z10, .val z11, .val z12, .val z13, s14, s15] 14 (.ref v) = some #[s0, s1, s2, s3, s4, s5, s6, .val z7, s8, .val z9, .val z10, .val z11, .val z12, .val z13, .val (.ref v), s15] := by
  rcases h with rfl | ⟨w, rfl, hw⟩
  · rfl
  · cases w <;> first | rfl | (simp [Value.category] at hw)
set_option maxRecDepth 65536 in
set_option maxHeartbeats 40000000 in
theorem own_mk1 {p : Program} {l : Launch} {e : Env} {s : State} {m : MethodId} {args : Array Value} {below : List Frame} {meth : Method} {c : Code} {T0 : State} {locs : List Loc} {Z : State} {a0 : Array Value} {h0 : Heap} (s0 : Slot) (s1 : Slot) (s2 : Slot) (s3 : Slot) (s4 : Slot) (s5 : Slot) (s6 : Slot) (i7 : Int32) (s8 : Slot) (i9 : Int32) (i10 : Int32) (i11 : Int32) (i12 : Int32) (i13 : Int32) (s14 : Slot) (s15 : Slot)
    (X0 : Stand p l e room_1 s m args below meth c T0 locs 0 0) (hx : p.tables.exec = Jvm.exec) (hZ : Z.Warmed39 s.vm) (hw : ∀ d ∈ tables_1, d.before a0 Z = true) (hby : c.code = code) (hml : c.maxLocals = 16) (hown : s.vm.findClass "com/example/nuoli/nuoli/service/StrongComponentsMemberStartPinLaw" = some m.cls) (e0 : T0.heap = h0) (n0 : Nat) (N0 : Fr n0 locs) (Z0 : n0 ≤ h0.size) (hs14 : One s14) (hc85 : ¬ (i7 = (0 : Int32))) (hc99 : i7 = (1 : Int32)) :
    ∃ (T' : State) (h' : Heap) (b : Addr) (L' : List Loc), b = h0.size ∧ Stand p l e room_1 s m args below meth c T' L' 1 5 ∧ T'.heap = h' ∧ Fr n0 L' ∧ Keep h0 h' [] ∧ own_AF Z h' b 1 (fun j => [i9, i10, i11, i12, i13].getD j 0) ∧
      ∀ target, Steps p.tables e below (T'.setTop (mkF m 232 #[s0, s1, s2, s3, s4, s5, s6, .val (.int i7), s8, .val (.int i9), .val (.int i10), .val (.int i11), .val (.int i12), .val (.int i13), .val (.ref b), s15] [])) target → Steps p.tables e below (T0.setTop (mkF m 83 #[s0, s1, s2, s3, s4, s5, s6, .val (.int i7), s8, .val (.int i9), .val (.int i10), .val (.int i11), .val (.int i12), .val (.int i13), s14, s15] [])) target := by
  obtain ⟨T7, h7, k7, X7, e7, E7, A7, st7⟩ := newP X0 hx hZ (hw _ (List.mem_of_getElem? (i := 5) rfl)) e0 (g := (mkF m 103 #[s0, s1, s2, s3, s4, s5, s6, .val (.int i7), s8, .val (.int i9), .val (.int i10), .val (.int i11), .val (.int i12), .val (.int i13), s14, s15] [(.int (1 : Int32))])) rfl (hb hby at_103) rfl (by decide) (cap := 5) (by decide) (by decide) (by decide) (by decide)
  obtain ⟨b7, g7⟩ : ∃ z, z = h0.size := ⟨_, rfl⟩
  rw [← g7] at A7 st7
  have V_b7 : Arv Z h7 b7 k7 .int (1 : Int32) [(.int (0 : Int32))] (.int (0 : Int32)) := (Arv.new A7 (by decide)).pad (pad_rep [] (.int (0 : Int32)) 1)
  have g_b7 : n0 ≤ b7 := Nat.le_trans Z0 (Nat.le_of_eq g7.symm)
  have sz_b7 : h0.size ≤ b7 := (Nat.le_trans (Keep.refl h0 []).1 (Nat.le_of_eq g7.symm))
  have K7 : Keep h0 h7 [] := (Keep.refl h0 []).ext E7
  obtain ⟨cl_b7_109, Ar_b7, q_b7, S_b7, N_b7, H_b7, G_b7⟩ := V_b7
  have hin109 : ¬ ((0 : Int32) < 0 ∨ cl_b7_109.slots.size ≤ ((0 : Int32)).toNatClampNeg) := inb_of S_b7 ⟨by decide, by decide⟩
  obtain ⟨T8, h8, X8, e8, W8, st8⟩ := stI X7 hx hZ e7 Ar_b7 (j := (0 : Int32)) hin109 (g := (mkF m 109 #[s0, s1, s2, s3, s4, s5, s6, .val (.int i7), s8, .val (.int i9), .val (.int i10), .val (.int i11), .val (.int i12), .val (.int i13), s14, s15] [(.int i9), (.int (0 : Int32)), (.ref b7), (.ref b7)])) rfl rfl (hb hby at_109)
  have V_b7_8 := Arv.set Ar_b7 q_b7 S_b7 N_b7 H_b7 G_b7 rfl W8 0 rfl (Nat.le_of_ble_eq_true rfl)
  have K8 : Keep h0 h8 [] := K7.wr W8 (Or.inr sz_b7)
  have N8 := Fr.snoc X8 N0 g_b7
  refine ⟨T8, _, b7, _, g7, X8, e8, N8, K8, own_AF.ofArv V_b7_8 rfl (fun j hj => ?_), fun target kt => ?_⟩
  · have u : j = 0 := by omega
    rcases u with rfl <;> rfl
  show Steps p.tables e below (T0.setTop (mkF m 83 #[s0, s1, s2, s3, s4, s5, s6, .val (.int i7), s8, .val (.int i9), .val (.int i10), .val (.int i11), .val (.int i12), .val (.int i13), s14, s15] [])) _
  refine XS.iload X0.here hx rfl (hb hby at_83) rfl ?_
  show Steps p.tables e below (T0.setTop (mkF m 85 #[s0, s1, s2, s3, s4, s5, s6, .val (.int i7), s8, .val (.int i9), .val (.int i10), .val (.int i11), .val (.int i12), .val (.int i13), s14, s15] [(.int i7)])) _
  refine XS.ifYes X0.here hx rfl (pc0 := 85) (pc' := 96) rfl (hb hby at_85) rfl ((if0 _ _).trans (feq hc85).2) (by decide) (by decide) ?_
  show Steps p.tables e below (T0.setTop (mkF m 96 #[s0, s1, s2, s3, s4, s5, s6, .val (.int i7), s8, .val (.int i9), .val (.int i10), .val (.int i11), .val (.int i12), .val (.int i13), s14, s15] [])) _
  refine XS.iload X0.here hx rfl (hb hby at_96) rfl ?_
  show Steps p.tables e below (T0.setTop (mkF m 98 #[s0, s1, s2, s3, s4, s5, s6, .val (.int i7), s8, .val (.int i9), .val (.int i10), .val (.int i11), .val (.int i12), .val (.int i13), s14, s15] [(.int i7)])) _
  refine XS.iconst X0.here hx rfl (hb hby at_98) ?_
  show Steps p.tables e below (T0.setTop (mkF m 99 #[s0, s1, s2, s3, s4, s5, s6, .val (.int i7), s8, .val (.int i9), .val (.int i10), .val (.int i11), .val (.int i12), .val (.int i13), s14, s15] [(.int (1 : Int32)), (.int i7)])) _
  refine XS.icmpNo X0.here hx rfl (hb hby at_99) rfl (teq hc99).2 ?_
  show Steps p.tables e below (T0.setTop (mkF m 102 #[s0, s1, s2, s3, s4, s5, s6, .val (.int i7), s8, .val (.int i9), .val (.int i10), .val (.int i11), .val (.int i12), .val (.int i13), s14, s15] [])) _
  refine XS.iconst X0.here hx rfl (hb hby at_102) ?_
  show Steps p.tables e below (T0.setTop (mkF m 103 #[s0, s1, s2, s3, s4, s5, s6, .val (.int i7), s8, .val (.int i9), .val (.int i10), .val (.int i11), .val (.int i12), .val (.int i13), s14, s15] [(.int (1 : Int32))])) _
  refine st7 _ ?_
  show Steps p.tables e below (T7.setTop (mkF m 105 #[s0, s1, s2, s3, s4, s5, s6, .val (.int i7), s8, .val (.int i9), .val (.int i10), .val (.int i11), .val (.int i12), .val (.int i13), s14, s15] [(.ref b7)])) _
  refine XS.dup X7.here hx rfl (hb hby at_105) rfl rfl ?_
  show Steps p.tables e below (T7.setTop (mkF m 106 #[s0, s1, s2, s3, s4, s5, s6, .val (.int i7), s8, .val (.int i9), .val (.int i10), .val (.int i11), .val (.int i12), .val (.int i13), s14, s15] [(.ref b7), (.ref b7)])) _
  refine XS.iconst X7.here hx rfl (hb hby at_106) ?_
  show Steps p.tables e below (T7.setTop (mkF m 107 #[s0, s1, s2, s3, s4, s5, s6, .val (.int i7), s8, .val (.int i9), .val (.int i10), .val (.int i11), .val (.int i12), .val (.int i13), s14, s15] [(.int (0 : Int32)), (.ref b7), (.ref b7)])) _
  refine XS.iload X7.here hx rfl (hb hby at_107) rfl ?_
  show Steps p.tables e below (T7.setTop (mkF m 109 #[s0, s1, s2, s3, s4, s5, s6, .val (.int i7), s8, .val (.int i9), .val (.int i10), .val (.int i11), .val (.int i12), .val (.int i13), s14, s15] [(.int i9), (.int (0 : Int32)), (.ref b7), (.ref b7)])) _
  refine st8 _ ?_
  show Steps p.tables e below (T8.setTop (mkF m 110 #[s0, s1, s2, s3, s4, s5, s6, .val (.int i7), s8, .val (.int i9), .val (.int i10), .val (.int i11), .val (.int i12), .val (.int i13), s14, s15] [(.ref b7)])) _
  refine XS.astore X8.here hx rfl (hb hby at_110) rfl rfl (l' := #[s0, s1, s2, s3, s4, s5, s6, .val (.int i7), s8, .val (.int i9), .val (.int i10), .val (.int i11), .val (.int i12), .val (.int i13), .val (.ref b7), s15]) (os0_110 hs14) ?_
  show Steps p.tables e below (T8.setTop (mkF m 112 #[s0, s1, s2, s3, s4, s5, s6, .val (.int i7), s8, .val (.int i9), .val (.int i10), .val (.int i11), .val (.int i12), .val (.int i13), .val (.ref b7), s15] [])) _
  refine XS.goto X8.here hx rfl (pc0 := 112) (pc' := 232) rfl (hb hby at_112) (by decide) (by decide) ?_
  exact kt
theorem os0_134 {s0 : Slot} {s1 : Slot} {s2 : Slot} {s3 : Slot} {s4 : Slot} {s5 : Slot} {s6 : Slot} {z7 : Value} {s8 : Slot} {z9 : Value} {z10 : Value} {z11 : Value} {z12 : Value} {z13 : Value} {s14 : Slot} {s15 : Slot} {v : Addr} (h : One s14) : storeLocals #[s0, s1, s2, s3, s4, s5, s6, .val z7, s8, .val z9, .val z10, .val z11, .val z12, .val z13, s14, s15] 14 (.ref v) = some #[s0, s1, s2, s3, s4, s5, s6, .val z7, s8, .val z9, .val z10, .val z11, .val z12, .val z13, .val (.ref v), s15] := by
  rcases h with rfl | ⟨w, rfl, hw⟩
  · rfl
  · cases w <;> first | rfl | (simp [Value.category] at hw)
set_option maxRecDepth 65536 in
set_option maxHeartbeats 40000000 in
theorem own_mk2 {p : Program} {l : Launch} {e : Env} {s : State} {m : MethodId} {args : Array Value} {below : List Frame} {meth : Method} {c : Code} {T0 : State} {locs : List Loc} {Z : State} {a0 : Array Value} {h0 : Heap} (s0 : Slot) (s1 : Slot) (s2 : Slot) (s3 : Slot) (s4 : Slot) (s5 : Slot) (s6 : Slot) (i7 : Int32) (s8 : Slot) (i9 : Int32) (i10 : Int32) (i11 : Int32) (i12 : Int32) (i13 : Int32) (s14 : Slot) (s15 : Slot)
    (X0 : Stand p l e room_1 s m args below meth c T0 locs 0 0) (hx : p.tables.exec = Jvm.exec) (hZ : Z.Warmed39 s.vm) (hw : ∀ d ∈ tables_1, d.before a0 Z = true) (hby : c.code = code) (hml : c.maxLocals = 16) (hown : s.vm.findClass "com/example/nuoli/nuoli/service/StrongComponentsMemberStartPinLaw" = some m.cls) (e0 : T0.heap = h0) (n0 : Nat) (N0 : Fr n0 locs) (Z0 : n0 ≤ h0.size) (hs14 : One s14) (hc85 : ¬ (i7 = (0 : Int32))) (hc99 : ¬ (i7 = (1 : Int32))) (hc118 : i7 = (2 : Int32)) :
    ∃ (T' : State) (h' : Heap) (b : Addr) (L' : List Loc), b = h0.size ∧ Stand p l e room_1 s m args below meth c T' L' 1 5 ∧ T'.heap = h' ∧ Fr n0 L' ∧ Keep h0 h' [] ∧ own_AF Z h' b 2 (fun j => [i9, i10, i11, i12, i13].getD j 0) ∧
      ∀ target, Steps p.tables e below (T'.setTop (mkF m 232 #[s0, s1, s2, s3, s4, s5, s6, .val (.int i7), s8, .val (.int i9), .val (.int i10), .val (.int i11), .val (.int i12), .val (.int i13), .val (.ref b), s15] [])) target → Steps p.tables e below (T0.setTop (mkF m 83 #[s0, s1, s2, s3, s4, s5, s6, .val (.int i7), s8, .val (.int i9), .val (.int i10), .val (.int i11), .val (.int i12), .val (.int i13), s14, s15] [])) target := by
  obtain ⟨T7, h7, k7, X7, e7, E7, A7, st7⟩ := newP X0 hx hZ (hw _ (List.mem_of_getElem? (i := 5) rfl)) e0 (g := (mkF m 122 #[s0, s1, s2, s3, s4, s5, s6, .val (.int i7), s8, .val (.int i9), .val (.int i10), .val (.int i11), .val (.int i12), .val (.int i13), s14, s15] [(.int (2 : Int32))])) rfl (hb hby at_122) rfl (by decide) (cap := 5) (by decide) (by decide) (by decide) (by decide)
  obtain ⟨b7, g7⟩ : ∃ z, z = h0.size := ⟨_, rfl⟩
  rw [← g7] at A7 st7
  have V_b7 : Arv Z h7 b7 k7 .int (2 : Int32) [(.int (0 : Int32)), (.int (0 : Int32))] (.int (0 : Int32)) := (Arv.new A7 (by decide)).pad (pad_rep [] (.int (0 : Int32)) 2)
  have g_b7 : n0 ≤ b7 := Nat.le_trans Z0 (Nat.le_of_eq g7.symm)
  have sz_b7 : h0.size ≤ b7 := (Nat.le_trans (Keep.refl h0 []).1 (Nat.le_of_eq g7.symm))
  have K7 : Keep h0 h7 [] := (Keep.refl h0 []).ext E7
  obtain ⟨cl_b7_128, Ar_b7, q_b7, S_b7, N_b7, H_b7, G_b7⟩ := V_b7
  have hin128 : ¬ ((0 : Int32) < 0 ∨ cl_b7_128.slots.size ≤ ((0 : Int32)).toNatClampNeg) := inb_of S_b7 ⟨by decide, by decide⟩
  obtain ⟨T8, h8, X8, e8, W8, st8⟩ := stI X7 hx hZ e7 Ar_b7 (j := (0 : Int32)) hin128 (g := (mkF m 128 #[s0, s1, s2, s3, s4, s5, s6, .val (.int i7), s8, .val (.int i9), .val (.int i10), .val (.int i11), .val (.int i12), .val (.int i13), s14, s15] [(.int i9), (.int (0 : Int32)), (.ref b7), (.ref b7)])) rfl rfl (hb hby at_128)
  have V_b7_8 := Arv.set Ar_b7 q_b7 S_b7 N_b7 H_b7 G_b7 rfl W8 0 rfl (Nat.le_of_ble_eq_true rfl)
  have K8 : Keep h0 h8 [] := K7.wr W8 (Or.inr sz_b7)
  have N8 := Fr.snoc X8 N0 g_b7
  obtain ⟨cl_b7_133, Ar_b7, q_b7, S_b7, N_b7, H_b7, G_b7⟩ := V_b7_8
  have hin133 : ¬ ((1 : Int32) < 0 ∨ cl_b7_133.slots.size ≤ ((1 : Int32)).toNatClampNeg) := inb_of S_b7 ⟨by decide, by decide⟩
  obtain ⟨T9, h9, X9, e9, W9, st9⟩ := stI X8 hx hZ e8 Ar_b7 (j := (1 : Int32)) hin133 (g := (mkF m 133 #[s0, s1, s2, s3, s4, s5, s6, .val (.int i7), s8, .val (.int i9), .val (.int i10), .val (.int i11), .val (.int i12), .val (.int i13), s14, s15] [(.int i10), (.int (1 : Int32)), (.ref b7), (.ref b7)])) rfl rfl (hb hby at_133)
  have V_b7_9 := Arv.set Ar_b7 q_b7 S_b7 N_b7 H_b7 G_b7 rfl W9 1 rfl (Nat.le_of_ble_eq_true rfl)
  have K9 : Keep h0 h9 [] := K8.wr W9 (Or.inr sz_b7)
  have N9 := Fr.snoc X9 N8 g_b7
  refine ⟨T9, _, b7, _, g7, X9, e9, N9, K9, own_AF.ofArv V_b7_9 rfl (fun j hj => ?_), fun target kt => ?_⟩
  · have u : j = 0 ∨ j = 1 := by omega
    rcases u with rfl | rfl <;> rfl
  show Steps p.tables e below (T0.setTop (mkF m 83 #[s0, s1, s2, s3, s4, s5, s6, .val (.int i7), s8, .val (.int i9), .val (.int i10), .val (.int i11), .val (.int i12), .val (.int i13), s14, s15] [])) _
  refine XS.iload X0.here hx rfl (hb hby at_83) rfl ?_
  show Steps p.tables e below (T0.setTop (mkF m 85 #[s0, s1, s2, s3, s4, s5, s6, .val (.int i7), s8, .val (.int i9), .val (.int i10), .val (.int i11), .val (.int i12), .val (.int i13), s14, s15] [(.int i7)])) _
  refine XS.ifYes X0.here hx rfl (pc0 := 85) (pc' := 96) rfl (hb hby at_85) rfl ((if0 _ _).trans (feq hc85).2) (by decide) (by decide) ?_
  show Steps p.tables e below (T0.setTop (mkF m 96 #[s0, s1, s2, s3, s4, s5, s6, .val (.int i7), s8, .val (.int i9), .val (.int i10), .val (.int i11), .val (.int i12), .val (.int i13), s14, s15] [])) _
  refine XS.iload X0.here hx rfl (hb hby at_96) rfl ?_
  show Steps p.tables e below (T0.setTop (mkF m 98 #[s0, s1, s2, s3, s4, s5, s6, .val (.int i7), s8, .val (.int i9), .val (.int i10), .val (.int i11), .val (.int i12), .val (.int i13), s14, s15] [(.int i7)])) _
  refine XS.iconst X0.here hx rfl (hb hby at_98) ?_
  show Steps p.tables e below (T0.setTop (mkF m 99 #[s0, s1, s2, s3, s4, s5, s6, .val (.int i7), s8, .val (.int i9), .val (.int i10), .val (.int i11), .val (.int i12), .val (.int i13), s14, s15] [(.int (1 : Int32)), (.int i7)])) _
  refine XS.icmpYes X0.here hx rfl (pc0 := 99) (pc' := 115) rfl (hb hby at_99) rfl (feq hc99).2 (by decide) (by decide) ?_
  show Steps p.tables e below (T0.setTop (mkF m 115 #[s0, s1, s2, s3, s4, s5, s6, .val (.int i7), s8, .val (.int i9), .val (.int i10), .val (.int i11), .val (.int i12), .val (.int i13), s14, s15] [])) _
  refine XS.iload X0.here hx rfl (hb hby at_115) rfl ?_
  show Steps p.tables e below (T0.setTop (mkF m 117 #[s0, s1, s2, s3, s4, s5, s6, .val (.int i7), s8, .val (.int i9), .val (.int i10), .val (.int i11), .val (.int i12), .val (.int i13), s14, s15] [(.int i7)])) _
  refine XS.iconst X0.here hx rfl (hb hby at_117) ?_
  show Steps p.tables e below (T0.setTop (mkF m 118 #[s0, s1, s2, s3, s4, s5, s6, .val (.int i7), s8, .val (.int i9), .val (.int i10), .val (.int i11), .val (.int i12), .val (.int i13), s14, s15] [(.int (2 : Int32)), (.int i7)])) _
  refine XS.icmpNo X0.here hx rfl (hb hby at_118) rfl (teq hc118).2 ?_
  show Steps p.tables e below (T0.setTop (mkF m 121 #[s0, s1, s2, s3, s4, s5, s6, .val (.int i7), s8, .val (.int i9), .val (.int i10), .val (.int i11), .val (.int i12), .val (.int i13), s14, s15] [])) _
  refine XS.iconst X0.here hx rfl (hb hby at_121) ?_
  show Steps p.tables e below (T0.setTop (mkF m 122 #[s0, s1, s2, s3, s4, s5, s6, .val (.int i7), s8, .val (.int i9), .val (.int i10), .val (.int i11), .val (.int i12), .val (.int i13), s14, s15] [(.int (2 : Int32))])) _
  refine st7 _ ?_
  show Steps p.tables e below (T7.setTop (mkF m 124 #[s0, s1, s2, s3, s4, s5, s6, .val (.int i7), s8, .val (.int i9), .val (.int i10), .val (.int i11), .val (.int i12), .val (.int i13), s14, s15] [(.ref b7)])) _
  refine XS.dup X7.here hx rfl (hb hby at_124) rfl rfl ?_
  show Steps p.tables e below (T7.setTop (mkF m 125 #[s0, s1, s2, s3, s4, s5, s6, .val (.int i7), s8, .val (.int i9), .val (.int i10), .val (.int i11), .val (.int i12), .val (.int i13), s14, s15] [(.ref b7), (.ref b7)])) _
  refine XS.iconst X7.here hx rfl (hb hby at_125) ?_
  show Steps p.tables e below (T7.setTop (mkF m 126 #[s0, s1, s2, s3, s4, s5, s6, .val (.int i7), s8, .val (.int i9), .val (.int i10), .val (.int i11), .val (.int i12), .val (.int i13), s14, s15] [(.int (0 : Int32)), (.ref b7), (.ref b7)])) _
  refine XS.iload X7.here hx rfl (hb hby at_126) rfl ?_
  show Steps p.tables e below (T7.setTop (mkF m 128 #[s0, s1, s2, s3, s4, s5, s6, .val (.int i7), s8, .val (.int i9), .val (.int i10), .val (.int i11), .val (.int i12), .val (.int i13), s14, s15] [(.int i9), (.int (0 : Int32)), (.ref b7), (.ref b7)])) _
  refine st8 _ ?_
  show Steps p.tables e below (T8.setTop (mkF m 129 #[s0, s1, s2, s3, s4, s5, s6, .val (.int i7), s8, .val (.int i9), .val (.int i10), .val (.int i11), .val (.int i12), .val (.int i13), s14, s15] [(.ref b7)])) _
  refine XS.dup X8.here hx rfl (hb hby at_129) rfl rfl ?_
  show Steps p.tables e below (T8.setTop (mkF m 130 #[s0, s1, s2, s3, s4, s5, s6, .val (.int i7), s8, .val (.int i9), .val (.int i10), .val (.int i11), .val (.int i12), .val (.int i13), s14, s15] [(.ref b7), (.ref b7)])) _
  refine XS.iconst X8.here hx rfl (hb hby at_130) ?_
  show Steps p.tables e below (T8.setTop (mkF m 131 #[s0, s1, s2, s3, s4, s5, s6, .val (.int i7), s8, .val (.int i9), .val (.int i10), .val (.int i11), .val (.int i12), .val (.int i13), s14, s15] [(.int (1 : Int32)), (.ref b7), (.ref b7)])) _
  refine XS.iload X8.here hx rfl (hb hby at_131) rfl ?_
  show Steps p.tables e below (T8.setTop (mkF m 133 #[s0, s1, s2, s3, s4, s5, s6, .val (.int i7), s8, .val (.int i9), .val (.int i10), .val (.int i11), .val (.int i12), .val (.int i13), s14, s15] [(.int i10), (.int (1 : Int32)), (.ref b7), (.ref b7)])) _
  refine st9 _ ?_
  show Steps p.tables e below (T9.setTop (mkF m 134 #[s0, s1, s2, s3, s4, s5, s6, .val (.int i7), s8, .val (.int i9), .val (.int i10), .val (.int i11), .val (.int i12), .val (.int i13), s14, s15] [(.ref b7)])) _
  refine XS.astore X9.here hx rfl (hb hby at_134) rfl rfl (l' := #[s0, s1, s2, s3, s4, s5, s6, .val (.int i7), s8, .val (.int i9), .val (.int i10), .val (.int i11), .val (.int i12), .val (.int i13), .val (.ref b7), s15]) (os0_134 hs14) ?_
  show Steps p.tables e below (T9.setTop (mkF m 136 #[s0, s1, s2, s3, s4, s5, s6, .val (.int i7), s8, .val (.int i9), .val (.int i10), .val (.int i11), .val (.int i12), .val (.int i13), .val (.ref b7), s15] [])) _
  refine XS.goto X9.here hx rfl (pc0 := 136) (pc' := 232) rfl (hb hby at_136) (by decide) (by decide) ?_
  exact kt
theorem os0_163 {s0 : Slot} {s1 : Slot} {s2 : Slot} {s3 : Slot} {s4 : Slot} {s5 : Slot} {s6 : Slot} {z7 : Value} {s8 : Slot} {z9 : Value} {z10 : Value} {z11 : Value} {z12 : Value} {z13 : Value} {s14 : Slot} {s15 : Slot} {v : Addr} (h : One s14) : storeLocals #[s0, s1, s2, s3, s4, s5, s6, .val z7, s8, .val z9, .val z10, .val z11, .val z12, .val z13, s14, s15] 14 (.ref v) = some #[s0, s1, s2, s3, s4, s5, s6, .val z7, s8, .val z9, .val z10, .val z11, .val z12, .val z13, .val (.ref v), s15] := by
  rcases h with rfl | ⟨w, rfl, hw⟩
  · rfl
  · cases w <;> first | rfl | (simp [Value.category] at hw)
set_option maxRecDepth 65536 in
set_option maxHeartbeats 40000000 in
theorem own_mk3 {p : Program} {l : Launch} {e : Env} {s : State} {m : MethodId} {args : Array Value} {below : List Frame} {meth : Method} {c : Code} {T0 : State} {locs : List Loc} {Z : State} {a0 : Array Value} {h0 : Heap} (s0 : Slot) (s1 : Slot) (s2 : Slot) (s3 : Slot) (s4 : Slot) (s5 : Slot) (s6 : Slot) (i7 : Int32) (s8 : Slot) (i9 : Int32) (i10 : Int32) (i11 : Int32) (i12 : Int32) (i13 : Int32) (s14 : Slot) (s15 : Slot)
    (X0 : Stand p l e room_1 s m args below meth c T0 locs 0 0) (hx : p.tables.exec = Jvm.exec) (hZ : Z.Warmed39 s.vm) (hw : ∀ d ∈ tables_1, d.before a0 Z = true) (hby : c.code = code) (hml : c.maxLocals = 16) (hown : s.vm.findClass "com/example/nuoli/nuoli/service/StrongComponentsMemberStartPinLaw" = some m.cls) (e0 : T0.heap = h0) (n0 : Nat) (N0 : Fr n0 locs) (Z0 : n0 ≤ h0.size) (hs14 : One s14) (hc85 : ¬ (i7 = (0 : Int32))) (hc99 : ¬ (i7 = (1 : Int32))) (hc118 : ¬ (i7 = (2 : Int32))) (hc142 : i7 = (3 : Int32)) :
    ∃ (T' : State) (h' : Heap) (b : Addr) (L' : List Loc), b = h0.size ∧ Stand p l e room_1 s m args below meth c T' L' 1 5 ∧ T'.heap = h' ∧ Fr n0 L' ∧ Keep h0 h' [] ∧ own_AF Z h' b 3 (fun j => [i9, i10, i11, i12, i13].getD j 0) ∧
      ∀ target, Steps p.tables e below (T'.setTop (mkF m 232 #[s0, s1, s2, s3, s4, s5, s6, .val (.int i7), s8, .val (.int i9), .val (.int i10), .val (.int i11), .val (.int i12), .val (.int i13), .val (.ref b), s15] [])) target → Steps p.tables e below (T0.setTop (mkF m 83 #[s0, s1, s2, s3, s4, s5, s6, .val (.int i7), s8, .val (.int i9), .val (.int i10), .val (.int i11), .val (.int i12), .val (.int i13), s14, s15] [])) target := by
  obtain ⟨T7, h7, k7, X7, e7, E7, A7, st7⟩ := newP X0 hx hZ (hw _ (List.mem_of_getElem? (i := 5) rfl)) e0 (g := (mkF m 146 #[s0, s1, s2, s3, s4, s5, s6, .val (.int i7), s8, .val (.int i9), .val (.int i10), .val (.int i11), .val (.int i12), .val (.int i13), s14, s15] [(.int (3 : Int32))])) rfl (hb hby at_146) rfl (by decide) (cap := 5) (by decide) (by decide) (by decide) (by decide)
  obtain ⟨b7, g7⟩ : ∃ z, z = h0.size := ⟨_, rfl⟩
  rw [← g7] at A7 st7
  have V_b7 : Arv Z h7 b7 k7 .int (3 : Int32) [(.int (0 : Int32)), (.int (0 : Int32)), (.int (0 : Int32))] (.int (0 : Int32)) := (Arv.new A7 (by decide)).pad (pad_rep [] (.int (0 : Int32)) 3)
  have g_b7 : n0 ≤ b7 := Nat.le_trans Z0 (Nat.le_of_eq g7.symm)
  have sz_b7 : h0.size ≤ b7 := (Nat.le_trans (Keep.refl h0 []).1 (Nat.le_of_eq g7.symm))
  have K7 : Keep h0 h7 [] := (Keep.refl h0 []).ext E7
  obtain ⟨cl_b7_152, Ar_b7, q_b7, S_b7, N_b7, H_b7, G_b7⟩ := V_b7
  have hin152 : ¬ ((0 : Int32) < 0 ∨ cl_b7_152.slots.size ≤ ((0 : Int32)).toNatClampNeg) := inb_of S_b7 ⟨by decide, by decide⟩
  obtain ⟨T8, h8, X8, e8, W8, st8⟩ := stI X7 hx hZ e7 Ar_b7 (j := (0 : Int32)) hin152 (g := (mkF m 152 #[s0, s1, s2, s3, s4, s5, s6, .val (.int i7), s8, .val (.int i9), .val (.int i10), .val (.int i11), .val (.int i12), .val (.int i13), s14, s15] [(.int i9), (.int (0 : Int32)), (.ref b7), (.ref b7)])) rfl rfl (hb hby at_152)
  have V_b7_8 := Arv.set Ar_b7 q_b7 S_b7 N_b7 H_b7 G_b7 rfl W8 0 rfl (Nat.le_of_ble_eq_true rfl)
  have K8 : Keep h0 h8 [] := K7.wr W8 (Or.inr sz_b7)
  have N8 := Fr.snoc X8 N0 g_b7
  obtain ⟨cl_b7_157, Ar_b7, q_b7, S_b7, N_b7, H_b7, G_b7⟩ := V_b7_8
  have hin157 : ¬ ((1 : Int32) < 0 ∨ cl_b7_157.slots.size ≤ ((1 : Int32)).toNatClampNeg) := inb_of S_b7 ⟨by decide, by decide⟩
  obtain ⟨T9, h9, X9, e9, W9, st9⟩ := stI X8 hx hZ e8 Ar_b7 (j := (1 : Int32)) hin157 (g := (mkF m 157 #[s0, s1, s2, s3, s4, s5, s6, .val (.int i7), s8, .val (.int i9), .val (.int i10), .val (.int i11), .val (.int i12), .val (.int i13), s14, s15] [(.int i10), (.int (1 : Int32)), (.ref b7), (.ref b7)])) rfl rfl (hb hby at_157)
  have V_b7_9 := Arv.set Ar_b7 q_b7 S_b7 N_b7 H_b7 G_b7 rfl W9 1 rfl (Nat.le_of_ble_eq_true rfl)
  have K9 : Keep h0 h9 [] := K8.wr W9 (Or.inr sz_b7)
  have N9 := Fr.snoc X9 N8 g_b7
  obtain ⟨cl_b7_162, Ar_b7, q_b7, S_b7, N_b7, H_b7, G_b7⟩ := V_b7_9
  have hin162 : ¬ ((2 : Int32) < 0 ∨ cl_b7_162.slots.size ≤ ((2 : Int32)).toNatClampNeg) := inb_of S_b7 ⟨by decide, by decide⟩
  obtain ⟨T10, h10, X10, e10, W10, st10⟩ := stI X9 hx hZ e9 Ar_b7 (j := (2 : Int32)) hin162 (g := (mkF m 162 #[s0, s1, s2, s3, s4, s5, s6, .val (.int i7), s8, .val (.int i9), .val (.int i10), .val (.int i11), .val (.int i12), .val (.int i13), s14, s15] [(.int i11), (.int (2 : Int32)), (.ref b7), (.ref b7)])) rfl rfl (hb hby at_162)
  have V_b7_10 := Arv.set Ar_b7 q_b7 S_b7 N_b7 H_b7 G_b7 rfl W10 2 rfl (Nat.le_of_ble_eq_true rfl)
  have K10 : Keep h0 h10 [] := K9.wr W10 (Or.inr sz_b7)
  have N10 := Fr.snoc X10 N9 g_b7
  refine ⟨T10, _, b7, _, g7, X10, e10, N10, K10, own_AF.ofArv V_b7_10 rfl (fun j hj => ?_), fun target kt => ?_⟩
  · have u : j = 0 ∨ j = 1 ∨ j = 2 := by omega
    rcases u with rfl | rfl | rfl <;> rfl
  show Steps p.tables e below (T0.setTop (mkF m 83 #[s0, s1, s2, s3, s4, s5, s6, .val (.int i7), s8, .val (.int i9), .val (.int i10), .val (.int i11), .val (.int i12), .val (.int i13), s14, s15] [])) _
  refine XS.iload X0.here hx rfl (hb hby at_83) rfl ?_
  show Steps p.tables e below (T0.setTop (mkF m 85 #[s0, s1, s2, s3, s4, s5, s6, .val (.int i7), s8, .val (.int i9), .val (.int i10), .val (.int i11), .val (.int i12), .val (.int i13), s14, s15] [(.int i7)])) _
  refine XS.ifYes X0.here hx rfl (pc0 := 85) (pc' := 96) rfl (hb hby at_85) rfl ((if0 _ _).trans (feq hc85).2) (by decide) (by decide) ?_
  show Steps p.tables e below (T0.setTop (mkF m 96 #[s0, s1, s2, s3, s4, s5, s6, .val (.int i7), s8, .val (.int i9), .val (.int i10), .val (.int i11), .val (.int i12), .val (.int i13), s14, s15] [])) _
  refine XS.iload X0.here hx rfl (hb hby at_96) rfl ?_
  show Steps p.tables e below (T0.setTop (mkF m 98 #[s0, s1, s2, s3, s4, s5, s6, .val (.int i7), s8, .val (.int i9), .val (.int i10), .val (.int i11), .val (.int i12), .val (.int i13), s14, s15] [(.int i7)])) _
  refine XS.iconst X0.here hx rfl (hb hby at_98) ?_
  show Steps p.tables e below (T0.setTop (mkF m 99 #[s0, s1, s2, s3, s4, s5, s6, .val (.int i7), s8, .val (.int i9), .val (.int i10), .val (.int i11), .val (.int i12), .val (.int i13), s14, s15] [(.int (1 : Int32)), (.int i7)])) _
  refine XS.icmpYes X0.here hx rfl (pc0 := 99) (pc' := 115) rfl (hb hby at_99) rfl (feq hc99).2 (by decide) (by decide) ?_
  show Steps p.tables e below (T0.setTop (mkF m 115 #[s0, s1, s2, s3, s4, s5, s6, .val (.int i7), s8, .val (.int i9), .val (.int i10), .val (.int i11), .val (.int i12), .val (.int i13), s14, s15] [])) _
  refine XS.iload X0.here hx rfl (hb hby at_115) rfl ?_
  show Steps p.tables e below (T0.setTop (mkF m 117 #[s0, s1, s2, s3, s4, s5, s6, .val (.int i7), s8, .val (.int i9), .val (.int i10), .val (.int i11), .val (.int i12), .val (.int i13), s14, s15] [(.int i7)])) _
  refine XS.iconst X0.here hx rfl (hb hby at_117) ?_
  show Steps p.tables e below (T0.setTop (mkF m 118 #[s0, s1, s2, s3, s4, s5, s6, .val (.int i7), s8, .val (.int i9), .val (.int i10), .val (.int i11), .val (.int i12), .val (.int i13), s14, s15] [(.int (2 : Int32)), (.int i7)])) _
  refine XS.icmpYes X0.here hx rfl (pc0 := 118) (pc' := 139) rfl (hb hby at_118) rfl (feq hc118).2 (by decide) (by decide) ?_
  show Steps p.tables e below (T0.setTop (mkF m 139 #[s0, s1, s2, s3, s4, s5, s6, .val (.int i7), s8, .val (.int i9), .val (.int i10), .val (.int i11), .val (.int i12), .val (.int i13), s14, s15] [])) _
  refine XS.iload X0.here hx rfl (hb hby at_139) rfl ?_
  show Steps p.tables e below (T0.setTop (mkF m 141 #[s0, s1, s2, s3, s4, s5, s6, .val (.int i7), s8, .val (.int i9), .val (.int i10), .val (.int i11), .val (.int i12), .val (.int i13), s14, s15] [(.int i7)])) _
  refine XS.iconst X0.here hx rfl (hb hby at_141) ?_
  show Steps p.tables e below (T0.setTop (mkF m 142 #[s0, s1, s2, s3, s4, s5, s6, .val (.int i7), s8, .val (.int i9), .val (.int i10), .val (.int i11), .val (.int i12), .val (.int i13), s14, s15] [(.int (3 : Int32)), (.int i7)])) _
  refine XS.icmpNo X0.here hx rfl (hb hby at_142) rfl (teq hc142).2 ?_
  show Steps p.tables e below (T0.setTop (mkF m 145 #[s0, s1, s2, s3, s4, s5, s6, .val (.int i7), s8, .val (.int i9), .val (.int i10), .val (.int i11), .val (.int i12), .val (.int i13), s14, s15] [])) _
  refine XS.iconst X0.here hx rfl (hb hby at_145) ?_
  show Steps p.tables e below (T0.setTop (mkF m 146 #[s0, s1, s2, s3, s4, s5, s6, .val (.int i7), s8, .val (.int i9), .val (.int i10), .val (.int i11), .val (.int i12), .val (.int i13), s14, s15] [(.int (3 : Int32))])) _
  refine st7 _ ?_
  show Steps p.tables e below (T7.setTop (mkF m 148 #[s0, s1, s2, s3, s4, s5, s6, .val (.int i7), s8, .val (.int i9), .val (.int i10), .val (.int i11), .val (.int i12), .val (.int i13), s14, s15] [(.ref b7)])) _
  refine XS.dup X7.here hx rfl (hb hby at_148) rfl rfl ?_
  show Steps p.tables e below (T7.setTop (mkF m 149 #[s0, s1, s2, s3, s4, s5, s6, .val (.int i7), s8, .val (.int i9), .val (.int i10), .val (.int i11), .val (.int i12), .val (.int i13), s14, s15] [(.ref b7), (.ref b7)])) _
  refine XS.iconst X7.here hx rfl (hb hby at_149) ?_
  show Steps p.tables e below (T7.setTop (mkF m 150 #[s0, s1, s2, s3, s4, s5, s6, .val (.int i7), s8, .val (.int i9), .val (.int i10), .val (.int i11), .val (.int i12), .val (.int i13), s14, s15] [(.int (0 : Int32)), (.ref b7), (.ref b7)])) _
  refine XS.iload X7.here hx rfl (hb hby at_150) rfl ?_
  show Steps p.tables e below (T7.setTop (mkF m 152 #[s0, s1, s2, s3, s4, s5, s6, .val (.int i7), s8, .val (.int i9), .val (.int i10), .val (.int i11), .val (.int i12), .val (.int i13), s14, s15] [(.int i9), (.int (0 : Int32)), (.ref b7), (.ref b7)])) _
  refine st8 _ ?_
  show Steps p.tables e below (T8.setTop (mkF m 153 #[s0, s1, s2, s3, s4, s5, s6, .val (.int i7), s8, .val (.int i9), .val (.int i10), .val (.int i11), .val (.int i12), .val (.int i13), s14, s15] [(.ref b7)])) _
  refine XS.dup X8.here hx rfl (hb hby at_153) rfl rfl ?_
  show Steps p.tables e below (T8.setTop (mkF m 154 #[s0, s1, s2, s3, s4, s5, s6, .val (.int i7), s8, .val (.int i9), .val (.int i10), .val (.int i11), .val (.int i12), .val (.int i13), s14, s15] [(.ref b7), (.ref b7)])) _
  refine XS.iconst X8.here hx rfl (hb hby at_154) ?_
  show Steps p.tables e below (T8.setTop (mkF m 155 #[s0, s1, s2, s3, s4, s5, s6, .val (.int i7), s8, .val (.int i9), .val (.int i10), .val (.int i11), .val (.int i12), .val (.int i13), s14, s15] [(.int (1 : Int32)), (.ref b7), (.ref b7)])) _
  refine XS.iload X8.here hx rfl (hb hby at_155) rfl ?_
  show Steps p.tables e below (T8.setTop (mkF m 157 #[s0, s1, s2, s3, s4, s5, s6, .val (.int i7), s8, .val (.int i9), .val (.int i10), .val (.int i11), .val (.int i12), .val (.int i13), s14, s15] [(.int i10), (.int (1 : Int32)), (.ref b7), (.ref b7)])) _
  refine st9 _ ?_
  show Steps p.tables e below (T9.setTop (mkF m 158 #[s0, s1, s2, s3, s4, s5, s6, .val (.int i7), s8, .val (.int i9), .val (.int i10), .val (.int i11), .val (.int i12), .val (.int i13), s14, s15] [(.ref b7)])) _
  refine XS.dup X9.here hx rfl (hb hby at_158) rfl rfl ?_
  show Steps p.tables e below (T9.setTop (mkF m 159 #[s0, s1, s2, s3, s4, s5, s6, .val (.int i7), s8, .val (.int i9), .val (.int i10), .val (.int i11), .val (.int i12), .val (.int i13), s14, s15] [(.ref b7), (.ref b7)])) _
  refine XS.iconst X9.here hx rfl (hb hby at_159) ?_
  show Steps p.tables e below (T9.setTop (mkF m 160 #[s0, s1, s2, s3, s4, s5, s6, .val (.int i7), s8, .val (.int i9), .val (.int i10), .val (.int i11), .val (.int i12), .val (.int i13), s14, s15] [(.int (2 : Int32)), (.ref b7), (.ref b7)])) _
  refine XS.iload X9.here hx rfl (hb hby at_160) rfl ?_
  show Steps p.tables e below (T9.setTop (mkF m 162 #[s0, s1, s2, s3, s4, s5, s6, .val (.int i7), s8, .val (.int i9), .val (.int i10), .val (.int i11), .val (.int i12), .val (.int i13), s14, s15] [(.int i11), (.int (2 : Int32)), (.ref b7), (.ref b7)])) _
  refine st10 _ ?_
  show Steps p.tables e below (T10.setTop (mkF m 163 #[s0, s1, s2, s3, s4, s5, s6, .val (.int i7), s8, .val (.int i9), .val (.int i10), .val (.int i11), .val (.int i12), .val (.int i13), s14, s15] [(.ref b7)])) _
  refine XS.astore X10.here hx rfl (hb hby at_163) rfl rfl (l' := #[s0, s1, s2, s3, s4, s5, s6, .val (.int i7), s8, .val (.int i9), .val (.int i10), .val (.int i11), .val (.int i12), .val (.int i13), .val (.ref b7), s15]) (os0_163 hs14) ?_
  show Steps p.tables e below (T10.setTop (mkF m 165 #[s0, s1, s2, s3, s4, s5, s6, .val (.int i7), s8, .val (.int i9), .val (.int i10), .val (.int i11), .val (.int i12), .val (.int i13), .val (.ref b7), s15] [])) _
  refine XS.goto X10.here hx rfl (pc0 := 165) (pc' := 232) rfl (hb hby at_165) (by decide) (by decide) ?_
  exact kt
theorem os0_197 {s0 : Slot} {s1 : Slot} {s2 : Slot} {s3 : Slot} {s4 : Slot} {s5 : Slot} {s6 : Slot} {z7 : Value} {s8 : Slot} {z9 : Value} {z10 : Value} {z11 : Value} {z12 : Value} {z13 : Value} {s14 : Slot} {s15 : Slot} {v : Addr} (h : One s14) : storeLocals #[s0, s1, s2, s3, s4, s5, s6, .val z7, s8, .val z9, .val z10, .val z11, .val z12, .val z13, s14, s15] 14 (.ref v) = some #[s0, s1, s2, s3, s4, s5, s6, .val z7, s8, .val z9, .val z10, .val z11, .val z12, .val z13, .val (.ref v), s15] := by
  rcases h with rfl | ⟨w, rfl, hw⟩
  · rfl
  · cases w <;> first | rfl | (simp [Value.category] at hw)
set_option maxRecDepth 65536 in
set_option maxHeartbeats 40000000 in
theorem own_mk4 {p : Program} {l : Launch} {e : Env} {s : State} {m : MethodId} {args : Array Value} {below : List Frame} {meth : Method} {c : Code} {T0 : State} {locs : List Loc} {Z : State} {a0 : Array Value} {h0 : Heap} (s0 : Slot) (s1 : Slot) (s2 : Slot) (s3 : Slot) (s4 : Slot) (s5 : Slot) (s6 : Slot) (i7 : Int32) (s8 : Slot) (i9 : Int32) (i10 : Int32) (i11 : Int32) (i12 : Int32) (i13 : Int32) (s14 : Slot) (s15 : Slot)
    (X0 : Stand p l e room_1 s m args below meth c T0 locs 0 0) (hx : p.tables.exec = Jvm.exec) (hZ : Z.Warmed39 s.vm) (hw : ∀ d ∈ tables_1, d.before a0 Z = true) (hby : c.code = code) (hml : c.maxLocals = 16) (hown : s.vm.findClass "com/example/nuoli/nuoli/service/StrongComponentsMemberStartPinLaw" = some m.cls) (e0 : T0.heap = h0) (n0 : Nat) (N0 : Fr n0 locs) (Z0 : n0 ≤ h0.size) (hs14 : One s14) (hc85 : ¬ (i7 = (0 : Int32))) (hc99 : ¬ (i7 = (1 : Int32))) (hc118 : ¬ (i7 = (2 : Int32))) (hc142 : ¬ (i7 = (3 : Int32))) (hc171 : i7 = (4 : Int32)) :
    ∃ (T' : State) (h' : Heap) (b : Addr) (L' : List Loc), b = h0.size ∧ Stand p l e room_1 s m args below meth c T' L' 1 5 ∧ T'.heap = h' ∧ Fr n0 L' ∧ Keep h0 h' [] ∧ own_AF Z h' b 4 (fun j => [i9, i10, i11, i12, i13].getD j 0) ∧
      ∀ target, Steps p.tables e below (T'.setTop (mkF m 232 #[s0, s1, s2, s3, s4, s5, s6, .val (.int i7), s8, .val (.int i9), .val (.int i10), .val (.int i11), .val (.int i12), .val (.int i13), .val (.ref b), s15] [])) target → Steps p.tables e below (T0.setTop (mkF m 83 #[s0, s1, s2, s3, s4, s5, s6, .val (.int i7), s8, .val (.int i9), .val (.int i10), .val (.int i11), .val (.int i12), .val (.int i13), s14, s15] [])) target := by
  obtain ⟨T7, h7, k7, X7, e7, E7, A7, st7⟩ := newP X0 hx hZ (hw _ (List.mem_of_getElem? (i := 5) rfl)) e0 (g := (mkF m 175 #[s0, s1, s2, s3, s4, s5, s6, .val (.int i7), s8, .val (.int i9), .val (.int i10), .val (.int i11), .val (.int i12), .val (.int i13), s14, s15] [(.int (4 : Int32))])) rfl (hb hby at_175) rfl (by decide) (cap := 5) (by decide) (by decide) (by decide) (by decide)
  obtain ⟨b7, g7⟩ : ∃ z, z = h0.size := ⟨_, rfl⟩
  rw [← g7] at A7 st7
  have V_b7 : Arv Z h7 b7 k7 .int (4 : Int32) [(.int (0 : Int32)), (.int (0 : Int32)), (.int (0 : Int32)), (.int (0 : Int32))] (.int (0 : Int32)) := (Arv.new A7 (by decide)).pad (pad_rep [] (.int (0 : Int32)) 4)
  have g_b7 : n0 ≤ b7 := Nat.le_trans Z0 (Nat.le_of_eq g7.symm)
  have sz_b7 : h0.size ≤ b7 := (Nat.le_trans (Keep.refl h0 []).1 (Nat.le_of_eq g7.symm))
  have K7 : Keep h0 h7 [] := (Keep.refl h0 []).ext E7
  obtain ⟨cl_b7_181, Ar_b7, q_b7, S_b7, N_b7, H_b7, G_b7⟩ := V_b7
  have hin181 : ¬ ((0 : Int32) < 0 ∨ cl_b7_181.slots.size ≤ ((0 : Int32)).toNatClampNeg) := inb_of S_b7 ⟨by decide, by decide⟩
  obtain ⟨T8, h8, X8, e8, W8, st8⟩ := stI X7 hx hZ e7 Ar_b7 (j := (0 : Int32)) hin181 (g := (mkF m 181 #[s0, s1, s2, s3, s4, s5, s6, .val (.int i7), s8, .val (.int i9), .val (.int i10), .val (.int i11), .val (.int i12), .val (.int i13), s14, s15] [(.int i9), (.int (0 : Int32)), (.ref b7), (.ref b7)])) rfl rfl (hb hby at_181)
  have V_b7_8 := Arv.set Ar_b7 q_b7 S_b7 N_b7 H_b7 G_b7 rfl W8 0 rfl (Nat.le_of_ble_eq_true rfl)
  have K8 : Keep h0 h8 [] := K7.wr W8 (Or.inr sz_b7)
  have N8 := Fr.snoc X8 N0 g_b7
  obtain ⟨cl_b7_186, Ar_b7, q_b7, S_b7, N_b7, H_b7, G_b7⟩ := V_b7_8
  have hin186 : ¬ ((1 : Int32) < 0 ∨ cl_b7_186.slots.size ≤ ((1 : Int32)).toNatClampNeg) := inb_of S_b7 ⟨by decide, by decide⟩
  obtain ⟨T9, h9, X9, e9, W9, st9⟩ := stI X8 hx hZ e8 Ar_b7 (j := (1 : Int32)) hin186 (g := (mkF m 186 #[s0, s1, s2, s3, s4, s5, s6, .val (.int i7), s8, .val (.int i9), .val (.int i10), .val (.int i11), .val (.int i12), .val (.int i13), s14, s15] [(.int i10), (.int (1 : Int32)), (.ref b7), (.ref b7)])) rfl rfl (hb hby at_186)
  have V_b7_9 := Arv.set Ar_b7 q_b7 S_b7 N_b7 H_b7 G_b7 rfl W9 1 rfl (Nat.le_of_ble_eq_true rfl)
  have K9 : Keep h0 h9 [] := K8.wr W9 (Or.inr sz_b7)
  have N9 := Fr.snoc X9 N8 g_b7
  obtain ⟨cl_b7_191, Ar_b7, q_b7, S_b7, N_b7, H_b7, G_b7⟩ := V_b7_9
  have hin191 : ¬ ((2 : Int32) < 0 ∨ cl_b7_191.slots.size ≤ ((2 : Int32)).toNatClampNeg) := inb_of S_b7 ⟨by decide, by decide⟩
  obtain ⟨T10, h10, X10, e10, W10, st10⟩ := stI X9 hx hZ e9 Ar_b7 (j := (2 : Int32)) hin191 (g := (mkF m 191 #[s0, s1, s2, s3, s4, s5, s6, .val (.int i7), s8, .val (.int i9), .val (.int i10), .val (.int i11), .val (.int i12), .val (.int i13), s14, s15] [(.int i11), (.int (2 : Int32)), (.ref b7), (.ref b7)])) rfl rfl (hb hby at_191)
  have V_b7_10 := Arv.set Ar_b7 q_b7 S_b7 N_b7 H_b7 G_b7 rfl W10 2 rfl (Nat.le_of_ble_eq_true rfl)
  have K10 : Keep h0 h10 [] := K9.wr W10 (Or.inr sz_b7)
  have N10 := Fr.snoc X10 N9 g_b7
  obtain ⟨cl_b7_196, Ar_b7, q_b7, S_b7, N_b7, H_b7, G_b7⟩ := V_b7_10
  have hin196 : ¬ ((3 : Int32) < 0 ∨ cl_b7_196.slots.size ≤ ((3 : Int32)).toNatClampNeg) := inb_of S_b7 ⟨by decide, by decide⟩
  obtain ⟨T11, h11, X11, e11, W11, st11⟩ := stI X10 hx hZ e10 Ar_b7 (j := (3 : Int32)) hin196 (g := (mkF m 196 #[s0, s1, s2, s3, s4, s5, s6, .val (.int i7), s8, .val (.int i9), .val (.int i10), .val (.int i11), .val (.int i12), .val (.int i13), s14, s15] [(.int i12), (.int (3 : Int32)), (.ref b7), (.ref b7)])) rfl rfl (hb hby at_196)
  have V_b7_11 := Arv.set Ar_b7 q_b7 S_b7 N_b7 H_b7 G_b7 rfl W11 3 rfl (Nat.le_of_ble_eq_true rfl)
  have K11 : Keep h0 h11 [] := K10.wr W11 (Or.inr sz_b7)
  have N11 := Fr.snoc X11 N10 g_b7
  refine ⟨T11, _, b7, _, g7, X11, e11, N11, K11, own_AF.ofArv V_b7_11 rfl (fun j hj => ?_), fun target kt => ?_⟩
  · have u : j = 0 ∨ j = 1 ∨ j = 2 ∨ j = 3 := by omega
    rcases u with rfl | rfl | rfl | rfl <;> rfl
  show Steps p.tables e below (T0.setTop (mkF m 83 #[s0, s1, s2, s3, s4, s5, s6, .val (.int i7), s8, .val (.int i9), .val (.int i10), .val (.int i11), .val (.int i12), .val (.int i13), s14, s15] [])) _
  refine XS.iload X0.here hx rfl (hb hby at_83) rfl ?_
  show Steps p.tables e below (T0.setTop (mkF m 85 #[s0, s1, s2, s3, s4, s5, s6, .val (.int i7), s8, .val (.int i9), .val (.int i10), .val (.int i11), .val (.int i12), .val (.int i13), s14, s15] [(.int i7)])) _
  refine XS.ifYes X0.here hx rfl (pc0 := 85) (pc' := 96) rfl (hb hby at_85) rfl ((if0 _ _).trans (feq hc85).2) (by decide) (by decide) ?_
  show Steps p.tables e below (T0.setTop (mkF m 96 #[s0, s1, s2, s3, s4, s5, s6, .val (.int i7), s8, .val (.int i9), .val (.int i10), .val (.int i11), .val (.int i12), .val (.int i13), s14, s15] [])) _
  refine XS.iload X0.here hx rfl (hb hby at_96) rfl ?_
  show Steps p.tables e below (T0.setTop (mkF m 98 #[s0, s1, s2, s3, s4, s5, s6, .val (.int i7), s8, .val (.int i9), .val (.int i10), .val (.int i11), .val (.int i12), .val (.int i13), s14, s15] [(.int i7)])) _
  refine XS.iconst X0.here hx rfl (hb hby at_98) ?_
  show Steps p.tables e below (T0.setTop (mkF m 99 #[s0, s1, s2, s3, s4, s5, s6, .val (.int i7), s8, .val (.int i9), .val (.int i10), .val (.int i11), .val (.int i12), .val (.int i13), s14, s15] [(.int (1 : Int32)), (.int i7)])) _
  refine XS.icmpYes X0.here hx rfl (pc0 := 99) (pc' := 115) rfl (hb hby at_99) rfl (feq hc99).2 (by decide) (by decide) ?_
  show Steps p.tables e below (T0.setTop (mkF m 115 #[s0, s1, s2, s3, s4, s5, s6, .val (.int i7), s8, .val (.int i9), .val (.int i10), .val (.int i11), .val (.int i12), .val (.int i13), s14, s15] [])) _
  refine XS.iload X0.here hx rfl (hb hby at_115) rfl ?_
  show Steps p.tables e below (T0.setTop (mkF m 117 #[s0, s1, s2, s3, s4, s5, s6, .val (.int i7), s8, .val (.int i9), .val (.int i10), .val (.int i11), .val (.int i12), .val (.int i13), s14, s15] [(.int i7)])) _
  refine XS.iconst X0.here hx rfl (hb hby at_117) ?_
  show Steps p.tables e below (T0.setTop (mkF m 118 #[s0, s1, s2, s3, s4, s5, s6, .val (.int i7), s8, .val (.int i9), .val (.int i10), .val (.int i11), .val (.int i12), .val (.int i13), s14, s15] [(.int (2 : Int32)), (.int i7)])) _
  refine XS.icmpYes X0.here hx rfl (pc0 := 118) (pc' := 139) rfl (hb hby at_118) rfl (feq hc118).2 (by decide) (by decide) ?_
  show Steps p.tables e below (T0.setTop (mkF m 139 #[s0, s1, s2, s3, s4, s5, s6, .val (.int i7), s8, .val (.int i9), .val (.int i10), .val (.int i11), .val (.int i12), .val (.int i13), s14, s15] [])) _
  refine XS.iload X0.here hx rfl (hb hby at_139) rfl ?_
  show Steps p.tables e below (T0.setTop (mkF m 141 #[s0, s1, s2, s3, s4, s5, s6, .val (.int i7), s8, .val (.int i9), .val (.int i10), .val (.int i11), .val (.int i12), .val (.int i13), s14, s15] [(.int i7)])) _
  refine XS.iconst X0.here hx rfl (hb hby at_141) ?_
  show Steps p.tables e below (T0.setTop (mkF m 142 #[s0, s1, s2, s3, s4, s5, s6, .val (.int i7), s8, .val (.int i9), .val (.int i10), .val (.int i11), .val (.int i12), .val (.int i13), s14, s15] [(.int (3 : Int32)), (.int i7)])) _
  refine XS.icmpYes X0.here hx rfl (pc0 := 142) (pc' := 168) rfl (hb hby at_142) rfl (feq hc142).2 (by decide) (by decide) ?_
  show Steps p.tables e below (T0.setTop (mkF m 168 #[s0, s1, s2, s3, s4, s5, s6, .val (.int i7), s8, .val (.int i9), .val (.int i10), .val (.int i11), .val (.int i12), .val (.int i13), s14, s15] [])) _
  refine XS.iload X0.here hx rfl (hb hby at_168) rfl ?_
  show Steps p.tables e below (T0.setTop (mkF m 170 #[s0, s1, s2, s3, s4, s5, s6, .val (.int i7), s8, .val (.int i9), .val (.int i10), .val (.int i11), .val (.int i12), .val (.int i13), s14, s15] [(.int i7)])) _
  refine XS.iconst X0.here hx rfl (hb hby at_170) ?_
  show Steps p.tables e below (T0.setTop (mkF m 171 #[s0, s1, s2, s3, s4, s5, s6, .val (.int i7), s8, .val (.int i9), .val (.int i10), .val (.int i11), .val (.int i12), .val (.int i13), s14, s15] [(.int (4 : Int32)), (.int i7)])) _
  refine XS.icmpNo X0.here hx rfl (hb hby at_171) rfl (teq hc171).2 ?_
  show Steps p.tables e below (T0.setTop (mkF m 174 #[s0, s1, s2, s3, s4, s5, s6, .val (.int i7), s8, .val (.int i9), .val (.int i10), .val (.int i11), .val (.int i12), .val (.int i13), s14, s15] [])) _
  refine XS.iconst X0.here hx rfl (hb hby at_174) ?_
  show Steps p.tables e below (T0.setTop (mkF m 175 #[s0, s1, s2, s3, s4, s5, s6, .val (.int i7), s8, .val (.int i9), .val (.int i10), .val (.int i11), .val (.int i12), .val (.int i13), s14, s15] [(.int (4 : Int32))])) _
  refine st7 _ ?_
  show Steps p.tables e below (T7.setTop (mkF m 177 #[s0, s1, s2, s3, s4, s5, s6, .val (.int i7), s8, .val (.int i9), .val (.int i10), .val (.int i11), .val (.int i12), .val (.int i13), s14, s15] [(.ref b7)])) _
  refine XS.dup X7.here hx rfl (hb hby at_177) rfl rfl ?_
  show Steps p.tables e below (T7.setTop (mkF m 178 #[s0, s1, s2, s3, s4, s5, s6, .val (.int i7), s8, .val (.int i9), .val (.int i10), .val (.int i11), .val (.int i12), .val (.int i13), s14, s15] [(.ref b7), (.ref b7)])) _
  refine XS.iconst X7.here hx rfl (hb hby at_178) ?_
  show Steps p.tables e below (T7.setTop (mkF m 179 #[s0, s1, s2, s3, s4, s5, s6, .val (.int i7), s8, .val (.int i9), .val (.int i10), .val (.int i11), .val (.int i12), .val (.int i13), s14, s15] [(.int (0 : Int32)), (.ref b7), (.ref b7)])) _
  refine XS.iload X7.here hx rfl (hb hby at_179) rfl ?_
  show Steps p.tables e below (T7.setTop (mkF m 181 #[s0, s1, s2, s3, s4, s5, s6, .val (.int i7), s8, .val (.int i9), .val (.int i10), .val (.int i11), .val (.int i12), .val (.int i13), s14, s15] [(.int i9), (.int (0 : Int32)), (.ref b7), (.ref b7)])) _
  refine st8 _ ?_
  show Steps p.tables e below (T8.setTop (mkF m 182 #[s0, s1, s2, s3, s4, s5, s6, .val (.int i7), s8, .val (.int i9), .val (.int i10), .val (.int i11), .val (.int i12), .val (.int i13), s14, s15] [(.ref b7)])) _
  refine XS.dup X8.here hx rfl (hb hby at_182) rfl rfl ?_
  show Steps p.tables e below (T8.setTop (mkF m 183 #[s0, s1, s2, s3, s4, s5, s6, .val (.int i7), s8, .val (.int i9), .val (.int i10), .val (.int i11), .val (.int i12), .val (.int i13), s14, s15] [(.ref b7), (.ref b7)])) _
  refine XS.iconst X8.here hx rfl (hb hby at_183) ?_
  show Steps p.tables e below (T8.setTop (mkF m 184 #[s0, s1, s2, s3, s4, s5, s6, .val (.int i7), s8, .val (.int i9), .val (.int i10), .val (.int i11), .val (.int i12), .val (.int i13), s14, s15] [(.int (1 : Int32)), (.ref b7), (.ref b7)])) _
  refine XS.iload X8.here hx rfl (hb hby at_184) rfl ?_
  show Steps p.tables e below (T8.setTop (mkF m 186 #[s0, s1, s2, s3, s4, s5, s6, .val (.int i7), s8, .val (.int i9), .val (.int i10), .val (.int i11), .val (.int i12), .val (.int i13), s14, s15] [(.int i10), (.int (1 : Int32)), (.ref b7), (.ref b7)])) _
  refine st9 _ ?_
  show Steps p.tables e below (T9.setTop (mkF m 187 #[s0, s1, s2, s3, s4, s5, s6, .val (.int i7), s8, .val (.int i9), .val (.int i10), .val (.int i11), .val (.int i12), .val (.int i13), s14, s15] [(.ref b7)])) _
  refine XS.dup X9.here hx rfl (hb hby at_187) rfl rfl ?_
  show Steps p.tables e below (T9.setTop (mkF m 188 #[s0, s1, s2, s3, s4, s5, s6, .val (.int i7), s8, .val (.int i9), .val (.int i10), .val (.int i11), .val (.int i12), .val (.int i13), s14, s15] [(.ref b7), (.ref b7)])) _
  refine XS.iconst X9.here hx rfl (hb hby at_188) ?_
  show Steps p.tables e below (T9.setTop (mkF m 189 #[s0, s1, s2, s3, s4, s5, s6, .val (.int i7), s8, .val (.int i9), .val (.int i10), .val (.int i11), .val (.int i12), .val (.int i13), s14, s15] [(.int (2 : Int32)), (.ref b7), (.ref b7)])) _
  refine XS.iload X9.here hx rfl (hb hby at_189) rfl ?_
  show Steps p.tables e below (T9.setTop (mkF m 191 #[s0, s1, s2, s3, s4, s5, s6, .val (.int i7), s8, .val (.int i9), .val (.int i10), .val (.int i11), .val (.int i12), .val (.int i13), s14, s15] [(.int i11), (.int (2 : Int32)), (.ref b7), (.ref b7)])) _
  refine st10 _ ?_
  show Steps p.tables e below (T10.setTop (mkF m 192 #[s0, s1, s2, s3, s4, s5, s6, .val (.int i7), s8, .val (.int i9), .val (.int i10), .val (.int i11), .val (.int i12), .val (.int i13), s14, s15] [(.ref b7)])) _
  refine XS.dup X10.here hx rfl (hb hby at_192) rfl rfl ?_
  show Steps p.tables e below (T10.setTop (mkF m 193 #[s0, s1, s2, s3, s4, s5, s6, .val (.int i7), s8, .val (.int i9), .val (.int i10), .val (.int i11), .val (.int i12), .val (.int i13), s14, s15] [(.ref b7), (.ref b7)])) _
  refine XS.iconst X10.here hx rfl (hb hby at_193) ?_
  show Steps p.tables e below (T10.setTop (mkF m 194 #[s0, s1, s2, s3, s4, s5, s6, .val (.int i7), s8, .val (.int i9), .val (.int i10), .val (.int i11), .val (.int i12), .val (.int i13), s14, s15] [(.int (3 : Int32)), (.ref b7), (.ref b7)])) _
  refine XS.iload X10.here hx rfl (hb hby at_194) rfl ?_
  show Steps p.tables e below (T10.setTop (mkF m 196 #[s0, s1, s2, s3, s4, s5, s6, .val (.int i7), s8, .val (.int i9), .val (.int i10), .val (.int i11), .val (.int i12), .val (.int i13), s14, s15] [(.int i12), (.int (3 : Int32)), (.ref b7), (.ref b7)])) _
  refine st11 _ ?_
  show Steps p.tables e below (T11.setTop (mkF m 197 #[s0, s1, s2, s3, s4, s5, s6, .val (.int i7), s8, .val (.int i9), .val (.int i10), .val (.int i11), .val (.int i12), .val (.int i13), s14, s15] [(.ref b7)])) _
  refine XS.astore X11.here hx rfl (hb hby at_197) rfl rfl (l' := #[s0, s1, s2, s3, s4, s5, s6, .val (.int i7), s8, .val (.int i9), .val (.int i10), .val (.int i11), .val (.int i12), .val (.int i13), .val (.ref b7), s15]) (os0_197 hs14) ?_
  show Steps p.tables e below (T11.setTop (mkF m 199 #[s0, s1, s2, s3, s4, s5, s6, .val (.int i7), s8, .val (.int i9), .val (.int i10), .val (.int i11), .val (.int i12), .val (.int i13), .val (.ref b7), s15] [])) _
  refine XS.goto X11.here hx rfl (pc0 := 199) (pc' := 232) rfl (hb hby at_199) (by decide) (by decide) ?_
  exact kt
theorem os0_230 {s0 : Slot} {s1 : Slot} {s2 : Slot} {s3 : Slot} {s4 : Slot} {s5 : Slot} {s6 : Slot} {z7 : Value} {s8 : Slot} {z9 : Value} {z10 : Value} {z11 : Value} {z12 : Value} {z13 : Value} {s14 : Slot} {s15 : Slot} {v : Addr} (h : One s14) : storeLocals #[s0, s1, s2, s3, s4, s5, s6, .val z7, s8, .val z9, .val z10, .val z11, .val z12, .val z13, s14, s15] 14 (.ref v) = some #[s0, s1, s2, s3, s4, s5, s6, .val z7, s8, .val z9, .val z10, .val z11, .val z12, .val z13, .val (.ref v), s15] := by
  rcases h with rfl | ⟨w, rfl, hw⟩
  · rfl
  · cases w <;> first | rfl | (simp [Value.category] at hw)
set_option maxRecDepth 65536 in
set_option maxHeartbeats 40000000 in
theorem own_mk5 {p : Program} {l : Launch} {e : Env} {s : State} {m : MethodId} {args : Array Value} {below : List Frame} {meth : Method} {c : Code} {T0 : State} {locs : List Loc} {Z : State} {a0 : Array Value} {h0 : Heap} (s0 : Slot) (s1 : Slot) (s2 : Slot) (s3 : Slot) (s4 : Slot) (s5 : Slot) (s6 : Slot) (i7 : Int32) (s8 : Slot) (i9 : Int32) (i10 : Int32) (i11 : Int32) (i12 : Int32) (i13 : Int32) (s14 : Slot) (s15 : Slot)
    (X0 : Stand p l e room_1 s m args below meth c T0 locs 0 0) (hx : p.tables.exec = Jvm.exec) (hZ : Z.Warmed39 s.vm) (hw : ∀ d ∈ tables_1, d.before a0 Z = true) (hby : c.code = code) (hml : c.maxLocals = 16) (hown : s.vm.findClass "com/example/nuoli/nuoli/service/StrongComponentsMemberStartPinLaw" = some m.cls) (e0 : T0.heap = h0) (n0 : Nat) (N0 : Fr n0 locs) (Z0 : n0 ≤ h0.size) (hs14 : One s14) (hc85 : ¬ (i7 = (0 : Int32))) (hc99 : ¬ (i7 = (1 : Int32))) (hc118 : ¬ (i7 = (2 : Int32))) (hc142 : ¬ (i7 = (3 : Int32))) (hc171 : ¬ (i7 = (4 : Int32))) :
    ∃ (T' : State) (h' : Heap) (b : Addr) (L' : List Loc), b = h0.size ∧ Stand p l e room_1 s m args below meth c T' L' 1 5 ∧ T'.heap = h' ∧ Fr n0 L' ∧ Keep h0 h' [] ∧ own_AF Z h' b 5 (fun j => [i9, i10, i11, i12, i13].getD j 0) ∧
      ∀ target, Steps p.tables e below (T'.setTop (mkF m 232 #[s0, s1, s2, s3, s4, s5, s6, .val (.int i7), s8, .val (.int i9), .val (.int i10), .val (.int i11), .val (.int i12), .val (.int i13), .val (.ref b), s15] [])) target → Steps p.tables e below (T0.setTop (mkF m 83 #[s0, s1, s2, s3, s4, s5, s6, .val (.int i7), s8, .val (.int i9), .val (.int i10), .val (.int i11), .val (.int i12), .val (.int i13), s14, s15] [])) target := by
  obtain ⟨T7, h7, k7, X7, e7, E7, A7, st7⟩ := newP X0 hx hZ (hw _ (List.mem_of_getElem? (i := 5) rfl)) e0 (g := (mkF m 203 #[s0, s1, s2, s3, s4, s5, s6, .val (.int i7), s8, .val (.int i9), .val (.int i10), .val (.int i11), .val (.int i12), .val (.int i13), s14, s15] [(.int (5 : Int32))])) rfl (hb hby at_203) rfl (by decide) (cap := 5) (by decide) (by decide) (by decide) (by decide)
  obtain ⟨b7, g7⟩ : ∃ z, z = h0.size := ⟨_, rfl⟩
  rw [← g7] at A7 st7
  have V_b7 : Arv Z h7 b7 k7 .int (5 : Int32) [(.int (0 : Int32)), (.int (0 : Int32)), (.int (0 : Int32)), (.int (0 : Int32)), (.int (0 : Int32))] (.int (0 : Int32)) := (Arv.new A7 (by decide)).pad (pad_rep [] (.int (0 : Int32)) 5)
  have g_b7 : n0 ≤ b7 := Nat.le_trans Z0 (Nat.le_of_eq g7.symm)
  have sz_b7 : h0.size ≤ b7 := (Nat.le_trans (Keep.refl h0 []).1 (Nat.le_of_eq g7.symm))
  have K7 : Keep h0 h7 [] := (Keep.refl h0 []).ext E7
  obtain ⟨cl_b7_209, Ar_b7, q_b7, S_b7, N_b7, H_b7, G_b7⟩ := V_b7
  have hin209 : ¬ ((0 : Int32) < 0 ∨ cl_b7_209.slots.size ≤ ((0 : Int32)).toNatClampNeg) := inb_of S_b7 ⟨by decide, by decide⟩
  obtain ⟨T8, h8, X8, e8, W8, st8⟩ := stI X7 hx hZ e7 Ar_b7 (j := (0 : Int32)) hin209 (g := (mkF m 209 #[s0, s1, s2, s3, s4, s5, s6, .val (.int i7), s8, .val (.int i9), .val (.int i10), .val (.int i11), .val (.int i12), .val (.int i13), s14, s15] [(.int i9), (.int (0 : Int32)), (.ref b7), (.ref b7)])) rfl rfl (hb hby at_209)
  have V_b7_8 := Arv.set Ar_b7 q_b7 S_b7 N_b7 H_b7 G_b7 rfl W8 0 rfl (Nat.le_of_ble_eq_true rfl)
  have K8 : Keep h0 h8 [] := K7.wr W8 (Or.inr sz_b7)
  have N8 := Fr.snoc X8 N0 g_b7
  obtain ⟨cl_b7_214, Ar_b7, q_b7, S_b7, N_b7, H_b7, G_b7⟩ := V_b7_8
  have hin214 : ¬ ((1 : Int32) < 0 ∨ cl_b7_214.slots.size ≤ ((1 : Int32)).toNatClampNeg) := inb_of S_b7 ⟨by decide, by decide⟩
  obtain ⟨T9, h9, X9, e9, W9, st9⟩ := stI X8 hx hZ e8 Ar_b7 (j := (1 : Int32)) hin214 (g := (mkF m 214 #[s0, s1, s2, s3, s4, s5, s6, .val (.int i7), s8, .val (.int i9), .val (.int i10), .val (.int i11), .val (.int i12), .val (.int i13), s14, s15] [(.int i10), (.int (1 : Int32)), (.ref b7), (.ref b7)])) rfl rfl (hb hby at_214)
  have V_b7_9 := Arv.set Ar_b7 q_b7 S_b7 N_b7 H_b7 G_b7 rfl W9 1 rfl (Nat.le_of_ble_eq_true rfl)
  have K9 : Keep h0 h9 [] := K8.wr W9 (Or.inr sz_b7)
  have N9 := Fr.snoc X9 N8 g_b7
  obtain ⟨cl_b7_219, Ar_b7, q_b7, S_b7, N_b7, H_b7, G_b7⟩ := V_b7_9
  have hin219 : ¬ ((2 : Int32) < 0 ∨ cl_b7_219.slots.size ≤ ((2 : Int32)).toNatClampNeg) := inb_of S_b7 ⟨by decide, by decide⟩
  obtain ⟨T10, h10, X10, e10, W10, st10⟩ := stI X9 hx hZ e9 Ar_b7 (j := (2 : Int32)) hin219 (g := (mkF m 219 #[s0, s1, s2, s3, s4, s5, s6, .val (.int i7), s8, .val (.int i9), .val (.int i10), .val (.int i11), .val (.int i12), .val (.int i13), s14, s15] [(.int i11), (.int (2 : Int32)), (.ref b7), (.ref b7)])) rfl rfl (hb hby at_219)
  have V_b7_10 := Arv.set Ar_b7 q_b7 S_b7 N_b7 H_b7 G_b7 rfl W10 2 rfl (Nat.le_of_ble_eq_true rfl)
  have K10 : Keep h0 h10 [] := K9.wr W10 (Or.inr sz_b7)
  have N10 := Fr.snoc X10 N9 g_b7
  obtain ⟨cl_b7_224, Ar_b7, q_b7, S_b7, N_b7, H_b7, G_b7⟩ := V_b7_10
  have hin224 : ¬ ((3 : Int32) < 0 ∨ cl_b7_224.slots.size ≤ ((3 : Int32)).toNatClampNeg) := inb_of S_b7 ⟨by decide, by decide⟩
  obtain ⟨T11, h11, X11, e11, W11, st11⟩ := stI X10 hx hZ e10 Ar_b7 (j := (3 : Int32)) hin224 (g := (mkF m 224 #[s0, s1, s2, s3, s4, s5, s6, .val (.int i7), s8, .val (.int i9), .val (.int i10), .val (.int i11), .val (.int i12), .val (.int i13), s14, s15] [(.int i12), (.int (3 : Int32)), (.ref b7), (.ref b7)])) rfl rfl (hb hby at_224)
  have V_b7_11 := Arv.set Ar_b7 q_b7 S_b7 N_b7 H_b7 G_b7 rfl W11 3 rfl (Nat.le_of_ble_eq_true rfl)
  have K11 : Keep h0 h11 [] := K10.wr W11 (Or.inr sz_b7)
  have N11 := Fr.snoc X11 N10 g_b7
  obtain ⟨cl_b7_229, Ar_b7, q_b7, S_b7, N_b7, H_b7, G_b7⟩ := V_b7_11
  have hin229 : ¬ ((4 : Int32) < 0 ∨ cl_b7_229.slots.size ≤ ((4 : Int32)).toNatClampNeg) := inb_of S_b7 ⟨by decide, by decide⟩
  obtain ⟨T12, h12, X12, e12, W12, st12⟩ := stI X11 hx hZ e11 Ar_b7 (j := (4 : Int32)) hin229 (g := (mkF m 229 #[s0, s1, s2, s3, s4, s5, s6, .val (.int i7), s8, .val (.int i9), .val (.int i10), .val (.int i11), .val (.int i12), .val (.int i13), s14, s15] [(.int i13), (.int (4 : Int32)), (.ref b7), (.ref b7)])) rfl rfl (hb hby at_229)
  have V_b7_12 := Arv.set Ar_b7 q_b7 S_b7 N_b7 H_b7 G_b7 rfl W12 4 rfl (Nat.le_of_ble_eq_true rfl)
  have K12 : Keep h0 h12 [] := K11.wr W12 (Or.inr sz_b7)
  have N12 := Fr.snoc X12 N11 g_b7
  refine ⟨T12, _, b7, _, g7, X12, e12, N12, K12, own_AF.ofArv V_b7_12 rfl (fun j hj => ?_), fun target kt => ?_⟩
  · have u : j = 0 ∨ j = 1 ∨ j = 2 ∨ j = 3 ∨ j = 4 := by omega
    rcases u with rfl | rfl | rfl | rfl | rfl <;> rfl
  show Steps p.tables e below (T0.setTop (mkF m 83 #[s0, s1, s2, s3, s4, s5, s6, .val (.int i7), s8, .val (.int i9), .val (.int i10), .val (.int i11), .val (.int i12), .val (.int i13), s14, s15] [])) _
  refine XS.iload X0.here hx rfl (hb hby at_83) rfl ?_
  show Steps p.tables e below (T0.setTop (mkF m 85 #[s0, s1, s2, s3, s4, s5, s6, .val (.int i7), s8, .val (.int i9), .val (.int i10), .val (.int i11), .val (.int i12), .val (.int i13), s14, s15] [(.int i7)])) _
  refine XS.ifYes X0.here hx rfl (pc0 := 85) (pc' := 96) rfl (hb hby at_85) rfl ((if0 _ _).trans (feq hc85).2) (by decide) (by decide) ?_
  show Steps p.tables e below (T0.setTop (mkF m 96 #[s0, s1, s2, s3, s4, s5, s6, .val (.int i7), s8, .val (.int i9), .val (.int i10), .val (.int i11), .val (.int i12), .val (.int i13), s14, s15] [])) _
  refine XS.iload X0.here hx rfl (hb hby at_96) rfl ?_
  show Steps p.tables e below (T0.setTop (mkF m 98 #[s0, s1, s2, s3, s4, s5, s6, .val (.int i7), s8, .val (.int i9), .val (.int i10), .val (.int i11), .val (.int i12), .val (.int i13), s14, s15] [(.int i7)])) _
  refine XS.iconst X0.here hx rfl (hb hby at_98) ?_
  show Steps p.tables e below (T0.setTop (mkF m 99 #[s0, s1, s2, s3, s4, s5, s6, .val (.int i7), s8, .val (.int i9), .val (.int i10), .val (.int i11), .val (.int i12), .val (.int i13), s14, s15] [(.int (1 : Int32)), (.int i7)])) _
  refine XS.icmpYes X0.here hx rfl (pc0 := 99) (pc' := 115) rfl (hb hby at_99) rfl (feq hc99).2 (by decide) (by decide) ?_
  show Steps p.tables e below (T0.setTop (mkF m 115 #[s0, s1, s2, s3, s4, s5, s6, .val (.int i7), s8, .val (.int i9), .val (.int i10), .val (.int i11), .val (.int i12), .val (.int i13), s14, s15] [])) _
  refine XS.iload X0.here hx rfl (hb hby at_115) rfl ?_
  show Steps p.tables e below (T0.setTop (mkF m 117 #[s0, s1, s2, s3, s4, s5, s6, .val (.int i7), s8, .val (.int i9), .val (.int i10), .val (.int i11), .val (.int i12), .val (.int i13), s14, s15] [(.int i7)])) _
  refine XS.iconst X0.here hx rfl (hb hby at_117) ?_
  show Steps p.tables e below (T0.setTop (mkF m 118 #[s0, s1, s2, s3, s4, s5, s6, .val (.int i7), s8, .val (.int i9), .val (.int i10), .val (.int i11), .val (.int i12), .val (.int i13), s14, s15] [(.int (2 : Int32)), (.int i7)])) _
  refine XS.icmpYes X0.here hx rfl (pc0 := 118) (pc' := 139) rfl (hb hby at_118) rfl (feq hc118).2 (by decide) (by decide) ?_
  show Steps p.tables e below (T0.setTop (mkF m 139 #[s0, s1, s2, s3, s4, s5, s6, .val (.int i7), s8, .val (.int i9), .val (.int i10), .val (.int i11), .val (.int i12), .val (.int i13), s14, s15] [])) _
  refine XS.iload X0.here hx rfl (hb hby at_139) rfl ?_
  show Steps p.tables e below (T0.setTop (mkF m 141 #[s0, s1, s2, s3, s4, s5, s6, .val (.int i7), s8, .val (.int i9), .val (.int i10), .val (.int i11), .val (.int i12), .val (.int i13), s14, s15] [(.int i7)])) _
  refine XS.iconst X0.here hx rfl (hb hby at_141) ?_
  show Steps p.tables e below (T0.setTop (mkF m 142 #[s0, s1, s2, s3, s4, s5, s6, .val (.int i7), s8, .val (.int i9), .val (.int i10), .val (.int i11), .val (.int i12), .val (.int i13), s14, s15] [(.int (3 : Int32)), (.int i7)])) _
  refine XS.icmpYes X0.here hx rfl (pc0 := 142) (pc' := 168) rfl (hb hby at_142) rfl (feq hc142).2 (by decide) (by decide) ?_
  show Steps p.tables e below (T0.setTop (mkF m 168 #[s0, s1, s2, s3, s4, s5, s6, .val (.int i7), s8, .val (.int i9), .val (.int i10), .val (.int i11), .val (.int i12), .val (.int i13), s14, s15] [])) _
  refine XS.iload X0.here hx rfl (hb hby at_168) rfl ?_
  show Steps p.tables e below (T0.setTop (mkF m 170 #[s0, s1, s2, s3, s4, s5, s6, .val (.int i7), s8, .val (.int i9), .val (.int i10), .val (.int i11), .val (.int i12), .val (.int i13), s14, s15] [(.int i7)])) _
  refine XS.iconst X0.here hx rfl (hb hby at_170) ?_
  show Steps p.tables e below (T0.setTop (mkF m 171 #[s0, s1, s2, s3, s4, s5, s6, .val (.int i7), s8, .val (.int i9), .val (.int i10), .val (.int i11), .val (.int i12), .val (.int i13), s14, s15] [(.int (4 : Int32)), (.int i7)])) _
  refine XS.icmpYes X0.here hx rfl (pc0 := 171) (pc' := 202) rfl (hb hby at_171) rfl (feq hc171).2 (by decide) (by decide) ?_
  show Steps p.tables e below (T0.setTop (mkF m 202 #[s0, s1, s2, s3, s4, s5, s6, .val (.int i7), s8, .val (.int i9), .val (.int i10), .val (.int i11), .val (.int i12), .val (.int i13), s14, s15] [])) _
  refine XS.iconst X0.here hx rfl (hb hby at_202) ?_
  show Steps p.tables e below (T0.setTop (mkF m 203 #[s0, s1, s2, s3, s4, s5, s6, .val (.int i7), s8, .val (.int i9), .val (.int i10), .val (.int i11), .val (.int i12), .val (.int i13), s14, s15] [(.int (5 : Int32))])) _
  refine st7 _ ?_
  show Steps p.tables e below (T7.setTop (mkF m 205 #[s0, s1, s2, s3, s4, s5, s6, .val (.int i7), s8, .val (.int i9), .val (.int i10), .val (.int i11), .val (.int i12), .val (.int i13), s14, s15] [(.ref b7)])) _
  refine XS.dup X7.here hx rfl (hb hby at_205) rfl rfl ?_
  show Steps p.tables e below (T7.setTop (mkF m 206 #[s0, s1, s2, s3, s4, s5, s6, .val (.int i7), s8, .val (.int i9), .val (.int i10), .val (.int i11), .val (.int i12), .val (.int i13), s14, s15] [(.ref b7), (.ref b7)])) _
  refine XS.iconst X7.here hx rfl (hb hby at_206) ?_
  show Steps p.tables e below (T7.setTop (mkF m 207 #[s0, s1, s2, s3, s4, s5, s6, .val (.int i7), s8, .val (.int i9), .val (.int i10), .val (.int i11), .val (.int i12), .val (.int i13), s14, s15] [(.int (0 : Int32)), (.ref b7), (.ref b7)])) _
  refine XS.iload X7.here hx rfl (hb hby at_207) rfl ?_
  show Steps p.tables e below (T7.setTop (mkF m 209 #[s0, s1, s2, s3, s4, s5, s6, .val (.int i7), s8, .val (.int i9), .val (.int i10), .val (.int i11), .val (.int i12), .val (.int i13), s14, s15] [(.int i9), (.int (0 : Int32)), (.ref b7), (.ref b7)])) _
  refine st8 _ ?_
  show Steps p.tables e below (T8.setTop (mkF m 210 #[s0, s1, s2, s3, s4, s5, s6, .val (.int i7), s8, .val (.int i9), .val (.int i10), .val (.int i11), .val (.int i12), .val (.int i13), s14, s15] [(.ref b7)])) _
  refine XS.dup X8.here hx rfl (hb hby at_210) rfl rfl ?_
  show Steps p.tables e below (T8.setTop (mkF m 211 #[s0, s1, s2, s3, s4, s5, s6, .val (.int i7), s8, .val (.int i9), .val (.int i10), .val (.int i11), .val (.int i12), .val (.int i13), s14, s15] [(.ref b7), (.ref b7)])) _
  refine XS.iconst X8.here hx rfl (hb hby at_211) ?_
  show Steps p.tables e below (T8.setTop (mkF m 212 #[s0, s1, s2, s3, s4, s5, s6, .val (.int i7), s8, .val (.int i9), .val (.int i10), .val (.int i11), .val (.int i12), .val (.int i13), s14, s15] [(.int (1 : Int32)), (.ref b7), (.ref b7)])) _
  refine XS.iload X8.here hx rfl (hb hby at_212) rfl ?_
  show Steps p.tables e below (T8.setTop (mkF m 214 #[s0, s1, s2, s3, s4, s5, s6, .val (.int i7), s8, .val (.int i9), .val (.int i10), .val (.int i11), .val (.int i12), .val (.int i13), s14, s15] [(.int i10), (.int (1 : Int32)), (.ref b7), (.ref b7)])) _
  refine st9 _ ?_
  show Steps p.tables e below (T9.setTop (mkF m 215 #[s0, s1, s2, s3, s4, s5, s6, .val (.int i7), s8, .val (.int i9), .val (.int i10), .val (.int i11), .val (.int i12), .val (.int i13), s14, s15] [(.ref b7)])) _
  refine XS.dup X9.here hx rfl (hb hby at_215) rfl rfl ?_
  show Steps p.tables e below (T9.setTop (mkF m 216 #[s0, s1, s2, s3, s4, s5, s6, .val (.int i7), s8, .val (.int i9), .val (.int i10), .val (.int i11), .val (.int i12), .val (.int i13), s14, s15] [(.ref b7), (.ref b7)])) _
  refine XS.iconst X9.here hx rfl (hb hby at_216) ?_
  show Steps p.tables e below (T9.setTop (mkF m 217 #[s0, s1, s2, s3, s4, s5, s6, .val (.int i7), s8, .val (.int i9), .val (.int i10), .val (.int i11), .val (.int i12), .val (.int i13), s14, s15] [(.int (2 : Int32)), (.ref b7), (.ref b7)])) _
  refine XS.iload X9.here hx rfl (hb hby at_217) rfl ?_
  show Steps p.tables e below (T9.setTop (mkF m 219 #[s0, s1, s2, s3, s4, s5, s6, .val (.int i7), s8, .val (.int i9), .val (.int i10), .val (.int i11), .val (.int i12), .val (.int i13), s14, s15] [(.int i11), (.int (2 : Int32)), (.ref b7), (.ref b7)])) _
  refine st10 _ ?_
  show Steps p.tables e below (T10.setTop (mkF m 220 #[s0, s1, s2, s3, s4, s5, s6, .val (.int i7), s8, .val (.int i9), .val (.int i10), .val (.int i11), .val (.int i12), .val (.int i13), s14, s15] [(.ref b7)])) _
  refine XS.dup X10.here hx rfl (hb hby at_220) rfl rfl ?_
  show Steps p.tables e below (T10.setTop (mkF m 221 #[s0, s1, s2, s3, s4, s5, s6, .val (.int i7), s8, .val (.int i9), .val (.int i10), .val (.int i11), .val (.int i12), .val (.int i13), s14, s15] [(.ref b7), (.ref b7)])) _
  refine XS.iconst X10.here hx rfl (hb hby at_221) ?_
  show Steps p.tables e below (T10.setTop (mkF m 222 #[s0, s1, s2, s3, s4, s5, s6, .val (.int i7), s8, .val (.int i9), .val (.int i10), .val (.int i11), .val (.int i12), .val (.int i13), s14, s15] [(.int (3 : Int32)), (.ref b7), (.ref b7)])) _
  refine XS.iload X10.here hx rfl (hb hby at_222) rfl ?_
  show Steps p.tables e below (T10.setTop (mkF m 224 #[s0, s1, s2, s3, s4, s5, s6, .val (.int i7), s8, .val (.int i9), .val (.int i10), .val (.int i11), .val (.int i12), .val (.int i13), s14, s15] [(.int i12), (.int (3 : Int32)), (.ref b7), (.ref b7)])) _
  refine st11 _ ?_
  show Steps p.tables e below (T11.setTop (mkF m 225 #[s0, s1, s2, s3, s4, s5, s6, .val (.int i7), s8, .val (.int i9), .val (.int i10), .val (.int i11), .val (.int i12), .val (.int i13), s14, s15] [(.ref b7)])) _
  refine XS.dup X11.here hx rfl (hb hby at_225) rfl rfl ?_
  show Steps p.tables e below (T11.setTop (mkF m 226 #[s0, s1, s2, s3, s4, s5, s6, .val (.int i7), s8, .val (.int i9), .val (.int i10), .val (.int i11), .val (.int i12), .val (.int i13), s14, s15] [(.ref b7), (.ref b7)])) _
  refine XS.iconst X11.here hx rfl (hb hby at_226) ?_
  show Steps p.tables e below (T11.setTop (mkF m 227 #[s0, s1, s2, s3, s4, s5, s6, .val (.int i7), s8, .val (.int i9), .val (.int i10), .val (.int i11), .val (.int i12), .val (.int i13), s14, s15] [(.int (4 : Int32)), (.ref b7), (.ref b7)])) _
  refine XS.iload X11.here hx rfl (hb hby at_227) rfl ?_
  show Steps p.tables e below (T11.setTop (mkF m 229 #[s0, s1, s2, s3, s4, s5, s6, .val (.int i7), s8, .val (.int i9), .val (.int i10), .val (.int i11), .val (.int i12), .val (.int i13), s14, s15] [(.int i13), (.int (4 : Int32)), (.ref b7), (.ref b7)])) _
  refine st12 _ ?_
  show Steps p.tables e below (T12.setTop (mkF m 230 #[s0, s1, s2, s3, s4, s5, s6, .val (.int i7), s8, .val (.int i9), .val (.int i10), .val (.int i11), .val (.int i12), .val (.int i13), s14, s15] [(.ref b7)])) _
  refine XS.astore X12.here hx rfl (hb hby at_230) rfl rfl (l' := #[s0, s1, s2, s3, s4, s5, s6, .val (.int i7), s8, .val (.int i9), .val (.int i10), .val (.int i11), .val (.int i12), .val (.int i13), .val (.ref b7), s15]) (os0_230 hs14) ?_
  exact kt
theorem own_mk {p : Program} {l : Launch} {e : Env} {s : State} {m : MethodId} {args : Array Value} {below : List Frame} {meth : Method} {c : Code} {T0 : State} {locs : List Loc} {Z : State} {a0 : Array Value} {h0 : Heap} (s0 : Slot) (s1 : Slot) (s2 : Slot) (s3 : Slot) (s4 : Slot) (s5 : Slot) (s6 : Slot) (n : Nat) (s8 : Slot) (i9 : Int32) (i10 : Int32) (i11 : Int32) (i12 : Int32) (i13 : Int32) (s14 : Slot) (s15 : Slot)
    (X0 : Stand p l e room_1 s m args below meth c T0 locs 0 0) (hx : p.tables.exec = Jvm.exec) (hZ : Z.Warmed39 s.vm) (hw : ∀ d ∈ tables_1, d.before a0 Z = true) (hby : c.code = code) (hml : c.maxLocals = 16) (hown : s.vm.findClass "com/example/nuoli/nuoli/service/StrongComponentsMemberStartPinLaw" = some m.cls) (e0 : T0.heap = h0) (n0 : Nat) (N0 : Fr n0 locs) (Z0 : n0 ≤ h0.size) (hs14 : One s14) (hn : n ≤ 5) :
    ∃ (T' : State) (h' : Heap) (b : Addr) (L' : List Loc), b = h0.size ∧ Stand p l e room_1 s m args below meth c T' L' 1 5 ∧ T'.heap = h' ∧ Fr n0 L' ∧ Keep h0 h' [] ∧ own_AF Z h' b n (fun j => [i9, i10, i11, i12, i13].getD j 0) ∧
      ∀ target, Steps p.tables e below (T'.setTop (mkF m 232 #[s0, s1, s2, s3, s4, s5, s6, .val (.int (Int32.ofNat n)), s8, .val (.int i9), .val (.int i10), .val (.int i11), .val (.int i12), .val (.int i13), .val (.ref b), s15] [])) target → Steps p.tables e below (T0.setTop (mkF m 83 #[s0, s1, s2, s3, s4, s5, s6, .val (.int (Int32.ofNat n)), s8, .val (.int i9), .val (.int i10), .val (.int i11), .val (.int i12), .val (.int i13), s14, s15] [])) target := by
  have h : n = 0 ∨ n = 1 ∨ n = 2 ∨ n = 3 ∨ n = 4 ∨ n = 5 := by omega
  rcases h with rfl | rfl | rfl | rfl | rfl | rfl
  · exact own_mk0 s0 s1 s2 s3 s4 s5 s6 (Int32.ofNat 0) s8 i9 i10 i11 i12 i13 s14 s15 X0 hx hZ hw hby hml hown e0 n0 N0 Z0 hs14 (by decide)
  · exact own_mk1 s0 s1 s2 s3 s4 s5 s6 (Int32.ofNat 1) s8 i9 i10 i11 i12 i13 s14 s15 X0 hx hZ hw hby hml hown e0 n0 N0 Z0 hs14 (by decide) (by decide)
  · exact own_mk2 s0 s1 s2 s3 s4 s5 s6 (Int32.ofNat 2) s8 i9 i10 i11 i12 i13 s14 s15 X0 hx hZ hw hby hml hown e0 n0 N0 Z0 hs14 (by decide) (by decide) (by decide)
  · exact own_mk3 s0 s1 s2 s3 s4 s5 s6 (Int32.ofNat 3) s8 i9 i10 i11 i12 i13 s14 s15 X0 hx hZ hw hby hml hown e0 n0 N0 Z0 hs14 (by decide) (by decide) (by decide) (by decide)
  · exact own_mk4 s0 s1 s2 s3 s4 s5 s6 (Int32.ofNat 4) s8 i9 i10 i11 i12 i13 s14 s15 X0 hx hZ hw hby hml hown e0 n0 N0 Z0 hs14 (by decide) (by decide) (by decide) (by decide) (by decide)
  · exact own_mk5 s0 s1 s2 s3 s4 s5 s6 (Int32.ofNat 5) s8 i9 i10 i11 i12 i13 s14 s15 X0 hx hZ hw hby hml hown e0 n0 N0 Z0 hs14 (by decide) (by decide) (by decide) (by decide) (by decide)
set_option maxRecDepth 65536 in
set_option maxHeartbeats 40000000 in
theorem own_p241 {p : Program} {l : Launch} {e : Env} {R : Room} {s : State} {m : MethodId} {args : Array Value} {below : List Frame} {meth : Method} {c : Code} {T0 : State} {locs : List Loc} {cells slots : Nat} {Z : State} {a0 : Array Value} {h0 : Heap} (s0 : Slot) (s1 : Slot) (s2 : Slot) (s3 : Slot) (s4 : Slot) (s5 : Slot) (i6 : Int32) (s7 : Slot) (s8 : Slot) (s9 : Slot) (s10 : Slot) (s11 : Slot) (s12 : Slot) (s13 : Slot) (s14 : Slot) (o15 : Addr) (cl_o15 : Cell) (z_o15 : Int32)
    (X0 : Stand p l e R s m args below meth c T0 locs cells slots) (hx : p.tables.exec = Jvm.exec) (hZ : Z.Warmed39 s.vm) (hw : ∀ d ∈ tables_1, d.before a0 Z = true) (hby : c.code = code) (hml : c.maxLocals = 16) (hown : s.vm.findClass "com/example/nuoli/nuoli/service/StrongComponentsMemberStartPinLaw" = some m.cls) (e0 : T0.heap = h0) (Ar_o15 : Arr Z h0 o15 cl_o15 .int) (S_o15 : cl_o15.slots.size = z_o15.toNatClampNeg) (N_o15 : ¬ z_o15 < 0) (hc253 : z_o15 = (i6 + (1 : Int32))) :
    ∃ (T' : State), Stand p l e R s m args below meth c T' locs cells slots ∧ T'.heap = h0 ∧
      ∀ target, Steps p.tables e below (T'.setTop (mkF m 258 #[s0, s1, s2, s3, s4, s5, .val (.int i6), s7, s8, s9, s10, s11, s12, s13, s14, .val (.ref o15)] [])) target → Steps p.tables e below (T0.setTop (mkF m 241 #[s0, s1, s2, s3, s4, s5, .val (.int i6), s7, s8, s9, s10, s11, s12, s13, s14, .val (.ref o15)] [])) target := by

  refine ⟨T0, X0, e0, fun target kt => ?_⟩
  show Steps p.tables e below (T0.setTop (mkF m 241 #[s0, s1, s2, s3, s4, s5, .val (.int i6), s7, s8, s9, s10, s11, s12, s13, s14, .val (.ref o15)] [])) _
  refine XS.aload X0.here hx rfl (hb hby at_241) rfl rfl ?_
  show Steps p.tables e below (T0.setTop (mkF m 243 #[s0, s1, s2, s3, s4, s5, .val (.int i6), s7, s8, s9, s10, s11, s12, s13, s14, .val (.ref o15)] [(.ref o15)])) _
  refine XS.ifnullNo X0.here hx rfl (hb hby at_243) rfl ?_
  show Steps p.tables e below (T0.setTop (mkF m 246 #[s0, s1, s2, s3, s4, s5, .val (.int i6), s7, s8, s9, s10, s11, s12, s13, s14, .val (.ref o15)] [])) _
  refine XS.aload X0.here hx rfl (hb hby at_246) rfl rfl ?_
  show Steps p.tables e below (T0.setTop (mkF m 248 #[s0, s1, s2, s3, s4, s5, .val (.int i6), s7, s8, s9, s10, s11, s12, s13, s14, .val (.ref o15)] [(.ref o15)])) _
  refine X0.arraylength hx (by rw [e0]; exact Ar_o15.1) (State.isArrayOf_alike hZ.alike Ar_o15.2.1) (g := (mkF m 248 #[s0, s1, s2, s3, s4, s5, .val (.int i6), s7, s8, s9, s10, s11, s12, s13, s14, .val (.ref o15)] [(.ref o15)])) rfl rfl (hb hby at_248) _ ?_
  rw [len_of S_o15 N_o15]
  show Steps p.tables e below (T0.setTop (mkF m 249 #[s0, s1, s2, s3, s4, s5, .val (.int i6), s7, s8, s9, s10, s11, s12, s13, s14, .val (.ref o15)] [(.int z_o15)])) _
  refine XS.iload X0.here hx rfl (hb hby at_249) rfl ?_
  show Steps p.tables e below (T0.setTop (mkF m 251 #[s0, s1, s2, s3, s4, s5, .val (.int i6), s7, s8, s9, s10, s11, s12, s13, s14, .val (.ref o15)] [(.int i6), (.int z_o15)])) _
  refine XS.iconst X0.here hx rfl (hb hby at_251) ?_
  show Steps p.tables e below (T0.setTop (mkF m 252 #[s0, s1, s2, s3, s4, s5, .val (.int i6), s7, s8, s9, s10, s11, s12, s13, s14, .val (.ref o15)] [(.int (1 : Int32)), (.int i6), (.int z_o15)])) _
  refine XS.iadd X0.here hx rfl (hb hby at_252) rfl ?_
  show Steps p.tables e below (T0.setTop (mkF m 253 #[s0, s1, s2, s3, s4, s5, .val (.int i6), s7, s8, s9, s10, s11, s12, s13, s14, .val (.ref o15)] [(.int (i6 + (1 : Int32))), (.int z_o15)])) _
  refine XS.icmpYes X0.here hx rfl (pc0 := 253) (pc' := 258) rfl (hb hby at_253) rfl (teq hc253).1 (by decide) (by decide) ?_
  exact kt
def own_G (a b c d e : Int32) (j : Nat) : Nat := ([a, b, c, d, e].getD j 0).toNatClampNeg
theorem own_Gof {a b c d e : Int32} (ha : 0 ≤ a.toInt) (hb : 0 ≤ b.toInt) (hc : 0 ≤ c.toInt) (hd : 0 ≤ d.toInt) (he : 0 ≤ e.toInt) (n : Nat) (hn : n ≤ 5) : ∀ j, j < n → [a, b, c, d, e].getD j 0 = Int32.ofNat (own_G a b c d e j) := by
  intro j hj
  have u : j = 0 ∨ j = 1 ∨ j = 2 ∨ j = 3 ∨ j = 4 := by omega
  rcases u with rfl | rfl | rfl | rfl | rfl
  · exact own_nat ha
  · exact own_nat hb
  · exact own_nat hc
  · exact own_nat hd
  · exact own_nat he
def own_vv (x : Int32) (c : Nat) : Int32 := (x &&& (2147483647 : Int32)) % own_max (Int32.ofNat c) (1 : Int32)
theorem own_Glt (p2 p3 p4 p5 p6 : Int32) {cc n : Nat} (hcc : cc ≤ 4) (hn : n ≤ 5) (hz : cc = 0 → n = 0) : ∀ j, j < n → own_G (own_vv p2 cc) (own_vv p3 cc) (own_vv p4 cc) (own_vv p5 cc) (own_vv p6 cc) j < cc := by
  intro j hj
  have h0 : 0 < cc := Nat.pos_of_ne_zero fun q => by have := hz q; omega
  have u : j = 0 ∨ j = 1 ∨ j = 2 ∨ j = 3 ∨ j = 4 := by omega
  rcases u with rfl | rfl | rfl | rfl | rfl
  · exact own_v_lt p2 hcc h0
  · exact own_v_lt p3 hcc h0
  · exact own_v_lt p4 hcc h0
  · exact own_v_lt p5 hcc h0
  · exact own_v_lt p6 hcc h0
theorem pn_0 : plainName "com/example/nuoli/nuoli/service/StrongComponentsMemberStartPinLaw" = true := by first | (simp [plainName, overriddenIn]; done) | decide +kernel
theorem pd_0_0 : parseMethodDescriptor "(II)I" = some ⟨[.int, .int], some .int⟩ := by decide +kernel
theorem pd_0_1 : parseMethodDescriptor "([II)[I" = some ⟨[(.array .int), .int], some (.array .int)⟩ := by decide +kernel
theorem pd_0_2 : parseMethodDescriptor "([I[II)Z" = some ⟨[(.array .int), (.array .int), .int], some .boolean⟩ := by decide +kernel
theorem ef_0 (m : MethodId) (x0 : Int32) (x1 : Int32) (x2 : Int32) (x3 : Int32) (x4 : Int32) (x5 : Int32) : entryFrame m #[(.int x0), (.int x1), (.int x2), (.int x3), (.int x4), (.int x5)] maxLocals = mkF m 0 #[.val (.int x0), .val (.int x1), .val (.int x2), .val (.int x3), .val (.int x4), .val (.int x5), .unset, .unset, .unset, .unset, .unset, .unset, .unset, .unset, .unset, .unset] [] := by first | (simp [entryFrame, mkF, argsToLocals, Value.category, maxLocals]; done) | rfl
def Q0 (Z : State) (p1 : Int32) (p2 : Int32) (p3 : Int32) (p4 : Int32) (p5 : Int32) (p6 : Int32) (h0 : Heap) (n0 : Nat) (v : Option Value) (h : Heap) (L : List Loc) : Prop := v = some (.int (1 : Int32)) ∧ Fr n0 L ∧ Keep h0 h []
set_option maxRecDepth 65536 in
set_option maxHeartbeats 40000000 in
theorem rm0 (l : Launch) (Z : State) (a0 : Array Value) (hw : ∀ d ∈ tables_1, d.before a0 Z = true) (ws : List Jvm.Cond) (p1 : Int32) (p2 : Int32) (p3 : Int32) (p4 : Int32) (p5 : Int32) (p6 : Int32) (h0 : Heap) (n0 : Nat) (Z0 : n0 ≤ h0.size) (hc266 : ¬ ((1 : Int32) = (0 : Int32))) (hc277 : ¬ ((1 : Int32) = (0 : Int32))) (hc288 : ¬ ((1 : Int32) = (0 : Int32))) (hc299 : ¬ ((1 : Int32) = (0 : Int32))) (hc310 : ¬ ((1 : Int32) = (0 : Int32))) :
    MetFree l x (head1 (Jvm.Cond.code x code maxLocals ret :: ws) room_1) (fun a U => a = #[(.int p1), (.int p2), (.int p3), (.int p4), (.int p5), (.int p6)] ∧ Z.Warmed39 U.vm ∧ U.heap = h0) (fun _ _ _ _ _ => True) (fun _ U o U' => ∃ v L, o = .returned v ∧ Q0 Z p1 p2 p3 p4 p5 p6 h0 n0 v U'.heap L ∧ FrameEnd U o U' L room_1.cells room_1.slots) := by
  refine MetFree.of_bodySF (plainFor_of_name pn_0) hisR ?_
  intro p e s m args below meth c s₁ Bd hml0 hP hK
  obtain ⟨rfl, hZ, hh⟩ := hP
  have hx := Bd.exec
  have hby := Bd.bytes
  have hml : c.maxLocals = 16 := hml0
  have hown : s.vm.findClass "com/example/nuoli/nuoli/service/StrongComponentsMemberStartPinLaw" = some m.cls := findClass_of_methodNamed Bd.named
  have hnm := (name_of_methodNamed Bd.named Bd.method).1
  have X0 : Stand p l e room_1 s m #[(.int p1), (.int p2), (.int p3), (.int p4), (.int p5), (.int p6)] below meth c s₁ [] 0 0 := Stand.of_body Bd
  have e0 : s₁.heap = h0 := by rw [← hh, Bd.state]; rfl
  have N0 := Fr.nil n0
  have pre0 : ∀ t, Steps p.tables e below (s₁.setTop (mkF m 0 #[.val (.int p1), .val (.int p2), .val (.int p3), .val (.int p4), .val (.int p5), .val (.int p6), .unset, .unset, .unset, .unset, .unset, .unset, .unset, .unset, .unset, .unset] [])) t → Steps p.tables e below (s₁.setTop (entryFrame m #[(.int p1), (.int p2), (.int p3), (.int p4), (.int p5), (.int p6)] maxLocals)) t := fun t k => castTop (ef_0 m p1 p2 p3 p4 p5 p6) k
  obtain ⟨cc, hcc, ecc⟩ := own_cc_ex p1
  obtain ⟨n, hn, enn, hz⟩ := own_nn_ex p1
  obtain ⟨T7, X7, e7, st7⟩ := own_h p1 (.val (.int p2)) (.val (.int p3)) (.val (.int p4)) (.val (.int p5)) (.val (.int p6)) .unset .unset .unset .unset .unset .unset .unset .unset .unset .unset X0 hx hZ hw hby hml hown e0 One.u One.u cc n ecc enn
  obtain ⟨_, _, ⟨T8, L8, k8, n8⟩, -, X8, ⟨Lc8, hQ8, l8, y8, z8⟩, st8⟩ := Jvm.LawKit.callS X7 hx (y := (⟨"java/lang/Math", "max", "(II)I"⟩ : MethodName)) hown (mvT hZ (hw _ (List.mem_of_getElem? (i := 0) rfl))) (mvT hZ (hw _ (List.mem_of_getElem? (i := 1) rfl))) (mvT hZ (hw _ (List.mem_of_getElem? (i := 2) rfl))) (mvT hZ (hw _ (List.mem_of_getElem? (i := 3) rfl))) (by decide) (backOf (W := 0) (rm1 l Z a0 hw [] (Int32.ofNat cc) (1 : Int32)  h0 n0 Z0) hZ (hw _ (List.mem_of_getElem? (i := 3) rfl)) (hw _ (List.mem_of_getElem? (i := 2) rfl)) (by decide) (by decide)) (g := (mkF m 31 #[.val (.int p1), .val (.int p2), .val (.int p3), .val (.int p4), .val (.int p5), .val (.int p6), .val (.int (Int32.ofNat cc)), .val (.int (Int32.ofNat n)), .unset, .unset, .unset, .unset, .unset, .unset, .unset, .unset] [(.int (1 : Int32)), (.int (Int32.ofNat cc))])) rfl (by rw [hml]; rfl) (argsL := [(.int (Int32.ofNat cc)), (.int (1 : Int32))]) (rest := []) (lenOf pd_0_0 rfl) rfl (by show 2 * 0 + _ ≤ _; exact Nat.le_of_eq rfl) (hb hby at_31) (fun _ _ => ⟨rfl, e7, (by decide : 0 + 0 ≤ _), (by decide : 0 + 0 ≤ _)⟩)
  dsimp only [Pt.U, Pt.locs, Pt.cells, Pt.slots] at X8 l8 y8 z8 st8 hQ8
  subst l8 y8 z8
  obtain ⟨rfl, N8q, q8⟩ := hQ8
  have N8 := Fr.app N0 N8q
  obtain ⟨T9, h9, b9, L9, g9, X9, e9, N9, K9c, A9, st9⟩ := own_mk (.val (.int p1)) (.val (.int p2)) (.val (.int p3)) (.val (.int p4)) (.val (.int p5)) (.val (.int p6)) (.val (.int (Int32.ofNat cc))) n (.val (.int (own_max (Int32.ofNat cc) (1 : Int32)))) (own_vv p2 cc) (own_vv p3 cc) (own_vv p4 cc) (own_vv p5 cc) (own_vv p6 cc) .unset .unset X8 hx hZ hw hby hml hown (q8) n0 N8 Z0 One.u hn
  have hG : ∀ j, j < n → [(own_vv p2 cc), (own_vv p3 cc), (own_vv p4 cc), (own_vv p5 cc), (own_vv p6 cc)].getD j 0 = Int32.ofNat (own_G (own_vv p2 cc) (own_vv p3 cc) (own_vv p4 cc) (own_vv p5 cc) (own_vv p6 cc) j) := own_Gof (own_v p2 _).1 (own_v p3 _).1 (own_v p4 _).1 (own_v p5 _).1 (own_v p6 _).1 n hn
  have hgl : ∀ j, j < n → own_G (own_vv p2 cc) (own_vv p3 cc) (own_vv p4 cc) (own_vv p5 cc) (own_vv p6 cc) j < cc := own_Glt p2 p3 p4 p5 p6 hcc hn (fun q => hz (ecc.trans (congrArg Int32.ofNat q)))
  generalize own_G (own_vv p2 cc) (own_vv p3 cc) (own_vv p4 cc) (own_vv p5 cc) (own_vv p6 cc) = g at hG hgl
  have A9g := A9.congr hG
  have hg31 : ∀ j, j < n → g j < 2 ^ 31 := fun j hj => Nat.lt_of_lt_of_le (hgl j hj) (by omega)
  have K9 : Keep h0 h9 [] := (Keep.refl h0 []).trans K9c all0
  obtain ⟨_, _, ⟨T10, L10, k10, n10⟩, -, X10, ⟨Lc10, hQ10, l10, y10, z10⟩, st10⟩ := Jvm.LawKit.callS X9 hx (y := (⟨"com/example/nuoli/nuoli/service/StrongComponents", "memberStart", "([II)[I"⟩ : MethodName)) hown (mvT hZ (hw _ (List.mem_of_getElem? (i := 6) rfl))) (mvT hZ (hw _ (List.mem_of_getElem? (i := 7) rfl))) (mvT hZ (hw _ (List.mem_of_getElem? (i := 8) rfl))) (mvT hZ (hw _ (List.mem_of_getElem? (i := 9) rfl))) (by decide) (backOf (W := 0) (rm2 l Z a0 hw [] b9 n cc g h9 n0 (Nat.le_trans Z0 K9c.1) A9g hn hcc hgl) hZ (hw _ (List.mem_of_getElem? (i := 9) rfl)) (hw _ (List.mem_of_getElem? (i := 8) rfl)) (by decide) (by decide)) (g := (mkF m 236 #[.val (.int p1), .val (.int p2), .val (.int p3), .val (.int p4), .val (.int p5), .val (.int p6), .val (.int (Int32.ofNat cc)), .val (.int (Int32.ofNat n)), .val (.int (own_max (Int32.ofNat cc) (1 : Int32))), .val (.int (own_vv p2 cc)), .val (.int (own_vv p3 cc)), .val (.int (own_vv p4 cc)), .val (.int (own_vv p5 cc)), .val (.int (own_vv p6 cc)), .val (.ref b9), .unset] [(.int (Int32.ofNat cc)), (.ref b9)])) rfl (by rw [hml]; rfl) (argsL := [(.ref b9), (.int (Int32.ofNat cc))]) (rest := []) (lenOf pd_0_1 rfl) rfl (by show 2 * 0 + _ ≤ _; exact Nat.le_of_eq rfl) (hb hby at_236) (fun _ _ => ⟨rfl, e9, (by decide : 1 + 1 ≤ _), (by decide : 5 + 5 ≤ _)⟩)
  dsimp only [Pt.U, Pt.locs, Pt.cells, Pt.slots] at X10 l10 y10 z10 st10 hQ10
  subst l10 y10 z10
  obtain ⟨b10, rfl, N10q, K10c, sz_b10, g_b10, AR⟩ := hQ10
  have N10 := Fr.app N9 N10q
  have AC := A9g.keep K10c nin0
  have K10 : Keep h0 T10.heap [] := K9.trans K10c all0
  obtain ⟨clr, Arr_, Sr, Hr⟩ := id AR
  obtain ⟨T11, X11, e11, st11⟩ := own_p241 (.val (.int p1)) (.val (.int p2)) (.val (.int p3)) (.val (.int p4)) (.val (.int p5)) (.val (.int p6)) (Int32.ofNat cc) (.val (.int (Int32.ofNat n))) (.val (.int (own_max (Int32.ofNat cc) (1 : Int32)))) (.val (.int (own_vv p2 cc))) (.val (.int (own_vv p3 cc))) (.val (.int (own_vv p4 cc))) (.val (.int (own_vv p5 cc))) (.val (.int (own_vv p6 cc))) (.val (.ref b9)) b10 clr (Int32.ofNat (cc + 1)) X10 hx hZ hw hby hml hown rfl Arr_ (by rw [own_clamp (by omega)]; exact Sr) (own_notneg (by omega)) (own_one cc).symm
  obtain ⟨_, _, ⟨T12, L12, k12, n12⟩, -, X12, ⟨Lc12, hQ12, l12, y12, z12⟩, st12⟩ := Jvm.LawKit.callS X11 hx (y := (⟨"com/example/nuoli/nuoli/service/StrongComponentsMemberStartPinLaw", "check", "([I[II)Z"⟩ : MethodName)) hown (mvT hZ (hw _ (List.mem_of_getElem? (i := 10) rfl))) (mvT hZ (hw _ (List.mem_of_getElem? (i := 11) rfl))) (mvT hZ (hw _ (List.mem_of_getElem? (i := 12) rfl))) (mvT hZ (hw _ (List.mem_of_getElem? (i := 13) rfl))) (by decide) (backOf (W := 0) (rm3 l Z a0 hw [] b10 b9 (0 : Int32) n cc 0 g (fun j => Int32.ofNat (own_lt g 0 n j)) T10.heap n0 (Nat.le_trans (Nat.le_trans Z0 K9c.1) K10c.1) rfl AR AC hn (by omega) (by decide) hg31 (fun _ => (own_cnt_eq n g 0 hn).symm)) hZ (hw _ (List.mem_of_getElem? (i := 13) rfl)) (hw _ (List.mem_of_getElem? (i := 12) rfl)) (by decide) (by decide)) (g := (mkF m 263 #[.val (.int p1), .val (.int p2), .val (.int p3), .val (.int p4), .val (.int p5), .val (.int p6), .val (.int (Int32.ofNat cc)), .val (.int (Int32.ofNat n)), .val (.int (own_max (Int32.ofNat cc) (1 : Int32))), .val (.int (own_vv p2 cc)), .val (.int (own_vv p3 cc)), .val (.int (own_vv p4 cc)), .val (.int (own_vv p5 cc)), .val (.int (own_vv p6 cc)), .val (.ref b9), .val (.ref b10)] [(.int (0 : Int32)), (.ref b9), (.ref b10)])) rfl (by rw [hml]; rfl) (argsL := [(.ref b10), (.ref b9), (.int (0 : Int32))]) (rest := []) (lenOf pd_0_2 rfl) rfl (by show 2 * 0 + _ ≤ _; exact Nat.le_of_eq rfl) (hb hby at_263) (fun _ _ => ⟨rfl, e11, (by decide : 2 + 0 ≤ _), (by decide : 10 + 0 ≤ _)⟩)
  dsimp only [Pt.U, Pt.locs, Pt.cells, Pt.slots] at X12 l12 y12 z12 st12 hQ12
  subst l12 y12 z12
  obtain ⟨rfl, N12q, q12⟩ := hQ12
  have N12 := Fr.app N10 N12q
  obtain ⟨_, _, ⟨T13, L13, k13, n13⟩, -, X13, ⟨Lc13, hQ13, l13, y13, z13⟩, st13⟩ := Jvm.LawKit.callS X12 hx (y := (⟨"com/example/nuoli/nuoli/service/StrongComponentsMemberStartPinLaw", "check", "([I[II)Z"⟩ : MethodName)) hown (mvT hZ (hw _ (List.mem_of_getElem? (i := 10) rfl))) (mvT hZ (hw _ (List.mem_of_getElem? (i := 11) rfl))) (mvT hZ (hw _ (List.mem_of_getElem? (i := 12) rfl))) (mvT hZ (hw _ (List.mem_of_getElem? (i := 13) rfl))) (by decide) (backOf (W := 0) (rm3 l Z a0 hw [] b10 b9 (1 : Int32) n cc 1 g (fun j => Int32.ofNat (own_lt g 0 n j)) T10.heap n0 (Nat.le_trans (Nat.le_trans Z0 K9c.1) K10c.1) rfl AR AC hn (by omega) (by decide) hg31 (fun _ => (own_cnt_eq n g 1 hn).symm)) hZ (hw _ (List.mem_of_getElem? (i := 13) rfl)) (hw _ (List.mem_of_getElem? (i := 12) rfl)) (by decide) (by decide)) (g := (mkF m 274 #[.val (.int p1), .val (.int p2), .val (.int p3), .val (.int p4), .val (.int p5), .val (.int p6), .val (.int (Int32.ofNat cc)), .val (.int (Int32.ofNat n)), .val (.int (own_max (Int32.ofNat cc) (1 : Int32))), .val (.int (own_vv p2 cc)), .val (.int (own_vv p3 cc)), .val (.int (own_vv p4 cc)), .val (.int (own_vv p5 cc)), .val (.int (own_vv p6 cc)), .val (.ref b9), .val (.ref b10)] [(.int (1 : Int32)), (.ref b9), (.ref b10)])) rfl (by rw [hml]; rfl) (argsL := [(.ref b10), (.ref b9), (.int (1 : Int32))]) (rest := []) (lenOf pd_0_2 rfl) rfl (by show 2 * 0 + _ ≤ _; exact Nat.le_of_eq rfl) (hb hby at_274) (fun _ _ => ⟨rfl, (q12), (by decide : 2 + 0 ≤ _), (by decide : 10 + 0 ≤ _)⟩)
  dsimp only [Pt.U, Pt.locs, Pt.cells, Pt.slots] at X13 l13 y13 z13 st13 hQ13
  subst l13 y13 z13
  obtain ⟨rfl, N13q, q13⟩ := hQ13
  have N13 := Fr.app N12 N13q
  obtain ⟨_, _, ⟨T14, L14, k14, n14⟩, -, X14, ⟨Lc14, hQ14, l14, y14, z14⟩, st14⟩ := Jvm.LawKit.callS X13 hx (y := (⟨"com/example/nuoli/nuoli/service/StrongComponentsMemberStartPinLaw", "check", "([I[II)Z"⟩ : MethodName)) hown (mvT hZ (hw _ (List.mem_of_getElem? (i := 10) rfl))) (mvT hZ (hw _ (List.mem_of_getElem? (i := 11) rfl))) (mvT hZ (hw _ (List.mem_of_getElem? (i := 12) rfl))) (mvT hZ (hw _ (List.mem_of_getElem? (i := 13) rfl))) (by decide) (backOf (W := 0) (rm3 l Z a0 hw [] b10 b9 (2 : Int32) n cc 2 g (fun j => Int32.ofNat (own_lt g 0 n j)) T10.heap n0 (Nat.le_trans (Nat.le_trans Z0 K9c.1) K10c.1) rfl AR AC hn (by omega) (by decide) hg31 (fun _ => (own_cnt_eq n g 2 hn).symm)) hZ (hw _ (List.mem_of_getElem? (i := 13) rfl)) (hw _ (List.mem_of_getElem? (i := 12) rfl)) (by decide) (by decide)) (g := (mkF m 285 #[.val (.int p1), .val (.int p2), .val (.int p3), .val (.int p4), .val (.int p5), .val (.int p6), .val (.int (Int32.ofNat cc)), .val (.int (Int32.ofNat n)), .val (.int (own_max (Int32.ofNat cc) (1 : Int32))), .val (.int (own_vv p2 cc)), .val (.int (own_vv p3 cc)), .val (.int (own_vv p4 cc)), .val (.int (own_vv p5 cc)), .val (.int (own_vv p6 cc)), .val (.ref b9), .val (.ref b10)] [(.int (2 : Int32)), (.ref b9), (.ref b10)])) rfl (by rw [hml]; rfl) (argsL := [(.ref b10), (.ref b9), (.int (2 : Int32))]) (rest := []) (lenOf pd_0_2 rfl) rfl (by show 2 * 0 + _ ≤ _; exact Nat.le_of_eq rfl) (hb hby at_285) (fun _ _ => ⟨rfl, (q13), (by decide : 2 + 0 ≤ _), (by decide : 10 + 0 ≤ _)⟩)
  dsimp only [Pt.U, Pt.locs, Pt.cells, Pt.slots] at X14 l14 y14 z14 st14 hQ14
  subst l14 y14 z14
  obtain ⟨rfl, N14q, q14⟩ := hQ14
  have N14 := Fr.app N13 N14q
  obtain ⟨_, _, ⟨T15, L15, k15, n15⟩, -, X15, ⟨Lc15, hQ15, l15, y15, z15⟩, st15⟩ := Jvm.LawKit.callS X14 hx (y := (⟨"com/example/nuoli/nuoli/service/StrongComponentsMemberStartPinLaw", "check", "([I[II)Z"⟩ : MethodName)) hown (mvT hZ (hw _ (List.mem_of_getElem? (i := 10) rfl))) (mvT hZ (hw _ (List.mem_of_getElem? (i := 11) rfl))) (mvT hZ (hw _ (List.mem_of_getElem? (i := 12) rfl))) (mvT hZ (hw _ (List.mem_of_getElem? (i := 13) rfl))) (by decide) (backOf (W := 0) (rm3 l Z a0 hw [] b10 b9 (3 : Int32) n cc 3 g (fun j => Int32.ofNat (own_lt g 0 n j)) T10.heap n0 (Nat.le_trans (Nat.le_trans Z0 K9c.1) K10c.1) rfl AR AC hn (by omega) (by decide) hg31 (fun _ => (own_cnt_eq n g 3 hn).symm)) hZ (hw _ (List.mem_of_getElem? (i := 13) rfl)) (hw _ (List.mem_of_getElem? (i := 12) rfl)) (by decide) (by decide)) (g := (mkF m 296 #[.val (.int p1), .val (.int p2), .val (.int p3), .val (.int p4), .val (.int p5), .val (.int p6), .val (.int (Int32.ofNat cc)), .val (.int (Int32.ofNat n)), .val (.int (own_max (Int32.ofNat cc) (1 : Int32))), .val (.int (own_vv p2 cc)), .val (.int (own_vv p3 cc)), .val (.int (own_vv p4 cc)), .val (.int (own_vv p5 cc)), .val (.int (own_vv p6 cc)), .val (.ref b9), .val (.ref b10)] [(.int (3 : Int32)), (.ref b9), (.ref b10)])) rfl (by rw [hml]; rfl) (argsL := [(.ref b10), (.ref b9), (.int (3 : Int32))]) (rest := []) (lenOf pd_0_2 rfl) rfl (by show 2 * 0 + _ ≤ _; exact Nat.le_of_eq rfl) (hb hby at_296) (fun _ _ => ⟨rfl, (q14), (by decide : 2 + 0 ≤ _), (by decide : 10 + 0 ≤ _)⟩)
  dsimp only [Pt.U, Pt.locs, Pt.cells, Pt.slots] at X15 l15 y15 z15 st15 hQ15
  subst l15 y15 z15
  obtain ⟨rfl, N15q, q15⟩ := hQ15
  have N15 := Fr.app N14 N15q
  obtain ⟨_, _, ⟨T16, L16, k16, n16⟩, -, X16, ⟨Lc16, hQ16, l16, y16, z16⟩, st16⟩ := Jvm.LawKit.callS X15 hx (y := (⟨"com/example/nuoli/nuoli/service/StrongComponentsMemberStartPinLaw", "check", "([I[II)Z"⟩ : MethodName)) hown (mvT hZ (hw _ (List.mem_of_getElem? (i := 10) rfl))) (mvT hZ (hw _ (List.mem_of_getElem? (i := 11) rfl))) (mvT hZ (hw _ (List.mem_of_getElem? (i := 12) rfl))) (mvT hZ (hw _ (List.mem_of_getElem? (i := 13) rfl))) (by decide) (backOf (W := 0) (rm3 l Z a0 hw [] b10 b9 (4 : Int32) n cc 4 g (fun j => Int32.ofNat (own_lt g 0 n j)) T10.heap n0 (Nat.le_trans (Nat.le_trans Z0 K9c.1) K10c.1) rfl AR AC hn (by omega) (by decide) hg31 (fun _ => (own_cnt_eq n g 4 hn).symm)) hZ (hw _ (List.mem_of_getElem? (i := 13) rfl)) (hw _ (List.mem_of_getElem? (i := 12) rfl)) (by decide) (by decide)) (g := (mkF m 307 #[.val (.int p1), .val (.int p2), .val (.int p3), .val (.int p4), .val (.int p5), .val (.int p6), .val (.int (Int32.ofNat cc)), .val (.int (Int32.ofNat n)), .val (.int (own_max (Int32.ofNat cc) (1 : Int32))), .val (.int (own_vv p2 cc)), .val (.int (own_vv p3 cc)), .val (.int (own_vv p4 cc)), .val (.int (own_vv p5 cc)), .val (.int (own_vv p6 cc)), .val (.ref b9), .val (.ref b10)] [(.int (4 : Int32)), (.ref b9), (.ref b10)])) rfl (by rw [hml]; rfl) (argsL := [(.ref b10), (.ref b9), (.int (4 : Int32))]) (rest := []) (lenOf pd_0_2 rfl) rfl (by show 2 * 0 + _ ≤ _; exact Nat.le_of_eq rfl) (hb hby at_307) (fun _ _ => ⟨rfl, (q15), (by decide : 2 + 0 ≤ _), (by decide : 10 + 0 ≤ _)⟩)
  dsimp only [Pt.U, Pt.locs, Pt.cells, Pt.slots] at X16 l16 y16 z16 st16 hQ16
  subst l16 y16 z16
  obtain ⟨rfl, N16q, q16⟩ := hQ16
  have N16 := Fr.app N15 N16q
  obtain ⟨fs, hr, hrun, hended, hW, hsame⟩ := X16.leave (v := some (.int (1 : Int32))) (fun h => by rw [Bd.returns] at h; cases h)
  refine ⟨_, _, pre0 _ ?_, hrun, hended, _, _, rfl, ?_, ⟨_, rfl⟩, hW, hsame.mono (by decide) (by decide)⟩
  · show Steps p.tables e below (s₁.setTop (mkF m 0 #[.val (.int p1), .val (.int p2), .val (.int p3), .val (.int p4), .val (.int p5), .val (.int p6), .unset, .unset, .unset, .unset, .unset, .unset, .unset, .unset, .unset, .unset] [])) _
    refine st7 _ ?_
    show Steps p.tables e below (T7.setTop (mkF m 28 #[.val (.int p1), .val (.int p2), .val (.int p3), .val (.int p4), .val (.int p5), .val (.int p6), .val (.int (Int32.ofNat cc)), .val (.int (Int32.ofNat n)), .unset, .unset, .unset, .unset, .unset, .unset, .unset, .unset] [])) _
    refine XS.iload X7.here hx rfl (hb hby at_28) rfl ?_
    show Steps p.tables e below (T7.setTop (mkF m 30 #[.val (.int p1), .val (.int p2), .val (.int p3), .val (.int p4), .val (.int p5), .val (.int p6), .val (.int (Int32.ofNat cc)), .val (.int (Int32.ofNat n)), .unset, .unset, .unset, .unset, .unset, .unset, .unset, .unset] [(.int (Int32.ofNat cc))])) _
    refine XS.iconst X7.here hx rfl (hb hby at_30) ?_
    show Steps p.tables e below (T7.setTop (mkF m 31 #[.val (.int p1), .val (.int p2), .val (.int p3), .val (.int p4), .val (.int p5), .val (.int p6), .val (.int (Int32.ofNat cc)), .val (.int (Int32.ofNat n)), .unset, .unset, .unset, .unset, .unset, .unset, .unset, .unset] [(.int (1 : Int32)), (.int (Int32.ofNat cc))])) _
    refine st8 _ ?_
    show Steps p.tables e below (T8.setTop (mkF m 34 #[.val (.int p1), .val (.int p2), .val (.int p3), .val (.int p4), .val (.int p5), .val (.int p6), .val (.int (Int32.ofNat cc)), .val (.int (Int32.ofNat n)), .unset, .unset, .unset, .unset, .unset, .unset, .unset, .unset] [(.int (own_max (Int32.ofNat cc) (1 : Int32)))])) _
    refine XS.istore X8.here hx rfl (hb hby at_34) rfl (l' := #[.val (.int p1), .val (.int p2), .val (.int p3), .val (.int p4), .val (.int p5), .val (.int p6), .val (.int (Int32.ofNat cc)), .val (.int (Int32.ofNat n)), .val (.int (own_max (Int32.ofNat cc) (1 : Int32))), .unset, .unset, .unset, .unset, .unset, .unset, .unset]) rfl ?_
    show Steps p.tables e below (T8.setTop (mkF m 36 #[.val (.int p1), .val (.int p2), .val (.int p3), .val (.int p4), .val (.int p5), .val (.int p6), .val (.int (Int32.ofNat cc)), .val (.int (Int32.ofNat n)), .val (.int (own_max (Int32.ofNat cc) (1 : Int32))), .unset, .unset, .unset, .unset, .unset, .unset, .unset] [])) _
    refine XS.iloadN X8.here hx rfl (hb hby at_36) rfl ?_
    show Steps p.tables e below (T8.setTop (mkF m 37 #[.val (.int p1), .val (.int p2), .val (.int p3), .val (.int p4), .val (.int p5), .val (.int p6), .val (.int (Int32.ofNat cc)), .val (.int (Int32.ofNat n)), .val (.int (own_max (Int32.ofNat cc) (1 : Int32))), .unset, .unset, .unset, .unset, .unset, .unset, .unset] [(.int p2)])) _
    refine X8.ldcInt hx hown (mvT hZ (hw _ (List.mem_of_getElem? (i := 4) rfl))) (g := (mkF m 37 #[.val (.int p1), .val (.int p2), .val (.int p3), .val (.int p4), .val (.int p5), .val (.int p6), .val (.int (Int32.ofNat cc)), .val (.int (Int32.ofNat n)), .val (.int (own_max (Int32.ofNat cc) (1 : Int32))), .unset, .unset, .unset, .unset, .unset, .unset, .unset] [(.int p2)])) rfl (hb hby at_37) _ ?_
    show Steps p.tables e below (T8.setTop (mkF m 39 #[.val (.int p1), .val (.int p2), .val (.int p3), .val (.int p4), .val (.int p5), .val (.int p6), .val (.int (Int32.ofNat cc)), .val (.int (Int32.ofNat n)), .val (.int (own_max (Int32.ofNat cc) (1 : Int32))), .unset, .unset, .unset, .unset, .unset, .unset, .unset] [(.int (2147483647 : Int32)), (.int p2)])) _
    refine XS.iand X8.here hx rfl (hb hby at_39) rfl ?_
    show Steps p.tables e below (T8.setTop (mkF m 40 #[.val (.int p1), .val (.int p2), .val (.int p3), .val (.int p4), .val (.int p5), .val (.int p6), .val (.int (Int32.ofNat cc)), .val (.int (Int32.ofNat n)), .val (.int (own_max (Int32.ofNat cc) (1 : Int32))), .unset, .unset, .unset, .unset, .unset, .unset, .unset] [(.int (p2 &&& (2147483647 : Int32)))])) _
    refine XS.iload X8.here hx rfl (hb hby at_40) rfl ?_
    show Steps p.tables e below (T8.setTop (mkF m 42 #[.val (.int p1), .val (.int p2), .val (.int p3), .val (.int p4), .val (.int p5), .val (.int p6), .val (.int (Int32.ofNat cc)), .val (.int (Int32.ofNat n)), .val (.int (own_max (Int32.ofNat cc) (1 : Int32))), .unset, .unset, .unset, .unset, .unset, .unset, .unset] [(.int (own_max (Int32.ofNat cc) (1 : Int32))), (.int (p2 &&& (2147483647 : Int32)))])) _
    refine iremM X8 hx rfl (hb hby at_42) rfl (own_max_ne _) ?_
    show Steps p.tables e below (T8.setTop (mkF m 43 #[.val (.int p1), .val (.int p2), .val (.int p3), .val (.int p4), .val (.int p5), .val (.int p6), .val (.int (Int32.ofNat cc)), .val (.int (Int32.ofNat n)), .val (.int (own_max (Int32.ofNat cc) (1 : Int32))), .unset, .unset, .unset, .unset, .unset, .unset, .unset] [(.int (own_vv p2 cc))])) _
    refine XS.istore X8.here hx rfl (hb hby at_43) rfl (l' := #[.val (.int p1), .val (.int p2), .val (.int p3), .val (.int p4), .val (.int p5), .val (.int p6), .val (.int (Int32.ofNat cc)), .val (.int (Int32.ofNat n)), .val (.int (own_max (Int32.ofNat cc) (1 : Int32))), .val (.int (own_vv p2 cc)), .unset, .unset, .unset, .unset, .unset, .unset]) rfl ?_
    show Steps p.tables e below (T8.setTop (mkF m 45 #[.val (.int p1), .val (.int p2), .val (.int p3), .val (.int p4), .val (.int p5), .val (.int p6), .val (.int (Int32.ofNat cc)), .val (.int (Int32.ofNat n)), .val (.int (own_max (Int32.ofNat cc) (1 : Int32))), .val (.int (own_vv p2 cc)), .unset, .unset, .unset, .unset, .unset, .unset] [])) _
    refine XS.iloadN X8.here hx rfl (hb hby at_45) rfl ?_
    show Steps p.tables e below (T8.setTop (mkF m 46 #[.val (.int p1), .val (.int p2), .val (.int p3), .val (.int p4), .val (.int p5), .val (.int p6), .val (.int (Int32.ofNat cc)), .val (.int (Int32.ofNat n)), .val (.int (own_max (Int32.ofNat cc) (1 : Int32))), .val (.int (own_vv p2 cc)), .unset, .unset, .unset, .unset, .unset, .unset] [(.int p3)])) _
    refine X8.ldcInt hx hown (mvT hZ (hw _ (List.mem_of_getElem? (i := 4) rfl))) (g := (mkF m 46 #[.val (.int p1), .val (.int p2), .val (.int p3), .val (.int p4), .val (.int p5), .val (.int p6), .val (.int (Int32.ofNat cc)), .val (.int (Int32.ofNat n)), .val (.int (own_max (Int32.ofNat cc) (1 : Int32))), .val (.int (own_vv p2 cc)), .unset, .unset, .unset, .unset, .unset, .unset] [(.int p3)])) rfl (hb hby at_46) _ ?_
    show Steps p.tables e below (T8.setTop (mkF m 48 #[.val (.int p1), .val (.int p2), .val (.int p3), .val (.int p4), .val (.int p5), .val (.int p6), .val (.int (Int32.ofNat cc)), .val (.int (Int32.ofNat n)), .val (.int (own_max (Int32.ofNat cc) (1 : Int32))), .val (.int (own_vv p2 cc)), .unset, .unset, .unset, .unset, .unset, .unset] [(.int (2147483647 : Int32)), (.int p3)])) _
    refine XS.iand X8.here hx rfl (hb hby at_48) rfl ?_
    show Steps p.tables e below (T8.setTop (mkF m 49 #[.val (.int p1), .val (.int p2), .val (.int p3), .val (.int p4), .val (.int p5), .val (.int p6), .val (.int (Int32.ofNat cc)), .val (.int (Int32.ofNat n)), .val (.int (own_max (Int32.ofNat cc) (1 : Int32))), .val (.int (own_vv p2 cc)), .unset, .unset, .unset, .unset, .unset, .unset] [(.int (p3 &&& (2147483647 : Int32)))])) _
    refine XS.iload X8.here hx rfl (hb hby at_49) rfl ?_
    show Steps p.tables e below (T8.setTop (mkF m 51 #[.val (.int p1), .val (.int p2), .val (.int p3), .val (.int p4), .val (.int p5), .val (.int p6), .val (.int (Int32.ofNat cc)), .val (.int (Int32.ofNat n)), .val (.int (own_max (Int32.ofNat cc) (1 : Int32))), .val (.int (own_vv p2 cc)), .unset, .unset, .unset, .unset, .unset, .unset] [(.int (own_max (Int32.ofNat cc) (1 : Int32))), (.int (p3 &&& (2147483647 : Int32)))])) _
    refine iremM X8 hx rfl (hb hby at_51) rfl (own_max_ne _) ?_
    show Steps p.tables e below (T8.setTop (mkF m 52 #[.val (.int p1), .val (.int p2), .val (.int p3), .val (.int p4), .val (.int p5), .val (.int p6), .val (.int (Int32.ofNat cc)), .val (.int (Int32.ofNat n)), .val (.int (own_max (Int32.ofNat cc) (1 : Int32))), .val (.int (own_vv p2 cc)), .unset, .unset, .unset, .unset, .unset, .unset] [(.int (own_vv p3 cc))])) _
    refine XS.istore X8.here hx rfl (hb hby at_52) rfl (l' := #[.val (.int p1), .val (.int p2), .val (.int p3), .val (.int p4), .val (.int p5), .val (.int p6), .val (.int (Int32.ofNat cc)), .val (.int (Int32.ofNat n)), .val (.int (own_max (Int32.ofNat cc) (1 : Int32))), .val (.int (own_vv p2 cc)), .val (.int (own_vv p3 cc)), .unset, .unset, .unset, .unset, .unset]) rfl ?_
    show Steps p.tables e below (T8.setTop (mkF m 54 #[.val (.int p1), .val (.int p2), .val (.int p3), .val (.int p4), .val (.int p5), .val (.int p6), .val (.int (Int32.ofNat cc)), .val (.int (Int32.ofNat n)), .val (.int (own_max (Int32.ofNat cc) (1 : Int32))), .val (.int (own_vv p2 cc)), .val (.int (own_vv p3 cc)), .unset, .unset, .unset, .unset, .unset] [])) _
    refine XS.iloadN X8.here hx rfl (hb hby at_54) rfl ?_
    show Steps p.tables e below (T8.setTop (mkF m 55 #[.val (.int p1), .val (.int p2), .val (.int p3), .val (.int p4), .val (.int p5), .val (.int p6), .val (.int (Int32.ofNat cc)), .val (.int (Int32.ofNat n)), .val (.int (own_max (Int32.ofNat cc) (1 : Int32))), .val (.int (own_vv p2 cc)), .val (.int (own_vv p3 cc)), .unset, .unset, .unset, .unset, .unset] [(.int p4)])) _
    refine X8.ldcInt hx hown (mvT hZ (hw _ (List.mem_of_getElem? (i := 4) rfl))) (g := (mkF m 55 #[.val (.int p1), .val (.int p2), .val (.int p3), .val (.int p4), .val (.int p5), .val (.int p6), .val (.int (Int32.ofNat cc)), .val (.int (Int32.ofNat n)), .val (.int (own_max (Int32.ofNat cc) (1 : Int32))), .val (.int (own_vv p2 cc)), .val (.int (own_vv p3 cc)), .unset, .unset, .unset, .unset, .unset] [(.int p4)])) rfl (hb hby at_55) _ ?_
    show Steps p.tables e below (T8.setTop (mkF m 57 #[.val (.int p1), .val (.int p2), .val (.int p3), .val (.int p4), .val (.int p5), .val (.int p6), .val (.int (Int32.ofNat cc)), .val (.int (Int32.ofNat n)), .val (.int (own_max (Int32.ofNat cc) (1 : Int32))), .val (.int (own_vv p2 cc)), .val (.int (own_vv p3 cc)), .unset, .unset, .unset, .unset, .unset] [(.int (2147483647 : Int32)), (.int p4)])) _
    refine XS.iand X8.here hx rfl (hb hby at_57) rfl ?_
    show Steps p.tables e below (T8.setTop (mkF m 58 #[.val (.int p1), .val (.int p2), .val (.int p3), .val (.int p4), .val (.int p5), .val (.int p6), .val (.int (Int32.ofNat cc)), .val (.int (Int32.ofNat n)), .val (.int (own_max (Int32.ofNat cc) (1 : Int32))), .val (.int (own_vv p2 cc)), .val (.int (own_vv p3 cc)), .unset, .unset, .unset, .unset, .unset] [(.int (p4 &&& (2147483647 : Int32)))])) _
    refine XS.iload X8.here hx rfl (hb hby at_58) rfl ?_
    show Steps p.tables e below (T8.setTop (mkF m 60 #[.val (.int p1), .val (.int p2), .val (.int p3), .val (.int p4), .val (.int p5), .val (.int p6), .val (.int (Int32.ofNat cc)), .val (.int (Int32.ofNat n)), .val (.int (own_max (Int32.ofNat cc) (1 : Int32))), .val (.int (own_vv p2 cc)), .val (.int (own_vv p3 cc)), .unset, .unset, .unset, .unset, .unset] [(.int (own_max (Int32.ofNat cc) (1 : Int32))), (.int (p4 &&& (2147483647 : Int32)))])) _
    refine iremM X8 hx rfl (hb hby at_60) rfl (own_max_ne _) ?_
    show Steps p.tables e below (T8.setTop (mkF m 61 #[.val (.int p1), .val (.int p2), .val (.int p3), .val (.int p4), .val (.int p5), .val (.int p6), .val (.int (Int32.ofNat cc)), .val (.int (Int32.ofNat n)), .val (.int (own_max (Int32.ofNat cc) (1 : Int32))), .val (.int (own_vv p2 cc)), .val (.int (own_vv p3 cc)), .unset, .unset, .unset, .unset, .unset] [(.int (own_vv p4 cc))])) _
    refine XS.istore X8.here hx rfl (hb hby at_61) rfl (l' := #[.val (.int p1), .val (.int p2), .val (.int p3), .val (.int p4), .val (.int p5), .val (.int p6), .val (.int (Int32.ofNat cc)), .val (.int (Int32.ofNat n)), .val (.int (own_max (Int32.ofNat cc) (1 : Int32))), .val (.int (own_vv p2 cc)), .val (.int (own_vv p3 cc)), .val (.int (own_vv p4 cc)), .unset, .unset, .unset, .unset]) rfl ?_
    show Steps p.tables e below (T8.setTop (mkF m 63 #[.val (.int p1), .val (.int p2), .val (.int p3), .val (.int p4), .val (.int p5), .val (.int p6), .val (.int (Int32.ofNat cc)), .val (.int (Int32.ofNat n)), .val (.int (own_max (Int32.ofNat cc) (1 : Int32))), .val (.int (own_vv p2 cc)), .val (.int (own_vv p3 cc)), .val (.int (own_vv p4 cc)), .unset, .unset, .unset, .unset] [])) _
    refine XS.iload X8.here hx rfl (hb hby at_63) rfl ?_
    show Steps p.tables e below (T8.setTop (mkF m 65 #[.val (.int p1), .val (.int p2), .val (.int p3), .val (.int p4), .val (.int p5), .val (.int p6), .val (.int (Int32.ofNat cc)), .val (.int (Int32.ofNat n)), .val (.int (own_max (Int32.ofNat cc) (1 : Int32))), .val (.int (own_vv p2 cc)), .val (.int (own_vv p3 cc)), .val (.int (own_vv p4 cc)), .unset, .unset, .unset, .unset] [(.int p5)])) _
    refine X8.ldcInt hx hown (mvT hZ (hw _ (List.mem_of_getElem? (i := 4) rfl))) (g := (mkF m 65 #[.val (.int p1), .val (.int p2), .val (.int p3), .val (.int p4), .val (.int p5), .val (.int p6), .val (.int (Int32.ofNat cc)), .val (.int (Int32.ofNat n)), .val (.int (own_max (Int32.ofNat cc) (1 : Int32))), .val (.int (own_vv p2 cc)), .val (.int (own_vv p3 cc)), .val (.int (own_vv p4 cc)), .unset, .unset, .unset, .unset] [(.int p5)])) rfl (hb hby at_65) _ ?_
    show Steps p.tables e below (T8.setTop (mkF m 67 #[.val (.int p1), .val (.int p2), .val (.int p3), .val (.int p4), .val (.int p5), .val (.int p6), .val (.int (Int32.ofNat cc)), .val (.int (Int32.ofNat n)), .val (.int (own_max (Int32.ofNat cc) (1 : Int32))), .val (.int (own_vv p2 cc)), .val (.int (own_vv p3 cc)), .val (.int (own_vv p4 cc)), .unset, .unset, .unset, .unset] [(.int (2147483647 : Int32)), (.int p5)])) _
    refine XS.iand X8.here hx rfl (hb hby at_67) rfl ?_
    show Steps p.tables e below (T8.setTop (mkF m 68 #[.val (.int p1), .val (.int p2), .val (.int p3), .val (.int p4), .val (.int p5), .val (.int p6), .val (.int (Int32.ofNat cc)), .val (.int (Int32.ofNat n)), .val (.int (own_max (Int32.ofNat cc) (1 : Int32))), .val (.int (own_vv p2 cc)), .val (.int (own_vv p3 cc)), .val (.int (own_vv p4 cc)), .unset, .unset, .unset, .unset] [(.int (p5 &&& (2147483647 : Int32)))])) _
    refine XS.iload X8.here hx rfl (hb hby at_68) rfl ?_
    show Steps p.tables e below (T8.setTop (mkF m 70 #[.val (.int p1), .val (.int p2), .val (.int p3), .val (.int p4), .val (.int p5), .val (.int p6), .val (.int (Int32.ofNat cc)), .val (.int (Int32.ofNat n)), .val (.int (own_max (Int32.ofNat cc) (1 : Int32))), .val (.int (own_vv p2 cc)), .val (.int (own_vv p3 cc)), .val (.int (own_vv p4 cc)), .unset, .unset, .unset, .unset] [(.int (own_max (Int32.ofNat cc) (1 : Int32))), (.int (p5 &&& (2147483647 : Int32)))])) _
    refine iremM X8 hx rfl (hb hby at_70) rfl (own_max_ne _) ?_
    show Steps p.tables e below (T8.setTop (mkF m 71 #[.val (.int p1), .val (.int p2), .val (.int p3), .val (.int p4), .val (.int p5), .val (.int p6), .val (.int (Int32.ofNat cc)), .val (.int (Int32.ofNat n)), .val (.int (own_max (Int32.ofNat cc) (1 : Int32))), .val (.int (own_vv p2 cc)), .val (.int (own_vv p3 cc)), .val (.int (own_vv p4 cc)), .unset, .unset, .unset, .unset] [(.int (own_vv p5 cc))])) _
    refine XS.istore X8.here hx rfl (hb hby at_71) rfl (l' := #[.val (.int p1), .val (.int p2), .val (.int p3), .val (.int p4), .val (.int p5), .val (.int p6), .val (.int (Int32.ofNat cc)), .val (.int (Int32.ofNat n)), .val (.int (own_max (Int32.ofNat cc) (1 : Int32))), .val (.int (own_vv p2 cc)), .val (.int (own_vv p3 cc)), .val (.int (own_vv p4 cc)), .val (.int (own_vv p5 cc)), .unset, .unset, .unset]) rfl ?_
    show Steps p.tables e below (T8.setTop (mkF m 73 #[.val (.int p1), .val (.int p2), .val (.int p3), .val (.int p4), .val (.int p5), .val (.int p6), .val (.int (Int32.ofNat cc)), .val (.int (Int32.ofNat n)), .val (.int (own_max (Int32.ofNat cc) (1 : Int32))), .val (.int (own_vv p2 cc)), .val (.int (own_vv p3 cc)), .val (.int (own_vv p4 cc)), .val (.int (own_vv p5 cc)), .unset, .unset, .unset] [])) _
    refine XS.iload X8.here hx rfl (hb hby at_73) rfl ?_
    show Steps p.tables e below (T8.setTop (mkF m 75 #[.val (.int p1), .val (.int p2), .val (.int p3), .val (.int p4), .val (.int p5), .val (.int p6), .val (.int (Int32.ofNat cc)), .val (.int (Int32.ofNat n)), .val (.int (own_max (Int32.ofNat cc) (1 : Int32))), .val (.int (own_vv p2 cc)), .val (.int (own_vv p3 cc)), .val (.int (own_vv p4 cc)), .val (.int (own_vv p5 cc)), .unset, .unset, .unset] [(.int p6)])) _
    refine X8.ldcInt hx hown (mvT hZ (hw _ (List.mem_of_getElem? (i := 4) rfl))) (g := (mkF m 75 #[.val (.int p1), .val (.int p2), .val (.int p3), .val (.int p4), .val (.int p5), .val (.int p6), .val (.int (Int32.ofNat cc)), .val (.int (Int32.ofNat n)), .val (.int (own_max (Int32.ofNat cc) (1 : Int32))), .val (.int (own_vv p2 cc)), .val (.int (own_vv p3 cc)), .val (.int (own_vv p4 cc)), .val (.int (own_vv p5 cc)), .unset, .unset, .unset] [(.int p6)])) rfl (hb hby at_75) _ ?_
    show Steps p.tables e below (T8.setTop (mkF m 77 #[.val (.int p1), .val (.int p2), .val (.int p3), .val (.int p4), .val (.int p5), .val (.int p6), .val (.int (Int32.ofNat cc)), .val (.int (Int32.ofNat n)), .val (.int (own_max (Int32.ofNat cc) (1 : Int32))), .val (.int (own_vv p2 cc)), .val (.int (own_vv p3 cc)), .val (.int (own_vv p4 cc)), .val (.int (own_vv p5 cc)), .unset, .unset, .unset] [(.int (2147483647 : Int32)), (.int p6)])) _
    refine XS.iand X8.here hx rfl (hb hby at_77) rfl ?_
    show Steps p.tables e below (T8.setTop (mkF m 78 #[.val (.int p1), .val (.int p2), .val (.int p3), .val (.int p4), .val (.int p5), .val (.int p6), .val (.int (Int32.ofNat cc)), .val (.int (Int32.ofNat n)), .val (.int (own_max (Int32.ofNat cc) (1 : Int32))), .val (.int (own_vv p2 cc)), .val (.int (own_vv p3 cc)), .val (.int (own_vv p4 cc)), .val (.int (own_vv p5 cc)), .unset, .unset, .unset] [(.int (p6 &&& (2147483647 : Int32)))])) _
    refine XS.iload X8.here hx rfl (hb hby at_78) rfl ?_
    show Steps p.tables e below (T8.setTop (mkF m 80 #[.val (.int p1), .val (.int p2), .val (.int p3), .val (.int p4), .val (.int p5), .val (.int p6), .val (.int (Int32.ofNat cc)), .val (.int (Int32.ofNat n)), .val (.int (own_max (Int32.ofNat cc) (1 : Int32))), .val (.int (own_vv p2 cc)), .val (.int (own_vv p3 cc)), .val (.int (own_vv p4 cc)), .val (.int (own_vv p5 cc)), .unset, .unset, .unset] [(.int (own_max (Int32.ofNat cc) (1 : Int32))), (.int (p6 &&& (2147483647 : Int32)))])) _
    refine iremM X8 hx rfl (hb hby at_80) rfl (own_max_ne _) ?_
    show Steps p.tables e below (T8.setTop (mkF m 81 #[.val (.int p1), .val (.int p2), .val (.int p3), .val (.int p4), .val (.int p5), .val (.int p6), .val (.int (Int32.ofNat cc)), .val (.int (Int32.ofNat n)), .val (.int (own_max (Int32.ofNat cc) (1 : Int32))), .val (.int (own_vv p2 cc)), .val (.int (own_vv p3 cc)), .val (.int (own_vv p4 cc)), .val (.int (own_vv p5 cc)), .unset, .unset, .unset] [(.int (own_vv p6 cc))])) _
    refine XS.istore X8.here hx rfl (hb hby at_81) rfl (l' := #[.val (.int p1), .val (.int p2), .val (.int p3), .val (.int p4), .val (.int p5), .val (.int p6), .val (.int (Int32.ofNat cc)), .val (.int (Int32.ofNat n)), .val (.int (own_max (Int32.ofNat cc) (1 : Int32))), .val (.int (own_vv p2 cc)), .val (.int (own_vv p3 cc)), .val (.int (own_vv p4 cc)), .val (.int (own_vv p5 cc)), .val (.int (own_vv p6 cc)), .unset, .unset]) rfl ?_
    show Steps p.tables e below (T8.setTop (mkF m 83 #[.val (.int p1), .val (.int p2), .val (.int p3), .val (.int p4), .val (.int p5), .val (.int p6), .val (.int (Int32.ofNat cc)), .val (.int (Int32.ofNat n)), .val (.int (own_max (Int32.ofNat cc) (1 : Int32))), .val (.int (own_vv p2 cc)), .val (.int (own_vv p3 cc)), .val (.int (own_vv p4 cc)), .val (.int (own_vv p5 cc)), .val (.int (own_vv p6 cc)), .unset, .unset] [])) _
    refine st9 _ ?_
    show Steps p.tables e below (T9.setTop (mkF m 232 #[.val (.int p1), .val (.int p2), .val (.int p3), .val (.int p4), .val (.int p5), .val (.int p6), .val (.int (Int32.ofNat cc)), .val (.int (Int32.ofNat n)), .val (.int (own_max (Int32.ofNat cc) (1 : Int32))), .val (.int (own_vv p2 cc)), .val (.int (own_vv p3 cc)), .val (.int (own_vv p4 cc)), .val (.int (own_vv p5 cc)), .val (.int (own_vv p6 cc)), .val (.ref b9), .unset] [])) _
    refine XS.aload X9.here hx rfl (hb hby at_232) rfl rfl ?_
    show Steps p.tables e below (T9.setTop (mkF m 234 #[.val (.int p1), .val (.int p2), .val (.int p3), .val (.int p4), .val (.int p5), .val (.int p6), .val (.int (Int32.ofNat cc)), .val (.int (Int32.ofNat n)), .val (.int (own_max (Int32.ofNat cc) (1 : Int32))), .val (.int (own_vv p2 cc)), .val (.int (own_vv p3 cc)), .val (.int (own_vv p4 cc)), .val (.int (own_vv p5 cc)), .val (.int (own_vv p6 cc)), .val (.ref b9), .unset] [(.ref b9)])) _
    refine XS.iload X9.here hx rfl (hb hby at_234) rfl ?_
    show Steps p.tables e below (T9.setTop (mkF m 236 #[.val (.int p1), .val (.int p2), .val (.int p3), .val (.int p4), .val (.int p5), .val (.int p6), .val (.int (Int32.ofNat cc)), .val (.int (Int32.ofNat n)), .val (.int (own_max (Int32.ofNat cc) (1 : Int32))), .val (.int (own_vv p2 cc)), .val (.int (own_vv p3 cc)), .val (.int (own_vv p4 cc)), .val (.int (own_vv p5 cc)), .val (.int (own_vv p6 cc)), .val (.ref b9), .unset] [(.int (Int32.ofNat cc)), (.ref b9)])) _
    refine st10 _ ?_
    show Steps p.tables e below (T10.setTop (mkF m 239 #[.val (.int p1), .val (.int p2), .val (.int p3), .val (.int p4), .val (.int p5), .val (.int p6), .val (.int (Int32.ofNat cc)), .val (.int (Int32.ofNat n)), .val (.int (own_max (Int32.ofNat cc) (1 : Int32))), .val (.int (own_vv p2 cc)), .val (.int (own_vv p3 cc)), .val (.int (own_vv p4 cc)), .val (.int (own_vv p5 cc)), .val (.int (own_vv p6 cc)), .val (.ref b9), .unset] [(.ref b10)])) _
    refine XS.astore X10.here hx rfl (hb hby at_239) rfl rfl (l' := #[.val (.int p1), .val (.int p2), .val (.int p3), .val (.int p4), .val (.int p5), .val (.int p6), .val (.int (Int32.ofNat cc)), .val (.int (Int32.ofNat n)), .val (.int (own_max (Int32.ofNat cc) (1 : Int32))), .val (.int (own_vv p2 cc)), .val (.int (own_vv p3 cc)), .val (.int (own_vv p4 cc)), .val (.int (own_vv p5 cc)), .val (.int (own_vv p6 cc)), .val (.ref b9), .val (.ref b10)]) rfl ?_
    show Steps p.tables e below (T10.setTop (mkF m 241 #[.val (.int p1), .val (.int p2), .val (.int p3), .val (.int p4), .val (.int p5), .val (.int p6), .val (.int (Int32.ofNat cc)), .val (.int (Int32.ofNat n)), .val (.int (own_max (Int32.ofNat cc) (1 : Int32))), .val (.int (own_vv p2 cc)), .val (.int (own_vv p3 cc)), .val (.int (own_vv p4 cc)), .val (.int (own_vv p5 cc)), .val (.int (own_vv p6 cc)), .val (.ref b9), .val (.ref b10)] [])) _
    refine st11 _ ?_
    show Steps p.tables e below (T11.setTop (mkF m 258 #[.val (.int p1), .val (.int p2), .val (.int p3), .val (.int p4), .val (.int p5), .val (.int p6), .val (.int (Int32.ofNat cc)), .val (.int (Int32.ofNat n)), .val (.int (own_max (Int32.ofNat cc) (1 : Int32))), .val (.int (own_vv p2 cc)), .val (.int (own_vv p3 cc)), .val (.int (own_vv p4 cc)), .val (.int (own_vv p5 cc)), .val (.int (own_vv p6 cc)), .val (.ref b9), .val (.ref b10)] [])) _
    refine XS.aload X11.here hx rfl (hb hby at_258) rfl rfl ?_
    show Steps p.tables e below (T11.setTop (mkF m 260 #[.val (.int p1), .val (.int p2), .val (.int p3), .val (.int p4), .val (.int p5), .val (.int p6), .val (.int (Int32.ofNat cc)), .val (.int (Int32.ofNat n)), .val (.int (own_max (Int32.ofNat cc) (1 : Int32))), .val (.int (own_vv p2 cc)), .val (.int (own_vv p3 cc)), .val (.int (own_vv p4 cc)), .val (.int (own_vv p5 cc)), .val (.int (own_vv p6 cc)), .val (.ref b9), .val (.ref b10)] [(.ref b10)])) _
    refine XS.aload X11.here hx rfl (hb hby at_260) rfl rfl ?_
    show Steps p.tables e below (T11.setTop (mkF m 262 #[.val (.int p1), .val (.int p2), .val (.int p3), .val (.int p4), .val (.int p5), .val (.int p6), .val (.int (Int32.ofNat cc)), .val (.int (Int32.ofNat n)), .val (.int (own_max (Int32.ofNat cc) (1 : Int32))), .val (.int (own_vv p2 cc)), .val (.int (own_vv p3 cc)), .val (.int (own_vv p4 cc)), .val (.int (own_vv p5 cc)), .val (.int (own_vv p6 cc)), .val (.ref b9), .val (.ref b10)] [(.ref b9), (.ref b10)])) _
    refine XS.iconst X11.here hx rfl (hb hby at_262) ?_
    show Steps p.tables e below (T11.setTop (mkF m 263 #[.val (.int p1), .val (.int p2), .val (.int p3), .val (.int p4), .val (.int p5), .val (.int p6), .val (.int (Int32.ofNat cc)), .val (.int (Int32.ofNat n)), .val (.int (own_max (Int32.ofNat cc) (1 : Int32))), .val (.int (own_vv p2 cc)), .val (.int (own_vv p3 cc)), .val (.int (own_vv p4 cc)), .val (.int (own_vv p5 cc)), .val (.int (own_vv p6 cc)), .val (.ref b9), .val (.ref b10)] [(.int (0 : Int32)), (.ref b9), (.ref b10)])) _
    refine st12 _ ?_
    show Steps p.tables e below (T12.setTop (mkF m 266 #[.val (.int p1), .val (.int p2), .val (.int p3), .val (.int p4), .val (.int p5), .val (.int p6), .val (.int (Int32.ofNat cc)), .val (.int (Int32.ofNat n)), .val (.int (own_max (Int32.ofNat cc) (1 : Int32))), .val (.int (own_vv p2 cc)), .val (.int (own_vv p3 cc)), .val (.int (own_vv p4 cc)), .val (.int (own_vv p5 cc)), .val (.int (own_vv p6 cc)), .val (.ref b9), .val (.ref b10)] [(.int (1 : Int32))])) _
    refine XS.ifNo X12.here hx rfl (hb hby at_266) rfl ((if0 _ _).trans (feq hc266).1) ?_
    show Steps p.tables e below (T12.setTop (mkF m 269 #[.val (.int p1), .val (.int p2), .val (.int p3), .val (.int p4), .val (.int p5), .val (.int p6), .val (.int (Int32.ofNat cc)), .val (.int (Int32.ofNat n)), .val (.int (own_max (Int32.ofNat cc) (1 : Int32))), .val (.int (own_vv p2 cc)), .val (.int (own_vv p3 cc)), .val (.int (own_vv p4 cc)), .val (.int (own_vv p5 cc)), .val (.int (own_vv p6 cc)), .val (.ref b9), .val (.ref b10)] [])) _
    refine XS.aload X12.here hx rfl (hb hby at_269) rfl rfl ?_
    show Steps p.tables e below (T12.setTop (mkF m 271 #[.val (.int p1), .val (.int p2), .val (.int p3), .val (.int p4), .val (.int p5), .val (.int p6), .val (.int (Int32.ofNat cc)), .val (.int (Int32.ofNat n)), .val (.int (own_max (Int32.ofNat cc) (1 : Int32))), .val (.int (own_vv p2 cc)), .val (.int (own_vv p3 cc)), .val (.int (own_vv p4 cc)), .val (.int (own_vv p5 cc)), .val (.int (own_vv p6 cc)), .val (.ref b9), .val (.ref b10)] [(.ref b10)])) _
    refine XS.aload X12.here hx rfl (hb hby at_271) rfl rfl ?_
    show Steps p.tables e below (T12.setTop (mkF m 273 #[.val (.int p1), .val (.int p2), .val (.int p3), .val (.int p4), .val (.int p5), .val (.int p6), .val (.int (Int32.ofNat cc)), .val (.int (Int32.ofNat n)), .val (.int (own_max (Int32.ofNat cc) (1 : Int32))), .val (.int (own_vv p2 cc)), .val (.int (own_vv p3 cc)), .val (.int (own_vv p4 cc)), .val (.int (own_vv p5 cc)), .val (.int (own_vv p6 cc)), .val (.ref b9), .val (.ref b10)] [(.ref b9), (.ref b10)])) _
    refine XS.iconst X12.here hx rfl (hb hby at_273) ?_
    show Steps p.tables e below (T12.setTop (mkF m 274 #[.val (.int p1), .val (.int p2), .val (.int p3), .val (.int p4), .val (.int p5), .val (.int p6), .val (.int (Int32.ofNat cc)), .val (.int (Int32.ofNat n)), .val (.int (own_max (Int32.ofNat cc) (1 : Int32))), .val (.int (own_vv p2 cc)), .val (.int (own_vv p3 cc)), .val (.int (own_vv p4 cc)), .val (.int (own_vv p5 cc)), .val (.int (own_vv p6 cc)), .val (.ref b9), .val (.ref b10)] [(.int (1 : Int32)), (.ref b9), (.ref b10)])) _
    refine st13 _ ?_
    show Steps p.tables e below (T13.setTop (mkF m 277 #[.val (.int p1), .val (.int p2), .val (.int p3), .val (.int p4), .val (.int p5), .val (.int p6), .val (.int (Int32.ofNat cc)), .val (.int (Int32.ofNat n)), .val (.int (own_max (Int32.ofNat cc) (1 : Int32))), .val (.int (own_vv p2 cc)), .val (.int (own_vv p3 cc)), .val (.int (own_vv p4 cc)), .val (.int (own_vv p5 cc)), .val (.int (own_vv p6 cc)), .val (.ref b9), .val (.ref b10)] [(.int (1 : Int32))])) _
    refine XS.ifNo X13.here hx rfl (hb hby at_277) rfl ((if0 _ _).trans (feq hc277).1) ?_
    show Steps p.tables e below (T13.setTop (mkF m 280 #[.val (.int p1), .val (.int p2), .val (.int p3), .val (.int p4), .val (.int p5), .val (.int p6), .val (.int (Int32.ofNat cc)), .val (.int (Int32.ofNat n)), .val (.int (own_max (Int32.ofNat cc) (1 : Int32))), .val (.int (own_vv p2 cc)), .val (.int (own_vv p3 cc)), .val (.int (own_vv p4 cc)), .val (.int (own_vv p5 cc)), .val (.int (own_vv p6 cc)), .val (.ref b9), .val (.ref b10)] [])) _
    refine XS.aload X13.here hx rfl (hb hby at_280) rfl rfl ?_
    show Steps p.tables e below (T13.setTop (mkF m 282 #[.val (.int p1), .val (.int p2), .val (.int p3), .val (.int p4), .val (.int p5), .val (.int p6), .val (.int (Int32.ofNat cc)), .val (.int (Int32.ofNat n)), .val (.int (own_max (Int32.ofNat cc) (1 : Int32))), .val (.int (own_vv p2 cc)), .val (.int (own_vv p3 cc)), .val (.int (own_vv p4 cc)), .val (.int (own_vv p5 cc)), .val (.int (own_vv p6 cc)), .val (.ref b9), .val (.ref b10)] [(.ref b10)])) _
    refine XS.aload X13.here hx rfl (hb hby at_282) rfl rfl ?_
    show Steps p.tables e below (T13.setTop (mkF m 284 #[.val (.int p1), .val (.int p2), .val (.int p3), .val (.int p4), .val (.int p5), .val (.int p6), .val (.int (Int32.ofNat cc)), .val (.int (Int32.ofNat n)), .val (.int (own_max (Int32.ofNat cc) (1 : Int32))), .val (.int (own_vv p2 cc)), .val (.int (own_vv p3 cc)), .val (.int (own_vv p4 cc)), .val (.int (own_vv p5 cc)), .val (.int (own_vv p6 cc)), .val (.ref b9), .val (.ref b10)] [(.ref b9), (.ref b10)])) _
    refine XS.iconst X13.here hx rfl (hb hby at_284) ?_
    show Steps p.tables e below (T13.setTop (mkF m 285 #[.val (.int p1), .val (.int p2), .val (.int p3), .val (.int p4), .val (.int p5), .val (.int p6), .val (.int (Int32.ofNat cc)), .val (.int (Int32.ofNat n)), .val (.int (own_max (Int32.ofNat cc) (1 : Int32))), .val (.int (own_vv p2 cc)), .val (.int (own_vv p3 cc)), .val (.int (own_vv p4 cc)), .val (.int (own_vv p5 cc)), .val (.int (own_vv p6 cc)), .val (.ref b9), .val (.ref b10)] [(.int (2 : Int32)), (.ref b9), (.ref b10)])) _
    refine st14 _ ?_
    show Steps p.tables e below (T14.setTop (mkF m 288 #[.val (.int p1), .val (.int p2), .val (.int p3), .val (.int p4), .val (.int p5), .val (.int p6), .val (.int (Int32.ofNat cc)), .val (.int (Int32.ofNat n)), .val (.int (own_max (Int32.ofNat cc) (1 : Int32))), .val (.int (own_vv p2 cc)), .val (.int (own_vv p3 cc)), .val (.int (own_vv p4 cc)), .val (.int (own_vv p5 cc)), .val (.int (own_vv p6 cc)), .val (.ref b9), .val (.ref b10)] [(.int (1 : Int32))])) _
    refine XS.ifNo X14.here hx rfl (hb hby at_288) rfl ((if0 _ _).trans (feq hc288).1) ?_
    show Steps p.tables e below (T14.setTop (mkF m 291 #[.val (.int p1), .val (.int p2), .val (.int p3), .val (.int p4), .val (.int p5), .val (.int p6), .val (.int (Int32.ofNat cc)), .val (.int (Int32.ofNat n)), .val (.int (own_max (Int32.ofNat cc) (1 : Int32))), .val (.int (own_vv p2 cc)), .val (.int (own_vv p3 cc)), .val (.int (own_vv p4 cc)), .val (.int (own_vv p5 cc)), .val (.int (own_vv p6 cc)), .val (.ref b9), .val (.ref b10)] [])) _
    refine XS.aload X14.here hx rfl (hb hby at_291) rfl rfl ?_
    show Steps p.tables e below (T14.setTop (mkF m 293 #[.val (.int p1), .val (.int p2), .val (.int p3), .val (.int p4), .val (.int p5), .val (.int p6), .val (.int (Int32.ofNat cc)), .val (.int (Int32.ofNat n)), .val (.int (own_max (Int32.ofNat cc) (1 : Int32))), .val (.int (own_vv p2 cc)), .val (.int (own_vv p3 cc)), .val (.int (own_vv p4 cc)), .val (.int (own_vv p5 cc)), .val (.int (own_vv p6 cc)), .val (.ref b9), .val (.ref b10)] [(.ref b10)])) _
    refine XS.aload X14.here hx rfl (hb hby at_293) rfl rfl ?_
    show Steps p.tables e below (T14.setTop (mkF m 295 #[.val (.int p1), .val (.int p2), .val (.int p3), .val (.int p4), .val (.int p5), .val (.int p6), .val (.int (Int32.ofNat cc)), .val (.int (Int32.ofNat n)), .val (.int (own_max (Int32.ofNat cc) (1 : Int32))), .val (.int (own_vv p2 cc)), .val (.int (own_vv p3 cc)), .val (.int (own_vv p4 cc)), .val (.int (own_vv p5 cc)), .val (.int (own_vv p6 cc)), .val (.ref b9), .val (.ref b10)] [(.ref b9), (.ref b10)])) _
    refine XS.iconst X14.here hx rfl (hb hby at_295) ?_
    show Steps p.tables e below (T14.setTop (mkF m 296 #[.val (.int p1), .val (.int p2), .val (.int p3), .val (.int p4), .val (.int p5), .val (.int p6), .val (.int (Int32.ofNat cc)), .val (.int (Int32.ofNat n)), .val (.int (own_max (Int32.ofNat cc) (1 : Int32))), .val (.int (own_vv p2 cc)), .val (.int (own_vv p3 cc)), .val (.int (own_vv p4 cc)), .val (.int (own_vv p5 cc)), .val (.int (own_vv p6 cc)), .val (.ref b9), .val (.ref b10)] [(.int (3 : Int32)), (.ref b9), (.ref b10)])) _
    refine st15 _ ?_
    show Steps p.tables e below (T15.setTop (mkF m 299 #[.val (.int p1), .val (.int p2), .val (.int p3), .val (.int p4), .val (.int p5), .val (.int p6), .val (.int (Int32.ofNat cc)), .val (.int (Int32.ofNat n)), .val (.int (own_max (Int32.ofNat cc) (1 : Int32))), .val (.int (own_vv p2 cc)), .val (.int (own_vv p3 cc)), .val (.int (own_vv p4 cc)), .val (.int (own_vv p5 cc)), .val (.int (own_vv p6 cc)), .val (.ref b9), .val (.ref b10)] [(.int (1 : Int32))])) _
    refine XS.ifNo X15.here hx rfl (hb hby at_299) rfl ((if0 _ _).trans (feq hc299).1) ?_
    show Steps p.tables e below (T15.setTop (mkF m 302 #[.val (.int p1), .val (.int p2), .val (.int p3), .val (.int p4), .val (.int p5), .val (.int p6), .val (.int (Int32.ofNat cc)), .val (.int (Int32.ofNat n)), .val (.int (own_max (Int32.ofNat cc) (1 : Int32))), .val (.int (own_vv p2 cc)), .val (.int (own_vv p3 cc)), .val (.int (own_vv p4 cc)), .val (.int (own_vv p5 cc)), .val (.int (own_vv p6 cc)), .val (.ref b9), .val (.ref b10)] [])) _
    refine XS.aload X15.here hx rfl (hb hby at_302) rfl rfl ?_
    show Steps p.tables e below (T15.setTop (mkF m 304 #[.val (.int p1), .val (.int p2), .val (.int p3), .val (.int p4), .val (.int p5), .val (.int p6), .val (.int (Int32.ofNat cc)), .val (.int (Int32.ofNat n)), .val (.int (own_max (Int32.ofNat cc) (1 : Int32))), .val (.int (own_vv p2 cc)), .val (.int (own_vv p3 cc)), .val (.int (own_vv p4 cc)), .val (.int (own_vv p5 cc)), .val (.int (own_vv p6 cc)), .val (.ref b9), .val (.ref b10)] [(.ref b10)])) _
    refine XS.aload X15.here hx rfl (hb hby at_304) rfl rfl ?_
    show Steps p.tables e below (T15.setTop (mkF m 306 #[.val (.int p1), .val (.int p2), .val (.int p3), .val (.int p4), .val (.int p5), .val (.int p6), .val (.int (Int32.ofNat cc)), .val (.int (Int32.ofNat n)), .val (.int (own_max (Int32.ofNat cc) (1 : Int32))), .val (.int (own_vv p2 cc)), .val (.int (own_vv p3 cc)), .val (.int (own_vv p4 cc)), .val (.int (own_vv p5 cc)), .val (.int (own_vv p6 cc)), .val (.ref b9), .val (.ref b10)] [(.ref b9), (.ref b10)])) _
    refine XS.iconst X15.here hx rfl (hb hby at_306) ?_
    show Steps p.tables e below (T15.setTop (mkF m 307 #[.val (.int p1), .val (.int p2), .val (.int p3), .val (.int p4), .val (.int p5), .val (.int p6), .val (.int (Int32.ofNat cc)), .val (.int (Int32.ofNat n)), .val (.int (own_max (Int32.ofNat cc) (1 : Int32))), .val (.int (own_vv p2 cc)), .val (.int (own_vv p3 cc)), .val (.int (own_vv p4 cc)), .val (.int (own_vv p5 cc)), .val (.int (own_vv p6 cc)), .val (.ref b9), .val (.ref b10)] [(.int (4 : Int32)), (.ref b9), (.ref b10)])) _
    refine st16 _ ?_
    show Steps p.tables e below (T16.setTop (mkF m 310 #[.val (.int p1), .val (.int p2), .val (.int p3), .val (.int p4), .val (.int p5), .val (.int p6), .val (.int (Int32.ofNat cc)), .val (.int (Int32.ofNat n)), .val (.int (own_max (Int32.ofNat cc) (1 : Int32))), .val (.int (own_vv p2 cc)), .val (.int (own_vv p3 cc)), .val (.int (own_vv p4 cc)), .val (.int (own_vv p5 cc)), .val (.int (own_vv p6 cc)), .val (.ref b9), .val (.ref b10)] [(.int (1 : Int32))])) _
    refine XS.ifNo X16.here hx rfl (hb hby at_310) rfl ((if0 _ _).trans (feq hc310).1) ?_
    show Steps p.tables e below (T16.setTop (mkF m 313 #[.val (.int p1), .val (.int p2), .val (.int p3), .val (.int p4), .val (.int p5), .val (.int p6), .val (.int (Int32.ofNat cc)), .val (.int (Int32.ofNat n)), .val (.int (own_max (Int32.ofNat cc) (1 : Int32))), .val (.int (own_vv p2 cc)), .val (.int (own_vv p3 cc)), .val (.int (own_vv p4 cc)), .val (.int (own_vv p5 cc)), .val (.int (own_vv p6 cc)), .val (.ref b9), .val (.ref b10)] [])) _
    refine XS.iconst X16.here hx rfl (hb hby at_313) ?_
    show Steps p.tables e below (T16.setTop (mkF m 314 #[.val (.int p1), .val (.int p2), .val (.int p3), .val (.int p4), .val (.int p5), .val (.int p6), .val (.int (Int32.ofNat cc)), .val (.int (Int32.ofNat n)), .val (.int (own_max (Int32.ofNat cc) (1 : Int32))), .val (.int (own_vv p2 cc)), .val (.int (own_vv p3 cc)), .val (.int (own_vv p4 cc)), .val (.int (own_vv p5 cc)), .val (.int (own_vv p6 cc)), .val (.ref b9), .val (.ref b10)] [(.int (1 : Int32))])) _
    refine XS.goto X16.here hx rfl (pc0 := 314) (pc' := 318) rfl (hb hby at_314) (by decide) (by decide) ?_
    show Steps p.tables e below (T16.setTop (mkF m 318 #[.val (.int p1), .val (.int p2), .val (.int p3), .val (.int p4), .val (.int p5), .val (.int p6), .val (.int (Int32.ofNat cc)), .val (.int (Int32.ofNat n)), .val (.int (own_max (Int32.ofNat cc) (1 : Int32))), .val (.int (own_vv p2 cc)), .val (.int (own_vv p3 cc)), .val (.int (own_vv p4 cc)), .val (.int (own_vv p5 cc)), .val (.int (own_vv p6 cc)), .val (.ref b9), .val (.ref b10)] [(.int (1 : Int32))])) _
    exact retN X16 hx (t := .boolean) Bd.returns (by simp) (hb hby at_318) hr
  · show Q0 Z p1 p2 p3 p4 p5 p6 h0 n0 _ T16.heap _
    rw [(q16)]
    exact ⟨rfl, N16, K10⟩
set_option maxRecDepth 65536 in
set_option maxHeartbeats 40000000 in
theorem comes_1 {Post : Tables → Env → Array Value → State → Outcome → State → Prop} (hpost : ∀ tb e args s v u, (limb_1_1.after args s (.returned v) u = true ∧ limb_1_2.after args s (.returned v) u = true ∧ True) → FrameEnd s (.returned v) u (Jvm.fieldLocs frame_1_writes args s ++ Jvm.arrayLocs frame_1_arrays args s ++ Jvm.staticLocs frame_1_statics s) 16 128 → Post tb e args s (.returned v) u) :
    ArmFor flags0 classFile x code maxLocals ret World_1 tables_1 room_1 Calls_1 rest_1 Pre_1 Post := by
  intro l hfl _ _ p e ha hc hk s m args below hf hA hF happ hP
  obtain ⟨hcalls, hrest, hpre⟩ := hP
  obtain ⟨-, -, -, hnamed, -, -, -, hat⟩ := (Spec.applies_iff hf).mp happ
  obtain ⟨hg, hn⟩ := and_e (Cond.before_iff.mp (show (Jvm.Cond.and given_1 narrow_1).before args s = true from hpre))
  obtain ⟨g17, g18⟩ := and_e hg
  obtain ⟨g19, g20⟩ := and_e g18
  obtain ⟨g21, g22⟩ := and_e g20
  obtain ⟨g23, g24⟩ := and_e g22
  obtain ⟨g25, g26⟩ := and_e g24
  obtain ⟨g27, g28⟩ := and_e g26
  obtain ⟨w0, w1, w2, w3, w4, w5, rfl⟩ : ∃ w0 w1 w2 w3 w4 w5 : Value, args = #[w0, w1, w2, w3, w4, w5] := by
    have hs : args.size = 6 := by simpa [Cond.value, given_1] using g17
    obtain ⟨L⟩ := args
    match L, hs with
    | [w0, w1, w2, w3, w4, w5], _ => exact ⟨w0, w1, w2, w3, w4, w5, rfl⟩
  have hw := fun d (hd : d ∈ tables_1) => atoms_spec (ws := Jvm.Cond.code x code maxLocals ret :: tables_1) hat d (List.mem_cons_of_mem _ hd)
  have hfit : Fit s := fun {y c} hc i hi => by
    obtain ⟨ha, rfl⟩ := Array.getElem?_eq_some_iff.mp hc
    have q := List.all_eq_true.mp ((Array.all_eq_true_iff_forall_mem.mp hF) _ (Array.getElem_mem ha)) i (List.mem_range.mpr hi)
    simpa [Array.getElem?_eq_getElem hi] using q
  obtain ⟨i0, ei0⟩ := is_v g19
  obtain rfl : w0 = (.int i0) := Option.some.inj ei0
  obtain ⟨i1, ei1⟩ := is_v g21
  obtain rfl : w1 = (.int i1) := Option.some.inj ei1
  obtain ⟨i2, ei2⟩ := is_v g23
  obtain rfl : w2 = (.int i2) := Option.some.inj ei2
  obtain ⟨i3, ei3⟩ := is_v g25
  obtain rfl : w3 = (.int i3) := Option.some.inj ei3
  obtain ⟨i4, ei4⟩ := is_v g27
  obtain rfl : w4 = (.int i4) := Option.some.inj ei4
  obtain ⟨i5, ei5⟩ := is_v g28
  obtain rfl : w5 = (.int i5) := Option.some.inj ei5
  obtain ⟨n, o, h1, h2, h3, _, L, rfl, ⟨rfl, N, -⟩, hq⟩ := rm0 l s _ hw tables_1 i0 i1 i2 i3 i4 i5 s.heap s.heap.size (Nat.le_refl _) (by decide) (by decide) (by decide) (by decide) (by decide) p e ha hc hk s m _ below hf ((Spec.applies_iff_loose hf).mp happ).1 ⟨rfl, State.Warmed39.refl s, rfl⟩ trivial
  refine ⟨n, _, h1, h2, h3, hpost _ _ _ _ _ _ ⟨Cond.after_iff.mpr rfl, Cond.after_iff.mpr (eq_i res_at (Term.int_eval (1)) rfl), trivial⟩ ⟨hq.1, hq.2.1, (hq.2.2.sift fun y hy => Or.inr (N y hy)).mono (by decide) (by decide)⟩⟩
theorem main_1_1 : Claimed_1_1 := comes_1 fun _ _ _ _ _ _ h hF => ⟨h.1, hF⟩
theorem main_1_2 : Claimed_1_2 := comes_1 fun _ _ _ _ _ _ h hF => ⟨h.2.1, hF⟩

end Jvm.Pilot.@@N@@
namespace Jvm.Pilot.@@N@@
open Jvm Jvm.ClassFile Sem Op Lib Jvm.Free Jvm.Stand Jvm.Pilot.@@N@@.Jvm.D
/-! MADE BY PROGRAM (witnessworld.py) out of the Statement's table words and the real class files: 10 classes; the members and pool entries that the words name. The judged class is class 1, her method 1. -/
namespace start1
open Jvm.ClassFile
def u (s : String) : CpInfo := .utf8 (stringToUtf16 s)
/-- a pool by its gaps: so many unusable entries, then the entry; so many at the end -/
def gap : Nat → List CpInfo → List CpInfo
  | 0, r => r
  | n + 1, r => .unusable :: gap n r
def poolList (es : List (Nat × CpInfo)) (last : Nat) : List CpInfo := es.foldr (fun e r => gap e.1 (e.2 :: r)) (gap last [])
def pool (es : List (Nat × CpInfo)) (last : Nat) : Array CpInfo := ⟨poolList es last⟩
def fileOf (pool : Array CpInfo) (this : Nat) (attrs : Array Attribute := #[]) (ms : Array MethodInfo := #[]) (fl : Nat := 33) (sup : Nat := 0) (ifs : Array Nat := #[]) (fds : Array FieldInfo := #[]) : ClassFile where
  minorVersion := 0
  majorVersion := 65
  constantPool := pool
  accessFlags := fl
  thisClass := this
  superClass := sup
  interfaces := ifs
  fields := fds
  methods := ms
  attributes := attrs
def plain (name : String) (sup : Option ClassId) : Class where
  name := name
  kind := .ordinary
  loader := none
  accessFlags := 33
  super := sup
  interfaces := #[]
  cf := none
  fields := #[]
  methods := #[]
  instanceTypes := #[]
  staticTypes := #[]
  resolved := #[]
  callSites := []
  init := .initialized
  statics := none
  mirror := none

def pool0 : Array CpInfo := pool [(5, u "<init>"), (0, u "()V"), (1, .class_ 10), (1, u "java/lang/Object")] 113

def k0m0 : Method := { name := "<init>", desc := "()V", sig := { parameters := [], returnType := none }, accessFlags := 1, code := none }
/-- java/lang/Object -/
def k0 : Class := { plain "java/lang/Object" none with
  accessFlags := 33
  interfaces := #[]
  cf := some (fileOf pool0 8 #[] #[{ accessFlags := 1, nameIndex := 5, descriptorIndex := 6, attributes := #[] }] 33 0 #[] #[])
  fields := #[]
  methods := #[k0m0]
  instanceTypes := #[]
  staticTypes := #[]
  resolved := Array.replicate 124 none
  statics := none }

def pool1 : Array CpInfo := pool [(2, .class_ 4), (1, u "java/lang/Object"), (0, u "<init>"), (0, u "()V"), (0, .methodref 8 9), (0, .class_ 10), (0, .nameAndType 11 12), (0, u "java/lang/Math"), (0, u "max"), (0, u "(II)I"), (0, .integer 2147483647), (0, .methodref 15 16), (0, .class_ 17), (0, .nameAndType 18 19), (0, u "com/example/nuoli/nuoli/service/StrongComponents"), (0, u "memberStart"), (0, u "([II)[I"), (0, .methodref 21 22), (0, .class_ 23), (0, .nameAndType 24 25), (0, u "com/example/nuoli/nuoli/service/StrongComponentsMemberStartPinLaw"), (0, u "check"), (0, u "([I[II)Z"), (0, .methodref 21 27), (0, .nameAndType 28 29), (0, u "count"), (0, u "([II)I"), (0, .methodref 21 31), (0, .nameAndType 32 33), (0, u "below"), (0, u "([III)I"), (2, u "law"), (0, u "(IIIIII)Z")] 5

def k1m0 : Method := { name := "<init>", desc := "()V", sig := { parameters := [], returnType := none }, accessFlags := 2, code := none }
def k1c1 : Code := { maxStack := 4, maxLocals := 16, code := code, exceptionTable := #[], attributes := #[] }
def k1m1 : Method := { name := "law", desc := "(IIIIII)Z", sig := { parameters := [.int, .int, .int, .int, .int, .int], returnType := some .boolean }, accessFlags := 9, code := some k1c1 }
def k1c2 : Code := { maxStack := 3, maxLocals := 3, code := method_3_code, exceptionTable := #[], attributes := #[] }
def k1m2 : Method := { name := "check", desc := "([I[II)Z", sig := { parameters := [(.array .int), (.array .int), .int], returnType := some .boolean }, accessFlags := 10, code := some k1c2 }
def k1c3 : Code := { maxStack := 4, maxLocals := 2, code := method_4_code, exceptionTable := #[], attributes := #[] }
def k1m3 : Method := { name := "count", desc := "([II)I", sig := { parameters := [(.array .int), .int], returnType := some .int }, accessFlags := 10, code := some k1c3 }
def k1c4 : Code := { maxStack := 2, maxLocals := 3, code := method_5_code, exceptionTable := #[], attributes := #[] }
def k1m4 : Method := { name := "below", desc := "([III)I", sig := { parameters := [(.array .int), .int, .int], returnType := some .int }, accessFlags := 10, code := some k1c4 }
/-- com/example/nuoli/nuoli/service/StrongComponentsMemberStartPinLaw -/
def k1 : Class := { plain "com/example/nuoli/nuoli/service/StrongComponentsMemberStartPinLaw" (some 0) with
  accessFlags := 49
  interfaces := #[]
  cf := some (fileOf pool1 21 #[] #[{ accessFlags := 2, nameIndex := 5, descriptorIndex := 6, attributes := #[] }, { accessFlags := 9, nameIndex := 36, descriptorIndex := 37, attributes := #[] }, { accessFlags := 10, nameIndex := 24, descriptorIndex := 25, attributes := #[] }, { accessFlags := 10, nameIndex := 28, descriptorIndex := 29, attributes := #[] }, { accessFlags := 10, nameIndex := 32, descriptorIndex := 33, attributes := #[] }] 49 2 #[] #[])
  fields := #[]
  methods := #[k1m0, k1m1, k1m2, k1m3, k1m4]
  instanceTypes := #[]
  staticTypes := #[]
  resolved := Array.replicate 43 none
  statics := none }

def pool2 : Array CpInfo := pool [(1, .class_ 2), (0, u "java/lang/Math"), (1, .class_ 6), (1, u "java/lang/Object"), (0, u "<init>"), (0, u "()V"), (89, .class_ 100), (1, u "java/lang/Math$RandomNumberGeneratorHolder"), (71, u "negativeZeroFloatBits"), (0, u "J"), (2, u "negativeZeroDoubleBits"), (21, u "max"), (46, u "$assertionsDisabled"), (0, u "Z"), (88, u "(II)I"), (2, u "twoToTheDoubleScaleDown"), (0, u "D"), (4, u "twoToTheDoubleScaleUp"), (9, u "E"), (3, u "PI"), (2, u "TAU"), (2, u "DEGREES_TO_RADIANS"), (0, u "RADIANS_TO_DEGREES")] 94

def k2m0 : Method := { name := "<init>", desc := "()V", sig := { parameters := [], returnType := none }, accessFlags := 2, code := none }
def k2c1 : Code := { maxStack := 2, maxLocals := 2, code := jdk_29_method_65_code, exceptionTable := #[], attributes := #[] }
def k2m1 : Method := { name := "max", desc := "(II)I", sig := { parameters := [.int, .int], returnType := some .int }, accessFlags := 9, code := some k2c1 }
/-- java/lang/Math -/
def k2 : Class := { plain "java/lang/Math" (some 0) with
  accessFlags := 49
  interfaces := #[]
  cf := some (fileOf pool2 1 #[.nestMembers #[98]] #[{ accessFlags := 2, nameIndex := 7, descriptorIndex := 8, attributes := #[] }, { accessFlags := 9, nameIndex := 198, descriptorIndex := 335, attributes := #[] }] 49 4 #[] #[{ accessFlags := 25, nameIndex := 354, descriptorIndex := 339, attributes := #[] }, { accessFlags := 25, nameIndex := 358, descriptorIndex := 339, attributes := #[] }, { accessFlags := 25, nameIndex := 361, descriptorIndex := 339, attributes := #[] }, { accessFlags := 26, nameIndex := 364, descriptorIndex := 339, attributes := #[] }, { accessFlags := 26, nameIndex := 365, descriptorIndex := 339, attributes := #[] }, { accessFlags := 26, nameIndex := 172, descriptorIndex := 173, attributes := #[] }, { accessFlags := 26, nameIndex := 176, descriptorIndex := 173, attributes := #[] }, { accessFlags := 8, nameIndex := 344, descriptorIndex := 339, attributes := #[] }, { accessFlags := 8, nameIndex := 338, descriptorIndex := 339, attributes := #[] }, { accessFlags := 4120, nameIndex := 245, descriptorIndex := 246, attributes := #[] }])
  fields := #[{ name := "E", type := .double, accessFlags := 25, slot := 0, constantValue := 0 }, { name := "PI", type := .double, accessFlags := 25, slot := 1, constantValue := 0 }, { name := "TAU", type := .double, accessFlags := 25, slot := 2, constantValue := 0 }, { name := "DEGREES_TO_RADIANS", type := .double, accessFlags := 26, slot := 3, constantValue := 0 }, { name := "RADIANS_TO_DEGREES", type := .double, accessFlags := 26, slot := 4, constantValue := 0 }, { name := "negativeZeroFloatBits", type := .long, accessFlags := 26, slot := 5, constantValue := 0 }, { name := "negativeZeroDoubleBits", type := .long, accessFlags := 26, slot := 6, constantValue := 0 }, { name := "twoToTheDoubleScaleUp", type := .double, accessFlags := 8, slot := 7, constantValue := 0 }, { name := "twoToTheDoubleScaleDown", type := .double, accessFlags := 8, slot := 8, constantValue := 0 }, { name := "$assertionsDisabled", type := .boolean, accessFlags := 4120, slot := 9, constantValue := 0 }]
  methods := #[k2m0, k2m1]
  instanceTypes := #[]
  staticTypes := #[.double, .double, .double, .double, .double, .long, .long, .double, .double, .boolean]
  resolved := Array.replicate 460 none
  statics := none }

def pool3 : Array CpInfo := pool [(2, .class_ 4), (1, u "java/lang/Object"), (0, u "<init>"), (0, u "()V"), (21, u "([II)[I"), (0, .class_ 30), (0, u "com/example/nuoli/nuoli/service/StrongComponents"), (7, u "memberStart")] 4

def k3m0 : Method := { name := "<init>", desc := "()V", sig := { parameters := [], returnType := none }, accessFlags := 2, code := none }
def k3c1 : Code := { maxStack := 5, maxLocals := 7, code := prog_265_method_3_code, exceptionTable := #[], attributes := #[] }
def k3m1 : Method := { name := "memberStart", desc := "([II)[I", sig := { parameters := [(.array .int), .int], returnType := some (.array .int) }, accessFlags := 8, code := some k3c1 }
/-- com/example/nuoli/nuoli/service/StrongComponents -/
def k3 : Class := { plain "com/example/nuoli/nuoli/service/StrongComponents" (some 0) with
  accessFlags := 48
  interfaces := #[]
  cf := some (fileOf pool3 29 #[] #[{ accessFlags := 2, nameIndex := 5, descriptorIndex := 6, attributes := #[] }, { accessFlags := 8, nameIndex := 38, descriptorIndex := 28, attributes := #[] }] 48 2 #[] #[])
  fields := #[]
  methods := #[k3m0, k3m1]
  instanceTypes := #[]
  staticTypes := #[]
  resolved := Array.replicate 43 none
  statics := none }

def pool4 : Array CpInfo := pool [(1, u "java/lang/Cloneable"), (0, .class_ 1), (0, u "java/lang/Object"), (0, .class_ 3)] 3

/-- java/lang/Cloneable -/
def k4 : Class := { plain "java/lang/Cloneable" (some 0) with
  accessFlags := 1537
  interfaces := #[]
  cf := some (fileOf pool4 2 #[] #[] 1537 4 #[] #[])
  fields := #[]
  methods := #[]
  instanceTypes := #[]
  staticTypes := #[]
  resolved := Array.replicate 8 none
  statics := none }

def pool5 : Array CpInfo := pool [(1, u "java/io/Serializable"), (0, .class_ 1), (0, u "java/lang/Object"), (0, .class_ 3)] 3

/-- java/io/Serializable -/
def k5 : Class := { plain "java/io/Serializable" (some 0) with
  accessFlags := 1537
  interfaces := #[]
  cf := some (fileOf pool5 2 #[] #[] 1537 4 #[] #[])
  fields := #[]
  methods := #[]
  instanceTypes := #[]
  staticTypes := #[]
  resolved := Array.replicate 8 none
  statics := none }

/-- the primitive byte -/
def k6 : Class := { plain "byte" none with kind := .primitive 'B', accessFlags := 0x411 }
/-- [B -/
def k7 : Class := { plain "[B" (some 0) with kind := .array 6 .byte, interfaces := #[4, 5], accessFlags := 1041 }

/-- the primitive int -/
def k8 : Class := { plain "int" none with kind := .primitive 'I', accessFlags := 0x411 }
/-- [I -/
def k9 : Class := { plain "[I" (some 0) with kind := .array 8 .int, interfaces := #[4, 5], accessFlags := 1041 }

def heap : Heap := #[]
def classes : Array Class := #[k0, k1, k2, k3, k4, k5, k6, k7, k8, k9]
def interned : List (Array UInt16 × Addr) := []
def slotsUsed : Nat := 0
def theMethod : MethodId := ⟨1, 1⟩
def args0 : Array Value := #[.int 19, .int 5, .int 3, .int 4, .int 7, .int 9]
def aboutOver (below : List Frame) : State where
  vm := { classes := classes, interned := interned.toArray }
  heap := heap
  slotsUsed := slotsUsed
  threads := #[{ frames := .invoking theMethod args0 :: below }]
def below0 : List Frame := [.native { method := ⟨0, 0⟩, args := #[] }]
def about1 : State := aboutOver below0
def p0 : Program := .bare "" "" ""
def e0 : Env := launch0.env 0 0 0
theorem w_frames : about1.frames = Frame.invoking theMethod args0 :: below0 := rfl
set_option maxRecDepth 65536 in
theorem w_args : argsFit about1.vm theMethod args0 = true := by decide +kernel
set_option maxRecDepth 65536 in
theorem w_heap : heapFits about1 = true := by decide +kernel
set_option maxRecDepth 65536 in
theorem w_runnable : about1.curStatus? = some .runnable := by decide +kernel
set_option maxRecDepth 65536 in
theorem w_alone : about1.alone = true := by decide +kernel
set_option maxRecDepth 65536 in
theorem w_named : about1.methodNamed? x = some theMethod := by decide +kernel
set_option maxRecDepth 65536 in
theorem w_hears : about1.hears theMethod below0 = true := by decide +kernel
set_option maxRecDepth 65536 in
theorem w_ripe : about1.ripe theMethod args0 below0 = true := by decide +kernel
theorem w_running : about1.status = .running := rfl
set_option maxRecDepth 65536 in
theorem w_room : about1.hasRoom e0.platform room_1 = true :=
  launch0.hasRoom_least _ room_1 (by decide +kernel) (by decide +kernel) (by decide +kernel) (by decide +kernel) (by decide +kernel) (by decide +kernel)
theorem allAtoms_all (ts : List Jvm.Cond) (a : Array Jvm.Value) (st : Jvm.State) : (allAtoms ts).before a st = ts.all (fun c => c.before a st) := by
  induction ts with
  | nil => rfl
  | cons c t ih =>
    show (Jvm.Cond.and c (allAtoms t)).before a st = _
    rw [Jvm.Cond.before_and, ih, List.all_cons]
def words1 : List Jvm.Cond := Jvm.Cond.code x code maxLocals ret :: tables_1
/-- a 'code' word, met by the world's own term for the bytes: nothing is compared byte by byte -/
theorem code_word {y : MethodName} {bytes : ByteArray} {mx : Nat} {rt : Option FieldType} {a : Array Value} {s : State} {m : MethodId} {meth : Method} {c : Code} (h1 : s.methodNamed? y = some m) (h2 : s.vm.method? m = some meth) (h3 : meth.code = some c) (h4 : c.code = bytes)
    (h5 : (c.maxLocals == mx && c.exceptionTable.isEmpty && decide (c.maxStack ≤ mostOperands) && decide (meth.sig.returnType = rt) && !meth.locks && decide (parseMethodDescriptor y.desc = some meth.sig)) = true) : (Jvm.Cond.code y bytes mx rt).before a s = true := by
  simp only [Bool.and_eq_true, beq_iff_eq, Bool.not_eq_true', decide_eq_true_eq] at h5
  obtain ⟨⟨⟨⟨⟨g1, g2⟩, g3⟩, g4⟩, g5⟩, g6⟩ := h5
  simp [Cond.before, Cond.holds, Cond.value, h1, h2, h3, h4, g1, g2, g3, g4, g5, g6]
def isCode : Jvm.Cond → Bool
  | .code _ _ _ _ => true
  | _ => false
theorem all_split {L : List Jvm.Cond} {P : Jvm.Cond → Bool} (h1 : L.all (fun c => isCode c || P c) = true) (h2 : ∀ c ∈ L.filter isCode, P c = true) : L.all P = true := by
  refine List.all_eq_true.mpr fun c hc => ?_
  have h := List.all_eq_true.mp h1 c hc
  rcases Bool.eq_false_or_eq_true (isCode c) with hi | hi
  · exact h2 c (List.mem_filter.mpr ⟨hc, hi⟩)
  · simpa [hi] using h
set_option maxRecDepth 65536 in
theorem w_c0 : (Jvm.Cond.code x code maxLocals ret).before args0 about1 = true := code_word (m := ⟨1, 1⟩) (meth := k1m1) (c := k1c1) (by decide +kernel) rfl rfl rfl (by decide +kernel)
set_option maxRecDepth 65536 in
theorem w_c1 : (Jvm.Cond.code ({ cls := "java/lang/Math", name := "max", desc := "(II)I" } : Jvm.MethodName) jdk_29_method_65_code (2 : Nat) (Option.some Jvm.ClassFile.FieldType.int)).before args0 about1 = true := code_word (m := ⟨2, 1⟩) (meth := k2m1) (c := k2c1) (by decide +kernel) rfl rfl rfl (by decide +kernel)
set_option maxRecDepth 65536 in
theorem w_c2 : (Jvm.Cond.code ({ cls := "com/example/nuoli/nuoli/service/StrongComponents", name := "memberStart", desc := "([II)[I" } : Jvm.MethodName) prog_265_method_3_code (7 : Nat) (Option.some (Jvm.ClassFile.FieldType.array Jvm.ClassFile.FieldType.int))).before args0 about1 = true := code_word (m := ⟨3, 1⟩) (meth := k3m1) (c := k3c1) (by decide +kernel) rfl rfl rfl (by decide +kernel)
set_option maxRecDepth 65536 in
theorem w_c3 : (Jvm.Cond.code ({ cls := "com/example/nuoli/nuoli/service/StrongComponentsMemberStartPinLaw", name := "check", desc := "([I[II)Z" } : Jvm.MethodName) method_3_code (3 : Nat) (Option.some Jvm.ClassFile.FieldType.boolean)).before args0 about1 = true := code_word (m := ⟨1, 2⟩) (meth := k1m2) (c := k1c2) (by decide +kernel) rfl rfl rfl (by decide +kernel)
set_option maxRecDepth 65536 in
theorem w_c4 : (Jvm.Cond.code ({ cls := "com/example/nuoli/nuoli/service/StrongComponentsMemberStartPinLaw", name := "count", desc := "([II)I" } : Jvm.MethodName) method_4_code (2 : Nat) (Option.some Jvm.ClassFile.FieldType.int)).before args0 about1 = true := code_word (m := ⟨1, 3⟩) (meth := k1m3) (c := k1c3) (by decide +kernel) rfl rfl rfl (by decide +kernel)
set_option maxRecDepth 65536 in
theorem w_c5 : (Jvm.Cond.code ({ cls := "com/example/nuoli/nuoli/service/StrongComponentsMemberStartPinLaw", name := "below", desc := "([III)I" } : Jvm.MethodName) method_5_code (3 : Nat) (Option.some Jvm.ClassFile.FieldType.int)).before args0 about1 = true := code_word (m := ⟨1, 4⟩) (meth := k1m4) (c := k1c4) (by decide +kernel) rfl rfl rfl (by decide +kernel)
def codes1 : List Jvm.Cond := [Jvm.Cond.code x code maxLocals ret, Jvm.Cond.code ({ cls := "java/lang/Math", name := "max", desc := "(II)I" } : Jvm.MethodName) jdk_29_method_65_code (2 : Nat) (Option.some Jvm.ClassFile.FieldType.int), Jvm.Cond.code ({ cls := "com/example/nuoli/nuoli/service/StrongComponents", name := "memberStart", desc := "([II)[I" } : Jvm.MethodName) prog_265_method_3_code (7 : Nat) (Option.some (Jvm.ClassFile.FieldType.array Jvm.ClassFile.FieldType.int)), Jvm.Cond.code ({ cls := "com/example/nuoli/nuoli/service/StrongComponentsMemberStartPinLaw", name := "check", desc := "([I[II)Z" } : Jvm.MethodName) method_3_code (3 : Nat) (Option.some Jvm.ClassFile.FieldType.boolean), Jvm.Cond.code ({ cls := "com/example/nuoli/nuoli/service/StrongComponentsMemberStartPinLaw", name := "count", desc := "([II)I" } : Jvm.MethodName) method_4_code (2 : Nat) (Option.some Jvm.ClassFile.FieldType.int), Jvm.Cond.code ({ cls := "com/example/nuoli/nuoli/service/StrongComponentsMemberStartPinLaw", name := "below", desc := "([III)I" } : Jvm.MethodName) method_5_code (3 : Nat) (Option.some Jvm.ClassFile.FieldType.int)]
set_option maxRecDepth 65536 in
theorem codes_eq : words1.filter isCode = codes1 := rfl
theorem w_codes : ∀ c ∈ words1.filter isCode, c.before args0 about1 = true := by
  rw [codes_eq]
  intro c hc
  simp only [codes1, List.mem_cons, List.not_mem_nil, or_false] at hc
  rcases hc with rfl | rfl | rfl | rfl | rfl | rfl
  · exact w_c0
  · exact w_c1
  · exact w_c2
  · exact w_c3
  · exact w_c4
  · exact w_c5
set_option maxRecDepth 65536 in
theorem w_t1 : words1.all (fun c => isCode c || c.before args0 about1) = true := by decide +kernel
theorem w_tables : (allAtoms (Jvm.Cond.code x code maxLocals ret :: tables_1)).before args0 about1 = true := by
  rw [allAtoms_all]
  show words1.all (fun c => c.before args0 about1) = true
  refine all_split ?_ w_codes
  rw [w_t1]
set_option maxRecDepth 65536 in
theorem w_case : (Jvm.Cond.and given_1 narrow_1).before args0 about1 = true := by decide +kernel
theorem w_applies : (headSpec (Jvm.Cond.code x code maxLocals ret :: tables_1) room_1).applies x e0.platform about1 = true :=
  (Spec.applies_iff w_frames).mpr ⟨w_running, w_runnable, w_alone, w_named, w_hears, w_ripe, w_room, w_tables⟩
theorem atStart : AtStart classFile x code maxLocals ret World_1 tables_1 room_1 Calls_1 rest_1 Pre_1 launch0 p0 e0 about1 theMethod args0 below0 :=
  ⟨lists_1, trivial, launch0.admits_env _ _ _, launch0.least_env, fairChoices_fair.cas, fairChoices_fair.clock, w_frames, w_args, w_heap, w_applies, trivial, trivial, w_case⟩
end start1
theorem witness_1 : WitnessClaimed_1 := ⟨start1.p0, start1.e0, start1.about1, start1.theMethod, start1.args0, start1.below0, start1.atStart⟩
end Jvm.Pilot.@@N@@

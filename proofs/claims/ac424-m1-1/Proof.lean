import JvmDerived
import JvmDerived.Pilot.@@N@@Statement
import JvmDerived.Pilot.@@N@@Code
set_option linter.unusedVariables false
set_option linter.unusedSimpArgs false
namespace Jvm.RoadKit
open Sem ClassFile Op Lib Jvm.Stand Jvm.Free Jvm.LawKit
section New
variable {p : Program} {l : Launch} {e : Env} {R : Room} {s : State} {m : MethodId} {args : Array Value} {below : List Frame} {meth : Method} {c : Code} {T : State} {locs : List Loc} {cells slots : Nat}
theorem retI (X : Stand p l e R s m args below meth c T locs cells slots) (hx : p.tables.exec = Jvm.exec) {pc : Nat} {Ls : Array Slot} {z : Int32} {rest : List Value} (hret : meth.sig.returnType = some .int) (hd : decode c.code pc = .ok (.ireturn, 1)) {fs : List Frame}
    (hl : ∀ (f : JFrame) (acts : List Action), f.method = m → f.locked = none → f.entered = [] → (doReturn e (T.setTop f) acts (some (.int z))).1 = T.setFrames fs) : Steps p.tables e below (T.setTop (mkF m pc Ls (.int z :: rest))) (T.setFrames fs) := by
  have hm' : T.vm.method? m = some meth := X.method'
  have hn : narrow .int (.int z) = .int z := rfl
  show Steps p.tables e below (T.setTop { method := m, pc := pc, locals := Ls, stack := _ :: rest, locked := none }) _
  jvm_step X.here [X.here.top, hx, hd, hm', hret, hn]
  first | (intro acts; rw [hl _ acts rfl rfl rfl]) | rw [hl _ _ rfl rfl rfl]
  exact Steps.refl _
end New
end Jvm.RoadKit
namespace Jvm.Pilot.@@N@@
open Jvm Jvm.ClassFile Sem Op Lib Jvm.Free Jvm.Stand Jvm.LawKit Jvm.RoadKit Bundle Jvm.Pilot.@@N@@.Jvm.D
-- BY HAND: numbers
theorem own_cl {a b : Nat} (ha : a ≤ 255) (hb : b ≤ 255) : (Int32.ofNat a < Int32.ofNat b) ↔ a < b := by
  rw [Int32.lt_iff_toInt_lt, Int32.toInt_ofNat_of_lt (by omega), Int32.toInt_ofNat_of_lt (by omega)]
  omega
theorem own_nn {n : Nat} (hn : n ≤ 255) : ¬ Int32.ofNat n < 0 := by
  rw [Int32.lt_iff_toInt_lt, Int32.toInt_ofNat_of_lt (by omega), show (0 : Int32).toInt = 0 from rfl]
  omega
theorem own_n32 {n : Nat} (hn : n ≤ 255) : (Int32.ofNat n).toNatClampNeg = n := by
  rw [Int32.toNatClampNeg, Int32.toInt_ofNat_of_lt (by omega)]; rfl
theorem own_one (i : Nat) : Int32.ofNat i + (1 : Int32) = Int32.ofNat (i + 1) := (Int32.ofNat_add i 1).symm
theorem own_dec (i : Nat) : Int32.ofNat (i + 1) - (1 : Int32) = Int32.ofNat i := by
  rw [← own_one, Int32.add_sub_cancel]
theorem own_par {a : Nat} (h0 : 0 < a) (h : a ≤ 15) : (Int32.ofNat a - (1 : Int32)) / (2 : Int32) = Int32.ofNat ((a - 1) / 2) := by
  have q : ∀ b : Fin 16, 0 < b.val → (Int32.ofNat b.val - (1 : Int32)) / (2 : Int32) = Int32.ofNat ((b.val - 1) / 2) := by decide
  exact q ⟨a, by omega⟩ h0
theorem own_kid {a : Nat} (h : a ≤ 15) : (2 : Int32) * Int32.ofNat a + (1 : Int32) = Int32.ofNat (2 * a + 1) := by
  have q : ∀ b : Fin 16, (2 : Int32) * Int32.ofNat b.val + (1 : Int32) = Int32.ofNat (2 * b.val + 1) := by decide
  exact q ⟨a, by omega⟩
theorem own_pos {a : Nat} (h : 0 < a) (h' : a ≤ 255) : (0 : Int32) < Int32.ofNat a := by
  have q := (own_cl (a := 0) (b := a) (by omega) h').mpr h
  exact q
theorem own_back (b x : Int32) : (b + x) - b = x := by rw [Int32.add_comm, Int32.add_sub_cancel]
-- BY HAND: two ints as doubles compare as they do
def own_c (a b : Int32) : Int32 := if b < a then 1 else if a = b then 0 else -1
theorem own_b53 (x : Int32) : B53 x.toInt64 := by
  have h1 := Int32.toInt_lt x
  have h2 := Int32.le_toInt x
  unfold B53
  rw [Int32.toInt_toInt64]
  omega
theorem own_cmp (a b : Int32) (o : CmpOp) : cmpValue (FP.dcmp (FP.i2d a) (FP.i2d b)) o = own_c a b := by
  rw [i2d_w, i2d_w, dcmpV_w (own_b53 a) (own_b53 b)]
  have e1 : (a.toInt64 > b.toInt64) ↔ b < a := by
    show b.toInt64 < a.toInt64 ↔ b < a
    rw [Int64.lt_iff_toInt_lt, Int32.lt_iff_toInt_lt, Int32.toInt_toInt64, Int32.toInt_toInt64]
  have e2 : (a.toInt64 = b.toInt64) ↔ a = b := by
    rw [← Int64.toInt_inj, ← Int32.toInt_inj, Int32.toInt_toInt64, Int32.toInt_toInt64]
  simp only [lcmpW, own_c, e1, e2]
theorem own_c_1 {a b : Int32} (h : b < a) : own_c a b = 1 := by simp [own_c, h]
theorem own_c_0 {a b : Int32} (h : ¬ b < a) : own_c a b = 0 ∨ own_c a b = -1 := by
  by_cases q : a = b
  · left; simp [own_c, q]
  · right; simp [own_c, h, q]
theorem own_c_m {a b : Int32} (h : a < b) : own_c a b = -1 := by
  have h1 : ¬ b < a := fun q => Int32.lt_irrefl (Int32.lt_trans h q)
  have h2 : ¬ a = b := fun q => by subst q; exact Int32.lt_irrefl h
  simp [own_c, h1, h2]
theorem own_c_p {a b : Int32} (h : ¬ a < b) : own_c a b = 1 ∨ own_c a b = 0 := by
  by_cases q : a = b
  · right; simp [own_c, q]
  · left
    have h1 : b < a := by
      rw [Int32.lt_iff_toInt_lt] at h ⊢
      have : ¬ a.toInt = b.toInt := fun z => q (Int32.toInt_inj.mp z)
      omega
    simp [own_c, h1]
theorem own_le_t {a b : Int32} (h : ¬ b < a) : ifCond.holds .le (own_c a b) = true := by rcases own_c_0 h with q | q <;> rw [q] <;> decide
theorem own_le_f {a b : Int32} (h : b < a) : ifCond.holds .le (own_c a b) = false := by rw [own_c_1 h]; decide
theorem own_gt_f {a b : Int32} (h : ¬ b < a) : ifCond.holds .gt (own_c a b) = false := by rcases own_c_0 h with q | q <;> rw [q] <;> decide
theorem own_ge_t {a b : Int32} (h : ¬ a < b) : ifCond.holds .ge (own_c a b) = true := by rcases own_c_p h with q | q <;> rw [q] <;> decide
theorem own_ge_f {a b : Int32} (h : a < b) : ifCond.holds .ge (own_c a b) = false := by rw [own_c_m h]; decide
theorem own_lt_t {a b : Int32} (h : a < b) : ifCond.holds .lt (own_c a b) = true := by rw [own_c_m h]; decide
theorem own_lt_f {a b : Int32} (h : ¬ a < b) : ifCond.holds .lt (own_c a b) = false := by rcases own_c_p h with q | q <;> rw [q] <;> decide
-- BY HAND: what push and pop compute, on positions that hold indices
def own_upd (f : Nat → Int32) (j : Nat) (v : Int32) : Nat → Int32 := fun i => if i = j then v else f i
def own_set (P : Nat → Nat) (j q : Nat) : Nat → Nat := fun i => if i = j then q else P i
theorem own_upd_set (k : Nat → Int32) (P : Nat → Nat) (j q : Nat) : own_upd (fun i => k (P i)) j (k q) = fun i => k (own_set P j q i) := by
  funext i; unfold own_upd own_set; split <;> rfl
def own_less (k : Nat → Int32) (a b : Nat) : Bool := decide (k a < k b)
def own_up (lt : Nat → Nat → Bool) (q : Nat) : Nat → (Nat → Nat) → Nat → (Nat → Nat)
  | 0, P, a => own_set P a q
  | f + 1, P, a => if a = 0 then own_set P a q else if lt q (P ((a - 1) / 2)) = true then own_up lt q f (own_set P a (P ((a - 1) / 2))) ((a - 1) / 2) else own_set P a q
def own_dn (lt : Nat → Nat → Bool) (q n : Nat) : Nat → (Nat → Nat) → Nat → (Nat → Nat)
  | 0, P, a => own_set P a q
  | f + 1, P, a => if 2 * a + 1 < n then
      (if 2 * a + 2 < n ∧ lt (P (2 * a + 2)) (P (2 * a + 1)) = true then
        (if lt (P (2 * a + 2)) q = true then own_dn lt q n f (own_set P a (P (2 * a + 2))) (2 * a + 2) else own_set P a q)
      else (if lt (P (2 * a + 1)) q = true then own_dn lt q n f (own_set P a (P (2 * a + 1))) (2 * a + 1) else own_set P a q))
    else own_set P a q
-- BY HAND: an array of doubles that are ints, an array of ints
def own_DA (Z : State) (h : Heap) (a : Addr) (n : Nat) (f : Nat → Int32) : Prop := ∃ c : Cell, Arr Z h a c .double ∧ c.slots.size = n ∧ ∀ j, j < n → c.slots[j]? = some (.double (FP.i2d (f j)))
def own_IA (Z : State) (h : Heap) (a : Addr) (n : Nat) (f : Nat → Int32) : Prop := ∃ c : Cell, Arr Z h a c .int ∧ c.slots.size = n ∧ ∀ j, j < n → c.slots[j]? = some (.int (f j))
section Arrays
variable {Z : State} {h h' : Heap} {a b : Addr} {n : Nat} {f : Nat → Int32} {sl : Nat} {v : Value} {ws : List Addr}
theorem own_DA_lt (F : own_DA Z h a n f) : a < h.size := by obtain ⟨c, A, r⟩ := F; exact A.lt
theorem own_IA_lt (F : own_IA Z h a n f) : a < h.size := by obtain ⟨c, A, r⟩ := F; exact A.lt
theorem own_DA_other (F : own_DA Z h a n f) (W : Wr h h' b sl v) (q : a ≠ b) : own_DA Z h' a n f := by obtain ⟨c, A, r⟩ := F; exact ⟨c, A.other W q, r⟩
theorem own_IA_other (F : own_IA Z h a n f) (W : Wr h h' b sl v) (q : a ≠ b) : own_IA Z h' a n f := by obtain ⟨c, A, r⟩ := F; exact ⟨c, A.other W q, r⟩
theorem own_DA_ext (F : own_DA Z h a n f) (E : Ext h h') : own_DA Z h' a n f := by obtain ⟨c, A, r⟩ := F; exact ⟨c, A.ext E, r⟩
theorem own_IA_ext (F : own_IA Z h a n f) (E : Ext h h') : own_IA Z h' a n f := by obtain ⟨c, A, r⟩ := F; exact ⟨c, A.ext E, r⟩
theorem own_DA_keep (F : own_DA Z h a n f) (K : Keep h h' ws) (q : a ∉ ws) : own_DA Z h' a n f := by obtain ⟨c, A, r⟩ := F; exact ⟨c, ⟨K.2.1 a c A.1 q, A.2⟩, r⟩
theorem own_DA_set {j : Nat} {x : Int32} (F : own_DA Z h a n f) (W : Wr h h' a j (.double (FP.i2d x))) : own_DA Z h' a n (own_upd f j x) := by
  obtain ⟨c, A, S, H⟩ := F
  refine ⟨_, A.same W, by rw [sz_set]; exact S, fun i hi => ?_⟩
  by_cases q : i = j
  · subst q
    have : i < c.slots.size := by rw [S]; exact hi
    simp [Cell.setSlot, own_upd, this]
  · have u := H i hi
    simp only [Cell.setSlot, own_upd, q, if_false]
    rw [Array.getElem?_setIfInBounds_ne (Ne.symm q)]; exact u
theorem own_IA_set {j : Nat} {x : Int32} (F : own_IA Z h a n f) (W : Wr h h' a j (.int x)) : own_IA Z h' a n (own_upd f j x) := by
  obtain ⟨c, A, S, H⟩ := F
  refine ⟨_, A.same W, by rw [sz_set]; exact S, fun i hi => ?_⟩
  by_cases q : i = j
  · subst q
    have : i < c.slots.size := by rw [S]; exact hi
    simp [Cell.setSlot, own_upd, this]
  · have u := H i hi
    simp only [Cell.setSlot, own_upd, q, if_false]
    rw [Array.getElem?_setIfInBounds_ne (Ne.symm q)]; exact u
theorem own_i2d0 : FP.i2d 0 = 0 := by decide +kernel
theorem own_DA_new {k : ClassId} {z : Int32} (A : Arr Z h a (newA k .double z) .double) (q : z.toNatClampNeg = n) : own_DA Z h a n (fun _ => 0) := by
  refine ⟨_, A, by rw [sz_new]; exact q, fun j hj => ?_⟩
  rw [own_i2d0]
  simp [newA, q, hj, defaultValue]
theorem own_IA_new {k : ClassId} {z : Int32} (A : Arr Z h a (newA k .int z) .int) (q : z.toNatClampNeg = n) : own_IA Z h a n (fun _ => 0) := by
  refine ⟨_, A, by rw [sz_new]; exact q, fun j hj => ?_⟩
  simp [newA, q, hj, defaultValue]
theorem own_in {c : Cell} {j : Nat} (S : c.slots.size = n) (hj : j < n) (hn : n ≤ 255) : ¬ (Int32.ofNat j < 0 ∨ c.slots.size ≤ (Int32.ofNat j).toNatClampNeg) := by
  rw [S, own_n32 (by omega)]
  exact fun q => q.elim (own_nn (by omega)) (fun q => by omega)
variable {p : Program} {l : Launch} {e : Env} {R : Room} {s : State} {m : MethodId} {args : Array Value} {below : List Frame} {meth : Method} {c : Code} {T : State} {locs : List Loc} {cells slots : Nat} {g : JFrame} {rest : List Value} {j : Nat} {x : Int32}
theorem own_dl (X : Stand p l e R s m args below meth c T locs cells slots) (hx : p.tables.exec = Jvm.exec) (hZ : Z.Warmed39 s.vm) (F : own_DA Z T.heap a n f) (hj : j < n) (hn : n ≤ 255) (hg : g.method = m) (hs : g.stack = .int (Int32.ofNat j) :: .ref a :: rest) (hd : decode c.code g.pc = .ok (.daload, 1)) :
    ∀ target, Steps p.tables e below (T.setTop { g with pc := g.pc + 1, stack := .double (FP.i2d (f j)) :: rest }) target → Steps p.tables e below (T.setTop g) target := by
  obtain ⟨cl, A, S, H⟩ := F
  intro target k
  exact X.daload hx A.1 (State.isArrayOf_alike hZ.alike A.2.1) A.2.2 (own_in S hj hn) (by rw [own_n32 (by omega)]; exact H j hj) hg hs hd _ k
theorem own_il (X : Stand p l e R s m args below meth c T locs cells slots) (hx : p.tables.exec = Jvm.exec) (hZ : Z.Warmed39 s.vm) (F : own_IA Z T.heap a n f) (hj : j < n) (hn : n ≤ 255) (hg : g.method = m) (hs : g.stack = .int (Int32.ofNat j) :: .ref a :: rest) (hd : decode c.code g.pc = .ok (.iaload, 1)) :
    ∀ target, Steps p.tables e below (T.setTop { g with pc := g.pc + 1, stack := .int (f j) :: rest }) target → Steps p.tables e below (T.setTop g) target := by
  obtain ⟨cl, A, S, H⟩ := F
  intro target k
  exact X.iaload hx A.1 (State.isArrayOf_alike hZ.alike A.2.1) A.2.2 (own_in S hj hn) (by rw [own_n32 (by omega)]; exact H j hj) hg hs hd _ k
theorem own_al (X : Stand p l e R s m args below meth c T locs cells slots) (hx : p.tables.exec = Jvm.exec) (hZ : Z.Warmed39 s.vm) (F : own_DA Z T.heap a n f) (hn : n ≤ 255) (hg : g.method = m) (hs : g.stack = .ref a :: rest) (hd : decode c.code g.pc = .ok (.arraylength, 1)) :
    ∀ target, Steps p.tables e below (T.setTop { g with pc := g.pc + 1, stack := .int (Int32.ofNat n) :: rest }) target → Steps p.tables e below (T.setTop g) target := by
  obtain ⟨cl, A, S, H⟩ := F
  intro target k
  refine X.arraylength hx (cell := cl) A.1 (State.isArrayOf_alike hZ.alike A.2.1) hg hs hd _ ?_
  rw [len_of (z := Int32.ofNat n) (by rw [own_n32 hn]; exact S) (own_nn hn)]
  exact k
theorem own_ds (X : Stand p l e R s m args below meth c T locs cells slots) (hx : p.tables.exec = Jvm.exec) (hZ : Z.Warmed39 s.vm) (F : own_DA Z T.heap a n f) (hj : j < n) (hn : n ≤ 255) (hg : g.method = m) (hs : g.stack = .double (FP.i2d x) :: .int (Int32.ofNat j) :: .ref a :: rest) (hd : decode c.code g.pc = .ok (.dastore, 1)) :
    ∃ T', Stand p l e R s m args below meth c T' (locs ++ [⟨a, j⟩]) cells slots ∧ Wr T.heap T'.heap a j (.double (FP.i2d x)) ∧ ∀ target, Steps p.tables e below (T'.setTop { g with pc := g.pc + 1, stack := rest }) target → Steps p.tables e below (T.setTop g) target := by
  obtain ⟨cl, A, S, H⟩ := F
  obtain ⟨T', h', X', e', W, st⟩ := stD X hx hZ rfl A (own_in S hj hn) hg hs hd
  subst e'
  rw [own_n32 (by omega)] at X' W
  exact ⟨T', X', W, st⟩
theorem own_is (X : Stand p l e R s m args below meth c T locs cells slots) (hx : p.tables.exec = Jvm.exec) (hZ : Z.Warmed39 s.vm) (F : own_IA Z T.heap a n f) (hj : j < n) (hn : n ≤ 255) (hg : g.method = m) (hs : g.stack = .int x :: .int (Int32.ofNat j) :: .ref a :: rest) (hd : decode c.code g.pc = .ok (.iastore, 1)) :
    ∃ T', Stand p l e R s m args below meth c T' (locs ++ [⟨a, j⟩]) cells slots ∧ Wr T.heap T'.heap a j (.int x) ∧ ∀ target, Steps p.tables e below (T'.setTop { g with pc := g.pc + 1, stack := rest }) target → Steps p.tables e below (T.setTop g) target := by
  obtain ⟨cl, A, S, H⟩ := F
  obtain ⟨T', h', X', e', W, st⟩ := stI X hx hZ rfl A (own_in S hj hn) hg hs hd
  subst e'
  rw [own_n32 (by omega)] at X' W
  exact ⟨T', X', W, st⟩
end Arrays
-- BY HAND: the Heap object, whole
def own_HI (Z : State) (h : Heap) (n0 : Nat) (hp ka ia : Addr) (n : Int32) (K I : Nat → Int32) : Prop :=
  Exa Z h hp "com/example/wary_checker/warychecker/check/Heap" ∧ Fld Z h hp "com/example/wary_checker/warychecker/check/Heap" "keys" "[D" (.ref ka) ∧ Fld Z h hp "com/example/wary_checker/warychecker/check/Heap" "items" "[I" (.ref ia) ∧ Fld Z h hp "com/example/wary_checker/warychecker/check/Heap" "size" "I" (.int n) ∧ own_DA Z h ka 16 K ∧ own_IA Z h ia 16 I ∧ (ka ≠ ia ∧ hp ≠ ka ∧ hp ≠ ia) ∧ n0 ≤ hp ∧ n0 ≤ ka ∧ n0 ≤ ia
def own_St (p : Program) (l : Launch) (e : Env) (R : Room) (s : State) (m : MethodId) (args : Array Value) (below : List Frame) (meth : Method) (c : Code) (Z : State) (h0 : Heap) (n0 : Nat) (hp ka ia : Addr) (cells slots : Nat) (T : State) (L : List Loc) (n : Int32) (K I : Nat → Int32) : Prop :=
  Stand p l e R s m args below meth c T L cells slots ∧ own_HI Z T.heap n0 hp ka ia n K I ∧ Keep h0 T.heap [hp, ka, ia] ∧ Fr n0 L
/-- from the frame g over T the walk comes to some frame of which Φ holds -/
def own_Seg (p : Program) (l : Launch) (e : Env) (R : Room) (s : State) (m : MethodId) (args : Array Value) (below : List Frame) (meth : Method) (c : Code) (Z : State) (h0 : Heap) (n0 : Nat) (hp ka ia : Addr) (cells slots : Nat) (T : State) (g : JFrame) (Φ : JFrame → Int32 → (Nat → Int32) → (Nat → Int32) → Prop) : Prop :=
  ∃ (T' : State) (L' : List Loc) (g' : JFrame) (n' : Int32) (K' I' : Nat → Int32), own_St p l e R s m args below meth c Z h0 n0 hp ka ia cells slots T' L' n' K' I' ∧ Φ g' n' K' I' ∧ ∀ target, Steps p.tables e below (T'.setTop g') target → Steps p.tables e below (T.setTop g) target
section Walk
variable {p : Program} {l : Launch} {e : Env} {R : Room} {s : State} {m : MethodId} {args : Array Value} {below : List Frame} {meth : Method} {c : Code} {Z : State} {a0 : Array Value} {h0 : Heap} {n0 : Nat} {hp ka ia : Addr} {cells slots : Nat} {T T' : State} {L : List Loc} {n : Int32} {K I : Nat → Int32} {g g' : JFrame} {rest : List Value} {Φ : JFrame → Int32 → (Nat → Int32) → (Nat → Int32) → Prop}
theorem own_go (st : ∀ target, Steps p.tables e below (T'.setTop g') target → Steps p.tables e below (T.setTop g) target) (q : own_Seg p l e R s m args below meth c Z h0 n0 hp ka ia cells slots T' g' Φ) : own_Seg p l e R s m args below meth c Z h0 n0 hp ka ia cells slots T g Φ := by
  obtain ⟨T1, L1, g1, n1, K1, I1, Y, F, k⟩ := q
  exact ⟨T1, L1, g1, n1, K1, I1, Y, F, fun t z => st t (k t z)⟩
theorem own_end (Y : own_St p l e R s m args below meth c Z h0 n0 hp ka ia cells slots T L n K I) (q : Φ g n K I) : own_Seg p l e R s m args below meth c Z h0 n0 hp ka ia cells slots T g Φ := ⟨T, L, g, n, K, I, Y, q, fun _ k => k⟩
theorem own_join {Ψ : JFrame → Int32 → (Nat → Int32) → (Nat → Int32) → Prop} (q : own_Seg p l e R s m args below meth c Z h0 n0 hp ka ia cells slots T g Φ) (r : ∀ T1 L1 g1 n1 K1 I1, own_St p l e R s m args below meth c Z h0 n0 hp ka ia cells slots T1 L1 n1 K1 I1 → Φ g1 n1 K1 I1 → own_Seg p l e R s m args below meth c Z h0 n0 hp ka ia cells slots T1 g1 Ψ) : own_Seg p l e R s m args below meth c Z h0 n0 hp ka ia cells slots T g Ψ := by
  obtain ⟨T1, L1, g1, n1, K1, I1, Y, F, k⟩ := q
  exact own_go k (r T1 L1 g1 n1 K1 I1 Y F)
theorem own_getK (Y : own_St p l e R s m args below meth c Z h0 n0 hp ka ia cells slots T L n K I) (hx : p.tables.exec = Jvm.exec) (hZ : Z.Warmed39 s.vm) (hw : ∀ d ∈ tables_1, d.before a0 Z = true) (hown : s.vm.findClass "com/example/wary_checker/warychecker/check/Heap" = some m.cls) (hg : g.method = m) (hs : g.stack = .ref hp :: rest) (hd : decode c.code g.pc = .ok (.getfield 7, 3)) :
    ∃ T', own_St p l e R s m args below meth c Z h0 n0 hp ka ia cells slots T' L n K I ∧ ∀ target, Steps p.tables e below (T'.setTop { g with pc := g.pc + 3, stack := .ref ka :: rest }) target → Steps p.tables e below (T.setTop g) target := by
  obtain ⟨X, H, Q, N⟩ := Y
  obtain ⟨T', X', e', st⟩ := getF X hx hZ hown (host := "") (Or.inl (hw _ (List.mem_of_getElem? (i := 14) rfl))) Via.refl rfl H.2.1 hg hs hd
  exact ⟨T', ⟨X', by rw [e']; exact H, by rw [e']; exact Q, N⟩, st⟩
theorem own_getI (Y : own_St p l e R s m args below meth c Z h0 n0 hp ka ia cells slots T L n K I) (hx : p.tables.exec = Jvm.exec) (hZ : Z.Warmed39 s.vm) (hw : ∀ d ∈ tables_1, d.before a0 Z = true) (hown : s.vm.findClass "com/example/wary_checker/warychecker/check/Heap" = some m.cls) (hg : g.method = m) (hs : g.stack = .ref hp :: rest) (hd : decode c.code g.pc = .ok (.getfield 13, 3)) :
    ∃ T', own_St p l e R s m args below meth c Z h0 n0 hp ka ia cells slots T' L n K I ∧ ∀ target, Steps p.tables e below (T'.setTop { g with pc := g.pc + 3, stack := .ref ia :: rest }) target → Steps p.tables e below (T.setTop g) target := by
  obtain ⟨X, H, Q, N⟩ := Y
  obtain ⟨T', X', e', st⟩ := getF X hx hZ hown (host := "") (Or.inl (hw _ (List.mem_of_getElem? (i := 17) rfl))) Via.refl rfl H.2.2.1 hg hs hd
  exact ⟨T', ⟨X', by rw [e']; exact H, by rw [e']; exact Q, N⟩, st⟩
theorem own_getS (Y : own_St p l e R s m args below meth c Z h0 n0 hp ka ia cells slots T L n K I) (hx : p.tables.exec = Jvm.exec) (hZ : Z.Warmed39 s.vm) (hw : ∀ d ∈ tables_1, d.before a0 Z = true) (hown : s.vm.findClass "com/example/wary_checker/warychecker/check/Heap" = some m.cls) (hg : g.method = m) (hs : g.stack = .ref hp :: rest) (hd : decode c.code g.pc = .ok (.getfield 17, 3)) :
    ∃ T', own_St p l e R s m args below meth c Z h0 n0 hp ka ia cells slots T' L n K I ∧ ∀ target, Steps p.tables e below (T'.setTop { g with pc := g.pc + 3, stack := .int n :: rest }) target → Steps p.tables e below (T.setTop g) target := by
  obtain ⟨X, H, Q, N⟩ := Y
  obtain ⟨T', X', e', st⟩ := getF X hx hZ hown (host := "") (Or.inl (hw _ (List.mem_of_getElem? (i := 24) rfl))) Via.refl rfl H.2.2.2.1 hg hs hd
  exact ⟨T', ⟨X', by rw [e']; exact H, by rw [e']; exact Q, N⟩, st⟩
theorem own_putS {z : Int32} (Y : own_St p l e R s m args below meth c Z h0 n0 hp ka ia cells slots T L n K I) (hx : p.tables.exec = Jvm.exec) (hZ : Z.Warmed39 s.vm) (hw : ∀ d ∈ tables_1, d.before a0 Z = true) (hown : s.vm.findClass "com/example/wary_checker/warychecker/check/Heap" = some m.cls) (hg : g.method = m) (hs : g.stack = .int z :: .ref hp :: rest) (hd : decode c.code g.pc = .ok (.putfield 17, 3)) :
    ∃ T' L', own_St p l e R s m args below meth c Z h0 n0 hp ka ia cells slots T' L' z K I ∧ ∀ target, Steps p.tables e below (T'.setTop { g with pc := g.pc + 3, stack := rest }) target → Steps p.tables e below (T.setTop g) target := by
  obtain ⟨X, ⟨E, F1, F2, F3, D, A, ⟨n1, n2, n3⟩, g1, g2, g3⟩, Q, N⟩ := Y
  obtain ⟨T', h', X', e', W, st⟩ := putF X hx hZ hown (host := "") (Or.inl (hw _ (List.mem_of_getElem? (i := 24) rfl))) Via.refl rfl F3 E (Or.inl (hw _ (List.mem_of_getElem? (i := 25) rfl))) (hw _ (List.mem_of_getElem? (i := 6) rfl)) (ty := .int) (by decide) rfl rfl hg hs hd
  subst e'
  refine ⟨T', _, ⟨X', ⟨E.wr W, F1.other W (Or.inr ?_), F2.other W (Or.inr ?_), F3.same W, own_DA_other D W (Ne.symm n2), own_IA_other A W (Ne.symm n3), ⟨n1, n2, n3⟩, g1, g2, g3⟩, Q.wr W (Or.inl (List.mem_of_getElem? (i := 0) rfl)), Fr.snoc X' N g1⟩, st⟩
  · exact slot_ne (Or.inl (hw _ (List.mem_of_getElem? (i := 15) rfl))) (Or.inl (hw _ (List.mem_of_getElem? (i := 25) rfl))) (by decide) (t := .array .double) (t' := .int) (by decide) (by decide)
  · exact slot_ne (Or.inl (hw _ (List.mem_of_getElem? (i := 18) rfl))) (Or.inl (hw _ (List.mem_of_getElem? (i := 25) rfl))) (by decide) (t := .array .int) (t' := .int) (by decide) (by decide)
theorem own_putK {j : Nat} {x : Int32} (Y : own_St p l e R s m args below meth c Z h0 n0 hp ka ia cells slots T L n K I) (hx : p.tables.exec = Jvm.exec) (hZ : Z.Warmed39 s.vm) (hj : j < 16) (hg : g.method = m) (hs : g.stack = .double (FP.i2d x) :: .int (Int32.ofNat j) :: .ref ka :: rest) (hd : decode c.code g.pc = .ok (.dastore, 1)) :
    ∃ T' L', own_St p l e R s m args below meth c Z h0 n0 hp ka ia cells slots T' L' n (own_upd K j x) I ∧ ∀ target, Steps p.tables e below (T'.setTop { g with pc := g.pc + 1, stack := rest }) target → Steps p.tables e below (T.setTop g) target := by
  obtain ⟨X, ⟨E, F1, F2, F3, D, A, ⟨n1, n2, n3⟩, g1, g2, g3⟩, Q, N⟩ := Y
  obtain ⟨T', X', W, st⟩ := own_ds X hx hZ D hj (by decide) hg hs hd
  exact ⟨T', _, ⟨X', ⟨E.wr W, F1.other W (Or.inl n2), F2.other W (Or.inl n2), F3.other W (Or.inl n2), own_DA_set D W, own_IA_other A W (Ne.symm n1), ⟨n1, n2, n3⟩, g1, g2, g3⟩, Q.wr W (Or.inl (List.mem_of_getElem? (i := 1) rfl)), Fr.snoc X' N g2⟩, st⟩
theorem own_putI {j : Nat} {x : Int32} (Y : own_St p l e R s m args below meth c Z h0 n0 hp ka ia cells slots T L n K I) (hx : p.tables.exec = Jvm.exec) (hZ : Z.Warmed39 s.vm) (hj : j < 16) (hg : g.method = m) (hs : g.stack = .int x :: .int (Int32.ofNat j) :: .ref ia :: rest) (hd : decode c.code g.pc = .ok (.iastore, 1)) :
    ∃ T' L', own_St p l e R s m args below meth c Z h0 n0 hp ka ia cells slots T' L' n K (own_upd I j x) ∧ ∀ target, Steps p.tables e below (T'.setTop { g with pc := g.pc + 1, stack := rest }) target → Steps p.tables e below (T.setTop g) target := by
  obtain ⟨X, ⟨E, F1, F2, F3, D, A, ⟨n1, n2, n3⟩, g1, g2, g3⟩, Q, N⟩ := Y
  obtain ⟨T', X', W, st⟩ := own_is X hx hZ A hj (by decide) hg hs hd
  exact ⟨T', _, ⟨X', ⟨E.wr W, F1.other W (Or.inl n3), F2.other W (Or.inl n3), F3.other W (Or.inl n3), own_DA_other D W n1, own_IA_set A W, ⟨n1, n2, n3⟩, g1, g2, g3⟩, Q.wr W (Or.inl (List.mem_of_getElem? (i := 2) rfl)), Fr.snoc X' N g3⟩, st⟩
end Walk
-- BY HAND: the plain law (no program in sight): five pushes and five pops give the indices in order of their keys
def own_L (x : Nat → Int) (a b : Nat) : Bool := decide (x a < x b)
theorem own_less_L (k : Nat → Int32) : own_less k = own_L (fun i => (k i).toInt) := by
  funext a b
  unfold own_less own_L
  rw [decide_eq_decide, Int32.lt_iff_toInt_lt]
theorem own_s1 (x : Nat → Int) (P P' : Nat → Nat) (q : Nat) (e : P' = own_up (own_L x) q 1 P 1) : x (P' 0) ≤ x (P' 1) ∧ ∀ f : Nat → Nat, f (P' 0) + f (P' 1) = f (P 0) + f q := by
  subst e
  by_cases h : x q < x (P 0)
  · simp [own_up, own_set, own_L, h]
    exact ⟨by omega, fun f => by omega⟩
  · simp [own_up, own_set, own_L, h]
    omega
theorem own_s2 (x : Nat → Int) (P P' : Nat → Nat) (q : Nat) (e : P' = own_up (own_L x) q 2 P 2) (h1 : x (P 0) ≤ x (P 1)) : (x (P' 0) ≤ x (P' 1) ∧ x (P' 0) ≤ x (P' 2)) ∧ ∀ f : Nat → Nat, f (P' 0) + f (P' 1) + f (P' 2) = f (P 0) + f (P 1) + f q := by
  subst e
  by_cases h : x q < x (P 0)
  · simp [own_up, own_set, own_L, h]
    exact ⟨by omega, fun f => by omega⟩
  · simp [own_up, own_set, own_L, h]
    omega
theorem own_s3 (x : Nat → Int) (P P' : Nat → Nat) (q : Nat) (e : P' = own_up (own_L x) q 3 P 3) (h1 : x (P 0) ≤ x (P 1)) (h2 : x (P 0) ≤ x (P 2)) : (x (P' 0) ≤ x (P' 1) ∧ x (P' 0) ≤ x (P' 2) ∧ x (P' 1) ≤ x (P' 3)) ∧ ∀ f : Nat → Nat, f (P' 0) + f (P' 1) + f (P' 2) + f (P' 3) = f (P 0) + f (P 1) + f (P 2) + f q := by
  subst e
  by_cases h : x q < x (P 1)
  · by_cases h' : x q < x (P 0)
    · simp [own_up, own_set, own_L, h, h']
      exact ⟨by omega, fun f => by omega⟩
    · simp [own_up, own_set, own_L, h, h']
      exact ⟨by omega, fun f => by omega⟩
  · simp [own_up, own_set, own_L, h]
    omega
theorem own_s4 (x : Nat → Int) (P P' : Nat → Nat) (q : Nat) (e : P' = own_up (own_L x) q 4 P 4) (h1 : x (P 0) ≤ x (P 1)) (h2 : x (P 0) ≤ x (P 2)) (h3 : x (P 1) ≤ x (P 3)) : (x (P' 0) ≤ x (P' 1) ∧ x (P' 0) ≤ x (P' 2) ∧ x (P' 1) ≤ x (P' 3) ∧ x (P' 1) ≤ x (P' 4)) ∧ ∀ f : Nat → Nat, f (P' 0) + f (P' 1) + f (P' 2) + f (P' 3) + f (P' 4) = f (P 0) + f (P 1) + f (P 2) + f (P 3) + f q := by
  subst e
  by_cases h : x q < x (P 1)
  · by_cases h' : x q < x (P 0)
    · simp [own_up, own_set, own_L, h, h']
      exact ⟨by omega, fun f => by omega⟩
    · simp [own_up, own_set, own_L, h, h']
      exact ⟨by omega, fun f => by omega⟩
  · simp [own_up, own_set, own_L, h]
    omega
theorem own_d4 (x : Nat → Int) (P P' : Nat → Nat) (e : P' = own_dn (own_L x) (P 4) 4 4 P 0) (h1 : x (P 0) ≤ x (P 1)) (h2 : x (P 0) ≤ x (P 2)) (h3 : x (P 1) ≤ x (P 3)) (h4 : x (P 1) ≤ x (P 4)) : (x (P 0) ≤ x (P' 0) ∧ x (P' 0) ≤ x (P' 1) ∧ x (P' 0) ≤ x (P' 2) ∧ x (P' 1) ≤ x (P' 3)) ∧ ∀ f : Nat → Nat, f (P' 0) + f (P' 1) + f (P' 2) + f (P' 3) = f (P 1) + f (P 2) + f (P 3) + f (P 4) := by
  subst e
  by_cases c1 : x (P 2) < x (P 1)
  · by_cases c2 : x (P 2) < x (P 4)
    · simp [own_dn, own_set, own_L, c1, c2]
      exact ⟨by omega, fun f => by omega⟩
    · simp [own_dn, own_set, own_L, c1, c2]
      exact ⟨by omega, fun f => by omega⟩
  · by_cases c2 : x (P 1) < x (P 4)
    · by_cases c3 : x (P 3) < x (P 4)
      · simp [own_dn, own_set, own_L, c1, c2, c3]
        exact ⟨by omega, fun f => by omega⟩
      · simp [own_dn, own_set, own_L, c1, c2, c3]
        exact ⟨by omega, fun f => by omega⟩
    · simp [own_dn, own_set, own_L, c1, c2]
      exact ⟨by omega, fun f => by omega⟩
theorem own_d3 (x : Nat → Int) (P P' : Nat → Nat) (e : P' = own_dn (own_L x) (P 3) 3 3 P 0) (h1 : x (P 0) ≤ x (P 1)) (h2 : x (P 0) ≤ x (P 2)) (h3 : x (P 1) ≤ x (P 3)) : (x (P 0) ≤ x (P' 0) ∧ x (P' 0) ≤ x (P' 1) ∧ x (P' 0) ≤ x (P' 2)) ∧ ∀ f : Nat → Nat, f (P' 0) + f (P' 1) + f (P' 2) = f (P 1) + f (P 2) + f (P 3) := by
  subst e
  by_cases c1 : x (P 2) < x (P 1)
  · by_cases c2 : x (P 2) < x (P 3)
    · simp [own_dn, own_set, own_L, c1, c2]
      exact ⟨by omega, fun f => by omega⟩
    · simp [own_dn, own_set, own_L, c1, c2]
      exact ⟨by omega, fun f => by omega⟩
  · by_cases c2 : x (P 1) < x (P 3)
    · simp [own_dn, own_set, own_L, c1, c2]
      exact ⟨by omega, fun f => by omega⟩
    · simp [own_dn, own_set, own_L, c1, c2]
      exact ⟨by omega, fun f => by omega⟩
theorem own_d2 (x : Nat → Int) (P P' : Nat → Nat) (e : P' = own_dn (own_L x) (P 2) 2 2 P 0) (h1 : x (P 0) ≤ x (P 1)) (h2 : x (P 0) ≤ x (P 2)) : (x (P 0) ≤ x (P' 0) ∧ x (P' 0) ≤ x (P' 1)) ∧ ∀ f : Nat → Nat, f (P' 0) + f (P' 1) = f (P 1) + f (P 2) := by
  subst e
  by_cases c2 : x (P 1) < x (P 2)
  · simp [own_dn, own_set, own_L, c2]
    omega
  · simp [own_dn, own_set, own_L, c2]
    exact ⟨by omega, fun f => by omega⟩
theorem own_d1 (x : Nat → Int) (P P' : Nat → Nat) (e : P' = own_dn (own_L x) (P 1) 1 1 P 0) (h1 : x (P 0) ≤ x (P 1)) : x (P 0) ≤ x (P' 0) ∧ ∀ f : Nat → Nat, f (P' 0) = f (P 1) := by
  subst e
  simp [own_dn, own_set, own_L]
  omega
theorem own_bits : ∀ a b c d e : Fin 5, 2 ^ a.val + 2 ^ b.val + 2 ^ c.val + 2 ^ d.val + 2 ^ e.val = 31 →
    (((((((1 : Int32) <<< (Int32.ofNat a.val &&& 31)) ||| ((1 : Int32) <<< (Int32.ofNat b.val &&& 31))) ||| ((1 : Int32) <<< (Int32.ofNat c.val &&& 31))) ||| ((1 : Int32) <<< (Int32.ofNat d.val &&& 31))) ||| ((1 : Int32) <<< (Int32.ofNat e.val &&& 31))) = (31 : Int32)) := by decide +kernel
theorem own_fin {a b c d e : Nat} (H : ∀ f : Nat → Nat, f a + f b + f c + f d + f e = f 0 + f 1 + f 2 + f 3 + f 4) : (a < 5 ∧ b < 5 ∧ c < 5 ∧ d < 5 ∧ e < 5) ∧
    (((((((1 : Int32) <<< (Int32.ofNat a &&& 31)) ||| ((1 : Int32) <<< (Int32.ofNat b &&& 31))) ||| ((1 : Int32) <<< (Int32.ofNat c &&& 31))) ||| ((1 : Int32) <<< (Int32.ofNat d &&& 31))) ||| ((1 : Int32) <<< (Int32.ofNat e &&& 31))) = (31 : Int32)) := by
  have h5 := H (fun i => if i < 5 then 0 else 1)
  simp only [show (0 < 5) from by decide, show (1 < 5) from by decide, show (2 < 5) from by decide, show (3 < 5) from by decide, show (4 < 5) from by decide, if_true] at h5
  have ha : a < 5 := by
    rcases Nat.lt_or_ge a 5 with g | g
    · exact g
    · rw [if_neg (by omega)] at h5; omega
  have hb : b < 5 := by
    rcases Nat.lt_or_ge b 5 with g | g
    · exact g
    · rw [if_neg (show ¬ b < 5 by omega)] at h5; omega
  have hc : c < 5 := by
    rcases Nat.lt_or_ge c 5 with g | g
    · exact g
    · rw [if_neg (show ¬ c < 5 by omega)] at h5; omega
  have hd : d < 5 := by
    rcases Nat.lt_or_ge d 5 with g | g
    · exact g
    · rw [if_neg (show ¬ d < 5 by omega)] at h5; omega
  have he : e < 5 := by
    rcases Nat.lt_or_ge e 5 with g | g
    · exact g
    · rw [if_neg (show ¬ e < 5 by omega)] at h5; omega
  have h2 := H (fun i => 2 ^ i)
  exact ⟨⟨ha, hb, hc, hd, he⟩, own_bits ⟨a, ha⟩ ⟨b, hb⟩ ⟨c, hc⟩ ⟨d, hd⟩ ⟨e, he⟩ h2⟩
/-- five pushes of the indices 0 to 4, then five pops: the indices that come, each key not above the next -/
theorem own_plain (k : Nat → Int32) {P0 P1 P2 P3 P4 P5 R4 R3 R2 R1 : Nat → Nat} (e1 : P1 = own_up (own_less k) 0 0 P0 0) (e2 : P2 = own_up (own_less k) 1 1 P1 1) (e3 : P3 = own_up (own_less k) 2 2 P2 2) (e4 : P4 = own_up (own_less k) 3 3 P3 3) (e5 : P5 = own_up (own_less k) 4 4 P4 4)
    (r4 : R4 = own_dn (own_less k) (P5 4) 4 4 P5 0) (r3 : R3 = own_dn (own_less k) (R4 3) 3 3 R4 0) (r2 : R2 = own_dn (own_less k) (R3 2) 2 2 R3 0) (r1 : R1 = own_dn (own_less k) (R2 1) 1 1 R2 0) :
    (∀ f : Nat → Nat, f (P5 0) + f (R4 0) + f (R3 0) + f (R2 0) + f (R1 0) = f 0 + f 1 + f 2 + f 3 + f 4) ∧ ¬ k (R4 0) < k (P5 0) ∧ ¬ k (R3 0) < k (R4 0) ∧ ¬ k (R2 0) < k (R3 0) ∧ ¬ k (R1 0) < k (R2 0) := by
  rw [own_less_L] at e1 e2 e3 e4 e5 r4 r3 r2 r1
  simp only [Int32.lt_iff_toInt_lt]
  have f1 : P1 0 = 0 := by subst e1; simp [own_up, own_set]
  obtain ⟨a1, b1⟩ := own_s1 _ P1 P2 1 e2
  obtain ⟨⟨a2, a3⟩, b2⟩ := own_s2 _ P2 P3 2 e3 a1
  obtain ⟨⟨a4, a5, a6⟩, b3⟩ := own_s3 _ P3 P4 3 e4 a2 a3
  obtain ⟨⟨a7, a8, a9, a10⟩, b4⟩ := own_s4 _ P4 P5 4 e5 a4 a5 a6
  obtain ⟨⟨c1, c2, c3, c4⟩, b5⟩ := own_d4 _ P5 R4 r4 a7 a8 a9 a10
  obtain ⟨⟨c5, c6, c7⟩, b6⟩ := own_d3 _ R4 R3 r3 c2 c3 c4
  obtain ⟨⟨c8, c9⟩, b7⟩ := own_d2 _ R3 R2 r2 c6 c7
  obtain ⟨c10, b8⟩ := own_d1 _ R2 R1 r1 c9
  refine ⟨fun f => ?_, by omega, by omega, by omega, by omega⟩
  have q1 := b1 f
  have q2 := b2 f
  have q3 := b3 f
  have q4 := b4 f
  have q5 := b5 f
  have q6 := b6 f
  have q7 := b7 f
  have q8 := b8 f
  rw [f1] at q1
  omega
-- Heap.push
theorem du_0 : decode prog_19_method_3_code 0 = .ok (.aload_n 0, 1) := by decide +kernel
theorem du_1 : decode prog_19_method_3_code 1 = .ok (.getfield 17, 3) := by decide +kernel
theorem du_4 : decode prog_19_method_3_code 4 = .ok (.aload_n 0, 1) := by decide +kernel
theorem du_5 : decode prog_19_method_3_code 5 = .ok (.getfield 7, 3) := by decide +kernel
theorem du_8 : decode prog_19_method_3_code 8 = .ok (.arraylength, 1) := by decide +kernel
theorem du_9 : decode prog_19_method_3_code 9 = .ok (.if_icmp .ne 37, 3) := by decide +kernel
theorem du_12 : decode prog_19_method_3_code 12 = .ok (.aload_n 0, 1) := by decide +kernel
theorem du_13 : decode prog_19_method_3_code 13 = .ok (.aload_n 0, 1) := by decide +kernel
theorem du_14 : decode prog_19_method_3_code 14 = .ok (.getfield 7, 3) := by decide +kernel
theorem du_17 : decode prog_19_method_3_code 17 = .ok (.iconst 2, 1) := by decide +kernel
theorem du_18 : decode prog_19_method_3_code 18 = .ok (.aload_n 0, 1) := by decide +kernel
theorem du_19 : decode prog_19_method_3_code 19 = .ok (.getfield 17, 3) := by decide +kernel
theorem du_22 : decode prog_19_method_3_code 22 = .ok (.imul, 1) := by decide +kernel
theorem du_23 : decode prog_19_method_3_code 23 = .ok (.invokestatic 21, 3) := by decide +kernel
theorem du_26 : decode prog_19_method_3_code 26 = .ok (.putfield 7, 3) := by decide +kernel
theorem du_29 : decode prog_19_method_3_code 29 = .ok (.aload_n 0, 1) := by decide +kernel
theorem du_30 : decode prog_19_method_3_code 30 = .ok (.aload_n 0, 1) := by decide +kernel
theorem du_31 : decode prog_19_method_3_code 31 = .ok (.getfield 13, 3) := by decide +kernel
theorem du_34 : decode prog_19_method_3_code 34 = .ok (.iconst 2, 1) := by decide +kernel
theorem du_35 : decode prog_19_method_3_code 35 = .ok (.aload_n 0, 1) := by decide +kernel
theorem du_36 : decode prog_19_method_3_code 36 = .ok (.getfield 17, 3) := by decide +kernel
theorem du_39 : decode prog_19_method_3_code 39 = .ok (.imul, 1) := by decide +kernel
theorem du_40 : decode prog_19_method_3_code 40 = .ok (.invokestatic 27, 3) := by decide +kernel
theorem du_43 : decode prog_19_method_3_code 43 = .ok (.putfield 13, 3) := by decide +kernel
theorem du_46 : decode prog_19_method_3_code 46 = .ok (.aload_n 0, 1) := by decide +kernel
theorem du_47 : decode prog_19_method_3_code 47 = .ok (.dup, 1) := by decide +kernel
theorem du_48 : decode prog_19_method_3_code 48 = .ok (.getfield 17, 3) := by decide +kernel
theorem du_51 : decode prog_19_method_3_code 51 = .ok (.dup_x1, 1) := by decide +kernel
theorem du_52 : decode prog_19_method_3_code 52 = .ok (.iconst 1, 1) := by decide +kernel
theorem du_53 : decode prog_19_method_3_code 53 = .ok (.iadd, 1) := by decide +kernel
theorem du_54 : decode prog_19_method_3_code 54 = .ok (.putfield 17, 3) := by decide +kernel
theorem du_57 : decode prog_19_method_3_code 57 = .ok (.istore 4, 2) := by decide +kernel
theorem du_59 : decode prog_19_method_3_code 59 = .ok (.iload 4, 2) := by decide +kernel
theorem du_61 : decode prog_19_method_3_code 61 = .ok (.ifCond .le 66, 3) := by decide +kernel
theorem du_64 : decode prog_19_method_3_code 64 = .ok (.aload_n 0, 1) := by decide +kernel
theorem du_65 : decode prog_19_method_3_code 65 = .ok (.getfield 7, 3) := by decide +kernel
theorem du_68 : decode prog_19_method_3_code 68 = .ok (.iload 4, 2) := by decide +kernel
theorem du_70 : decode prog_19_method_3_code 70 = .ok (.iconst 1, 1) := by decide +kernel
theorem du_71 : decode prog_19_method_3_code 71 = .ok (.isub, 1) := by decide +kernel
theorem du_72 : decode prog_19_method_3_code 72 = .ok (.iconst 2, 1) := by decide +kernel
theorem du_73 : decode prog_19_method_3_code 73 = .ok (.idiv, 1) := by decide +kernel
theorem du_74 : decode prog_19_method_3_code 74 = .ok (.daload, 1) := by decide +kernel
theorem du_75 : decode prog_19_method_3_code 75 = .ok (.dload_n 1, 1) := by decide +kernel
theorem du_76 : decode prog_19_method_3_code 76 = .ok (.dcmp .l, 1) := by decide +kernel
theorem du_77 : decode prog_19_method_3_code 77 = .ok (.ifCond .le 50, 3) := by decide +kernel
theorem du_80 : decode prog_19_method_3_code 80 = .ok (.aload_n 0, 1) := by decide +kernel
theorem du_81 : decode prog_19_method_3_code 81 = .ok (.getfield 7, 3) := by decide +kernel
theorem du_84 : decode prog_19_method_3_code 84 = .ok (.iload 4, 2) := by decide +kernel
theorem du_86 : decode prog_19_method_3_code 86 = .ok (.aload_n 0, 1) := by decide +kernel
theorem du_87 : decode prog_19_method_3_code 87 = .ok (.getfield 7, 3) := by decide +kernel
theorem du_90 : decode prog_19_method_3_code 90 = .ok (.iload 4, 2) := by decide +kernel
theorem du_92 : decode prog_19_method_3_code 92 = .ok (.iconst 1, 1) := by decide +kernel
theorem du_93 : decode prog_19_method_3_code 93 = .ok (.isub, 1) := by decide +kernel
theorem du_94 : decode prog_19_method_3_code 94 = .ok (.iconst 2, 1) := by decide +kernel
theorem du_95 : decode prog_19_method_3_code 95 = .ok (.idiv, 1) := by decide +kernel
theorem du_96 : decode prog_19_method_3_code 96 = .ok (.daload, 1) := by decide +kernel
theorem du_97 : decode prog_19_method_3_code 97 = .ok (.dastore, 1) := by decide +kernel
theorem du_98 : decode prog_19_method_3_code 98 = .ok (.aload_n 0, 1) := by decide +kernel
theorem du_99 : decode prog_19_method_3_code 99 = .ok (.getfield 13, 3) := by decide +kernel
theorem du_102 : decode prog_19_method_3_code 102 = .ok (.iload 4, 2) := by decide +kernel
theorem du_104 : decode prog_19_method_3_code 104 = .ok (.aload_n 0, 1) := by decide +kernel
theorem du_105 : decode prog_19_method_3_code 105 = .ok (.getfield 13, 3) := by decide +kernel
theorem du_108 : decode prog_19_method_3_code 108 = .ok (.iload 4, 2) := by decide +kernel
theorem du_110 : decode prog_19_method_3_code 110 = .ok (.iconst 1, 1) := by decide +kernel
theorem du_111 : decode prog_19_method_3_code 111 = .ok (.isub, 1) := by decide +kernel
theorem du_112 : decode prog_19_method_3_code 112 = .ok (.iconst 2, 1) := by decide +kernel
theorem du_113 : decode prog_19_method_3_code 113 = .ok (.idiv, 1) := by decide +kernel
theorem du_114 : decode prog_19_method_3_code 114 = .ok (.iaload, 1) := by decide +kernel
theorem du_115 : decode prog_19_method_3_code 115 = .ok (.iastore, 1) := by decide +kernel
theorem du_116 : decode prog_19_method_3_code 116 = .ok (.iload 4, 2) := by decide +kernel
theorem du_118 : decode prog_19_method_3_code 118 = .ok (.iconst 1, 1) := by decide +kernel
theorem du_119 : decode prog_19_method_3_code 119 = .ok (.isub, 1) := by decide +kernel
theorem du_120 : decode prog_19_method_3_code 120 = .ok (.iconst 2, 1) := by decide +kernel
theorem du_121 : decode prog_19_method_3_code 121 = .ok (.idiv, 1) := by decide +kernel
theorem du_122 : decode prog_19_method_3_code 122 = .ok (.istore 4, 2) := by decide +kernel
theorem du_124 : decode prog_19_method_3_code 124 = .ok (.goto (-65), 3) := by decide +kernel
theorem du_127 : decode prog_19_method_3_code 127 = .ok (.aload_n 0, 1) := by decide +kernel
theorem du_128 : decode prog_19_method_3_code 128 = .ok (.getfield 7, 3) := by decide +kernel
theorem du_131 : decode prog_19_method_3_code 131 = .ok (.iload 4, 2) := by decide +kernel
theorem du_133 : decode prog_19_method_3_code 133 = .ok (.dload_n 1, 1) := by decide +kernel
theorem du_134 : decode prog_19_method_3_code 134 = .ok (.dastore, 1) := by decide +kernel
theorem du_135 : decode prog_19_method_3_code 135 = .ok (.aload_n 0, 1) := by decide +kernel
theorem du_136 : decode prog_19_method_3_code 136 = .ok (.getfield 13, 3) := by decide +kernel
theorem du_139 : decode prog_19_method_3_code 139 = .ok (.iload 4, 2) := by decide +kernel
theorem du_141 : decode prog_19_method_3_code 141 = .ok (.iload_n 3, 1) := by decide +kernel
theorem du_142 : decode prog_19_method_3_code 142 = .ok (.iastore, 1) := by decide +kernel
theorem du_143 : decode prog_19_method_3_code 143 = .ok (.return_, 1) := by decide +kernel
set_option maxRecDepth 65536 in
set_option maxHeartbeats 40000000 in
theorem own_pushLoop {p : Program} {l : Launch} {e : Env} {R : Room} {s : State} {m : MethodId} {args : Array Value} {below : List Frame} {meth : Method} {c : Code} {Z : State} {a0 : Array Value} {h0 : Heap} {n0 : Nat} {hp ka ia : Addr} {cells slots : Nat} (hx : p.tables.exec = Jvm.exec) (hZ : Z.Warmed39 s.vm) (hw : ∀ d ∈ tables_1, d.before a0 Z = true) (hby : c.code = prog_19_method_3_code) (hown : s.vm.findClass "com/example/wary_checker/warychecker/check/Heap" = some m.cls) (kf jf : Nat → Int32) (q : Nat) (n : Int32) :
    ∀ (f a : Nat) (P : Nat → Nat) (T0 : State) (L0 : List Loc), a ≤ f → a ≤ 15 → own_St p l e R s m args below meth c Z h0 n0 hp ka ia cells slots T0 L0 n (fun j => kf (P j)) (fun j => jf (P j)) →
      own_Seg p l e R s m args below meth c Z h0 n0 hp ka ia cells slots T0 (mkF m 59 #[.val (.ref hp), .val (.double (FP.i2d (kf q))), .second, .val (.int (jf q)), .val (.int (Int32.ofNat a))] []) (fun g' n' K' I' => n' = n ∧ ∃ (a' : Nat) (P' : Nat → Nat), a' ≤ 15 ∧ g' = mkF m 127 #[.val (.ref hp), .val (.double (FP.i2d (kf q))), .second, .val (.int (jf q)), .val (.int (Int32.ofNat a'))] [] ∧ K' = (fun j => kf (P' j)) ∧ I' = (fun j => jf (P' j)) ∧ own_set P' a' q = own_up (own_less kf) q f P a) := by
  intro f
  induction f with
  | zero =>
    intro a P T0 L0 hf ha Y0
    have hz : a = 0 := by omega
    subst hz
    show own_Seg p l e R s m args below meth c Z h0 n0 hp ka ia cells slots T0 (mkF m 59 #[.val (.ref hp), .val (.double (FP.i2d (kf q))), .second, .val (.int (jf q)), .val (.int (Int32.ofNat 0))] []) _
    refine own_go (fun _ kt => XS.iload Y0.1.here hx rfl (hb hby du_59) rfl kt) ?_
    show own_Seg p l e R s m args below meth c Z h0 n0 hp ka ia cells slots T0 (mkF m 61 #[.val (.ref hp), .val (.double (FP.i2d (kf q))), .second, .val (.int (jf q)), .val (.int (Int32.ofNat 0))] [(.int (Int32.ofNat 0))]) _
    refine own_go (fun _ kt => XS.ifYes Y0.1.here hx rfl (pc0 := 61) (pc' := 127) rfl (hb hby du_61) rfl (by decide) (by decide) (by decide) kt) ?_
    show own_Seg p l e R s m args below meth c Z h0 n0 hp ka ia cells slots T0 (mkF m 127 #[.val (.ref hp), .val (.double (FP.i2d (kf q))), .second, .val (.int (jf q)), .val (.int (Int32.ofNat 0))] []) _
    exact own_end Y0 ⟨rfl, 0, P, by omega, rfl, rfl, rfl, rfl⟩
  | succ f ih =>
    intro a P T0 L0 hf ha Y0
    by_cases hz : a = 0
    · subst hz
      show own_Seg p l e R s m args below meth c Z h0 n0 hp ka ia cells slots T0 (mkF m 59 #[.val (.ref hp), .val (.double (FP.i2d (kf q))), .second, .val (.int (jf q)), .val (.int (Int32.ofNat 0))] []) _
      refine own_go (fun _ kt => XS.iload Y0.1.here hx rfl (hb hby du_59) rfl kt) ?_
      show own_Seg p l e R s m args below meth c Z h0 n0 hp ka ia cells slots T0 (mkF m 61 #[.val (.ref hp), .val (.double (FP.i2d (kf q))), .second, .val (.int (jf q)), .val (.int (Int32.ofNat 0))] [(.int (Int32.ofNat 0))]) _
      refine own_go (fun _ kt => XS.ifYes Y0.1.here hx rfl (pc0 := 61) (pc' := 127) rfl (hb hby du_61) rfl (by decide) (by decide) (by decide) kt) ?_
      show own_Seg p l e R s m args below meth c Z h0 n0 hp ka ia cells slots T0 (mkF m 127 #[.val (.ref hp), .val (.double (FP.i2d (kf q))), .second, .val (.int (jf q)), .val (.int (Int32.ofNat 0))] []) _
      exact own_end Y0 ⟨rfl, 0, P, by omega, rfl, rfl, rfl, by simp [own_up]⟩
    · have hpos : 0 < a := by omega
      show own_Seg p l e R s m args below meth c Z h0 n0 hp ka ia cells slots T0 (mkF m 59 #[.val (.ref hp), .val (.double (FP.i2d (kf q))), .second, .val (.int (jf q)), .val (.int (Int32.ofNat a))] []) _
      refine own_go (fun _ kt => XS.iload Y0.1.here hx rfl (hb hby du_59) rfl kt) ?_
      show own_Seg p l e R s m args below meth c Z h0 n0 hp ka ia cells slots T0 (mkF m 61 #[.val (.ref hp), .val (.double (FP.i2d (kf q))), .second, .val (.int (jf q)), .val (.int (Int32.ofNat a))] [(.int (Int32.ofNat a))]) _
      refine own_go (fun _ kt => XS.ifNo Y0.1.here hx rfl (hb hby du_61) rfl ((if0 _ _).trans (tlt (own_pos hpos (by omega))).2.2.2) kt) ?_
      show own_Seg p l e R s m args below meth c Z h0 n0 hp ka ia cells slots T0 (mkF m 64 #[.val (.ref hp), .val (.double (FP.i2d (kf q))), .second, .val (.int (jf q)), .val (.int (Int32.ofNat a))] []) _
      refine own_go (fun _ kt => XS.aloadN Y0.1.here hx rfl (hb hby du_64) rfl rfl kt) ?_
      show own_Seg p l e R s m args below meth c Z h0 n0 hp ka ia cells slots T0 (mkF m 65 #[.val (.ref hp), .val (.double (FP.i2d (kf q))), .second, .val (.int (jf q)), .val (.int (Int32.ofNat a))] [(.ref hp)]) _
      obtain ⟨T11, Y11, st11⟩ := own_getK Y0 hx hZ hw hown (g := (mkF m 65 #[.val (.ref hp), .val (.double (FP.i2d (kf q))), .second, .val (.int (jf q)), .val (.int (Int32.ofNat a))] [(.ref hp)])) rfl rfl (hb hby du_65)
      refine own_go st11 ?_
      show own_Seg p l e R s m args below meth c Z h0 n0 hp ka ia cells slots T11 (mkF m 68 #[.val (.ref hp), .val (.double (FP.i2d (kf q))), .second, .val (.int (jf q)), .val (.int (Int32.ofNat a))] [(.ref ka)]) _
      refine own_go (fun _ kt => XS.iload Y11.1.here hx rfl (hb hby du_68) rfl kt) ?_
      show own_Seg p l e R s m args below meth c Z h0 n0 hp ka ia cells slots T11 (mkF m 70 #[.val (.ref hp), .val (.double (FP.i2d (kf q))), .second, .val (.int (jf q)), .val (.int (Int32.ofNat a))] [(.int (Int32.ofNat a)), (.ref ka)]) _
      refine own_go (fun _ kt => XS.iconst Y11.1.here hx rfl (hb hby du_70) kt) ?_
      show own_Seg p l e R s m args below meth c Z h0 n0 hp ka ia cells slots T11 (mkF m 71 #[.val (.ref hp), .val (.double (FP.i2d (kf q))), .second, .val (.int (jf q)), .val (.int (Int32.ofNat a))] [(.int (1 : Int32)), (.int (Int32.ofNat a)), (.ref ka)]) _
      refine own_go (fun _ kt => XS.isub Y11.1.here hx rfl (hb hby du_71) rfl kt) ?_
      show own_Seg p l e R s m args below meth c Z h0 n0 hp ka ia cells slots T11 (mkF m 72 #[.val (.ref hp), .val (.double (FP.i2d (kf q))), .second, .val (.int (jf q)), .val (.int (Int32.ofNat a))] [(.int ((Int32.ofNat a) - (1 : Int32))), (.ref ka)]) _
      refine own_go (fun _ kt => XS.iconst Y11.1.here hx rfl (hb hby du_72) kt) ?_
      show own_Seg p l e R s m args below meth c Z h0 n0 hp ka ia cells slots T11 (mkF m 73 #[.val (.ref hp), .val (.double (FP.i2d (kf q))), .second, .val (.int (jf q)), .val (.int (Int32.ofNat a))] [(.int (2 : Int32)), (.int ((Int32.ofNat a) - (1 : Int32))), (.ref ka)]) _
      refine own_go (fun _ kt => XS.idiv Y11.1.here hx rfl (hb hby du_73) rfl (by decide) kt) ?_
      show own_Seg p l e R s m args below meth c Z h0 n0 hp ka ia cells slots T11 (mkF m 74 #[.val (.ref hp), .val (.double (FP.i2d (kf q))), .second, .val (.int (jf q)), .val (.int (Int32.ofNat a))] [(.int (((Int32.ofNat a) - (1 : Int32)) / (2 : Int32))), (.ref ka)]) _
      rw [own_par hpos ha]
      show own_Seg p l e R s m args below meth c Z h0 n0 hp ka ia cells slots T11 (mkF m 74 #[.val (.ref hp), .val (.double (FP.i2d (kf q))), .second, .val (.int (jf q)), .val (.int (Int32.ofNat a))] [(.int (Int32.ofNat ((a - 1) / 2))), (.ref ka)]) _
      refine own_go (own_dl Y11.1 hx hZ Y11.2.1.2.2.2.2.1 (by omega) (by decide) (g := (mkF m 74 #[.val (.ref hp), .val (.double (FP.i2d (kf q))), .second, .val (.int (jf q)), .val (.int (Int32.ofNat a))] [(.int (Int32.ofNat ((a - 1) / 2))), (.ref ka)])) rfl rfl (hb hby du_74)) ?_
      show own_Seg p l e R s m args below meth c Z h0 n0 hp ka ia cells slots T11 (mkF m 75 #[.val (.ref hp), .val (.double (FP.i2d (kf q))), .second, .val (.int (jf q)), .val (.int (Int32.ofNat a))] [(.double (FP.i2d (kf (P ((a - 1) / 2)))))]) _
      refine own_go (fun _ kt => XS.dloadN Y11.1.here hx rfl (hb hby du_75) rfl kt) ?_
      show own_Seg p l e R s m args below meth c Z h0 n0 hp ka ia cells slots T11 (mkF m 76 #[.val (.ref hp), .val (.double (FP.i2d (kf q))), .second, .val (.int (jf q)), .val (.int (Int32.ofNat a))] [(.double (FP.i2d (kf q))), (.double (FP.i2d (kf (P ((a - 1) / 2)))))]) _
      refine own_go (fun _ kt => XS.dcmpS Y11.1.here hx rfl (hb hby du_76) rfl (own_cmp (kf (P ((a - 1) / 2))) (kf q) _) kt) ?_
      show own_Seg p l e R s m args below meth c Z h0 n0 hp ka ia cells slots T11 (mkF m 77 #[.val (.ref hp), .val (.double (FP.i2d (kf q))), .second, .val (.int (jf q)), .val (.int (Int32.ofNat a))] [(.int (own_c (kf (P ((a - 1) / 2))) (kf q)))]) _
      by_cases hlt : kf q < kf (P ((a - 1) / 2))
      · have eq : own_up (own_less kf) q (f + 1) P a = own_up (own_less kf) q f (own_set P a (P ((a - 1) / 2))) ((a - 1) / 2) := by
          rw [own_up]; simp [hz, own_less, hlt]
        rw [eq]
        show own_Seg p l e R s m args below meth c Z h0 n0 hp ka ia cells slots T11 (mkF m 77 #[.val (.ref hp), .val (.double (FP.i2d (kf q))), .second, .val (.int (jf q)), .val (.int (Int32.ofNat a))] [(.int (own_c (kf (P ((a - 1) / 2))) (kf q)))]) _
        refine own_go (fun _ kt => XS.ifNo Y11.1.here hx rfl (hb hby du_77) rfl (own_le_f hlt) kt) ?_
        show own_Seg p l e R s m args below meth c Z h0 n0 hp ka ia cells slots T11 (mkF m 80 #[.val (.ref hp), .val (.double (FP.i2d (kf q))), .second, .val (.int (jf q)), .val (.int (Int32.ofNat a))] []) _
        refine own_go (fun _ kt => XS.aloadN Y11.1.here hx rfl (hb hby du_80) rfl rfl kt) ?_
        show own_Seg p l e R s m args below meth c Z h0 n0 hp ka ia cells slots T11 (mkF m 81 #[.val (.ref hp), .val (.double (FP.i2d (kf q))), .second, .val (.int (jf q)), .val (.int (Int32.ofNat a))] [(.ref hp)]) _
        obtain ⟨T12, Y12, st12⟩ := own_getK Y11 hx hZ hw hown (g := (mkF m 81 #[.val (.ref hp), .val (.double (FP.i2d (kf q))), .second, .val (.int (jf q)), .val (.int (Int32.ofNat a))] [(.ref hp)])) rfl rfl (hb hby du_81)
        refine own_go st12 ?_
        show own_Seg p l e R s m args below meth c Z h0 n0 hp ka ia cells slots T12 (mkF m 84 #[.val (.ref hp), .val (.double (FP.i2d (kf q))), .second, .val (.int (jf q)), .val (.int (Int32.ofNat a))] [(.ref ka)]) _
        refine own_go (fun _ kt => XS.iload Y12.1.here hx rfl (hb hby du_84) rfl kt) ?_
        show own_Seg p l e R s m args below meth c Z h0 n0 hp ka ia cells slots T12 (mkF m 86 #[.val (.ref hp), .val (.double (FP.i2d (kf q))), .second, .val (.int (jf q)), .val (.int (Int32.ofNat a))] [(.int (Int32.ofNat a)), (.ref ka)]) _
        refine own_go (fun _ kt => XS.aloadN Y12.1.here hx rfl (hb hby du_86) rfl rfl kt) ?_
        show own_Seg p l e R s m args below meth c Z h0 n0 hp ka ia cells slots T12 (mkF m 87 #[.val (.ref hp), .val (.double (FP.i2d (kf q))), .second, .val (.int (jf q)), .val (.int (Int32.ofNat a))] [(.ref hp), (.int (Int32.ofNat a)), (.ref ka)]) _
        obtain ⟨T13, Y13, st13⟩ := own_getK Y12 hx hZ hw hown (g := (mkF m 87 #[.val (.ref hp), .val (.double (FP.i2d (kf q))), .second, .val (.int (jf q)), .val (.int (Int32.ofNat a))] [(.ref hp), (.int (Int32.ofNat a)), (.ref ka)])) rfl rfl (hb hby du_87)
        refine own_go st13 ?_
        show own_Seg p l e R s m args below meth c Z h0 n0 hp ka ia cells slots T13 (mkF m 90 #[.val (.ref hp), .val (.double (FP.i2d (kf q))), .second, .val (.int (jf q)), .val (.int (Int32.ofNat a))] [(.ref ka), (.int (Int32.ofNat a)), (.ref ka)]) _
        refine own_go (fun _ kt => XS.iload Y13.1.here hx rfl (hb hby du_90) rfl kt) ?_
        show own_Seg p l e R s m args below meth c Z h0 n0 hp ka ia cells slots T13 (mkF m 92 #[.val (.ref hp), .val (.double (FP.i2d (kf q))), .second, .val (.int (jf q)), .val (.int (Int32.ofNat a))] [(.int (Int32.ofNat a)), (.ref ka), (.int (Int32.ofNat a)), (.ref ka)]) _
        refine own_go (fun _ kt => XS.iconst Y13.1.here hx rfl (hb hby du_92) kt) ?_
        show own_Seg p l e R s m args below meth c Z h0 n0 hp ka ia cells slots T13 (mkF m 93 #[.val (.ref hp), .val (.double (FP.i2d (kf q))), .second, .val (.int (jf q)), .val (.int (Int32.ofNat a))] [(.int (1 : Int32)), (.int (Int32.ofNat a)), (.ref ka), (.int (Int32.ofNat a)), (.ref ka)]) _
        refine own_go (fun _ kt => XS.isub Y13.1.here hx rfl (hb hby du_93) rfl kt) ?_
        show own_Seg p l e R s m args below meth c Z h0 n0 hp ka ia cells slots T13 (mkF m 94 #[.val (.ref hp), .val (.double (FP.i2d (kf q))), .second, .val (.int (jf q)), .val (.int (Int32.ofNat a))] [(.int ((Int32.ofNat a) - (1 : Int32))), (.ref ka), (.int (Int32.ofNat a)), (.ref ka)]) _
        refine own_go (fun _ kt => XS.iconst Y13.1.here hx rfl (hb hby du_94) kt) ?_
        show own_Seg p l e R s m args below meth c Z h0 n0 hp ka ia cells slots T13 (mkF m 95 #[.val (.ref hp), .val (.double (FP.i2d (kf q))), .second, .val (.int (jf q)), .val (.int (Int32.ofNat a))] [(.int (2 : Int32)), (.int ((Int32.ofNat a) - (1 : Int32))), (.ref ka), (.int (Int32.ofNat a)), (.ref ka)]) _
        refine own_go (fun _ kt => XS.idiv Y13.1.here hx rfl (hb hby du_95) rfl (by decide) kt) ?_
        show own_Seg p l e R s m args below meth c Z h0 n0 hp ka ia cells slots T13 (mkF m 96 #[.val (.ref hp), .val (.double (FP.i2d (kf q))), .second, .val (.int (jf q)), .val (.int (Int32.ofNat a))] [(.int (((Int32.ofNat a) - (1 : Int32)) / (2 : Int32))), (.ref ka), (.int (Int32.ofNat a)), (.ref ka)]) _
        rw [own_par hpos ha]
        show own_Seg p l e R s m args below meth c Z h0 n0 hp ka ia cells slots T13 (mkF m 96 #[.val (.ref hp), .val (.double (FP.i2d (kf q))), .second, .val (.int (jf q)), .val (.int (Int32.ofNat a))] [(.int (Int32.ofNat ((a - 1) / 2))), (.ref ka), (.int (Int32.ofNat a)), (.ref ka)]) _
        refine own_go (own_dl Y13.1 hx hZ Y13.2.1.2.2.2.2.1 (by omega) (by decide) (g := (mkF m 96 #[.val (.ref hp), .val (.double (FP.i2d (kf q))), .second, .val (.int (jf q)), .val (.int (Int32.ofNat a))] [(.int (Int32.ofNat ((a - 1) / 2))), (.ref ka), (.int (Int32.ofNat a)), (.ref ka)])) rfl rfl (hb hby du_96)) ?_
        show own_Seg p l e R s m args below meth c Z h0 n0 hp ka ia cells slots T13 (mkF m 97 #[.val (.ref hp), .val (.double (FP.i2d (kf q))), .second, .val (.int (jf q)), .val (.int (Int32.ofNat a))] [(.double (FP.i2d (kf (P ((a - 1) / 2))))), (.int (Int32.ofNat a)), (.ref ka)]) _
        obtain ⟨T14, L14, Y14, st14⟩ := own_putK Y13 hx hZ (by omega)  (g := (mkF m 97 #[.val (.ref hp), .val (.double (FP.i2d (kf q))), .second, .val (.int (jf q)), .val (.int (Int32.ofNat a))] [(.double (FP.i2d (kf (P ((a - 1) / 2))))), (.int (Int32.ofNat a)), (.ref ka)])) rfl rfl (hb hby du_97)
        refine own_go st14 ?_
        show own_Seg p l e R s m args below meth c Z h0 n0 hp ka ia cells slots T14 (mkF m 98 #[.val (.ref hp), .val (.double (FP.i2d (kf q))), .second, .val (.int (jf q)), .val (.int (Int32.ofNat a))] []) _
        refine own_go (fun _ kt => XS.aloadN Y14.1.here hx rfl (hb hby du_98) rfl rfl kt) ?_
        show own_Seg p l e R s m args below meth c Z h0 n0 hp ka ia cells slots T14 (mkF m 99 #[.val (.ref hp), .val (.double (FP.i2d (kf q))), .second, .val (.int (jf q)), .val (.int (Int32.ofNat a))] [(.ref hp)]) _
        obtain ⟨T15, Y15, st15⟩ := own_getI Y14 hx hZ hw hown (g := (mkF m 99 #[.val (.ref hp), .val (.double (FP.i2d (kf q))), .second, .val (.int (jf q)), .val (.int (Int32.ofNat a))] [(.ref hp)])) rfl rfl (hb hby du_99)
        refine own_go st15 ?_
        show own_Seg p l e R s m args below meth c Z h0 n0 hp ka ia cells slots T15 (mkF m 102 #[.val (.ref hp), .val (.double (FP.i2d (kf q))), .second, .val (.int (jf q)), .val (.int (Int32.ofNat a))] [(.ref ia)]) _
        refine own_go (fun _ kt => XS.iload Y15.1.here hx rfl (hb hby du_102) rfl kt) ?_
        show own_Seg p l e R s m args below meth c Z h0 n0 hp ka ia cells slots T15 (mkF m 104 #[.val (.ref hp), .val (.double (FP.i2d (kf q))), .second, .val (.int (jf q)), .val (.int (Int32.ofNat a))] [(.int (Int32.ofNat a)), (.ref ia)]) _
        refine own_go (fun _ kt => XS.aloadN Y15.1.here hx rfl (hb hby du_104) rfl rfl kt) ?_
        show own_Seg p l e R s m args below meth c Z h0 n0 hp ka ia cells slots T15 (mkF m 105 #[.val (.ref hp), .val (.double (FP.i2d (kf q))), .second, .val (.int (jf q)), .val (.int (Int32.ofNat a))] [(.ref hp), (.int (Int32.ofNat a)), (.ref ia)]) _
        obtain ⟨T16, Y16, st16⟩ := own_getI Y15 hx hZ hw hown (g := (mkF m 105 #[.val (.ref hp), .val (.double (FP.i2d (kf q))), .second, .val (.int (jf q)), .val (.int (Int32.ofNat a))] [(.ref hp), (.int (Int32.ofNat a)), (.ref ia)])) rfl rfl (hb hby du_105)
        refine own_go st16 ?_
        show own_Seg p l e R s m args below meth c Z h0 n0 hp ka ia cells slots T16 (mkF m 108 #[.val (.ref hp), .val (.double (FP.i2d (kf q))), .second, .val (.int (jf q)), .val (.int (Int32.ofNat a))] [(.ref ia), (.int (Int32.ofNat a)), (.ref ia)]) _
        refine own_go (fun _ kt => XS.iload Y16.1.here hx rfl (hb hby du_108) rfl kt) ?_
        show own_Seg p l e R s m args below meth c Z h0 n0 hp ka ia cells slots T16 (mkF m 110 #[.val (.ref hp), .val (.double (FP.i2d (kf q))), .second, .val (.int (jf q)), .val (.int (Int32.ofNat a))] [(.int (Int32.ofNat a)), (.ref ia), (.int (Int32.ofNat a)), (.ref ia)]) _
        refine own_go (fun _ kt => XS.iconst Y16.1.here hx rfl (hb hby du_110) kt) ?_
        show own_Seg p l e R s m args below meth c Z h0 n0 hp ka ia cells slots T16 (mkF m 111 #[.val (.ref hp), .val (.double (FP.i2d (kf q))), .second, .val (.int (jf q)), .val (.int (Int32.ofNat a))] [(.int (1 : Int32)), (.int (Int32.ofNat a)), (.ref ia), (.int (Int32.ofNat a)), (.ref ia)]) _
        refine own_go (fun _ kt => XS.isub Y16.1.here hx rfl (hb hby du_111) rfl kt) ?_
        show own_Seg p l e R s m args below meth c Z h0 n0 hp ka ia cells slots T16 (mkF m 112 #[.val (.ref hp), .val (.double (FP.i2d (kf q))), .second, .val (.int (jf q)), .val (.int (Int32.ofNat a))] [(.int ((Int32.ofNat a) - (1 : Int32))), (.ref ia), (.int (Int32.ofNat a)), (.ref ia)]) _
        refine own_go (fun _ kt => XS.iconst Y16.1.here hx rfl (hb hby du_112) kt) ?_
        show own_Seg p l e R s m args below meth c Z h0 n0 hp ka ia cells slots T16 (mkF m 113 #[.val (.ref hp), .val (.double (FP.i2d (kf q))), .second, .val (.int (jf q)), .val (.int (Int32.ofNat a))] [(.int (2 : Int32)), (.int ((Int32.ofNat a) - (1 : Int32))), (.ref ia), (.int (Int32.ofNat a)), (.ref ia)]) _
        refine own_go (fun _ kt => XS.idiv Y16.1.here hx rfl (hb hby du_113) rfl (by decide) kt) ?_
        show own_Seg p l e R s m args below meth c Z h0 n0 hp ka ia cells slots T16 (mkF m 114 #[.val (.ref hp), .val (.double (FP.i2d (kf q))), .second, .val (.int (jf q)), .val (.int (Int32.ofNat a))] [(.int (((Int32.ofNat a) - (1 : Int32)) / (2 : Int32))), (.ref ia), (.int (Int32.ofNat a)), (.ref ia)]) _
        rw [own_par hpos ha]
        show own_Seg p l e R s m args below meth c Z h0 n0 hp ka ia cells slots T16 (mkF m 114 #[.val (.ref hp), .val (.double (FP.i2d (kf q))), .second, .val (.int (jf q)), .val (.int (Int32.ofNat a))] [(.int (Int32.ofNat ((a - 1) / 2))), (.ref ia), (.int (Int32.ofNat a)), (.ref ia)]) _
        refine own_go (own_il Y16.1 hx hZ Y16.2.1.2.2.2.2.2.1 (by omega) (by decide) (g := (mkF m 114 #[.val (.ref hp), .val (.double (FP.i2d (kf q))), .second, .val (.int (jf q)), .val (.int (Int32.ofNat a))] [(.int (Int32.ofNat ((a - 1) / 2))), (.ref ia), (.int (Int32.ofNat a)), (.ref ia)])) rfl rfl (hb hby du_114)) ?_
        show own_Seg p l e R s m args below meth c Z h0 n0 hp ka ia cells slots T16 (mkF m 115 #[.val (.ref hp), .val (.double (FP.i2d (kf q))), .second, .val (.int (jf q)), .val (.int (Int32.ofNat a))] [(.int (jf (P ((a - 1) / 2)))), (.int (Int32.ofNat a)), (.ref ia)]) _
        obtain ⟨T17, L17, Y17, st17⟩ := own_putI Y16 hx hZ (by omega)  (g := (mkF m 115 #[.val (.ref hp), .val (.double (FP.i2d (kf q))), .second, .val (.int (jf q)), .val (.int (Int32.ofNat a))] [(.int (jf (P ((a - 1) / 2)))), (.int (Int32.ofNat a)), (.ref ia)])) rfl rfl (hb hby du_115)
        refine own_go st17 ?_
        show own_Seg p l e R s m args below meth c Z h0 n0 hp ka ia cells slots T17 (mkF m 116 #[.val (.ref hp), .val (.double (FP.i2d (kf q))), .second, .val (.int (jf q)), .val (.int (Int32.ofNat a))] []) _
        refine own_go (fun _ kt => XS.iload Y17.1.here hx rfl (hb hby du_116) rfl kt) ?_
        show own_Seg p l e R s m args below meth c Z h0 n0 hp ka ia cells slots T17 (mkF m 118 #[.val (.ref hp), .val (.double (FP.i2d (kf q))), .second, .val (.int (jf q)), .val (.int (Int32.ofNat a))] [(.int (Int32.ofNat a))]) _
        refine own_go (fun _ kt => XS.iconst Y17.1.here hx rfl (hb hby du_118) kt) ?_
        show own_Seg p l e R s m args below meth c Z h0 n0 hp ka ia cells slots T17 (mkF m 119 #[.val (.ref hp), .val (.double (FP.i2d (kf q))), .second, .val (.int (jf q)), .val (.int (Int32.ofNat a))] [(.int (1 : Int32)), (.int (Int32.ofNat a))]) _
        refine own_go (fun _ kt => XS.isub Y17.1.here hx rfl (hb hby du_119) rfl kt) ?_
        show own_Seg p l e R s m args below meth c Z h0 n0 hp ka ia cells slots T17 (mkF m 120 #[.val (.ref hp), .val (.double (FP.i2d (kf q))), .second, .val (.int (jf q)), .val (.int (Int32.ofNat a))] [(.int ((Int32.ofNat a) - (1 : Int32)))]) _
        refine own_go (fun _ kt => XS.iconst Y17.1.here hx rfl (hb hby du_120) kt) ?_
        show own_Seg p l e R s m args below meth c Z h0 n0 hp ka ia cells slots T17 (mkF m 121 #[.val (.ref hp), .val (.double (FP.i2d (kf q))), .second, .val (.int (jf q)), .val (.int (Int32.ofNat a))] [(.int (2 : Int32)), (.int ((Int32.ofNat a) - (1 : Int32)))]) _
        refine own_go (fun _ kt => XS.idiv Y17.1.here hx rfl (hb hby du_121) rfl (by decide) kt) ?_
        show own_Seg p l e R s m args below meth c Z h0 n0 hp ka ia cells slots T17 (mkF m 122 #[.val (.ref hp), .val (.double (FP.i2d (kf q))), .second, .val (.int (jf q)), .val (.int (Int32.ofNat a))] [(.int (((Int32.ofNat a) - (1 : Int32)) / (2 : Int32)))]) _
        rw [own_par hpos ha]
        show own_Seg p l e R s m args below meth c Z h0 n0 hp ka ia cells slots T17 (mkF m 122 #[.val (.ref hp), .val (.double (FP.i2d (kf q))), .second, .val (.int (jf q)), .val (.int (Int32.ofNat a))] [(.int (Int32.ofNat ((a - 1) / 2)))]) _
        refine own_go (fun _ kt => XS.istore Y17.1.here hx rfl (hb hby du_122) rfl (l' := #[.val (.ref hp), .val (.double (FP.i2d (kf q))), .second, .val (.int (jf q)), .val (.int (Int32.ofNat ((a - 1) / 2)))]) rfl kt) ?_
        show own_Seg p l e R s m args below meth c Z h0 n0 hp ka ia cells slots T17 (mkF m 124 #[.val (.ref hp), .val (.double (FP.i2d (kf q))), .second, .val (.int (jf q)), .val (.int (Int32.ofNat ((a - 1) / 2)))] []) _
        refine own_go (fun _ kt => XS.goto Y17.1.here hx rfl (pc0 := 124) (pc' := 59) rfl (hb hby du_124) (by decide) (by decide) kt) ?_
        show own_Seg p l e R s m args below meth c Z h0 n0 hp ka ia cells slots T17 (mkF m 59 #[.val (.ref hp), .val (.double (FP.i2d (kf q))), .second, .val (.int (jf q)), .val (.int (Int32.ofNat ((a - 1) / 2)))] []) _
        have Y9 := Y17
        rw [own_upd_set, own_upd_set] at Y9
        exact ih ((a - 1) / 2) (own_set P a (P ((a - 1) / 2))) _ _ (by omega) (by omega) Y9
      · show own_Seg p l e R s m args below meth c Z h0 n0 hp ka ia cells slots T11 (mkF m 77 #[.val (.ref hp), .val (.double (FP.i2d (kf q))), .second, .val (.int (jf q)), .val (.int (Int32.ofNat a))] [(.int (own_c (kf (P ((a - 1) / 2))) (kf q)))]) _
        refine own_go (fun _ kt => XS.ifYes Y11.1.here hx rfl (pc0 := 77) (pc' := 127) rfl (hb hby du_77) rfl (own_le_t hlt) (by decide) (by decide) kt) ?_
        show own_Seg p l e R s m args below meth c Z h0 n0 hp ka ia cells slots T11 (mkF m 127 #[.val (.ref hp), .val (.double (FP.i2d (kf q))), .second, .val (.int (jf q)), .val (.int (Int32.ofNat a))] []) _
        exact own_end Y11 ⟨rfl, a, P, ha, rfl, rfl, rfl, by rw [own_up]; simp [hz, own_less, hlt]⟩
theorem own_ne16 {n : Nat} (h : n ≤ 14) : ¬ Int32.ofNat n = Int32.ofNat 16 := fun q => by
  have u := (own_cl (a := n) (b := 16) (by omega) (by omega)).mpr (by omega)
  rw [q] at u; exact Int32.lt_irrefl u
set_option maxRecDepth 65536 in
set_option maxHeartbeats 40000000 in
theorem own_pushAll {p : Program} {l : Launch} {e : Env} {R : Room} {s : State} {m : MethodId} {args : Array Value} {below : List Frame} {meth : Method} {c : Code} {Z : State} {a0 : Array Value} {h0 : Heap} {n0 : Nat} {hp ka ia : Addr} {cells slots : Nat} (hx : p.tables.exec = Jvm.exec) (hZ : Z.Warmed39 s.vm) (hw : ∀ d ∈ tables_1, d.before a0 Z = true) (hby : c.code = prog_19_method_3_code) (hown : s.vm.findClass "com/example/wary_checker/warychecker/check/Heap" = some m.cls) (kf jf : Nat → Int32) (q n : Nat) (hn : n ≤ 14) (P : Nat → Nat) (T0 : State) (L0 : List Loc) (Y0 : own_St p l e R s m args below meth c Z h0 n0 hp ka ia cells slots T0 L0 (Int32.ofNat n) (fun j => kf (P j)) (fun j => jf (P j))) :
      own_Seg p l e R s m args below meth c Z h0 n0 hp ka ia cells slots T0 (mkF m 0 #[.val (.ref hp), .val (.double (FP.i2d (kf q))), .second, .val (.int (jf q)), .unset] []) (fun g' n' K' I' => n' = Int32.ofNat (n + 1) ∧ (∃ Ls, g' = mkF m 143 Ls []) ∧ K' = (fun j => kf (own_up (own_less kf) q n P n j)) ∧ I' = (fun j => jf (own_up (own_less kf) q n P n j))) := by
  show own_Seg p l e R s m args below meth c Z h0 n0 hp ka ia cells slots T0 (mkF m 0 #[.val (.ref hp), .val (.double (FP.i2d (kf q))), .second, .val (.int (jf q)), .unset] []) _
  refine own_go (fun _ kt => XS.aloadN Y0.1.here hx rfl (hb hby du_0) rfl rfl kt) ?_
  show own_Seg p l e R s m args below meth c Z h0 n0 hp ka ia cells slots T0 (mkF m 1 #[.val (.ref hp), .val (.double (FP.i2d (kf q))), .second, .val (.int (jf q)), .unset] [(.ref hp)]) _
  obtain ⟨T18, Y18, st18⟩ := own_getS Y0 hx hZ hw hown (g := (mkF m 1 #[.val (.ref hp), .val (.double (FP.i2d (kf q))), .second, .val (.int (jf q)), .unset] [(.ref hp)])) rfl rfl (hb hby du_1)
  refine own_go st18 ?_
  show own_Seg p l e R s m args below meth c Z h0 n0 hp ka ia cells slots T18 (mkF m 4 #[.val (.ref hp), .val (.double (FP.i2d (kf q))), .second, .val (.int (jf q)), .unset] [(.int (Int32.ofNat n))]) _
  refine own_go (fun _ kt => XS.aloadN Y18.1.here hx rfl (hb hby du_4) rfl rfl kt) ?_
  show own_Seg p l e R s m args below meth c Z h0 n0 hp ka ia cells slots T18 (mkF m 5 #[.val (.ref hp), .val (.double (FP.i2d (kf q))), .second, .val (.int (jf q)), .unset] [(.ref hp), (.int (Int32.ofNat n))]) _
  obtain ⟨T19, Y19, st19⟩ := own_getK Y18 hx hZ hw hown (g := (mkF m 5 #[.val (.ref hp), .val (.double (FP.i2d (kf q))), .second, .val (.int (jf q)), .unset] [(.ref hp), (.int (Int32.ofNat n))])) rfl rfl (hb hby du_5)
  refine own_go st19 ?_
  show own_Seg p l e R s m args below meth c Z h0 n0 hp ka ia cells slots T19 (mkF m 8 #[.val (.ref hp), .val (.double (FP.i2d (kf q))), .second, .val (.int (jf q)), .unset] [(.ref ka), (.int (Int32.ofNat n))]) _
  refine own_go (own_al Y19.1 hx hZ Y19.2.1.2.2.2.2.1 (by decide) (g := (mkF m 8 #[.val (.ref hp), .val (.double (FP.i2d (kf q))), .second, .val (.int (jf q)), .unset] [(.ref ka), (.int (Int32.ofNat n))])) rfl rfl (hb hby du_8)) ?_
  show own_Seg p l e R s m args below meth c Z h0 n0 hp ka ia cells slots T19 (mkF m 9 #[.val (.ref hp), .val (.double (FP.i2d (kf q))), .second, .val (.int (jf q)), .unset] [(.int (Int32.ofNat 16)), (.int (Int32.ofNat n))]) _
  refine own_go (fun _ kt => XS.icmpYes Y19.1.here hx rfl (pc0 := 9) (pc' := 46) rfl (hb hby du_9) rfl (feq (own_ne16 hn)).2 (by decide) (by decide) kt) ?_
  show own_Seg p l e R s m args below meth c Z h0 n0 hp ka ia cells slots T19 (mkF m 46 #[.val (.ref hp), .val (.double (FP.i2d (kf q))), .second, .val (.int (jf q)), .unset] []) _
  refine own_go (fun _ kt => XS.aloadN Y19.1.here hx rfl (hb hby du_46) rfl rfl kt) ?_
  show own_Seg p l e R s m args below meth c Z h0 n0 hp ka ia cells slots T19 (mkF m 47 #[.val (.ref hp), .val (.double (FP.i2d (kf q))), .second, .val (.int (jf q)), .unset] [(.ref hp)]) _
  refine own_go (fun _ kt => XS.dup Y19.1.here hx rfl (hb hby du_47) rfl rfl kt) ?_
  show own_Seg p l e R s m args below meth c Z h0 n0 hp ka ia cells slots T19 (mkF m 48 #[.val (.ref hp), .val (.double (FP.i2d (kf q))), .second, .val (.int (jf q)), .unset] [(.ref hp), (.ref hp)]) _
  obtain ⟨T20, Y20, st20⟩ := own_getS Y19 hx hZ hw hown (g := (mkF m 48 #[.val (.ref hp), .val (.double (FP.i2d (kf q))), .second, .val (.int (jf q)), .unset] [(.ref hp), (.ref hp)])) rfl rfl (hb hby du_48)
  refine own_go st20 ?_
  show own_Seg p l e R s m args below meth c Z h0 n0 hp ka ia cells slots T20 (mkF m 51 #[.val (.ref hp), .val (.double (FP.i2d (kf q))), .second, .val (.int (jf q)), .unset] [(.int (Int32.ofNat n)), (.ref hp)]) _
  refine own_go (fun _ kt => XS.dupX1 Y20.1.here hx rfl (hb hby du_51) rfl rfl rfl kt) ?_
  show own_Seg p l e R s m args below meth c Z h0 n0 hp ka ia cells slots T20 (mkF m 52 #[.val (.ref hp), .val (.double (FP.i2d (kf q))), .second, .val (.int (jf q)), .unset] [(.int (Int32.ofNat n)), (.ref hp), (.int (Int32.ofNat n))]) _
  refine own_go (fun _ kt => XS.iconst Y20.1.here hx rfl (hb hby du_52) kt) ?_
  show own_Seg p l e R s m args below meth c Z h0 n0 hp ka ia cells slots T20 (mkF m 53 #[.val (.ref hp), .val (.double (FP.i2d (kf q))), .second, .val (.int (jf q)), .unset] [(.int (1 : Int32)), (.int (Int32.ofNat n)), (.ref hp), (.int (Int32.ofNat n))]) _
  refine own_go (fun _ kt => XS.iadd Y20.1.here hx rfl (hb hby du_53) rfl kt) ?_
  show own_Seg p l e R s m args below meth c Z h0 n0 hp ka ia cells slots T20 (mkF m 54 #[.val (.ref hp), .val (.double (FP.i2d (kf q))), .second, .val (.int (jf q)), .unset] [(.int ((Int32.ofNat n) + (1 : Int32))), (.ref hp), (.int (Int32.ofNat n))]) _
  rw [own_one]
  show own_Seg p l e R s m args below meth c Z h0 n0 hp ka ia cells slots T20 (mkF m 54 #[.val (.ref hp), .val (.double (FP.i2d (kf q))), .second, .val (.int (jf q)), .unset] [(.int (Int32.ofNat (n + 1))), (.ref hp), (.int (Int32.ofNat n))]) _
  obtain ⟨T21, L21, Y21, st21⟩ := own_putS Y20 hx hZ hw hown  (g := (mkF m 54 #[.val (.ref hp), .val (.double (FP.i2d (kf q))), .second, .val (.int (jf q)), .unset] [(.int (Int32.ofNat (n + 1))), (.ref hp), (.int (Int32.ofNat n))])) rfl rfl (hb hby du_54)
  refine own_go st21 ?_
  show own_Seg p l e R s m args below meth c Z h0 n0 hp ka ia cells slots T21 (mkF m 57 #[.val (.ref hp), .val (.double (FP.i2d (kf q))), .second, .val (.int (jf q)), .unset] [(.int (Int32.ofNat n))]) _
  refine own_go (fun _ kt => XS.istore Y21.1.here hx rfl (hb hby du_57) rfl (l' := #[.val (.ref hp), .val (.double (FP.i2d (kf q))), .second, .val (.int (jf q)), .val (.int (Int32.ofNat n))]) rfl kt) ?_
  show own_Seg p l e R s m args below meth c Z h0 n0 hp ka ia cells slots T21 (mkF m 59 #[.val (.ref hp), .val (.double (FP.i2d (kf q))), .second, .val (.int (jf q)), .val (.int (Int32.ofNat n))] []) _
  refine own_join (own_pushLoop hx hZ hw hby hown kf jf q (Int32.ofNat (n + 1)) n n P T21 _ (Nat.le_refl _) (by omega) Y21) ?_
  rintro T9 L9 g9 n9 K9 I9 Y9 ⟨rfl, a, P', ha, rfl, rfl, rfl, hP⟩
  rw [← hP]
  show own_Seg p l e R s m args below meth c Z h0 n0 hp ka ia cells slots T9 (mkF m 127 #[.val (.ref hp), .val (.double (FP.i2d (kf q))), .second, .val (.int (jf q)), .val (.int (Int32.ofNat a))] []) _
  refine own_go (fun _ kt => XS.aloadN Y9.1.here hx rfl (hb hby du_127) rfl rfl kt) ?_
  show own_Seg p l e R s m args below meth c Z h0 n0 hp ka ia cells slots T9 (mkF m 128 #[.val (.ref hp), .val (.double (FP.i2d (kf q))), .second, .val (.int (jf q)), .val (.int (Int32.ofNat a))] [(.ref hp)]) _
  obtain ⟨T22, Y22, st22⟩ := own_getK Y9 hx hZ hw hown (g := (mkF m 128 #[.val (.ref hp), .val (.double (FP.i2d (kf q))), .second, .val (.int (jf q)), .val (.int (Int32.ofNat a))] [(.ref hp)])) rfl rfl (hb hby du_128)
  refine own_go st22 ?_
  show own_Seg p l e R s m args below meth c Z h0 n0 hp ka ia cells slots T22 (mkF m 131 #[.val (.ref hp), .val (.double (FP.i2d (kf q))), .second, .val (.int (jf q)), .val (.int (Int32.ofNat a))] [(.ref ka)]) _
  refine own_go (fun _ kt => XS.iload Y22.1.here hx rfl (hb hby du_131) rfl kt) ?_
  show own_Seg p l e R s m args below meth c Z h0 n0 hp ka ia cells slots T22 (mkF m 133 #[.val (.ref hp), .val (.double (FP.i2d (kf q))), .second, .val (.int (jf q)), .val (.int (Int32.ofNat a))] [(.int (Int32.ofNat a)), (.ref ka)]) _
  refine own_go (fun _ kt => XS.dloadN Y22.1.here hx rfl (hb hby du_133) rfl kt) ?_
  show own_Seg p l e R s m args below meth c Z h0 n0 hp ka ia cells slots T22 (mkF m 134 #[.val (.ref hp), .val (.double (FP.i2d (kf q))), .second, .val (.int (jf q)), .val (.int (Int32.ofNat a))] [(.double (FP.i2d (kf q))), (.int (Int32.ofNat a)), (.ref ka)]) _
  obtain ⟨T23, L23, Y23, st23⟩ := own_putK Y22 hx hZ (by omega)  (g := (mkF m 134 #[.val (.ref hp), .val (.double (FP.i2d (kf q))), .second, .val (.int (jf q)), .val (.int (Int32.ofNat a))] [(.double (FP.i2d (kf q))), (.int (Int32.ofNat a)), (.ref ka)])) rfl rfl (hb hby du_134)
  refine own_go st23 ?_
  show own_Seg p l e R s m args below meth c Z h0 n0 hp ka ia cells slots T23 (mkF m 135 #[.val (.ref hp), .val (.double (FP.i2d (kf q))), .second, .val (.int (jf q)), .val (.int (Int32.ofNat a))] []) _
  refine own_go (fun _ kt => XS.aloadN Y23.1.here hx rfl (hb hby du_135) rfl rfl kt) ?_
  show own_Seg p l e R s m args below meth c Z h0 n0 hp ka ia cells slots T23 (mkF m 136 #[.val (.ref hp), .val (.double (FP.i2d (kf q))), .second, .val (.int (jf q)), .val (.int (Int32.ofNat a))] [(.ref hp)]) _
  obtain ⟨T24, Y24, st24⟩ := own_getI Y23 hx hZ hw hown (g := (mkF m 136 #[.val (.ref hp), .val (.double (FP.i2d (kf q))), .second, .val (.int (jf q)), .val (.int (Int32.ofNat a))] [(.ref hp)])) rfl rfl (hb hby du_136)
  refine own_go st24 ?_
  show own_Seg p l e R s m args below meth c Z h0 n0 hp ka ia cells slots T24 (mkF m 139 #[.val (.ref hp), .val (.double (FP.i2d (kf q))), .second, .val (.int (jf q)), .val (.int (Int32.ofNat a))] [(.ref ia)]) _
  refine own_go (fun _ kt => XS.iload Y24.1.here hx rfl (hb hby du_139) rfl kt) ?_
  show own_Seg p l e R s m args below meth c Z h0 n0 hp ka ia cells slots T24 (mkF m 141 #[.val (.ref hp), .val (.double (FP.i2d (kf q))), .second, .val (.int (jf q)), .val (.int (Int32.ofNat a))] [(.int (Int32.ofNat a)), (.ref ia)]) _
  refine own_go (fun _ kt => XS.iloadN Y24.1.here hx rfl (hb hby du_141) rfl kt) ?_
  show own_Seg p l e R s m args below meth c Z h0 n0 hp ka ia cells slots T24 (mkF m 142 #[.val (.ref hp), .val (.double (FP.i2d (kf q))), .second, .val (.int (jf q)), .val (.int (Int32.ofNat a))] [(.int (jf q)), (.int (Int32.ofNat a)), (.ref ia)]) _
  obtain ⟨T25, L25, Y25, st25⟩ := own_putI Y24 hx hZ (by omega)  (g := (mkF m 142 #[.val (.ref hp), .val (.double (FP.i2d (kf q))), .second, .val (.int (jf q)), .val (.int (Int32.ofNat a))] [(.int (jf q)), (.int (Int32.ofNat a)), (.ref ia)])) rfl rfl (hb hby du_142)
  refine own_go st25 ?_
  show own_Seg p l e R s m args below meth c Z h0 n0 hp ka ia cells slots T25 (mkF m 143 #[.val (.ref hp), .val (.double (FP.i2d (kf q))), .second, .val (.int (jf q)), .val (.int (Int32.ofNat a))] []) _
  exact own_end Y25 ⟨rfl, ⟨_, rfl⟩, own_upd_set kf P' a q, own_upd_set jf P' a q⟩
-- Heap.pop
theorem dp_0 : decode prog_19_method_5_code 0 = .ok (.aload_n 0, 1) := by decide +kernel
theorem dp_1 : decode prog_19_method_5_code 1 = .ok (.getfield 13, 3) := by decide +kernel
theorem dp_4 : decode prog_19_method_5_code 4 = .ok (.iconst 0, 1) := by decide +kernel
theorem dp_5 : decode prog_19_method_5_code 5 = .ok (.iaload, 1) := by decide +kernel
theorem dp_6 : decode prog_19_method_5_code 6 = .ok (.istore_n 1, 1) := by decide +kernel
theorem dp_7 : decode prog_19_method_5_code 7 = .ok (.aload_n 0, 1) := by decide +kernel
theorem dp_8 : decode prog_19_method_5_code 8 = .ok (.dup, 1) := by decide +kernel
theorem dp_9 : decode prog_19_method_5_code 9 = .ok (.getfield 17, 3) := by decide +kernel
theorem dp_12 : decode prog_19_method_5_code 12 = .ok (.iconst 1, 1) := by decide +kernel
theorem dp_13 : decode prog_19_method_5_code 13 = .ok (.isub, 1) := by decide +kernel
theorem dp_14 : decode prog_19_method_5_code 14 = .ok (.putfield 17, 3) := by decide +kernel
theorem dp_17 : decode prog_19_method_5_code 17 = .ok (.aload_n 0, 1) := by decide +kernel
theorem dp_18 : decode prog_19_method_5_code 18 = .ok (.getfield 7, 3) := by decide +kernel
theorem dp_21 : decode prog_19_method_5_code 21 = .ok (.aload_n 0, 1) := by decide +kernel
theorem dp_22 : decode prog_19_method_5_code 22 = .ok (.getfield 17, 3) := by decide +kernel
theorem dp_25 : decode prog_19_method_5_code 25 = .ok (.daload, 1) := by decide +kernel
theorem dp_26 : decode prog_19_method_5_code 26 = .ok (.dstore_n 2, 1) := by decide +kernel
theorem dp_27 : decode prog_19_method_5_code 27 = .ok (.aload_n 0, 1) := by decide +kernel
theorem dp_28 : decode prog_19_method_5_code 28 = .ok (.getfield 13, 3) := by decide +kernel
theorem dp_31 : decode prog_19_method_5_code 31 = .ok (.aload_n 0, 1) := by decide +kernel
theorem dp_32 : decode prog_19_method_5_code 32 = .ok (.getfield 17, 3) := by decide +kernel
theorem dp_35 : decode prog_19_method_5_code 35 = .ok (.iaload, 1) := by decide +kernel
theorem dp_36 : decode prog_19_method_5_code 36 = .ok (.istore 4, 2) := by decide +kernel
theorem dp_38 : decode prog_19_method_5_code 38 = .ok (.iconst 0, 1) := by decide +kernel
theorem dp_39 : decode prog_19_method_5_code 39 = .ok (.istore 5, 2) := by decide +kernel
theorem dp_41 : decode prog_19_method_5_code 41 = .ok (.iconst 2, 1) := by decide +kernel
theorem dp_42 : decode prog_19_method_5_code 42 = .ok (.iload 5, 2) := by decide +kernel
theorem dp_44 : decode prog_19_method_5_code 44 = .ok (.imul, 1) := by decide +kernel
theorem dp_45 : decode prog_19_method_5_code 45 = .ok (.iconst 1, 1) := by decide +kernel
theorem dp_46 : decode prog_19_method_5_code 46 = .ok (.iadd, 1) := by decide +kernel
theorem dp_47 : decode prog_19_method_5_code 47 = .ok (.aload_n 0, 1) := by decide +kernel
theorem dp_48 : decode prog_19_method_5_code 48 = .ok (.getfield 17, 3) := by decide +kernel
theorem dp_51 : decode prog_19_method_5_code 51 = .ok (.if_icmp .ge 95, 3) := by decide +kernel
theorem dp_54 : decode prog_19_method_5_code 54 = .ok (.iconst 2, 1) := by decide +kernel
theorem dp_55 : decode prog_19_method_5_code 55 = .ok (.iload 5, 2) := by decide +kernel
theorem dp_57 : decode prog_19_method_5_code 57 = .ok (.imul, 1) := by decide +kernel
theorem dp_58 : decode prog_19_method_5_code 58 = .ok (.iconst 1, 1) := by decide +kernel
theorem dp_59 : decode prog_19_method_5_code 59 = .ok (.iadd, 1) := by decide +kernel
theorem dp_60 : decode prog_19_method_5_code 60 = .ok (.istore 6, 2) := by decide +kernel
theorem dp_62 : decode prog_19_method_5_code 62 = .ok (.iload 6, 2) := by decide +kernel
theorem dp_64 : decode prog_19_method_5_code 64 = .ok (.iconst 1, 1) := by decide +kernel
theorem dp_65 : decode prog_19_method_5_code 65 = .ok (.iadd, 1) := by decide +kernel
theorem dp_66 : decode prog_19_method_5_code 66 = .ok (.aload_n 0, 1) := by decide +kernel
theorem dp_67 : decode prog_19_method_5_code 67 = .ok (.getfield 17, 3) := by decide +kernel
theorem dp_70 : decode prog_19_method_5_code 70 = .ok (.if_icmp .ge 26, 3) := by decide +kernel
theorem dp_73 : decode prog_19_method_5_code 73 = .ok (.aload_n 0, 1) := by decide +kernel
theorem dp_74 : decode prog_19_method_5_code 74 = .ok (.getfield 7, 3) := by decide +kernel
theorem dp_77 : decode prog_19_method_5_code 77 = .ok (.iload 6, 2) := by decide +kernel
theorem dp_79 : decode prog_19_method_5_code 79 = .ok (.iconst 1, 1) := by decide +kernel
theorem dp_80 : decode prog_19_method_5_code 80 = .ok (.iadd, 1) := by decide +kernel
theorem dp_81 : decode prog_19_method_5_code 81 = .ok (.daload, 1) := by decide +kernel
theorem dp_82 : decode prog_19_method_5_code 82 = .ok (.aload_n 0, 1) := by decide +kernel
theorem dp_83 : decode prog_19_method_5_code 83 = .ok (.getfield 7, 3) := by decide +kernel
theorem dp_86 : decode prog_19_method_5_code 86 = .ok (.iload 6, 2) := by decide +kernel
theorem dp_88 : decode prog_19_method_5_code 88 = .ok (.daload, 1) := by decide +kernel
theorem dp_89 : decode prog_19_method_5_code 89 = .ok (.dcmp .g, 1) := by decide +kernel
theorem dp_90 : decode prog_19_method_5_code 90 = .ok (.ifCond .ge 6, 3) := by decide +kernel
theorem dp_93 : decode prog_19_method_5_code 93 = .ok (.iinc 6 1, 3) := by decide +kernel
theorem dp_96 : decode prog_19_method_5_code 96 = .ok (.aload_n 0, 1) := by decide +kernel
theorem dp_97 : decode prog_19_method_5_code 97 = .ok (.getfield 7, 3) := by decide +kernel
theorem dp_100 : decode prog_19_method_5_code 100 = .ok (.iload 6, 2) := by decide +kernel
theorem dp_102 : decode prog_19_method_5_code 102 = .ok (.daload, 1) := by decide +kernel
theorem dp_103 : decode prog_19_method_5_code 103 = .ok (.dload_n 2, 1) := by decide +kernel
theorem dp_104 : decode prog_19_method_5_code 104 = .ok (.dcmp .l, 1) := by decide +kernel
theorem dp_105 : decode prog_19_method_5_code 105 = .ok (.ifCond .lt 6, 3) := by decide +kernel
theorem dp_108 : decode prog_19_method_5_code 108 = .ok (.goto 38, 3) := by decide +kernel
theorem dp_111 : decode prog_19_method_5_code 111 = .ok (.aload_n 0, 1) := by decide +kernel
theorem dp_112 : decode prog_19_method_5_code 112 = .ok (.getfield 7, 3) := by decide +kernel
theorem dp_115 : decode prog_19_method_5_code 115 = .ok (.iload 5, 2) := by decide +kernel
theorem dp_117 : decode prog_19_method_5_code 117 = .ok (.aload_n 0, 1) := by decide +kernel
theorem dp_118 : decode prog_19_method_5_code 118 = .ok (.getfield 7, 3) := by decide +kernel
theorem dp_121 : decode prog_19_method_5_code 121 = .ok (.iload 6, 2) := by decide +kernel
theorem dp_123 : decode prog_19_method_5_code 123 = .ok (.daload, 1) := by decide +kernel
theorem dp_124 : decode prog_19_method_5_code 124 = .ok (.dastore, 1) := by decide +kernel
theorem dp_125 : decode prog_19_method_5_code 125 = .ok (.aload_n 0, 1) := by decide +kernel
theorem dp_126 : decode prog_19_method_5_code 126 = .ok (.getfield 13, 3) := by decide +kernel
theorem dp_129 : decode prog_19_method_5_code 129 = .ok (.iload 5, 2) := by decide +kernel
theorem dp_131 : decode prog_19_method_5_code 131 = .ok (.aload_n 0, 1) := by decide +kernel
theorem dp_132 : decode prog_19_method_5_code 132 = .ok (.getfield 13, 3) := by decide +kernel
theorem dp_135 : decode prog_19_method_5_code 135 = .ok (.iload 6, 2) := by decide +kernel
theorem dp_137 : decode prog_19_method_5_code 137 = .ok (.iaload, 1) := by decide +kernel
theorem dp_138 : decode prog_19_method_5_code 138 = .ok (.iastore, 1) := by decide +kernel
theorem dp_139 : decode prog_19_method_5_code 139 = .ok (.iload 6, 2) := by decide +kernel
theorem dp_141 : decode prog_19_method_5_code 141 = .ok (.istore 5, 2) := by decide +kernel
theorem dp_143 : decode prog_19_method_5_code 143 = .ok (.goto (-102), 3) := by decide +kernel
theorem dp_146 : decode prog_19_method_5_code 146 = .ok (.aload_n 0, 1) := by decide +kernel
theorem dp_147 : decode prog_19_method_5_code 147 = .ok (.getfield 7, 3) := by decide +kernel
theorem dp_150 : decode prog_19_method_5_code 150 = .ok (.iload 5, 2) := by decide +kernel
theorem dp_152 : decode prog_19_method_5_code 152 = .ok (.dload_n 2, 1) := by decide +kernel
theorem dp_153 : decode prog_19_method_5_code 153 = .ok (.dastore, 1) := by decide +kernel
theorem dp_154 : decode prog_19_method_5_code 154 = .ok (.aload_n 0, 1) := by decide +kernel
theorem dp_155 : decode prog_19_method_5_code 155 = .ok (.getfield 13, 3) := by decide +kernel
theorem dp_158 : decode prog_19_method_5_code 158 = .ok (.iload 5, 2) := by decide +kernel
theorem dp_160 : decode prog_19_method_5_code 160 = .ok (.iload 4, 2) := by decide +kernel
theorem dp_162 : decode prog_19_method_5_code 162 = .ok (.iastore, 1) := by decide +kernel
theorem dp_163 : decode prog_19_method_5_code 163 = .ok (.iload_n 1, 1) := by decide +kernel
theorem dp_164 : decode prog_19_method_5_code 164 = .ok (.ireturn, 1) := by decide +kernel
set_option maxRecDepth 65536 in
set_option maxHeartbeats 40000000 in
theorem own_popGo {p : Program} {l : Launch} {e : Env} {R : Room} {s : State} {m : MethodId} {args : Array Value} {below : List Frame} {meth : Method} {c : Code} {Z : State} {a0 : Array Value} {h0 : Heap} {n0 : Nat} {hp ka ia : Addr} {cells slots : Nat} (hx : p.tables.exec = Jvm.exec) (hZ : Z.Warmed39 s.vm) (hw : ∀ d ∈ tables_1, d.before a0 Z = true) (hby : c.code = prog_19_method_5_code) (hown : s.vm.findClass "com/example/wary_checker/warychecker/check/Heap" = some m.cls) (kf jf : Nat → Int32) (q : Nat) (n t : Int32) (a cc : Nat) (ha : a ≤ 15) (hc : cc ≤ 15) (P : Nat → Nat) (T0 : State) (L0 : List Loc) (Y0 : own_St p l e R s m args below meth c Z h0 n0 hp ka ia cells slots T0 L0 n (fun j => kf (P j)) (fun j => jf (P j))) (hlt : kf (P cc) < kf q) :
      own_Seg p l e R s m args below meth c Z h0 n0 hp ka ia cells slots T0 (mkF m 96 #[.val (.ref hp), .val (.int t), .val (.double (FP.i2d (kf q))), .second, .val (.int (jf q)), .val (.int (Int32.ofNat a)), .val (.int (Int32.ofNat cc))] []) (fun g' n' K' I' => n' = n ∧ g' = mkF m 41 #[.val (.ref hp), .val (.int t), .val (.double (FP.i2d (kf q))), .second, .val (.int (jf q)), .val (.int (Int32.ofNat cc)), .val (.int (Int32.ofNat cc))] [] ∧ K' = (fun j => kf (own_set P a (P cc) j)) ∧ I' = (fun j => jf (own_set P a (P cc) j))) := by
  show own_Seg p l e R s m args below meth c Z h0 n0 hp ka ia cells slots T0 (mkF m 96 #[.val (.ref hp), .val (.int t), .val (.double (FP.i2d (kf q))), .second, .val (.int (jf q)), .val (.int (Int32.ofNat a)), .val (.int (Int32.ofNat cc))] []) _
  refine own_go (fun _ kt => XS.aloadN Y0.1.here hx rfl (hb hby dp_96) rfl rfl kt) ?_
  show own_Seg p l e R s m args below meth c Z h0 n0 hp ka ia cells slots T0 (mkF m 97 #[.val (.ref hp), .val (.int t), .val (.double (FP.i2d (kf q))), .second, .val (.int (jf q)), .val (.int (Int32.ofNat a)), .val (.int (Int32.ofNat cc))] [(.ref hp)]) _
  obtain ⟨T26, Y26, st26⟩ := own_getK Y0 hx hZ hw hown (g := (mkF m 97 #[.val (.ref hp), .val (.int t), .val (.double (FP.i2d (kf q))), .second, .val (.int (jf q)), .val (.int (Int32.ofNat a)), .val (.int (Int32.ofNat cc))] [(.ref hp)])) rfl rfl (hb hby dp_97)
  refine own_go st26 ?_
  show own_Seg p l e R s m args below meth c Z h0 n0 hp ka ia cells slots T26 (mkF m 100 #[.val (.ref hp), .val (.int t), .val (.double (FP.i2d (kf q))), .second, .val (.int (jf q)), .val (.int (Int32.ofNat a)), .val (.int (Int32.ofNat cc))] [(.ref ka)]) _
  refine own_go (fun _ kt => XS.iload Y26.1.here hx rfl (hb hby dp_100) rfl kt) ?_
  show own_Seg p l e R s m args below meth c Z h0 n0 hp ka ia cells slots T26 (mkF m 102 #[.val (.ref hp), .val (.int t), .val (.double (FP.i2d (kf q))), .second, .val (.int (jf q)), .val (.int (Int32.ofNat a)), .val (.int (Int32.ofNat cc))] [(.int (Int32.ofNat cc)), (.ref ka)]) _
  refine own_go (own_dl Y26.1 hx hZ Y26.2.1.2.2.2.2.1 (by omega) (by decide) (g := (mkF m 102 #[.val (.ref hp), .val (.int t), .val (.double (FP.i2d (kf q))), .second, .val (.int (jf q)), .val (.int (Int32.ofNat a)), .val (.int (Int32.ofNat cc))] [(.int (Int32.ofNat cc)), (.ref ka)])) rfl rfl (hb hby dp_102)) ?_
  show own_Seg p l e R s m args below meth c Z h0 n0 hp ka ia cells slots T26 (mkF m 103 #[.val (.ref hp), .val (.int t), .val (.double (FP.i2d (kf q))), .second, .val (.int (jf q)), .val (.int (Int32.ofNat a)), .val (.int (Int32.ofNat cc))] [(.double (FP.i2d (kf (P cc))))]) _
  refine own_go (fun _ kt => XS.dloadN Y26.1.here hx rfl (hb hby dp_103) rfl kt) ?_
  show own_Seg p l e R s m args below meth c Z h0 n0 hp ka ia cells slots T26 (mkF m 104 #[.val (.ref hp), .val (.int t), .val (.double (FP.i2d (kf q))), .second, .val (.int (jf q)), .val (.int (Int32.ofNat a)), .val (.int (Int32.ofNat cc))] [(.double (FP.i2d (kf q))), (.double (FP.i2d (kf (P cc))))]) _
  refine own_go (fun _ kt => XS.dcmpS Y26.1.here hx rfl (hb hby dp_104) rfl (own_cmp (kf (P cc)) (kf q) _) kt) ?_
  show own_Seg p l e R s m args below meth c Z h0 n0 hp ka ia cells slots T26 (mkF m 105 #[.val (.ref hp), .val (.int t), .val (.double (FP.i2d (kf q))), .second, .val (.int (jf q)), .val (.int (Int32.ofNat a)), .val (.int (Int32.ofNat cc))] [(.int (own_c (kf (P cc)) (kf q)))]) _
  refine own_go (fun _ kt => XS.ifYes Y26.1.here hx rfl (pc0 := 105) (pc' := 111) rfl (hb hby dp_105) rfl (own_lt_t hlt) (by decide) (by decide) kt) ?_
  show own_Seg p l e R s m args below meth c Z h0 n0 hp ka ia cells slots T26 (mkF m 111 #[.val (.ref hp), .val (.int t), .val (.double (FP.i2d (kf q))), .second, .val (.int (jf q)), .val (.int (Int32.ofNat a)), .val (.int (Int32.ofNat cc))] []) _
  refine own_go (fun _ kt => XS.aloadN Y26.1.here hx rfl (hb hby dp_111) rfl rfl kt) ?_
  show own_Seg p l e R s m args below meth c Z h0 n0 hp ka ia cells slots T26 (mkF m 112 #[.val (.ref hp), .val (.int t), .val (.double (FP.i2d (kf q))), .second, .val (.int (jf q)), .val (.int (Int32.ofNat a)), .val (.int (Int32.ofNat cc))] [(.ref hp)]) _
  obtain ⟨T27, Y27, st27⟩ := own_getK Y26 hx hZ hw hown (g := (mkF m 112 #[.val (.ref hp), .val (.int t), .val (.double (FP.i2d (kf q))), .second, .val (.int (jf q)), .val (.int (Int32.ofNat a)), .val (.int (Int32.ofNat cc))] [(.ref hp)])) rfl rfl (hb hby dp_112)
  refine own_go st27 ?_
  show own_Seg p l e R s m args below meth c Z h0 n0 hp ka ia cells slots T27 (mkF m 115 #[.val (.ref hp), .val (.int t), .val (.double (FP.i2d (kf q))), .second, .val (.int (jf q)), .val (.int (Int32.ofNat a)), .val (.int (Int32.ofNat cc))] [(.ref ka)]) _
  refine own_go (fun _ kt => XS.iload Y27.1.here hx rfl (hb hby dp_115) rfl kt) ?_
  show own_Seg p l e R s m args below meth c Z h0 n0 hp ka ia cells slots T27 (mkF m 117 #[.val (.ref hp), .val (.int t), .val (.double (FP.i2d (kf q))), .second, .val (.int (jf q)), .val (.int (Int32.ofNat a)), .val (.int (Int32.ofNat cc))] [(.int (Int32.ofNat a)), (.ref ka)]) _
  refine own_go (fun _ kt => XS.aloadN Y27.1.here hx rfl (hb hby dp_117) rfl rfl kt) ?_
  show own_Seg p l e R s m args below meth c Z h0 n0 hp ka ia cells slots T27 (mkF m 118 #[.val (.ref hp), .val (.int t), .val (.double (FP.i2d (kf q))), .second, .val (.int (jf q)), .val (.int (Int32.ofNat a)), .val (.int (Int32.ofNat cc))] [(.ref hp), (.int (Int32.ofNat a)), (.ref ka)]) _
  obtain ⟨T28, Y28, st28⟩ := own_getK Y27 hx hZ hw hown (g := (mkF m 118 #[.val (.ref hp), .val (.int t), .val (.double (FP.i2d (kf q))), .second, .val (.int (jf q)), .val (.int (Int32.ofNat a)), .val (.int (Int32.ofNat cc))] [(.ref hp), (.int (Int32.ofNat a)), (.ref ka)])) rfl rfl (hb hby dp_118)
  refine own_go st28 ?_
  show own_Seg p l e R s m args below meth c Z h0 n0 hp ka ia cells slots T28 (mkF m 121 #[.val (.ref hp), .val (.int t), .val (.double (FP.i2d (kf q))), .second, .val (.int (jf q)), .val (.int (Int32.ofNat a)), .val (.int (Int32.ofNat cc))] [(.ref ka), (.int (Int32.ofNat a)), (.ref ka)]) _
  refine own_go (fun _ kt => XS.iload Y28.1.here hx rfl (hb hby dp_121) rfl kt) ?_
  show own_Seg p l e R s m args below meth c Z h0 n0 hp ka ia cells slots T28 (mkF m 123 #[.val (.ref hp), .val (.int t), .val (.double (FP.i2d (kf q))), .second, .val (.int (jf q)), .val (.int (Int32.ofNat a)), .val (.int (Int32.ofNat cc))] [(.int (Int32.ofNat cc)), (.ref ka), (.int (Int32.ofNat a)), (.ref ka)]) _
  refine own_go (own_dl Y28.1 hx hZ Y28.2.1.2.2.2.2.1 (by omega) (by decide) (g := (mkF m 123 #[.val (.ref hp), .val (.int t), .val (.double (FP.i2d (kf q))), .second, .val (.int (jf q)), .val (.int (Int32.ofNat a)), .val (.int (Int32.ofNat cc))] [(.int (Int32.ofNat cc)), (.ref ka), (.int (Int32.ofNat a)), (.ref ka)])) rfl rfl (hb hby dp_123)) ?_
  show own_Seg p l e R s m args below meth c Z h0 n0 hp ka ia cells slots T28 (mkF m 124 #[.val (.ref hp), .val (.int t), .val (.double (FP.i2d (kf q))), .second, .val (.int (jf q)), .val (.int (Int32.ofNat a)), .val (.int (Int32.ofNat cc))] [(.double (FP.i2d (kf (P cc)))), (.int (Int32.ofNat a)), (.ref ka)]) _
  obtain ⟨T29, L29, Y29, st29⟩ := own_putK Y28 hx hZ (by omega)  (g := (mkF m 124 #[.val (.ref hp), .val (.int t), .val (.double (FP.i2d (kf q))), .second, .val (.int (jf q)), .val (.int (Int32.ofNat a)), .val (.int (Int32.ofNat cc))] [(.double (FP.i2d (kf (P cc)))), (.int (Int32.ofNat a)), (.ref ka)])) rfl rfl (hb hby dp_124)
  refine own_go st29 ?_
  show own_Seg p l e R s m args below meth c Z h0 n0 hp ka ia cells slots T29 (mkF m 125 #[.val (.ref hp), .val (.int t), .val (.double (FP.i2d (kf q))), .second, .val (.int (jf q)), .val (.int (Int32.ofNat a)), .val (.int (Int32.ofNat cc))] []) _
  refine own_go (fun _ kt => XS.aloadN Y29.1.here hx rfl (hb hby dp_125) rfl rfl kt) ?_
  show own_Seg p l e R s m args below meth c Z h0 n0 hp ka ia cells slots T29 (mkF m 126 #[.val (.ref hp), .val (.int t), .val (.double (FP.i2d (kf q))), .second, .val (.int (jf q)), .val (.int (Int32.ofNat a)), .val (.int (Int32.ofNat cc))] [(.ref hp)]) _
  obtain ⟨T30, Y30, st30⟩ := own_getI Y29 hx hZ hw hown (g := (mkF m 126 #[.val (.ref hp), .val (.int t), .val (.double (FP.i2d (kf q))), .second, .val (.int (jf q)), .val (.int (Int32.ofNat a)), .val (.int (Int32.ofNat cc))] [(.ref hp)])) rfl rfl (hb hby dp_126)
  refine own_go st30 ?_
  show own_Seg p l e R s m args below meth c Z h0 n0 hp ka ia cells slots T30 (mkF m 129 #[.val (.ref hp), .val (.int t), .val (.double (FP.i2d (kf q))), .second, .val (.int (jf q)), .val (.int (Int32.ofNat a)), .val (.int (Int32.ofNat cc))] [(.ref ia)]) _
  refine own_go (fun _ kt => XS.iload Y30.1.here hx rfl (hb hby dp_129) rfl kt) ?_
  show own_Seg p l e R s m args below meth c Z h0 n0 hp ka ia cells slots T30 (mkF m 131 #[.val (.ref hp), .val (.int t), .val (.double (FP.i2d (kf q))), .second, .val (.int (jf q)), .val (.int (Int32.ofNat a)), .val (.int (Int32.ofNat cc))] [(.int (Int32.ofNat a)), (.ref ia)]) _
  refine own_go (fun _ kt => XS.aloadN Y30.1.here hx rfl (hb hby dp_131) rfl rfl kt) ?_
  show own_Seg p l e R s m args below meth c Z h0 n0 hp ka ia cells slots T30 (mkF m 132 #[.val (.ref hp), .val (.int t), .val (.double (FP.i2d (kf q))), .second, .val (.int (jf q)), .val (.int (Int32.ofNat a)), .val (.int (Int32.ofNat cc))] [(.ref hp), (.int (Int32.ofNat a)), (.ref ia)]) _
  obtain ⟨T31, Y31, st31⟩ := own_getI Y30 hx hZ hw hown (g := (mkF m 132 #[.val (.ref hp), .val (.int t), .val (.double (FP.i2d (kf q))), .second, .val (.int (jf q)), .val (.int (Int32.ofNat a)), .val (.int (Int32.ofNat cc))] [(.ref hp), (.int (Int32.ofNat a)), (.ref ia)])) rfl rfl (hb hby dp_132)
  refine own_go st31 ?_
  show own_Seg p l e R s m args below meth c Z h0 n0 hp ka ia cells slots T31 (mkF m 135 #[.val (.ref hp), .val (.int t), .val (.double (FP.i2d (kf q))), .second, .val (.int (jf q)), .val (.int (Int32.ofNat a)), .val (.int (Int32.ofNat cc))] [(.ref ia), (.int (Int32.ofNat a)), (.ref ia)]) _
  refine own_go (fun _ kt => XS.iload Y31.1.here hx rfl (hb hby dp_135) rfl kt) ?_
  show own_Seg p l e R s m args below meth c Z h0 n0 hp ka ia cells slots T31 (mkF m 137 #[.val (.ref hp), .val (.int t), .val (.double (FP.i2d (kf q))), .second, .val (.int (jf q)), .val (.int (Int32.ofNat a)), .val (.int (Int32.ofNat cc))] [(.int (Int32.ofNat cc)), (.ref ia), (.int (Int32.ofNat a)), (.ref ia)]) _
  refine own_go (own_il Y31.1 hx hZ Y31.2.1.2.2.2.2.2.1 (by omega) (by decide) (g := (mkF m 137 #[.val (.ref hp), .val (.int t), .val (.double (FP.i2d (kf q))), .second, .val (.int (jf q)), .val (.int (Int32.ofNat a)), .val (.int (Int32.ofNat cc))] [(.int (Int32.ofNat cc)), (.ref ia), (.int (Int32.ofNat a)), (.ref ia)])) rfl rfl (hb hby dp_137)) ?_
  show own_Seg p l e R s m args below meth c Z h0 n0 hp ka ia cells slots T31 (mkF m 138 #[.val (.ref hp), .val (.int t), .val (.double (FP.i2d (kf q))), .second, .val (.int (jf q)), .val (.int (Int32.ofNat a)), .val (.int (Int32.ofNat cc))] [(.int (jf (P cc))), (.int (Int32.ofNat a)), (.ref ia)]) _
  obtain ⟨T32, L32, Y32, st32⟩ := own_putI Y31 hx hZ (by omega)  (g := (mkF m 138 #[.val (.ref hp), .val (.int t), .val (.double (FP.i2d (kf q))), .second, .val (.int (jf q)), .val (.int (Int32.ofNat a)), .val (.int (Int32.ofNat cc))] [(.int (jf (P cc))), (.int (Int32.ofNat a)), (.ref ia)])) rfl rfl (hb hby dp_138)
  refine own_go st32 ?_
  show own_Seg p l e R s m args below meth c Z h0 n0 hp ka ia cells slots T32 (mkF m 139 #[.val (.ref hp), .val (.int t), .val (.double (FP.i2d (kf q))), .second, .val (.int (jf q)), .val (.int (Int32.ofNat a)), .val (.int (Int32.ofNat cc))] []) _
  refine own_go (fun _ kt => XS.iload Y32.1.here hx rfl (hb hby dp_139) rfl kt) ?_
  show own_Seg p l e R s m args below meth c Z h0 n0 hp ka ia cells slots T32 (mkF m 141 #[.val (.ref hp), .val (.int t), .val (.double (FP.i2d (kf q))), .second, .val (.int (jf q)), .val (.int (Int32.ofNat a)), .val (.int (Int32.ofNat cc))] [(.int (Int32.ofNat cc))]) _
  refine own_go (fun _ kt => XS.istore Y32.1.here hx rfl (hb hby dp_141) rfl (l' := #[.val (.ref hp), .val (.int t), .val (.double (FP.i2d (kf q))), .second, .val (.int (jf q)), .val (.int (Int32.ofNat cc)), .val (.int (Int32.ofNat cc))]) rfl kt) ?_
  show own_Seg p l e R s m args below meth c Z h0 n0 hp ka ia cells slots T32 (mkF m 143 #[.val (.ref hp), .val (.int t), .val (.double (FP.i2d (kf q))), .second, .val (.int (jf q)), .val (.int (Int32.ofNat cc)), .val (.int (Int32.ofNat cc))] []) _
  refine own_go (fun _ kt => XS.goto Y32.1.here hx rfl (pc0 := 143) (pc' := 41) rfl (hb hby dp_143) (by decide) (by decide) kt) ?_
  show own_Seg p l e R s m args below meth c Z h0 n0 hp ka ia cells slots T32 (mkF m 41 #[.val (.ref hp), .val (.int t), .val (.double (FP.i2d (kf q))), .second, .val (.int (jf q)), .val (.int (Int32.ofNat cc)), .val (.int (Int32.ofNat cc))] []) _
  exact own_end Y32 ⟨rfl, rfl, own_upd_set kf P a (P cc), own_upd_set jf P a (P cc)⟩
set_option maxRecDepth 65536 in
set_option maxHeartbeats 40000000 in
theorem own_popNo {p : Program} {l : Launch} {e : Env} {R : Room} {s : State} {m : MethodId} {args : Array Value} {below : List Frame} {meth : Method} {c : Code} {Z : State} {a0 : Array Value} {h0 : Heap} {n0 : Nat} {hp ka ia : Addr} {cells slots : Nat} (hx : p.tables.exec = Jvm.exec) (hZ : Z.Warmed39 s.vm) (hw : ∀ d ∈ tables_1, d.before a0 Z = true) (hby : c.code = prog_19_method_5_code) (hown : s.vm.findClass "com/example/wary_checker/warychecker/check/Heap" = some m.cls) (kf jf : Nat → Int32) (q : Nat) (n t : Int32) (a cc : Nat) (ha : a ≤ 15) (hc : cc ≤ 15) (P : Nat → Nat) (T0 : State) (L0 : List Loc) (Y0 : own_St p l e R s m args below meth c Z h0 n0 hp ka ia cells slots T0 L0 n (fun j => kf (P j)) (fun j => jf (P j))) (hlt : ¬ kf (P cc) < kf q) :
      own_Seg p l e R s m args below meth c Z h0 n0 hp ka ia cells slots T0 (mkF m 96 #[.val (.ref hp), .val (.int t), .val (.double (FP.i2d (kf q))), .second, .val (.int (jf q)), .val (.int (Int32.ofNat a)), .val (.int (Int32.ofNat cc))] []) (fun g' n' K' I' => n' = n ∧ g' = mkF m 146 #[.val (.ref hp), .val (.int t), .val (.double (FP.i2d (kf q))), .second, .val (.int (jf q)), .val (.int (Int32.ofNat a)), .val (.int (Int32.ofNat cc))] [] ∧ K' = (fun j => kf (P j)) ∧ I' = (fun j => jf (P j))) := by
  show own_Seg p l e R s m args below meth c Z h0 n0 hp ka ia cells slots T0 (mkF m 96 #[.val (.ref hp), .val (.int t), .val (.double (FP.i2d (kf q))), .second, .val (.int (jf q)), .val (.int (Int32.ofNat a)), .val (.int (Int32.ofNat cc))] []) _
  refine own_go (fun _ kt => XS.aloadN Y0.1.here hx rfl (hb hby dp_96) rfl rfl kt) ?_
  show own_Seg p l e R s m args below meth c Z h0 n0 hp ka ia cells slots T0 (mkF m 97 #[.val (.ref hp), .val (.int t), .val (.double (FP.i2d (kf q))), .second, .val (.int (jf q)), .val (.int (Int32.ofNat a)), .val (.int (Int32.ofNat cc))] [(.ref hp)]) _
  obtain ⟨T33, Y33, st33⟩ := own_getK Y0 hx hZ hw hown (g := (mkF m 97 #[.val (.ref hp), .val (.int t), .val (.double (FP.i2d (kf q))), .second, .val (.int (jf q)), .val (.int (Int32.ofNat a)), .val (.int (Int32.ofNat cc))] [(.ref hp)])) rfl rfl (hb hby dp_97)
  refine own_go st33 ?_
  show own_Seg p l e R s m args below meth c Z h0 n0 hp ka ia cells slots T33 (mkF m 100 #[.val (.ref hp), .val (.int t), .val (.double (FP.i2d (kf q))), .second, .val (.int (jf q)), .val (.int (Int32.ofNat a)), .val (.int (Int32.ofNat cc))] [(.ref ka)]) _
  refine own_go (fun _ kt => XS.iload Y33.1.here hx rfl (hb hby dp_100) rfl kt) ?_
  show own_Seg p l e R s m args below meth c Z h0 n0 hp ka ia cells slots T33 (mkF m 102 #[.val (.ref hp), .val (.int t), .val (.double (FP.i2d (kf q))), .second, .val (.int (jf q)), .val (.int (Int32.ofNat a)), .val (.int (Int32.ofNat cc))] [(.int (Int32.ofNat cc)), (.ref ka)]) _
  refine own_go (own_dl Y33.1 hx hZ Y33.2.1.2.2.2.2.1 (by omega) (by decide) (g := (mkF m 102 #[.val (.ref hp), .val (.int t), .val (.double (FP.i2d (kf q))), .second, .val (.int (jf q)), .val (.int (Int32.ofNat a)), .val (.int (Int32.ofNat cc))] [(.int (Int32.ofNat cc)), (.ref ka)])) rfl rfl (hb hby dp_102)) ?_
  show own_Seg p l e R s m args below meth c Z h0 n0 hp ka ia cells slots T33 (mkF m 103 #[.val (.ref hp), .val (.int t), .val (.double (FP.i2d (kf q))), .second, .val (.int (jf q)), .val (.int (Int32.ofNat a)), .val (.int (Int32.ofNat cc))] [(.double (FP.i2d (kf (P cc))))]) _
  refine own_go (fun _ kt => XS.dloadN Y33.1.here hx rfl (hb hby dp_103) rfl kt) ?_
  show own_Seg p l e R s m args below meth c Z h0 n0 hp ka ia cells slots T33 (mkF m 104 #[.val (.ref hp), .val (.int t), .val (.double (FP.i2d (kf q))), .second, .val (.int (jf q)), .val (.int (Int32.ofNat a)), .val (.int (Int32.ofNat cc))] [(.double (FP.i2d (kf q))), (.double (FP.i2d (kf (P cc))))]) _
  refine own_go (fun _ kt => XS.dcmpS Y33.1.here hx rfl (hb hby dp_104) rfl (own_cmp (kf (P cc)) (kf q) _) kt) ?_
  show own_Seg p l e R s m args below meth c Z h0 n0 hp ka ia cells slots T33 (mkF m 105 #[.val (.ref hp), .val (.int t), .val (.double (FP.i2d (kf q))), .second, .val (.int (jf q)), .val (.int (Int32.ofNat a)), .val (.int (Int32.ofNat cc))] [(.int (own_c (kf (P cc)) (kf q)))]) _
  refine own_go (fun _ kt => XS.ifNo Y33.1.here hx rfl (hb hby dp_105) rfl (own_lt_f hlt) kt) ?_
  show own_Seg p l e R s m args below meth c Z h0 n0 hp ka ia cells slots T33 (mkF m 108 #[.val (.ref hp), .val (.int t), .val (.double (FP.i2d (kf q))), .second, .val (.int (jf q)), .val (.int (Int32.ofNat a)), .val (.int (Int32.ofNat cc))] []) _
  refine own_go (fun _ kt => XS.goto Y33.1.here hx rfl (pc0 := 108) (pc' := 146) rfl (hb hby dp_108) (by decide) (by decide) kt) ?_
  show own_Seg p l e R s m args below meth c Z h0 n0 hp ka ia cells slots T33 (mkF m 146 #[.val (.ref hp), .val (.int t), .val (.double (FP.i2d (kf q))), .second, .val (.int (jf q)), .val (.int (Int32.ofNat a)), .val (.int (Int32.ofNat cc))] []) _
  exact own_end Y33 ⟨rfl, rfl, rfl, rfl⟩
theorem own_os6 {s0 s1 s2 s4 s5 s6 : Slot} {v0 v1 v2 v4 v5 : Value} {v : Int32} (h : One s6) : storeLocals #[.val v0, .val v1, .val v2, .second, .val v4, .val v5, s6] 6 (.int v) = some #[.val v0, .val v1, .val v2, .second, .val v4, .val v5, .val (.int v)] := by
  rcases h with rfl | ⟨w, rfl, hw⟩
  · rfl
  · cases w <;> first | rfl | (simp [Value.category] at hw)
set_option maxRecDepth 65536 in
set_option maxHeartbeats 40000000 in
theorem own_popLoop {p : Program} {l : Launch} {e : Env} {R : Room} {s : State} {m : MethodId} {args : Array Value} {below : List Frame} {meth : Method} {c : Code} {Z : State} {a0 : Array Value} {h0 : Heap} {n0 : Nat} {hp ka ia : Addr} {cells slots : Nat} (hx : p.tables.exec = Jvm.exec) (hZ : Z.Warmed39 s.vm) (hw : ∀ d ∈ tables_1, d.before a0 Z = true) (hby : c.code = prog_19_method_5_code) (hown : s.vm.findClass "com/example/wary_checker/warychecker/check/Heap" = some m.cls) (kf jf : Nat → Int32) (q n : Nat) (hn : n ≤ 15) (t : Int32) :
    ∀ (f a : Nat) (P : Nat → Nat) (T0 : State) (L0 : List Loc) (s6 : Slot), One s6 → n ≤ 2 * a + 1 + f → a ≤ 15 → own_St p l e R s m args below meth c Z h0 n0 hp ka ia cells slots T0 L0 (Int32.ofNat n) (fun j => kf (P j)) (fun j => jf (P j)) →
      own_Seg p l e R s m args below meth c Z h0 n0 hp ka ia cells slots T0 (mkF m 41 #[.val (.ref hp), .val (.int t), .val (.double (FP.i2d (kf q))), .second, .val (.int (jf q)), .val (.int (Int32.ofNat a)), s6] []) (fun g' n' K' I' => n' = Int32.ofNat n ∧ ∃ (a' : Nat) (P' : Nat → Nat) (s' : Slot), a' ≤ 15 ∧ g' = mkF m 146 #[.val (.ref hp), .val (.int t), .val (.double (FP.i2d (kf q))), .second, .val (.int (jf q)), .val (.int (Int32.ofNat a')), s'] [] ∧ K' = (fun j => kf (P' j)) ∧ I' = (fun j => jf (P' j)) ∧ own_set P' a' q = own_dn (own_less kf) q n f P a) := by
  intro f
  induction f with
  | zero =>
    intro a P T0 L0 s6 hs6 hf ha Y0
    have h1 : ¬ 2 * a + 1 < n := by omega
    show own_Seg p l e R s m args below meth c Z h0 n0 hp ka ia cells slots T0 (mkF m 41 #[.val (.ref hp), .val (.int t), .val (.double (FP.i2d (kf q))), .second, .val (.int (jf q)), .val (.int (Int32.ofNat a)), s6] []) _
    refine own_go (fun _ kt => XS.iconst Y0.1.here hx rfl (hb hby dp_41) kt) ?_
    show own_Seg p l e R s m args below meth c Z h0 n0 hp ka ia cells slots T0 (mkF m 42 #[.val (.ref hp), .val (.int t), .val (.double (FP.i2d (kf q))), .second, .val (.int (jf q)), .val (.int (Int32.ofNat a)), s6] [(.int (2 : Int32))]) _
    refine own_go (fun _ kt => XS.iload Y0.1.here hx rfl (hb hby dp_42) rfl kt) ?_
    show own_Seg p l e R s m args below meth c Z h0 n0 hp ka ia cells slots T0 (mkF m 44 #[.val (.ref hp), .val (.int t), .val (.double (FP.i2d (kf q))), .second, .val (.int (jf q)), .val (.int (Int32.ofNat a)), s6] [(.int (Int32.ofNat a)), (.int (2 : Int32))]) _
    refine own_go (fun _ kt => XS.imul Y0.1.here hx rfl (hb hby dp_44) rfl kt) ?_
    show own_Seg p l e R s m args below meth c Z h0 n0 hp ka ia cells slots T0 (mkF m 45 #[.val (.ref hp), .val (.int t), .val (.double (FP.i2d (kf q))), .second, .val (.int (jf q)), .val (.int (Int32.ofNat a)), s6] [(.int ((2 : Int32) * (Int32.ofNat a)))]) _
    refine own_go (fun _ kt => XS.iconst Y0.1.here hx rfl (hb hby dp_45) kt) ?_
    show own_Seg p l e R s m args below meth c Z h0 n0 hp ka ia cells slots T0 (mkF m 46 #[.val (.ref hp), .val (.int t), .val (.double (FP.i2d (kf q))), .second, .val (.int (jf q)), .val (.int (Int32.ofNat a)), s6] [(.int (1 : Int32)), (.int ((2 : Int32) * (Int32.ofNat a)))]) _
    refine own_go (fun _ kt => XS.iadd Y0.1.here hx rfl (hb hby dp_46) rfl kt) ?_
    show own_Seg p l e R s m args below meth c Z h0 n0 hp ka ia cells slots T0 (mkF m 47 #[.val (.ref hp), .val (.int t), .val (.double (FP.i2d (kf q))), .second, .val (.int (jf q)), .val (.int (Int32.ofNat a)), s6] [(.int (((2 : Int32) * (Int32.ofNat a)) + (1 : Int32)))]) _
    rw [own_kid ha]
    show own_Seg p l e R s m args below meth c Z h0 n0 hp ka ia cells slots T0 (mkF m 47 #[.val (.ref hp), .val (.int t), .val (.double (FP.i2d (kf q))), .second, .val (.int (jf q)), .val (.int (Int32.ofNat a)), s6] [(.int (Int32.ofNat (2 * a + 1)))]) _
    refine own_go (fun _ kt => XS.aloadN Y0.1.here hx rfl (hb hby dp_47) rfl rfl kt) ?_
    show own_Seg p l e R s m args below meth c Z h0 n0 hp ka ia cells slots T0 (mkF m 48 #[.val (.ref hp), .val (.int t), .val (.double (FP.i2d (kf q))), .second, .val (.int (jf q)), .val (.int (Int32.ofNat a)), s6] [(.ref hp), (.int (Int32.ofNat (2 * a + 1)))]) _
    obtain ⟨T34, Y34, st34⟩ := own_getS Y0 hx hZ hw hown (g := (mkF m 48 #[.val (.ref hp), .val (.int t), .val (.double (FP.i2d (kf q))), .second, .val (.int (jf q)), .val (.int (Int32.ofNat a)), s6] [(.ref hp), (.int (Int32.ofNat (2 * a + 1)))])) rfl rfl (hb hby dp_48)
    refine own_go st34 ?_
    show own_Seg p l e R s m args below meth c Z h0 n0 hp ka ia cells slots T34 (mkF m 51 #[.val (.ref hp), .val (.int t), .val (.double (FP.i2d (kf q))), .second, .val (.int (jf q)), .val (.int (Int32.ofNat a)), s6] [(.int (Int32.ofNat n)), (.int (Int32.ofNat (2 * a + 1)))]) _
    refine own_go (fun _ kt => XS.icmpYes Y34.1.here hx rfl (pc0 := 51) (pc' := 146) rfl (hb hby dp_51) rfl (flt (fun z => h1 ((own_cl (by omega) (by omega)).mp z))).2.1 (by decide) (by decide) kt) ?_
    show own_Seg p l e R s m args below meth c Z h0 n0 hp ka ia cells slots T34 (mkF m 146 #[.val (.ref hp), .val (.int t), .val (.double (FP.i2d (kf q))), .second, .val (.int (jf q)), .val (.int (Int32.ofNat a)), s6] []) _
    exact own_end Y34 ⟨rfl, a, P, s6, ha, rfl, rfl, rfl, rfl⟩
  | succ f ih =>
    intro a P T0 L0 s6 hs6 hf ha Y0
    by_cases h1 : 2 * a + 1 < n
    · show own_Seg p l e R s m args below meth c Z h0 n0 hp ka ia cells slots T0 (mkF m 41 #[.val (.ref hp), .val (.int t), .val (.double (FP.i2d (kf q))), .second, .val (.int (jf q)), .val (.int (Int32.ofNat a)), s6] []) _
      show own_Seg p l e R s m args below meth c Z h0 n0 hp ka ia cells slots T0 (mkF m 41 #[.val (.ref hp), .val (.int t), .val (.double (FP.i2d (kf q))), .second, .val (.int (jf q)), .val (.int (Int32.ofNat a)), s6] []) _
      refine own_go (fun _ kt => XS.iconst Y0.1.here hx rfl (hb hby dp_41) kt) ?_
      show own_Seg p l e R s m args below meth c Z h0 n0 hp ka ia cells slots T0 (mkF m 42 #[.val (.ref hp), .val (.int t), .val (.double (FP.i2d (kf q))), .second, .val (.int (jf q)), .val (.int (Int32.ofNat a)), s6] [(.int (2 : Int32))]) _
      refine own_go (fun _ kt => XS.iload Y0.1.here hx rfl (hb hby dp_42) rfl kt) ?_
      show own_Seg p l e R s m args below meth c Z h0 n0 hp ka ia cells slots T0 (mkF m 44 #[.val (.ref hp), .val (.int t), .val (.double (FP.i2d (kf q))), .second, .val (.int (jf q)), .val (.int (Int32.ofNat a)), s6] [(.int (Int32.ofNat a)), (.int (2 : Int32))]) _
      refine own_go (fun _ kt => XS.imul Y0.1.here hx rfl (hb hby dp_44) rfl kt) ?_
      show own_Seg p l e R s m args below meth c Z h0 n0 hp ka ia cells slots T0 (mkF m 45 #[.val (.ref hp), .val (.int t), .val (.double (FP.i2d (kf q))), .second, .val (.int (jf q)), .val (.int (Int32.ofNat a)), s6] [(.int ((2 : Int32) * (Int32.ofNat a)))]) _
      refine own_go (fun _ kt => XS.iconst Y0.1.here hx rfl (hb hby dp_45) kt) ?_
      show own_Seg p l e R s m args below meth c Z h0 n0 hp ka ia cells slots T0 (mkF m 46 #[.val (.ref hp), .val (.int t), .val (.double (FP.i2d (kf q))), .second, .val (.int (jf q)), .val (.int (Int32.ofNat a)), s6] [(.int (1 : Int32)), (.int ((2 : Int32) * (Int32.ofNat a)))]) _
      refine own_go (fun _ kt => XS.iadd Y0.1.here hx rfl (hb hby dp_46) rfl kt) ?_
      show own_Seg p l e R s m args below meth c Z h0 n0 hp ka ia cells slots T0 (mkF m 47 #[.val (.ref hp), .val (.int t), .val (.double (FP.i2d (kf q))), .second, .val (.int (jf q)), .val (.int (Int32.ofNat a)), s6] [(.int (((2 : Int32) * (Int32.ofNat a)) + (1 : Int32)))]) _
      rw [own_kid ha]
      show own_Seg p l e R s m args below meth c Z h0 n0 hp ka ia cells slots T0 (mkF m 47 #[.val (.ref hp), .val (.int t), .val (.double (FP.i2d (kf q))), .second, .val (.int (jf q)), .val (.int (Int32.ofNat a)), s6] [(.int (Int32.ofNat (2 * a + 1)))]) _
      refine own_go (fun _ kt => XS.aloadN Y0.1.here hx rfl (hb hby dp_47) rfl rfl kt) ?_
      show own_Seg p l e R s m args below meth c Z h0 n0 hp ka ia cells slots T0 (mkF m 48 #[.val (.ref hp), .val (.int t), .val (.double (FP.i2d (kf q))), .second, .val (.int (jf q)), .val (.int (Int32.ofNat a)), s6] [(.ref hp), (.int (Int32.ofNat (2 * a + 1)))]) _
      obtain ⟨T35, Y35, st35⟩ := own_getS Y0 hx hZ hw hown (g := (mkF m 48 #[.val (.ref hp), .val (.int t), .val (.double (FP.i2d (kf q))), .second, .val (.int (jf q)), .val (.int (Int32.ofNat a)), s6] [(.ref hp), (.int (Int32.ofNat (2 * a + 1)))])) rfl rfl (hb hby dp_48)
      refine own_go st35 ?_
      show own_Seg p l e R s m args below meth c Z h0 n0 hp ka ia cells slots T35 (mkF m 51 #[.val (.ref hp), .val (.int t), .val (.double (FP.i2d (kf q))), .second, .val (.int (jf q)), .val (.int (Int32.ofNat a)), s6] [(.int (Int32.ofNat n)), (.int (Int32.ofNat (2 * a + 1)))]) _
      refine own_go (fun _ kt => XS.icmpNo Y35.1.here hx rfl (hb hby dp_51) rfl (tlt ((own_cl (by omega) (by omega)).mpr h1)).2.1 kt) ?_
      show own_Seg p l e R s m args below meth c Z h0 n0 hp ka ia cells slots T35 (mkF m 54 #[.val (.ref hp), .val (.int t), .val (.double (FP.i2d (kf q))), .second, .val (.int (jf q)), .val (.int (Int32.ofNat a)), s6] []) _
      refine own_go (fun _ kt => XS.iconst Y35.1.here hx rfl (hb hby dp_54) kt) ?_
      show own_Seg p l e R s m args below meth c Z h0 n0 hp ka ia cells slots T35 (mkF m 55 #[.val (.ref hp), .val (.int t), .val (.double (FP.i2d (kf q))), .second, .val (.int (jf q)), .val (.int (Int32.ofNat a)), s6] [(.int (2 : Int32))]) _
      refine own_go (fun _ kt => XS.iload Y35.1.here hx rfl (hb hby dp_55) rfl kt) ?_
      show own_Seg p l e R s m args below meth c Z h0 n0 hp ka ia cells slots T35 (mkF m 57 #[.val (.ref hp), .val (.int t), .val (.double (FP.i2d (kf q))), .second, .val (.int (jf q)), .val (.int (Int32.ofNat a)), s6] [(.int (Int32.ofNat a)), (.int (2 : Int32))]) _
      refine own_go (fun _ kt => XS.imul Y35.1.here hx rfl (hb hby dp_57) rfl kt) ?_
      show own_Seg p l e R s m args below meth c Z h0 n0 hp ka ia cells slots T35 (mkF m 58 #[.val (.ref hp), .val (.int t), .val (.double (FP.i2d (kf q))), .second, .val (.int (jf q)), .val (.int (Int32.ofNat a)), s6] [(.int ((2 : Int32) * (Int32.ofNat a)))]) _
      refine own_go (fun _ kt => XS.iconst Y35.1.here hx rfl (hb hby dp_58) kt) ?_
      show own_Seg p l e R s m args below meth c Z h0 n0 hp ka ia cells slots T35 (mkF m 59 #[.val (.ref hp), .val (.int t), .val (.double (FP.i2d (kf q))), .second, .val (.int (jf q)), .val (.int (Int32.ofNat a)), s6] [(.int (1 : Int32)), (.int ((2 : Int32) * (Int32.ofNat a)))]) _
      refine own_go (fun _ kt => XS.iadd Y35.1.here hx rfl (hb hby dp_59) rfl kt) ?_
      show own_Seg p l e R s m args below meth c Z h0 n0 hp ka ia cells slots T35 (mkF m 60 #[.val (.ref hp), .val (.int t), .val (.double (FP.i2d (kf q))), .second, .val (.int (jf q)), .val (.int (Int32.ofNat a)), s6] [(.int (((2 : Int32) * (Int32.ofNat a)) + (1 : Int32)))]) _
      rw [own_kid ha]
      show own_Seg p l e R s m args below meth c Z h0 n0 hp ka ia cells slots T35 (mkF m 60 #[.val (.ref hp), .val (.int t), .val (.double (FP.i2d (kf q))), .second, .val (.int (jf q)), .val (.int (Int32.ofNat a)), s6] [(.int (Int32.ofNat (2 * a + 1)))]) _
      refine own_go (fun _ kt => XS.istore Y35.1.here hx rfl (hb hby dp_60) rfl (l' := #[.val (.ref hp), .val (.int t), .val (.double (FP.i2d (kf q))), .second, .val (.int (jf q)), .val (.int (Int32.ofNat a)), .val (.int (Int32.ofNat (2 * a + 1)))]) (own_os6 (s0 := .unset) (s1 := .unset) (s2 := .unset) (s4 := .unset) (s5 := .unset) hs6) kt) ?_
      show own_Seg p l e R s m args below meth c Z h0 n0 hp ka ia cells slots T35 (mkF m 62 #[.val (.ref hp), .val (.int t), .val (.double (FP.i2d (kf q))), .second, .val (.int (jf q)), .val (.int (Int32.ofNat a)), .val (.int (Int32.ofNat (2 * a + 1)))] []) _
      refine own_go (fun _ kt => XS.iload Y35.1.here hx rfl (hb hby dp_62) rfl kt) ?_
      show own_Seg p l e R s m args below meth c Z h0 n0 hp ka ia cells slots T35 (mkF m 64 #[.val (.ref hp), .val (.int t), .val (.double (FP.i2d (kf q))), .second, .val (.int (jf q)), .val (.int (Int32.ofNat a)), .val (.int (Int32.ofNat (2 * a + 1)))] [(.int (Int32.ofNat (2 * a + 1)))]) _
      refine own_go (fun _ kt => XS.iconst Y35.1.here hx rfl (hb hby dp_64) kt) ?_
      show own_Seg p l e R s m args below meth c Z h0 n0 hp ka ia cells slots T35 (mkF m 65 #[.val (.ref hp), .val (.int t), .val (.double (FP.i2d (kf q))), .second, .val (.int (jf q)), .val (.int (Int32.ofNat a)), .val (.int (Int32.ofNat (2 * a + 1)))] [(.int (1 : Int32)), (.int (Int32.ofNat (2 * a + 1)))]) _
      refine own_go (fun _ kt => XS.iadd Y35.1.here hx rfl (hb hby dp_65) rfl kt) ?_
      show own_Seg p l e R s m args below meth c Z h0 n0 hp ka ia cells slots T35 (mkF m 66 #[.val (.ref hp), .val (.int t), .val (.double (FP.i2d (kf q))), .second, .val (.int (jf q)), .val (.int (Int32.ofNat a)), .val (.int (Int32.ofNat (2 * a + 1)))] [(.int ((Int32.ofNat (2 * a + 1)) + (1 : Int32)))]) _
      rw [own_one (2 * a + 1)]
      show own_Seg p l e R s m args below meth c Z h0 n0 hp ka ia cells slots T35 (mkF m 66 #[.val (.ref hp), .val (.int t), .val (.double (FP.i2d (kf q))), .second, .val (.int (jf q)), .val (.int (Int32.ofNat a)), .val (.int (Int32.ofNat (2 * a + 1)))] [(.int (Int32.ofNat (2 * a + 2)))]) _
      refine own_go (fun _ kt => XS.aloadN Y35.1.here hx rfl (hb hby dp_66) rfl rfl kt) ?_
      show own_Seg p l e R s m args below meth c Z h0 n0 hp ka ia cells slots T35 (mkF m 67 #[.val (.ref hp), .val (.int t), .val (.double (FP.i2d (kf q))), .second, .val (.int (jf q)), .val (.int (Int32.ofNat a)), .val (.int (Int32.ofNat (2 * a + 1)))] [(.ref hp), (.int (Int32.ofNat (2 * a + 2)))]) _
      obtain ⟨T36, Y36, st36⟩ := own_getS Y35 hx hZ hw hown (g := (mkF m 67 #[.val (.ref hp), .val (.int t), .val (.double (FP.i2d (kf q))), .second, .val (.int (jf q)), .val (.int (Int32.ofNat a)), .val (.int (Int32.ofNat (2 * a + 1)))] [(.ref hp), (.int (Int32.ofNat (2 * a + 2)))])) rfl rfl (hb hby dp_67)
      refine own_go st36 ?_
      show own_Seg p l e R s m args below meth c Z h0 n0 hp ka ia cells slots T36 (mkF m 70 #[.val (.ref hp), .val (.int t), .val (.double (FP.i2d (kf q))), .second, .val (.int (jf q)), .val (.int (Int32.ofNat a)), .val (.int (Int32.ofNat (2 * a + 1)))] [(.int (Int32.ofNat n)), (.int (Int32.ofNat (2 * a + 2)))]) _
      by_cases h2 : 2 * a + 2 < n
      · show own_Seg p l e R s m args below meth c Z h0 n0 hp ka ia cells slots T36 (mkF m 70 #[.val (.ref hp), .val (.int t), .val (.double (FP.i2d (kf q))), .second, .val (.int (jf q)), .val (.int (Int32.ofNat a)), .val (.int (Int32.ofNat (2 * a + 1)))] [(.int (Int32.ofNat n)), (.int (Int32.ofNat (2 * a + 2)))]) _
        refine own_go (fun _ kt => XS.icmpNo Y36.1.here hx rfl (hb hby dp_70) rfl (tlt ((own_cl (by omega) (by omega)).mpr h2)).2.1 kt) ?_
        show own_Seg p l e R s m args below meth c Z h0 n0 hp ka ia cells slots T36 (mkF m 73 #[.val (.ref hp), .val (.int t), .val (.double (FP.i2d (kf q))), .second, .val (.int (jf q)), .val (.int (Int32.ofNat a)), .val (.int (Int32.ofNat (2 * a + 1)))] []) _
        refine own_go (fun _ kt => XS.aloadN Y36.1.here hx rfl (hb hby dp_73) rfl rfl kt) ?_
        show own_Seg p l e R s m args below meth c Z h0 n0 hp ka ia cells slots T36 (mkF m 74 #[.val (.ref hp), .val (.int t), .val (.double (FP.i2d (kf q))), .second, .val (.int (jf q)), .val (.int (Int32.ofNat a)), .val (.int (Int32.ofNat (2 * a + 1)))] [(.ref hp)]) _
        obtain ⟨T37, Y37, st37⟩ := own_getK Y36 hx hZ hw hown (g := (mkF m 74 #[.val (.ref hp), .val (.int t), .val (.double (FP.i2d (kf q))), .second, .val (.int (jf q)), .val (.int (Int32.ofNat a)), .val (.int (Int32.ofNat (2 * a + 1)))] [(.ref hp)])) rfl rfl (hb hby dp_74)
        refine own_go st37 ?_
        show own_Seg p l e R s m args below meth c Z h0 n0 hp ka ia cells slots T37 (mkF m 77 #[.val (.ref hp), .val (.int t), .val (.double (FP.i2d (kf q))), .second, .val (.int (jf q)), .val (.int (Int32.ofNat a)), .val (.int (Int32.ofNat (2 * a + 1)))] [(.ref ka)]) _
        refine own_go (fun _ kt => XS.iload Y37.1.here hx rfl (hb hby dp_77) rfl kt) ?_
        show own_Seg p l e R s m args below meth c Z h0 n0 hp ka ia cells slots T37 (mkF m 79 #[.val (.ref hp), .val (.int t), .val (.double (FP.i2d (kf q))), .second, .val (.int (jf q)), .val (.int (Int32.ofNat a)), .val (.int (Int32.ofNat (2 * a + 1)))] [(.int (Int32.ofNat (2 * a + 1))), (.ref ka)]) _
        refine own_go (fun _ kt => XS.iconst Y37.1.here hx rfl (hb hby dp_79) kt) ?_
        show own_Seg p l e R s m args below meth c Z h0 n0 hp ka ia cells slots T37 (mkF m 80 #[.val (.ref hp), .val (.int t), .val (.double (FP.i2d (kf q))), .second, .val (.int (jf q)), .val (.int (Int32.ofNat a)), .val (.int (Int32.ofNat (2 * a + 1)))] [(.int (1 : Int32)), (.int (Int32.ofNat (2 * a + 1))), (.ref ka)]) _
        refine own_go (fun _ kt => XS.iadd Y37.1.here hx rfl (hb hby dp_80) rfl kt) ?_
        show own_Seg p l e R s m args below meth c Z h0 n0 hp ka ia cells slots T37 (mkF m 81 #[.val (.ref hp), .val (.int t), .val (.double (FP.i2d (kf q))), .second, .val (.int (jf q)), .val (.int (Int32.ofNat a)), .val (.int (Int32.ofNat (2 * a + 1)))] [(.int ((Int32.ofNat (2 * a + 1)) + (1 : Int32))), (.ref ka)]) _
        rw [own_one (2 * a + 1)]
        show own_Seg p l e R s m args below meth c Z h0 n0 hp ka ia cells slots T37 (mkF m 81 #[.val (.ref hp), .val (.int t), .val (.double (FP.i2d (kf q))), .second, .val (.int (jf q)), .val (.int (Int32.ofNat a)), .val (.int (Int32.ofNat (2 * a + 1)))] [(.int (Int32.ofNat (2 * a + 2))), (.ref ka)]) _
        refine own_go (own_dl Y37.1 hx hZ Y37.2.1.2.2.2.2.1 (by omega) (by decide) (g := (mkF m 81 #[.val (.ref hp), .val (.int t), .val (.double (FP.i2d (kf q))), .second, .val (.int (jf q)), .val (.int (Int32.ofNat a)), .val (.int (Int32.ofNat (2 * a + 1)))] [(.int (Int32.ofNat (2 * a + 2))), (.ref ka)])) rfl rfl (hb hby dp_81)) ?_
        show own_Seg p l e R s m args below meth c Z h0 n0 hp ka ia cells slots T37 (mkF m 82 #[.val (.ref hp), .val (.int t), .val (.double (FP.i2d (kf q))), .second, .val (.int (jf q)), .val (.int (Int32.ofNat a)), .val (.int (Int32.ofNat (2 * a + 1)))] [(.double (FP.i2d (kf (P (2 * a + 2)))))]) _
        refine own_go (fun _ kt => XS.aloadN Y37.1.here hx rfl (hb hby dp_82) rfl rfl kt) ?_
        show own_Seg p l e R s m args below meth c Z h0 n0 hp ka ia cells slots T37 (mkF m 83 #[.val (.ref hp), .val (.int t), .val (.double (FP.i2d (kf q))), .second, .val (.int (jf q)), .val (.int (Int32.ofNat a)), .val (.int (Int32.ofNat (2 * a + 1)))] [(.ref hp), (.double (FP.i2d (kf (P (2 * a + 2)))))]) _
        obtain ⟨T38, Y38, st38⟩ := own_getK Y37 hx hZ hw hown (g := (mkF m 83 #[.val (.ref hp), .val (.int t), .val (.double (FP.i2d (kf q))), .second, .val (.int (jf q)), .val (.int (Int32.ofNat a)), .val (.int (Int32.ofNat (2 * a + 1)))] [(.ref hp), (.double (FP.i2d (kf (P (2 * a + 2)))))])) rfl rfl (hb hby dp_83)
        refine own_go st38 ?_
        show own_Seg p l e R s m args below meth c Z h0 n0 hp ka ia cells slots T38 (mkF m 86 #[.val (.ref hp), .val (.int t), .val (.double (FP.i2d (kf q))), .second, .val (.int (jf q)), .val (.int (Int32.ofNat a)), .val (.int (Int32.ofNat (2 * a + 1)))] [(.ref ka), (.double (FP.i2d (kf (P (2 * a + 2)))))]) _
        refine own_go (fun _ kt => XS.iload Y38.1.here hx rfl (hb hby dp_86) rfl kt) ?_
        show own_Seg p l e R s m args below meth c Z h0 n0 hp ka ia cells slots T38 (mkF m 88 #[.val (.ref hp), .val (.int t), .val (.double (FP.i2d (kf q))), .second, .val (.int (jf q)), .val (.int (Int32.ofNat a)), .val (.int (Int32.ofNat (2 * a + 1)))] [(.int (Int32.ofNat (2 * a + 1))), (.ref ka), (.double (FP.i2d (kf (P (2 * a + 2)))))]) _
        refine own_go (own_dl Y38.1 hx hZ Y38.2.1.2.2.2.2.1 (by omega) (by decide) (g := (mkF m 88 #[.val (.ref hp), .val (.int t), .val (.double (FP.i2d (kf q))), .second, .val (.int (jf q)), .val (.int (Int32.ofNat a)), .val (.int (Int32.ofNat (2 * a + 1)))] [(.int (Int32.ofNat (2 * a + 1))), (.ref ka), (.double (FP.i2d (kf (P (2 * a + 2)))))])) rfl rfl (hb hby dp_88)) ?_
        show own_Seg p l e R s m args below meth c Z h0 n0 hp ka ia cells slots T38 (mkF m 89 #[.val (.ref hp), .val (.int t), .val (.double (FP.i2d (kf q))), .second, .val (.int (jf q)), .val (.int (Int32.ofNat a)), .val (.int (Int32.ofNat (2 * a + 1)))] [(.double (FP.i2d (kf (P (2 * a + 1))))), (.double (FP.i2d (kf (P (2 * a + 2)))))]) _
        refine own_go (fun _ kt => XS.dcmpS Y38.1.here hx rfl (hb hby dp_89) rfl (own_cmp (kf (P (2 * a + 2))) (kf (P (2 * a + 1))) _) kt) ?_
        show own_Seg p l e R s m args below meth c Z h0 n0 hp ka ia cells slots T38 (mkF m 90 #[.val (.ref hp), .val (.int t), .val (.double (FP.i2d (kf q))), .second, .val (.int (jf q)), .val (.int (Int32.ofNat a)), .val (.int (Int32.ofNat (2 * a + 1)))] [(.int (own_c (kf (P (2 * a + 2))) (kf (P (2 * a + 1)))))]) _
        by_cases h3 : kf (P (2 * a + 2)) < kf (P (2 * a + 1))
        · show own_Seg p l e R s m args below meth c Z h0 n0 hp ka ia cells slots T38 (mkF m 90 #[.val (.ref hp), .val (.int t), .val (.double (FP.i2d (kf q))), .second, .val (.int (jf q)), .val (.int (Int32.ofNat a)), .val (.int (Int32.ofNat (2 * a + 1)))] [(.int (own_c (kf (P (2 * a + 2))) (kf (P (2 * a + 1)))))]) _
          refine own_go (fun _ kt => XS.ifNo Y38.1.here hx rfl (hb hby dp_90) rfl (own_ge_f h3) kt) ?_
          show own_Seg p l e R s m args below meth c Z h0 n0 hp ka ia cells slots T38 (mkF m 93 #[.val (.ref hp), .val (.int t), .val (.double (FP.i2d (kf q))), .second, .val (.int (jf q)), .val (.int (Int32.ofNat a)), .val (.int (Int32.ofNat (2 * a + 1)))] []) _
          refine own_go (fun _ kt => XS.iinc Y38.1.here hx rfl (hb hby dp_93) rfl (l' := #[.val (.ref hp), .val (.int t), .val (.double (FP.i2d (kf q))), .second, .val (.int (jf q)), .val (.int (Int32.ofNat a)), .val (.int ((Int32.ofNat (2 * a + 1)) + (1 : Int32)))]) rfl kt) ?_
          show own_Seg p l e R s m args below meth c Z h0 n0 hp ka ia cells slots T38 (mkF m 96 #[.val (.ref hp), .val (.int t), .val (.double (FP.i2d (kf q))), .second, .val (.int (jf q)), .val (.int (Int32.ofNat a)), .val (.int ((Int32.ofNat (2 * a + 1)) + (1 : Int32)))] []) _
          rw [own_one (2 * a + 1)]
          show own_Seg p l e R s m args below meth c Z h0 n0 hp ka ia cells slots T38 (mkF m 96 #[.val (.ref hp), .val (.int t), .val (.double (FP.i2d (kf q))), .second, .val (.int (jf q)), .val (.int (Int32.ofNat a)), .val (.int (Int32.ofNat (2 * a + 2)))] []) _
          by_cases h4 : kf (P (2 * a + 2)) < kf q
          · have eq : own_dn (own_less kf) q n (f + 1) P a = own_dn (own_less kf) q n f (own_set P a (P (2 * a + 2))) (2 * a + 2) := by
              rw [own_dn]; simp [h1, own_less, h4, h2, h3]
            rw [eq]
            refine own_join (own_popGo hx hZ hw hby hown kf jf q (Int32.ofNat n) t a (2 * a + 2) ha (by omega) P T38 _ Y38 h4) ?_
            rintro T9 L9 g9 n9 K9 I9 Y9 ⟨rfl, rfl, rfl, rfl⟩
            exact ih (2 * a + 2) (own_set P a (P (2 * a + 2))) T9 L9 _ (Or.inr ⟨_, rfl, rfl⟩) (by omega) (by omega) Y9
          · refine own_join (own_popNo hx hZ hw hby hown kf jf q (Int32.ofNat n) t a (2 * a + 2) ha (by omega) P T38 _ Y38 h4) ?_
            rintro T9 L9 g9 n9 K9 I9 Y9 ⟨rfl, rfl, rfl, rfl⟩
            exact own_end Y9 ⟨rfl, a, P, _, ha, rfl, rfl, rfl, by rw [own_dn]; simp [h1, own_less, h4, h2, h3]⟩
        · show own_Seg p l e R s m args below meth c Z h0 n0 hp ka ia cells slots T38 (mkF m 90 #[.val (.ref hp), .val (.int t), .val (.double (FP.i2d (kf q))), .second, .val (.int (jf q)), .val (.int (Int32.ofNat a)), .val (.int (Int32.ofNat (2 * a + 1)))] [(.int (own_c (kf (P (2 * a + 2))) (kf (P (2 * a + 1)))))]) _
          refine own_go (fun _ kt => XS.ifYes Y38.1.here hx rfl (pc0 := 90) (pc' := 96) rfl (hb hby dp_90) rfl (own_ge_t h3) (by decide) (by decide) kt) ?_
          show own_Seg p l e R s m args below meth c Z h0 n0 hp ka ia cells slots T38 (mkF m 96 #[.val (.ref hp), .val (.int t), .val (.double (FP.i2d (kf q))), .second, .val (.int (jf q)), .val (.int (Int32.ofNat a)), .val (.int (Int32.ofNat (2 * a + 1)))] []) _
          by_cases h4 : kf (P (2 * a + 1)) < kf q
          · have eq : own_dn (own_less kf) q n (f + 1) P a = own_dn (own_less kf) q n f (own_set P a (P (2 * a + 1))) (2 * a + 1) := by
              rw [own_dn]; simp [h1, own_less, h4, h2, h3]
            rw [eq]
            refine own_join (own_popGo hx hZ hw hby hown kf jf q (Int32.ofNat n) t a (2 * a + 1) ha (by omega) P T38 _ Y38 h4) ?_
            rintro T9 L9 g9 n9 K9 I9 Y9 ⟨rfl, rfl, rfl, rfl⟩
            exact ih (2 * a + 1) (own_set P a (P (2 * a + 1))) T9 L9 _ (Or.inr ⟨_, rfl, rfl⟩) (by omega) (by omega) Y9
          · refine own_join (own_popNo hx hZ hw hby hown kf jf q (Int32.ofNat n) t a (2 * a + 1) ha (by omega) P T38 _ Y38 h4) ?_
            rintro T9 L9 g9 n9 K9 I9 Y9 ⟨rfl, rfl, rfl, rfl⟩
            exact own_end Y9 ⟨rfl, a, P, _, ha, rfl, rfl, rfl, by rw [own_dn]; simp [h1, own_less, h4, h2, h3]⟩
      · show own_Seg p l e R s m args below meth c Z h0 n0 hp ka ia cells slots T36 (mkF m 70 #[.val (.ref hp), .val (.int t), .val (.double (FP.i2d (kf q))), .second, .val (.int (jf q)), .val (.int (Int32.ofNat a)), .val (.int (Int32.ofNat (2 * a + 1)))] [(.int (Int32.ofNat n)), (.int (Int32.ofNat (2 * a + 2)))]) _
        refine own_go (fun _ kt => XS.icmpYes Y36.1.here hx rfl (pc0 := 70) (pc' := 96) rfl (hb hby dp_70) rfl (flt (fun z => h2 ((own_cl (by omega) (by omega)).mp z))).2.1 (by decide) (by decide) kt) ?_
        show own_Seg p l e R s m args below meth c Z h0 n0 hp ka ia cells slots T36 (mkF m 96 #[.val (.ref hp), .val (.int t), .val (.double (FP.i2d (kf q))), .second, .val (.int (jf q)), .val (.int (Int32.ofNat a)), .val (.int (Int32.ofNat (2 * a + 1)))] []) _
        by_cases h4 : kf (P (2 * a + 1)) < kf q
        · have eq : own_dn (own_less kf) q n (f + 1) P a = own_dn (own_less kf) q n f (own_set P a (P (2 * a + 1))) (2 * a + 1) := by
            rw [own_dn]; simp [h1, own_less, h4, h2]
          rw [eq]
          refine own_join (own_popGo hx hZ hw hby hown kf jf q (Int32.ofNat n) t a (2 * a + 1) ha (by omega) P T36 _ Y36 h4) ?_
          rintro T9 L9 g9 n9 K9 I9 Y9 ⟨rfl, rfl, rfl, rfl⟩
          exact ih (2 * a + 1) (own_set P a (P (2 * a + 1))) T9 L9 _ (Or.inr ⟨_, rfl, rfl⟩) (by omega) (by omega) Y9
        · refine own_join (own_popNo hx hZ hw hby hown kf jf q (Int32.ofNat n) t a (2 * a + 1) ha (by omega) P T36 _ Y36 h4) ?_
          rintro T9 L9 g9 n9 K9 I9 Y9 ⟨rfl, rfl, rfl, rfl⟩
          exact own_end Y9 ⟨rfl, a, P, _, ha, rfl, rfl, rfl, by rw [own_dn]; simp [h1, own_less, h4, h2]⟩
    · show own_Seg p l e R s m args below meth c Z h0 n0 hp ka ia cells slots T0 (mkF m 41 #[.val (.ref hp), .val (.int t), .val (.double (FP.i2d (kf q))), .second, .val (.int (jf q)), .val (.int (Int32.ofNat a)), s6] []) _
      show own_Seg p l e R s m args below meth c Z h0 n0 hp ka ia cells slots T0 (mkF m 41 #[.val (.ref hp), .val (.int t), .val (.double (FP.i2d (kf q))), .second, .val (.int (jf q)), .val (.int (Int32.ofNat a)), s6] []) _
      refine own_go (fun _ kt => XS.iconst Y0.1.here hx rfl (hb hby dp_41) kt) ?_
      show own_Seg p l e R s m args below meth c Z h0 n0 hp ka ia cells slots T0 (mkF m 42 #[.val (.ref hp), .val (.int t), .val (.double (FP.i2d (kf q))), .second, .val (.int (jf q)), .val (.int (Int32.ofNat a)), s6] [(.int (2 : Int32))]) _
      refine own_go (fun _ kt => XS.iload Y0.1.here hx rfl (hb hby dp_42) rfl kt) ?_
      show own_Seg p l e R s m args below meth c Z h0 n0 hp ka ia cells slots T0 (mkF m 44 #[.val (.ref hp), .val (.int t), .val (.double (FP.i2d (kf q))), .second, .val (.int (jf q)), .val (.int (Int32.ofNat a)), s6] [(.int (Int32.ofNat a)), (.int (2 : Int32))]) _
      refine own_go (fun _ kt => XS.imul Y0.1.here hx rfl (hb hby dp_44) rfl kt) ?_
      show own_Seg p l e R s m args below meth c Z h0 n0 hp ka ia cells slots T0 (mkF m 45 #[.val (.ref hp), .val (.int t), .val (.double (FP.i2d (kf q))), .second, .val (.int (jf q)), .val (.int (Int32.ofNat a)), s6] [(.int ((2 : Int32) * (Int32.ofNat a)))]) _
      refine own_go (fun _ kt => XS.iconst Y0.1.here hx rfl (hb hby dp_45) kt) ?_
      show own_Seg p l e R s m args below meth c Z h0 n0 hp ka ia cells slots T0 (mkF m 46 #[.val (.ref hp), .val (.int t), .val (.double (FP.i2d (kf q))), .second, .val (.int (jf q)), .val (.int (Int32.ofNat a)), s6] [(.int (1 : Int32)), (.int ((2 : Int32) * (Int32.ofNat a)))]) _
      refine own_go (fun _ kt => XS.iadd Y0.1.here hx rfl (hb hby dp_46) rfl kt) ?_
      show own_Seg p l e R s m args below meth c Z h0 n0 hp ka ia cells slots T0 (mkF m 47 #[.val (.ref hp), .val (.int t), .val (.double (FP.i2d (kf q))), .second, .val (.int (jf q)), .val (.int (Int32.ofNat a)), s6] [(.int (((2 : Int32) * (Int32.ofNat a)) + (1 : Int32)))]) _
      rw [own_kid ha]
      show own_Seg p l e R s m args below meth c Z h0 n0 hp ka ia cells slots T0 (mkF m 47 #[.val (.ref hp), .val (.int t), .val (.double (FP.i2d (kf q))), .second, .val (.int (jf q)), .val (.int (Int32.ofNat a)), s6] [(.int (Int32.ofNat (2 * a + 1)))]) _
      refine own_go (fun _ kt => XS.aloadN Y0.1.here hx rfl (hb hby dp_47) rfl rfl kt) ?_
      show own_Seg p l e R s m args below meth c Z h0 n0 hp ka ia cells slots T0 (mkF m 48 #[.val (.ref hp), .val (.int t), .val (.double (FP.i2d (kf q))), .second, .val (.int (jf q)), .val (.int (Int32.ofNat a)), s6] [(.ref hp), (.int (Int32.ofNat (2 * a + 1)))]) _
      obtain ⟨T39, Y39, st39⟩ := own_getS Y0 hx hZ hw hown (g := (mkF m 48 #[.val (.ref hp), .val (.int t), .val (.double (FP.i2d (kf q))), .second, .val (.int (jf q)), .val (.int (Int32.ofNat a)), s6] [(.ref hp), (.int (Int32.ofNat (2 * a + 1)))])) rfl rfl (hb hby dp_48)
      refine own_go st39 ?_
      show own_Seg p l e R s m args below meth c Z h0 n0 hp ka ia cells slots T39 (mkF m 51 #[.val (.ref hp), .val (.int t), .val (.double (FP.i2d (kf q))), .second, .val (.int (jf q)), .val (.int (Int32.ofNat a)), s6] [(.int (Int32.ofNat n)), (.int (Int32.ofNat (2 * a + 1)))]) _
      refine own_go (fun _ kt => XS.icmpYes Y39.1.here hx rfl (pc0 := 51) (pc' := 146) rfl (hb hby dp_51) rfl (flt (fun z => h1 ((own_cl (by omega) (by omega)).mp z))).2.1 (by decide) (by decide) kt) ?_
      show own_Seg p l e R s m args below meth c Z h0 n0 hp ka ia cells slots T39 (mkF m 146 #[.val (.ref hp), .val (.int t), .val (.double (FP.i2d (kf q))), .second, .val (.int (jf q)), .val (.int (Int32.ofNat a)), s6] []) _
      exact own_end Y39 ⟨rfl, a, P, s6, ha, rfl, rfl, rfl, by rw [own_dn]; simp [h1]⟩
set_option maxRecDepth 65536 in
set_option maxHeartbeats 40000000 in
theorem own_popAll {p : Program} {l : Launch} {e : Env} {R : Room} {s : State} {m : MethodId} {args : Array Value} {below : List Frame} {meth : Method} {c : Code} {Z : State} {a0 : Array Value} {h0 : Heap} {n0 : Nat} {hp ka ia : Addr} {cells slots : Nat} (hx : p.tables.exec = Jvm.exec) (hZ : Z.Warmed39 s.vm) (hw : ∀ d ∈ tables_1, d.before a0 Z = true) (hby : c.code = prog_19_method_5_code) (hown : s.vm.findClass "com/example/wary_checker/warychecker/check/Heap" = some m.cls) (kf jf : Nat → Int32) (n : Nat) (hn : n ≤ 14) (P : Nat → Nat) (T0 : State) (L0 : List Loc) (Y0 : own_St p l e R s m args below meth c Z h0 n0 hp ka ia cells slots T0 L0 (Int32.ofNat (n + 1)) (fun j => kf (P j)) (fun j => jf (P j))) :
      own_Seg p l e R s m args below meth c Z h0 n0 hp ka ia cells slots T0 (mkF m 0 #[.val (.ref hp), .unset, .unset, .unset, .unset, .unset, .unset] []) (fun g' n' K' I' => n' = Int32.ofNat n ∧ (∃ Ls, g' = mkF m 164 Ls [.int (jf (P 0))]) ∧ K' = (fun j => kf (own_dn (own_less kf) (P n) n n P 0 j)) ∧ I' = (fun j => jf (own_dn (own_less kf) (P n) n n P 0 j))) := by
  show own_Seg p l e R s m args below meth c Z h0 n0 hp ka ia cells slots T0 (mkF m 0 #[.val (.ref hp), .unset, .unset, .unset, .unset, .unset, .unset] []) _
  refine own_go (fun _ kt => XS.aloadN Y0.1.here hx rfl (hb hby dp_0) rfl rfl kt) ?_
  show own_Seg p l e R s m args below meth c Z h0 n0 hp ka ia cells slots T0 (mkF m 1 #[.val (.ref hp), .unset, .unset, .unset, .unset, .unset, .unset] [(.ref hp)]) _
  obtain ⟨T40, Y40, st40⟩ := own_getI Y0 hx hZ hw hown (g := (mkF m 1 #[.val (.ref hp), .unset, .unset, .unset, .unset, .unset, .unset] [(.ref hp)])) rfl rfl (hb hby dp_1)
  refine own_go st40 ?_
  show own_Seg p l e R s m args below meth c Z h0 n0 hp ka ia cells slots T40 (mkF m 4 #[.val (.ref hp), .unset, .unset, .unset, .unset, .unset, .unset] [(.ref ia)]) _
  refine own_go (fun _ kt => XS.iconst Y40.1.here hx rfl (hb hby dp_4) kt) ?_
  show own_Seg p l e R s m args below meth c Z h0 n0 hp ka ia cells slots T40 (mkF m 5 #[.val (.ref hp), .unset, .unset, .unset, .unset, .unset, .unset] [(.int (Int32.ofNat 0)), (.ref ia)]) _
  refine own_go (own_il Y40.1 hx hZ Y40.2.1.2.2.2.2.2.1 (by omega) (by decide) (g := (mkF m 5 #[.val (.ref hp), .unset, .unset, .unset, .unset, .unset, .unset] [(.int (Int32.ofNat 0)), (.ref ia)])) rfl rfl (hb hby dp_5)) ?_
  show own_Seg p l e R s m args below meth c Z h0 n0 hp ka ia cells slots T40 (mkF m 6 #[.val (.ref hp), .unset, .unset, .unset, .unset, .unset, .unset] [(.int (jf (P 0)))]) _
  refine own_go (fun _ kt => XS.istoreN Y40.1.here hx rfl (hb hby dp_6) rfl (l' := #[.val (.ref hp), .val (.int (jf (P 0))), .unset, .unset, .unset, .unset, .unset]) rfl kt) ?_
  show own_Seg p l e R s m args below meth c Z h0 n0 hp ka ia cells slots T40 (mkF m 7 #[.val (.ref hp), .val (.int (jf (P 0))), .unset, .unset, .unset, .unset, .unset] []) _
  refine own_go (fun _ kt => XS.aloadN Y40.1.here hx rfl (hb hby dp_7) rfl rfl kt) ?_
  show own_Seg p l e R s m args below meth c Z h0 n0 hp ka ia cells slots T40 (mkF m 8 #[.val (.ref hp), .val (.int (jf (P 0))), .unset, .unset, .unset, .unset, .unset] [(.ref hp)]) _
  refine own_go (fun _ kt => XS.dup Y40.1.here hx rfl (hb hby dp_8) rfl rfl kt) ?_
  show own_Seg p l e R s m args below meth c Z h0 n0 hp ka ia cells slots T40 (mkF m 9 #[.val (.ref hp), .val (.int (jf (P 0))), .unset, .unset, .unset, .unset, .unset] [(.ref hp), (.ref hp)]) _
  obtain ⟨T41, Y41, st41⟩ := own_getS Y40 hx hZ hw hown (g := (mkF m 9 #[.val (.ref hp), .val (.int (jf (P 0))), .unset, .unset, .unset, .unset, .unset] [(.ref hp), (.ref hp)])) rfl rfl (hb hby dp_9)
  refine own_go st41 ?_
  show own_Seg p l e R s m args below meth c Z h0 n0 hp ka ia cells slots T41 (mkF m 12 #[.val (.ref hp), .val (.int (jf (P 0))), .unset, .unset, .unset, .unset, .unset] [(.int (Int32.ofNat (n + 1))), (.ref hp)]) _
  refine own_go (fun _ kt => XS.iconst Y41.1.here hx rfl (hb hby dp_12) kt) ?_
  show own_Seg p l e R s m args below meth c Z h0 n0 hp ka ia cells slots T41 (mkF m 13 #[.val (.ref hp), .val (.int (jf (P 0))), .unset, .unset, .unset, .unset, .unset] [(.int (1 : Int32)), (.int (Int32.ofNat (n + 1))), (.ref hp)]) _
  refine own_go (fun _ kt => XS.isub Y41.1.here hx rfl (hb hby dp_13) rfl kt) ?_
  show own_Seg p l e R s m args below meth c Z h0 n0 hp ka ia cells slots T41 (mkF m 14 #[.val (.ref hp), .val (.int (jf (P 0))), .unset, .unset, .unset, .unset, .unset] [(.int ((Int32.ofNat (n + 1)) - (1 : Int32))), (.ref hp)]) _
  rw [own_dec]
  show own_Seg p l e R s m args below meth c Z h0 n0 hp ka ia cells slots T41 (mkF m 14 #[.val (.ref hp), .val (.int (jf (P 0))), .unset, .unset, .unset, .unset, .unset] [(.int (Int32.ofNat n)), (.ref hp)]) _
  obtain ⟨T42, L42, Y42, st42⟩ := own_putS Y41 hx hZ hw hown  (g := (mkF m 14 #[.val (.ref hp), .val (.int (jf (P 0))), .unset, .unset, .unset, .unset, .unset] [(.int (Int32.ofNat n)), (.ref hp)])) rfl rfl (hb hby dp_14)
  refine own_go st42 ?_
  show own_Seg p l e R s m args below meth c Z h0 n0 hp ka ia cells slots T42 (mkF m 17 #[.val (.ref hp), .val (.int (jf (P 0))), .unset, .unset, .unset, .unset, .unset] []) _
  refine own_go (fun _ kt => XS.aloadN Y42.1.here hx rfl (hb hby dp_17) rfl rfl kt) ?_
  show own_Seg p l e R s m args below meth c Z h0 n0 hp ka ia cells slots T42 (mkF m 18 #[.val (.ref hp), .val (.int (jf (P 0))), .unset, .unset, .unset, .unset, .unset] [(.ref hp)]) _
  obtain ⟨T43, Y43, st43⟩ := own_getK Y42 hx hZ hw hown (g := (mkF m 18 #[.val (.ref hp), .val (.int (jf (P 0))), .unset, .unset, .unset, .unset, .unset] [(.ref hp)])) rfl rfl (hb hby dp_18)
  refine own_go st43 ?_
  show own_Seg p l e R s m args below meth c Z h0 n0 hp ka ia cells slots T43 (mkF m 21 #[.val (.ref hp), .val (.int (jf (P 0))), .unset, .unset, .unset, .unset, .unset] [(.ref ka)]) _
  refine own_go (fun _ kt => XS.aloadN Y43.1.here hx rfl (hb hby dp_21) rfl rfl kt) ?_
  show own_Seg p l e R s m args below meth c Z h0 n0 hp ka ia cells slots T43 (mkF m 22 #[.val (.ref hp), .val (.int (jf (P 0))), .unset, .unset, .unset, .unset, .unset] [(.ref hp), (.ref ka)]) _
  obtain ⟨T44, Y44, st44⟩ := own_getS Y43 hx hZ hw hown (g := (mkF m 22 #[.val (.ref hp), .val (.int (jf (P 0))), .unset, .unset, .unset, .unset, .unset] [(.ref hp), (.ref ka)])) rfl rfl (hb hby dp_22)
  refine own_go st44 ?_
  show own_Seg p l e R s m args below meth c Z h0 n0 hp ka ia cells slots T44 (mkF m 25 #[.val (.ref hp), .val (.int (jf (P 0))), .unset, .unset, .unset, .unset, .unset] [(.int (Int32.ofNat n)), (.ref ka)]) _
  refine own_go (own_dl Y44.1 hx hZ Y44.2.1.2.2.2.2.1 (by omega) (by decide) (g := (mkF m 25 #[.val (.ref hp), .val (.int (jf (P 0))), .unset, .unset, .unset, .unset, .unset] [(.int (Int32.ofNat n)), (.ref ka)])) rfl rfl (hb hby dp_25)) ?_
  show own_Seg p l e R s m args below meth c Z h0 n0 hp ka ia cells slots T44 (mkF m 26 #[.val (.ref hp), .val (.int (jf (P 0))), .unset, .unset, .unset, .unset, .unset] [(.double (FP.i2d (kf (P n))))]) _
  refine own_go (fun _ kt => XS.dstoreN Y44.1.here hx rfl (hb hby dp_26) rfl (l' := #[.val (.ref hp), .val (.int (jf (P 0))), .val (.double (FP.i2d (kf (P n)))), .second, .unset, .unset, .unset]) rfl kt) ?_
  show own_Seg p l e R s m args below meth c Z h0 n0 hp ka ia cells slots T44 (mkF m 27 #[.val (.ref hp), .val (.int (jf (P 0))), .val (.double (FP.i2d (kf (P n)))), .second, .unset, .unset, .unset] []) _
  refine own_go (fun _ kt => XS.aloadN Y44.1.here hx rfl (hb hby dp_27) rfl rfl kt) ?_
  show own_Seg p l e R s m args below meth c Z h0 n0 hp ka ia cells slots T44 (mkF m 28 #[.val (.ref hp), .val (.int (jf (P 0))), .val (.double (FP.i2d (kf (P n)))), .second, .unset, .unset, .unset] [(.ref hp)]) _
  obtain ⟨T45, Y45, st45⟩ := own_getI Y44 hx hZ hw hown (g := (mkF m 28 #[.val (.ref hp), .val (.int (jf (P 0))), .val (.double (FP.i2d (kf (P n)))), .second, .unset, .unset, .unset] [(.ref hp)])) rfl rfl (hb hby dp_28)
  refine own_go st45 ?_
  show own_Seg p l e R s m args below meth c Z h0 n0 hp ka ia cells slots T45 (mkF m 31 #[.val (.ref hp), .val (.int (jf (P 0))), .val (.double (FP.i2d (kf (P n)))), .second, .unset, .unset, .unset] [(.ref ia)]) _
  refine own_go (fun _ kt => XS.aloadN Y45.1.here hx rfl (hb hby dp_31) rfl rfl kt) ?_
  show own_Seg p l e R s m args below meth c Z h0 n0 hp ka ia cells slots T45 (mkF m 32 #[.val (.ref hp), .val (.int (jf (P 0))), .val (.double (FP.i2d (kf (P n)))), .second, .unset, .unset, .unset] [(.ref hp), (.ref ia)]) _
  obtain ⟨T46, Y46, st46⟩ := own_getS Y45 hx hZ hw hown (g := (mkF m 32 #[.val (.ref hp), .val (.int (jf (P 0))), .val (.double (FP.i2d (kf (P n)))), .second, .unset, .unset, .unset] [(.ref hp), (.ref ia)])) rfl rfl (hb hby dp_32)
  refine own_go st46 ?_
  show own_Seg p l e R s m args below meth c Z h0 n0 hp ka ia cells slots T46 (mkF m 35 #[.val (.ref hp), .val (.int (jf (P 0))), .val (.double (FP.i2d (kf (P n)))), .second, .unset, .unset, .unset] [(.int (Int32.ofNat n)), (.ref ia)]) _
  refine own_go (own_il Y46.1 hx hZ Y46.2.1.2.2.2.2.2.1 (by omega) (by decide) (g := (mkF m 35 #[.val (.ref hp), .val (.int (jf (P 0))), .val (.double (FP.i2d (kf (P n)))), .second, .unset, .unset, .unset] [(.int (Int32.ofNat n)), (.ref ia)])) rfl rfl (hb hby dp_35)) ?_
  show own_Seg p l e R s m args below meth c Z h0 n0 hp ka ia cells slots T46 (mkF m 36 #[.val (.ref hp), .val (.int (jf (P 0))), .val (.double (FP.i2d (kf (P n)))), .second, .unset, .unset, .unset] [(.int (jf (P n)))]) _
  refine own_go (fun _ kt => XS.istore Y46.1.here hx rfl (hb hby dp_36) rfl (l' := #[.val (.ref hp), .val (.int (jf (P 0))), .val (.double (FP.i2d (kf (P n)))), .second, .val (.int (jf (P n))), .unset, .unset]) rfl kt) ?_
  show own_Seg p l e R s m args below meth c Z h0 n0 hp ka ia cells slots T46 (mkF m 38 #[.val (.ref hp), .val (.int (jf (P 0))), .val (.double (FP.i2d (kf (P n)))), .second, .val (.int (jf (P n))), .unset, .unset] []) _
  refine own_go (fun _ kt => XS.iconst Y46.1.here hx rfl (hb hby dp_38) kt) ?_
  show own_Seg p l e R s m args below meth c Z h0 n0 hp ka ia cells slots T46 (mkF m 39 #[.val (.ref hp), .val (.int (jf (P 0))), .val (.double (FP.i2d (kf (P n)))), .second, .val (.int (jf (P n))), .unset, .unset] [(.int (Int32.ofNat 0))]) _
  refine own_go (fun _ kt => XS.istore Y46.1.here hx rfl (hb hby dp_39) rfl (l' := #[.val (.ref hp), .val (.int (jf (P 0))), .val (.double (FP.i2d (kf (P n)))), .second, .val (.int (jf (P n))), .val (.int (Int32.ofNat 0)), .unset]) rfl kt) ?_
  show own_Seg p l e R s m args below meth c Z h0 n0 hp ka ia cells slots T46 (mkF m 41 #[.val (.ref hp), .val (.int (jf (P 0))), .val (.double (FP.i2d (kf (P n)))), .second, .val (.int (jf (P n))), .val (.int (Int32.ofNat 0)), .unset] []) _
  refine own_join (own_popLoop hx hZ hw hby hown kf jf (P n) n (by omega) (jf (P 0)) n 0 P T46 _ .unset (Or.inl rfl) (by omega) (by omega) Y46) ?_
  rintro T9 L9 g9 n9 K9 I9 Y9 ⟨rfl, a, P', s', ha, rfl, rfl, rfl, hP⟩
  rw [← hP]
  show own_Seg p l e R s m args below meth c Z h0 n0 hp ka ia cells slots T9 (mkF m 146 #[.val (.ref hp), .val (.int (jf (P 0))), .val (.double (FP.i2d (kf (P n)))), .second, .val (.int (jf (P n))), .val (.int (Int32.ofNat a)), s'] []) _
  refine own_go (fun _ kt => XS.aloadN Y9.1.here hx rfl (hb hby dp_146) rfl rfl kt) ?_
  show own_Seg p l e R s m args below meth c Z h0 n0 hp ka ia cells slots T9 (mkF m 147 #[.val (.ref hp), .val (.int (jf (P 0))), .val (.double (FP.i2d (kf (P n)))), .second, .val (.int (jf (P n))), .val (.int (Int32.ofNat a)), s'] [(.ref hp)]) _
  obtain ⟨T47, Y47, st47⟩ := own_getK Y9 hx hZ hw hown (g := (mkF m 147 #[.val (.ref hp), .val (.int (jf (P 0))), .val (.double (FP.i2d (kf (P n)))), .second, .val (.int (jf (P n))), .val (.int (Int32.ofNat a)), s'] [(.ref hp)])) rfl rfl (hb hby dp_147)
  refine own_go st47 ?_
  show own_Seg p l e R s m args below meth c Z h0 n0 hp ka ia cells slots T47 (mkF m 150 #[.val (.ref hp), .val (.int (jf (P 0))), .val (.double (FP.i2d (kf (P n)))), .second, .val (.int (jf (P n))), .val (.int (Int32.ofNat a)), s'] [(.ref ka)]) _
  refine own_go (fun _ kt => XS.iload Y47.1.here hx rfl (hb hby dp_150) rfl kt) ?_
  show own_Seg p l e R s m args below meth c Z h0 n0 hp ka ia cells slots T47 (mkF m 152 #[.val (.ref hp), .val (.int (jf (P 0))), .val (.double (FP.i2d (kf (P n)))), .second, .val (.int (jf (P n))), .val (.int (Int32.ofNat a)), s'] [(.int (Int32.ofNat a)), (.ref ka)]) _
  refine own_go (fun _ kt => XS.dloadN Y47.1.here hx rfl (hb hby dp_152) rfl kt) ?_
  show own_Seg p l e R s m args below meth c Z h0 n0 hp ka ia cells slots T47 (mkF m 153 #[.val (.ref hp), .val (.int (jf (P 0))), .val (.double (FP.i2d (kf (P n)))), .second, .val (.int (jf (P n))), .val (.int (Int32.ofNat a)), s'] [(.double (FP.i2d (kf (P n)))), (.int (Int32.ofNat a)), (.ref ka)]) _
  obtain ⟨T48, L48, Y48, st48⟩ := own_putK Y47 hx hZ (by omega)  (g := (mkF m 153 #[.val (.ref hp), .val (.int (jf (P 0))), .val (.double (FP.i2d (kf (P n)))), .second, .val (.int (jf (P n))), .val (.int (Int32.ofNat a)), s'] [(.double (FP.i2d (kf (P n)))), (.int (Int32.ofNat a)), (.ref ka)])) rfl rfl (hb hby dp_153)
  refine own_go st48 ?_
  show own_Seg p l e R s m args below meth c Z h0 n0 hp ka ia cells slots T48 (mkF m 154 #[.val (.ref hp), .val (.int (jf (P 0))), .val (.double (FP.i2d (kf (P n)))), .second, .val (.int (jf (P n))), .val (.int (Int32.ofNat a)), s'] []) _
  refine own_go (fun _ kt => XS.aloadN Y48.1.here hx rfl (hb hby dp_154) rfl rfl kt) ?_
  show own_Seg p l e R s m args below meth c Z h0 n0 hp ka ia cells slots T48 (mkF m 155 #[.val (.ref hp), .val (.int (jf (P 0))), .val (.double (FP.i2d (kf (P n)))), .second, .val (.int (jf (P n))), .val (.int (Int32.ofNat a)), s'] [(.ref hp)]) _
  obtain ⟨T49, Y49, st49⟩ := own_getI Y48 hx hZ hw hown (g := (mkF m 155 #[.val (.ref hp), .val (.int (jf (P 0))), .val (.double (FP.i2d (kf (P n)))), .second, .val (.int (jf (P n))), .val (.int (Int32.ofNat a)), s'] [(.ref hp)])) rfl rfl (hb hby dp_155)
  refine own_go st49 ?_
  show own_Seg p l e R s m args below meth c Z h0 n0 hp ka ia cells slots T49 (mkF m 158 #[.val (.ref hp), .val (.int (jf (P 0))), .val (.double (FP.i2d (kf (P n)))), .second, .val (.int (jf (P n))), .val (.int (Int32.ofNat a)), s'] [(.ref ia)]) _
  refine own_go (fun _ kt => XS.iload Y49.1.here hx rfl (hb hby dp_158) rfl kt) ?_
  show own_Seg p l e R s m args below meth c Z h0 n0 hp ka ia cells slots T49 (mkF m 160 #[.val (.ref hp), .val (.int (jf (P 0))), .val (.double (FP.i2d (kf (P n)))), .second, .val (.int (jf (P n))), .val (.int (Int32.ofNat a)), s'] [(.int (Int32.ofNat a)), (.ref ia)]) _
  refine own_go (fun _ kt => XS.iload Y49.1.here hx rfl (hb hby dp_160) rfl kt) ?_
  show own_Seg p l e R s m args below meth c Z h0 n0 hp ka ia cells slots T49 (mkF m 162 #[.val (.ref hp), .val (.int (jf (P 0))), .val (.double (FP.i2d (kf (P n)))), .second, .val (.int (jf (P n))), .val (.int (Int32.ofNat a)), s'] [(.int (jf (P n))), (.int (Int32.ofNat a)), (.ref ia)]) _
  obtain ⟨T50, L50, Y50, st50⟩ := own_putI Y49 hx hZ (by omega)  (g := (mkF m 162 #[.val (.ref hp), .val (.int (jf (P 0))), .val (.double (FP.i2d (kf (P n)))), .second, .val (.int (jf (P n))), .val (.int (Int32.ofNat a)), s'] [(.int (jf (P n))), (.int (Int32.ofNat a)), (.ref ia)])) rfl rfl (hb hby dp_162)
  refine own_go st50 ?_
  show own_Seg p l e R s m args below meth c Z h0 n0 hp ka ia cells slots T50 (mkF m 163 #[.val (.ref hp), .val (.int (jf (P 0))), .val (.double (FP.i2d (kf (P n)))), .second, .val (.int (jf (P n))), .val (.int (Int32.ofNat a)), s'] []) _
  refine own_go (fun _ kt => XS.iloadN Y50.1.here hx rfl (hb hby dp_163) rfl kt) ?_
  show own_Seg p l e R s m args below meth c Z h0 n0 hp ka ia cells slots T50 (mkF m 164 #[.val (.ref hp), .val (.int (jf (P 0))), .val (.double (FP.i2d (kf (P n)))), .second, .val (.int (jf (P n))), .val (.int (Int32.ofNat a)), s'] [(.int (jf (P 0)))]) _
  exact own_end Y50 ⟨rfl, ⟨_, rfl⟩, own_upd_set kf P' a (P n), own_upd_set jf P' a (P n)⟩
-- the contracts
theorem pn_L : plainName "com/example/wary_checker/warychecker/check/HeapPopPinLaw" = true := by first | (simp [plainName, overriddenIn]; done) | decide +kernel
theorem pn_H : plainName "com/example/wary_checker/warychecker/check/Heap" = true := by first | (simp [plainName, overriddenIn]; done) | decide +kernel
theorem pd_key : parseMethodDescriptor "(II)D" = some ⟨[.int, .int], some .double⟩ := by decide +kernel
theorem pd_v : parseMethodDescriptor "()V" = some ⟨[], none⟩ := by decide +kernel
theorem pd_push : parseMethodDescriptor "(DI)V" = some ⟨[.double, .int], none⟩ := by decide +kernel
theorem pd_pop : parseMethodDescriptor "()I" = some ⟨[], some .int⟩ := by decide +kernel
theorem pd_ok : parseMethodDescriptor "(I)Z" = some ⟨[.int], some .boolean⟩ := by decide +kernel
theorem pd_emp : parseMethodDescriptor "()Z" = some ⟨[], some .boolean⟩ := by decide +kernel
theorem ef_key (m : MethodId) (x0 x1 : Int32) : entryFrame m #[(.int x0), (.int x1)] 2 = mkF m 0 #[.val (.int x0), .val (.int x1)] [] := by first | (simp [entryFrame, mkF, argsToLocals, Value.category, maxLocals]; done) | rfl
theorem ef_ok (m : MethodId) (x0 : Int32) : entryFrame m #[(.int x0)] 1 = mkF m 0 #[.val (.int x0)] [] := by first | (simp [entryFrame, mkF, argsToLocals, Value.category, maxLocals]; done) | rfl
theorem ef_this (m : MethodId) (x0 : Addr) : entryFrame m #[(.ref x0)] 1 = mkF m 0 #[.val (.ref x0)] [] := by first | (simp [entryFrame, mkF, argsToLocals, Value.category, maxLocals]; done) | rfl
theorem ef_pop (m : MethodId) (x0 : Addr) : entryFrame m #[(.ref x0)] 7 = mkF m 0 #[.val (.ref x0), .unset, .unset, .unset, .unset, .unset, .unset] [] := by first | (simp [entryFrame, mkF, argsToLocals, Value.category, maxLocals]; done) | rfl
theorem ef_push (m : MethodId) (x0 : Addr) (x1 : UInt64) (x2 : Int32) : entryFrame m #[(.ref x0), (.double x1), (.int x2)] 5 = mkF m 0 #[.val (.ref x0), .val (.double x1), .second, .val (.int x2), .unset] [] := by first | (simp [entryFrame, mkF, argsToLocals, Value.category, maxLocals]; done) | rfl
theorem ef_law (m : MethodId) (x0 x1 : Int32) : entryFrame m #[(.int x0), (.int x1)] maxLocals = mkF m 0 #[.val (.int x0), .val (.int x1), .unset, .unset, .unset, .unset, .unset, .unset, .unset, .unset] [] := by first | (simp [entryFrame, mkF, argsToLocals, Value.category, maxLocals]; done) | rfl
theorem dk_0 : decode method_2_code 0 = .ok (.iload_n 0, 1) := by decide +kernel
theorem dk_1 : decode method_2_code 1 = .ok (.iconst 3, 1) := by decide +kernel
theorem dk_2 : decode method_2_code 2 = .ok (.iload_n 1, 1) := by decide +kernel
theorem dk_3 : decode method_2_code 3 = .ok (.imul, 1) := by decide +kernel
theorem dk_4 : decode method_2_code 4 = .ok (.iushr, 1) := by decide +kernel
theorem dk_5 : decode method_2_code 5 = .ok (.bipush 7, 2) := by decide +kernel
theorem dk_7 : decode method_2_code 7 = .ok (.iand, 1) := by decide +kernel
theorem dk_8 : decode method_2_code 8 = .ok (.iconst 3, 1) := by decide +kernel
theorem dk_9 : decode method_2_code 9 = .ok (.isub, 1) := by decide +kernel
theorem dk_10 : decode method_2_code 10 = .ok (.i2d, 1) := by decide +kernel
theorem dk_11 : decode method_2_code 11 = .ok (.dreturn, 1) := by decide +kernel
def own_key (b i : Int32) : Int32 := ((b.toUInt32 >>> (((3 : Int32) * i) &&& 31).toUInt32).toInt32 &&& (7 : Int32)) - (3 : Int32)
def Qk (Z : State) (b i : Int32) (h0 : Heap) (n0 : Nat) (v : Option Value) (h : Heap) (L : List Loc) : Prop := v = some (.double (FP.i2d (own_key b i))) ∧ Fr n0 L ∧ h = h0
set_option maxRecDepth 65536 in
set_option maxHeartbeats 40000000 in
theorem rmk (l : Launch) (Z : State) (a0 : Array Value) (hw : ∀ d ∈ tables_1, d.before a0 Z = true) (ws : List Jvm.Cond) (b i : Int32) (h0 : Heap) (n0 : Nat) :
    MetFree l (⟨"com/example/wary_checker/warychecker/check/HeapPopPinLaw", "key", "(II)D"⟩ : MethodName) (head1 (Jvm.Cond.code (⟨"com/example/wary_checker/warychecker/check/HeapPopPinLaw", "key", "(II)D"⟩ : MethodName) method_2_code 2 (some .double) :: ws) ({ frames := 0, cells := 0, slots := 0, locals := 0 } : Room)) (fun a U => a = #[(.int b), (.int i)] ∧ Z.Warmed39 U.vm ∧ U.heap = h0) (fun _ _ _ _ _ => True) (fun _ U o U' => ∃ v L, o = .returned v ∧ Qk Z b i h0 n0 v U'.heap L ∧ FrameEnd U o U' L ({ frames := 0, cells := 0, slots := 0, locals := 0 } : Room).cells ({ frames := 0, cells := 0, slots := 0, locals := 0 } : Room).slots) := by
  refine MetFree.of_bodySF (plainFor_of_name pn_L) hisR ?_
  intro p e s m args below meth c s₁ Bd hml0 hP hK
  obtain ⟨rfl, hZ, hh⟩ := hP
  have hx := Bd.exec
  have hby := Bd.bytes
  have hml : c.maxLocals = 2 := hml0
  have hown : s.vm.findClass "com/example/wary_checker/warychecker/check/HeapPopPinLaw" = some m.cls := findClass_of_methodNamed Bd.named
  have hnm := (name_of_methodNamed Bd.named Bd.method).1
  have X0 : Stand p l e ({ frames := 0, cells := 0, slots := 0, locals := 0 } : Room) s m #[(.int b), (.int i)] below meth c s₁ [] 0 0 := Stand.of_body Bd
  have e0 : s₁.heap = h0 := by rw [← hh, Bd.state]; rfl
  have N0 := Fr.nil n0
  have pre0 : ∀ t, Steps p.tables e below (s₁.setTop (mkF m 0 #[.val (.int b), .val (.int i)] [])) t → Steps p.tables e below (s₁.setTop (entryFrame m #[(.int b), (.int i)] 2)) t := fun t k => castTop (ef_key m b i) k
  obtain ⟨fs, hr, hrun, hended, hW, hsame⟩ := X0.leave (v := some (.double (FP.i2d (own_key b i)))) (fun h => by rw [Bd.returns] at h; cases h)
  refine ⟨_, _, pre0 _ ?_, hrun, hended, _, _, rfl, ?_, ⟨_, rfl⟩, hW, hsame.mono (by decide) (by decide)⟩
  · show Steps p.tables e below (s₁.setTop (mkF m 0 #[.val (.int b), .val (.int i)] [])) _
    refine XS.iloadN X0.here hx rfl (hb hby dk_0) rfl ?_
    show Steps p.tables e below (s₁.setTop (mkF m 1 #[.val (.int b), .val (.int i)] [(.int b)])) _
    refine XS.iconst X0.here hx rfl (hb hby dk_1) ?_
    show Steps p.tables e below (s₁.setTop (mkF m 2 #[.val (.int b), .val (.int i)] [(.int (3 : Int32)), (.int b)])) _
    refine XS.iloadN X0.here hx rfl (hb hby dk_2) rfl ?_
    show Steps p.tables e below (s₁.setTop (mkF m 3 #[.val (.int b), .val (.int i)] [(.int i), (.int (3 : Int32)), (.int b)])) _
    refine XS.imul X0.here hx rfl (hb hby dk_3) rfl ?_
    show Steps p.tables e below (s₁.setTop (mkF m 4 #[.val (.int b), .val (.int i)] [(.int ((3 : Int32) * i)), (.int b)])) _
    refine XS.iushr X0.here hx rfl (hb hby dk_4) rfl ?_
    show Steps p.tables e below (s₁.setTop (mkF m 5 #[.val (.int b), .val (.int i)] [(.int ((b).toUInt32 >>> (((3 : Int32) * i) &&& 31).toUInt32).toInt32)])) _
    refine XS.bipush X0.here hx rfl (hb hby dk_5) ?_
    show Steps p.tables e below (s₁.setTop (mkF m 7 #[.val (.int b), .val (.int i)] [(.int (7 : Int32)), (.int ((b).toUInt32 >>> (((3 : Int32) * i) &&& 31).toUInt32).toInt32)])) _
    refine XS.iand X0.here hx rfl (hb hby dk_7) rfl ?_
    show Steps p.tables e below (s₁.setTop (mkF m 8 #[.val (.int b), .val (.int i)] [(.int (((b).toUInt32 >>> (((3 : Int32) * i) &&& 31).toUInt32).toInt32 &&& (7 : Int32)))])) _
    refine XS.iconst X0.here hx rfl (hb hby dk_8) ?_
    show Steps p.tables e below (s₁.setTop (mkF m 9 #[.val (.int b), .val (.int i)] [(.int (3 : Int32)), (.int (((b).toUInt32 >>> (((3 : Int32) * i) &&& 31).toUInt32).toInt32 &&& (7 : Int32)))])) _
    refine XS.isub X0.here hx rfl (hb hby dk_9) rfl ?_
    show Steps p.tables e below (s₁.setTop (mkF m 10 #[.val (.int b), .val (.int i)] [(.int ((((b).toUInt32 >>> (((3 : Int32) * i) &&& 31).toUInt32).toInt32 &&& (7 : Int32)) - (3 : Int32)))])) _
    refine XS.i2dS X0.here hx rfl (hb hby dk_10) rfl rfl ?_
    show Steps p.tables e below (s₁.setTop (mkF m 11 #[.val (.int b), .val (.int i)] [(.double (FP.i2d ((((b).toUInt32 >>> (((3 : Int32) * i) &&& 31).toUInt32).toInt32 &&& (7 : Int32)) - (3 : Int32))))])) _
    exact retOut X0 hx (t := .double) Bd.returns rfl (Or.inr (Or.inr (Or.inl ⟨rfl, rfl, _, rfl⟩))) (hb hby dk_11) hr
  · show Qk Z b i h0 n0 _ s₁.heap _
    exact ⟨rfl, N0, e0⟩
theorem do_0 : decode method_3_code 0 = .ok (.iload_n 0, 1) := by decide +kernel
theorem do_1 : decode method_3_code 1 = .ok (.ifCond .lt 12, 3) := by decide +kernel
theorem do_4 : decode method_3_code 4 = .ok (.iload_n 0, 1) := by decide +kernel
theorem do_5 : decode method_3_code 5 = .ok (.iconst 5, 1) := by decide +kernel
theorem do_6 : decode method_3_code 6 = .ok (.if_icmp .ge 7, 3) := by decide +kernel
theorem do_9 : decode method_3_code 9 = .ok (.iconst 1, 1) := by decide +kernel
theorem do_10 : decode method_3_code 10 = .ok (.goto 4, 3) := by decide +kernel
theorem do_13 : decode method_3_code 13 = .ok (.iconst 0, 1) := by decide +kernel
theorem do_14 : decode method_3_code 14 = .ok (.ireturn, 1) := by decide +kernel
def Qo (Z : State) (h0 : Heap) (n0 : Nat) (v : Option Value) (h : Heap) (L : List Loc) : Prop := v = some (.int (1 : Int32)) ∧ Fr n0 L ∧ h = h0
set_option maxRecDepth 65536 in
set_option maxHeartbeats 40000000 in
theorem rmo (l : Launch) (Z : State) (a0 : Array Value) (hw : ∀ d ∈ tables_1, d.before a0 Z = true) (ws : List Jvm.Cond) (i : Nat) (hi : i < 5) (h0 : Heap) (n0 : Nat) :
    MetFree l (⟨"com/example/wary_checker/warychecker/check/HeapPopPinLaw", "ok", "(I)Z"⟩ : MethodName) (head1 (Jvm.Cond.code (⟨"com/example/wary_checker/warychecker/check/HeapPopPinLaw", "ok", "(I)Z"⟩ : MethodName) method_3_code 1 (some .boolean) :: ws) ({ frames := 0, cells := 0, slots := 0, locals := 0 } : Room)) (fun a U => a = #[(.int (Int32.ofNat i))] ∧ Z.Warmed39 U.vm ∧ U.heap = h0) (fun _ _ _ _ _ => True) (fun _ U o U' => ∃ v L, o = .returned v ∧ Qo Z h0 n0 v U'.heap L ∧ FrameEnd U o U' L ({ frames := 0, cells := 0, slots := 0, locals := 0 } : Room).cells ({ frames := 0, cells := 0, slots := 0, locals := 0 } : Room).slots) := by
  refine MetFree.of_bodySF (plainFor_of_name pn_L) hisR ?_
  intro p e s m args below meth c s₁ Bd hml0 hP hK
  obtain ⟨rfl, hZ, hh⟩ := hP
  have hx := Bd.exec
  have hby := Bd.bytes
  have hml : c.maxLocals = 1 := hml0
  have hown : s.vm.findClass "com/example/wary_checker/warychecker/check/HeapPopPinLaw" = some m.cls := findClass_of_methodNamed Bd.named
  have hnm := (name_of_methodNamed Bd.named Bd.method).1
  have X0 : Stand p l e ({ frames := 0, cells := 0, slots := 0, locals := 0 } : Room) s m #[(.int (Int32.ofNat i))] below meth c s₁ [] 0 0 := Stand.of_body Bd
  have e0 : s₁.heap = h0 := by rw [← hh, Bd.state]; rfl
  have N0 := Fr.nil n0
  have pre0 : ∀ t, Steps p.tables e below (s₁.setTop (mkF m 0 #[.val (.int (Int32.ofNat i))] [])) t → Steps p.tables e below (s₁.setTop (entryFrame m #[(.int (Int32.ofNat i))] 1)) t := fun t k => castTop (ef_ok m (Int32.ofNat i)) k
  have h5 : Int32.ofNat i < (5 : Int32) := (own_cl (a := i) (b := 5) (by omega) (by omega)).mpr hi
  obtain ⟨fs, hr, hrun, hended, hW, hsame⟩ := X0.leave (v := some (.int (1 : Int32))) (fun h => by rw [Bd.returns] at h; cases h)
  refine ⟨_, _, pre0 _ ?_, hrun, hended, _, _, rfl, ?_, ⟨_, rfl⟩, hW, hsame.mono (by decide) (by decide)⟩
  · show Steps p.tables e below (s₁.setTop (mkF m 0 #[.val (.int (Int32.ofNat i))] [])) _
    refine XS.iloadN X0.here hx rfl (hb hby do_0) rfl ?_
    show Steps p.tables e below (s₁.setTop (mkF m 1 #[.val (.int (Int32.ofNat i))] [(.int (Int32.ofNat i))])) _
    refine XS.ifNo X0.here hx rfl (hb hby do_1) rfl ((if0 _ _).trans (flt (own_nn (by omega))).1) ?_
    show Steps p.tables e below (s₁.setTop (mkF m 4 #[.val (.int (Int32.ofNat i))] [])) _
    refine XS.iloadN X0.here hx rfl (hb hby do_4) rfl ?_
    show Steps p.tables e below (s₁.setTop (mkF m 5 #[.val (.int (Int32.ofNat i))] [(.int (Int32.ofNat i))])) _
    refine XS.iconst X0.here hx rfl (hb hby do_5) ?_
    show Steps p.tables e below (s₁.setTop (mkF m 6 #[.val (.int (Int32.ofNat i))] [(.int (5 : Int32)), (.int (Int32.ofNat i))])) _
    refine XS.icmpNo X0.here hx rfl (hb hby do_6) rfl (tlt h5).2.1 ?_
    show Steps p.tables e below (s₁.setTop (mkF m 9 #[.val (.int (Int32.ofNat i))] [])) _
    refine XS.iconst X0.here hx rfl (hb hby do_9) ?_
    show Steps p.tables e below (s₁.setTop (mkF m 10 #[.val (.int (Int32.ofNat i))] [(.int (1 : Int32))])) _
    refine XS.goto X0.here hx rfl (pc0 := 10) (pc' := 14) rfl (hb hby do_10) (by decide) (by decide) ?_
    show Steps p.tables e below (s₁.setTop (mkF m 14 #[.val (.int (Int32.ofNat i))] [(.int (1 : Int32))])) _
    exact retN X0 hx (t := .boolean) Bd.returns (by simp) (hb hby do_14) hr
  · show Qo Z h0 n0 _ s₁.heap _
    exact ⟨rfl, N0, e0⟩
theorem de_0 : decode prog_19_method_2_code 0 = .ok (.aload_n 0, 1) := by decide +kernel
theorem de_1 : decode prog_19_method_2_code 1 = .ok (.getfield 17, 3) := by decide +kernel
theorem de_4 : decode prog_19_method_2_code 4 = .ok (.ifCond .ne 7, 3) := by decide +kernel
theorem de_7 : decode prog_19_method_2_code 7 = .ok (.iconst 1, 1) := by decide +kernel
theorem de_8 : decode prog_19_method_2_code 8 = .ok (.goto 4, 3) := by decide +kernel
theorem de_11 : decode prog_19_method_2_code 11 = .ok (.iconst 0, 1) := by decide +kernel
theorem de_12 : decode prog_19_method_2_code 12 = .ok (.ireturn, 1) := by decide +kernel
set_option maxRecDepth 65536 in
set_option maxHeartbeats 40000000 in
theorem rme (l : Launch) (Z : State) (a0 : Array Value) (hw : ∀ d ∈ tables_1, d.before a0 Z = true) (ws : List Jvm.Cond) (hp : Addr) (h0 : Heap) (n0 : Nat) (F : Fld Z h0 hp "com/example/wary_checker/warychecker/check/Heap" "size" "I" (.int (Int32.ofNat 0))) :
    MetFree l (⟨"com/example/wary_checker/warychecker/check/Heap", "isEmpty", "()Z"⟩ : MethodName) (head1 (Jvm.Cond.code (⟨"com/example/wary_checker/warychecker/check/Heap", "isEmpty", "()Z"⟩ : MethodName) prog_19_method_2_code 1 (some .boolean) :: ws) ({ frames := 0, cells := 0, slots := 0, locals := 0 } : Room)) (fun a U => a = #[(.ref hp)] ∧ Z.Warmed39 U.vm ∧ U.heap = h0) (fun _ _ _ _ _ => True) (fun _ U o U' => ∃ v L, o = .returned v ∧ Qo Z h0 n0 v U'.heap L ∧ FrameEnd U o U' L ({ frames := 0, cells := 0, slots := 0, locals := 0 } : Room).cells ({ frames := 0, cells := 0, slots := 0, locals := 0 } : Room).slots) := by
  refine MetFree.of_bodySF (plainFor_of_name pn_H) hisR ?_
  intro p e s m args below meth c s₁ Bd hml0 hP hK
  obtain ⟨rfl, hZ, hh⟩ := hP
  have hx := Bd.exec
  have hby := Bd.bytes
  have hml : c.maxLocals = 1 := hml0
  have hown : s.vm.findClass "com/example/wary_checker/warychecker/check/Heap" = some m.cls := findClass_of_methodNamed Bd.named
  have hnm := (name_of_methodNamed Bd.named Bd.method).1
  have X0 : Stand p l e ({ frames := 0, cells := 0, slots := 0, locals := 0 } : Room) s m #[(.ref hp)] below meth c s₁ [] 0 0 := Stand.of_body Bd
  have e0 : s₁.heap = h0 := by rw [← hh, Bd.state]; rfl
  have N0 := Fr.nil n0
  have pre0 : ∀ t, Steps p.tables e below (s₁.setTop (mkF m 0 #[.val (.ref hp)] [])) t → Steps p.tables e below (s₁.setTop (entryFrame m #[(.ref hp)] 1)) t := fun t k => castTop (ef_this m hp) k
  obtain ⟨T1, X1, e1, st1⟩ := getF X0 hx hZ hown (host := "") (Or.inl (hw _ (List.mem_of_getElem? (i := 24) rfl))) Via.refl e0 F (g := (mkF m 1 #[.val (.ref hp)] [(.ref hp)])) rfl rfl (hb hby de_1)
  obtain ⟨fs, hr, hrun, hended, hW, hsame⟩ := X1.leave (v := some (.int (1 : Int32))) (fun h => by rw [Bd.returns] at h; cases h)
  refine ⟨_, _, pre0 _ ?_, hrun, hended, _, _, rfl, ?_, ⟨_, rfl⟩, hW, hsame.mono (by decide) (by decide)⟩
  · show Steps p.tables e below (s₁.setTop (mkF m 0 #[.val (.ref hp)] [])) _
    refine XS.aloadN X0.here hx rfl (hb hby de_0) rfl rfl ?_
    show Steps p.tables e below (s₁.setTop (mkF m 1 #[.val (.ref hp)] [(.ref hp)])) _
    refine st1 _ ?_
    show Steps p.tables e below (T1.setTop (mkF m 4 #[.val (.ref hp)] [(.int (Int32.ofNat 0))])) _
    refine XS.ifNo X1.here hx rfl (hb hby de_4) rfl (by decide) ?_
    show Steps p.tables e below (T1.setTop (mkF m 7 #[.val (.ref hp)] [])) _
    refine XS.iconst X1.here hx rfl (hb hby de_7) ?_
    show Steps p.tables e below (T1.setTop (mkF m 8 #[.val (.ref hp)] [(.int (1 : Int32))])) _
    refine XS.goto X1.here hx rfl (pc0 := 8) (pc' := 12) rfl (hb hby de_8) (by decide) (by decide) ?_
    show Steps p.tables e below (T1.setTop (mkF m 12 #[.val (.ref hp)] [(.int (1 : Int32))])) _
    exact retN X1 hx (t := .boolean) Bd.returns (by simp) (hb hby de_12) hr
  · show Qo Z h0 n0 _ T1.heap _
    exact ⟨rfl, N0, e1⟩
def Qu (Z : State) (kf jf : Nat → Int32) (q n : Nat) (P : Nat → Nat) (hp ka ia : Addr) (h0 : Heap) (n0 : Nat) (v : Option Value) (h : Heap) (L : List Loc) : Prop := v = none ∧ Fr n0 L ∧ Keep h0 h [hp, ka, ia] ∧ own_HI Z h n0 hp ka ia (Int32.ofNat (n + 1)) (fun j => kf ((own_up (own_less kf) q n P n) j)) (fun j => jf ((own_up (own_less kf) q n P n) j))
set_option maxRecDepth 65536 in
set_option maxHeartbeats 40000000 in
theorem rmu (l : Launch) (Z : State) (a0 : Array Value) (hw : ∀ d ∈ tables_1, d.before a0 Z = true) (ws : List Jvm.Cond) (kf jf : Nat → Int32) (q n : Nat) (hn : n ≤ 14) (P : Nat → Nat) (hp ka ia : Addr) (h0 : Heap) (n0 : Nat) (H : own_HI Z h0 n0 hp ka ia (Int32.ofNat n) (fun j => kf (P j)) (fun j => jf (P j))) :
    MetFree l (⟨"com/example/wary_checker/warychecker/check/Heap", "push", "(DI)V"⟩ : MethodName) (head1 (Jvm.Cond.code (⟨"com/example/wary_checker/warychecker/check/Heap", "push", "(DI)V"⟩ : MethodName) prog_19_method_3_code 5 none :: ws) ({ frames := 0, cells := 0, slots := 0, locals := 0 } : Room)) (fun a U => a = #[(.ref hp), (.double (FP.i2d (kf q))), (.int (jf q))] ∧ Z.Warmed39 U.vm ∧ U.heap = h0) (fun _ _ _ _ _ => True) (fun _ U o U' => ∃ v L, o = .returned v ∧ Qu Z kf jf q n P hp ka ia h0 n0 v U'.heap L ∧ FrameEnd U o U' L ({ frames := 0, cells := 0, slots := 0, locals := 0 } : Room).cells ({ frames := 0, cells := 0, slots := 0, locals := 0 } : Room).slots) := by
  refine MetFree.of_bodySF (plainFor_of_name pn_H) hisR ?_
  intro p e s m args below meth c s₁ Bd hml0 hP hK
  obtain ⟨rfl, hZ, hh⟩ := hP
  have hx := Bd.exec
  have hby := Bd.bytes
  have hml : c.maxLocals = 5 := hml0
  have hown : s.vm.findClass "com/example/wary_checker/warychecker/check/Heap" = some m.cls := findClass_of_methodNamed Bd.named
  have hnm := (name_of_methodNamed Bd.named Bd.method).1
  have X0 : Stand p l e ({ frames := 0, cells := 0, slots := 0, locals := 0 } : Room) s m #[(.ref hp), (.double (FP.i2d (kf q))), (.int (jf q))] below meth c s₁ [] 0 0 := Stand.of_body Bd
  have e0 : s₁.heap = h0 := by rw [← hh, Bd.state]; rfl
  have N0 := Fr.nil n0
  have pre0 : ∀ t, Steps p.tables e below (s₁.setTop (mkF m 0 #[.val (.ref hp), .val (.double (FP.i2d (kf q))), .second, .val (.int (jf q)), .unset] [])) t → Steps p.tables e below (s₁.setTop (entryFrame m #[(.ref hp), (.double (FP.i2d (kf q))), (.int (jf q))] 5)) t := fun t k => castTop (ef_push m hp (FP.i2d (kf q)) (jf q)) k
  have Y0 : own_St p l e ({ frames := 0, cells := 0, slots := 0, locals := 0 } : Room) s m #[(.ref hp), (.double (FP.i2d (kf q))), (.int (jf q))] below meth c Z h0 n0 hp ka ia 0 0 s₁ [] (Int32.ofNat n) (fun j => kf (P j)) (fun j => jf (P j)) := ⟨X0, by rw [e0]; exact H, by rw [e0]; exact Keep.refl _ _, N0⟩
  obtain ⟨T1, L1, g1, n1, K1, I1, Y1, ⟨rfl, ⟨Ls, rfl⟩, rfl, rfl⟩, st⟩ := own_pushAll hx hZ hw hby hown kf jf q n hn P s₁ [] Y0
  obtain ⟨fs, hr, hrun, hended, hW, hsame⟩ := Y1.1.leave (v := none) (fun _ => rfl)
  refine ⟨_, _, pre0 _ ?_, hrun, hended, _, _, rfl, ?_, ⟨_, rfl⟩, hW, hsame.mono (by decide) (by decide)⟩
  · exact st _ (Y1.1.returnOut hx Bd.returns (hb hby du_143) hr)
  · show Qu Z kf jf q n P hp ka ia h0 n0 _ T1.heap _
    exact ⟨rfl, Y1.2.2.2, Y1.2.2.1, Y1.2.1⟩
def Qp (Z : State) (kf jf : Nat → Int32) (n : Nat) (P : Nat → Nat) (hp ka ia : Addr) (h0 : Heap) (n0 : Nat) (v : Option Value) (h : Heap) (L : List Loc) : Prop := v = some (.int (jf (P 0))) ∧ Fr n0 L ∧ Keep h0 h [hp, ka, ia] ∧ own_HI Z h n0 hp ka ia (Int32.ofNat n) (fun j => kf ((own_dn (own_less kf) (P n) n n P 0) j)) (fun j => jf ((own_dn (own_less kf) (P n) n n P 0) j))
set_option maxRecDepth 65536 in
set_option maxHeartbeats 40000000 in
theorem rmp (l : Launch) (Z : State) (a0 : Array Value) (hw : ∀ d ∈ tables_1, d.before a0 Z = true) (ws : List Jvm.Cond) (kf jf : Nat → Int32) (n : Nat) (hn : n ≤ 14) (P : Nat → Nat) (hp ka ia : Addr) (h0 : Heap) (n0 : Nat) (H : own_HI Z h0 n0 hp ka ia (Int32.ofNat (n + 1)) (fun j => kf (P j)) (fun j => jf (P j))) :
    MetFree l (⟨"com/example/wary_checker/warychecker/check/Heap", "pop", "()I"⟩ : MethodName) (head1 (Jvm.Cond.code (⟨"com/example/wary_checker/warychecker/check/Heap", "pop", "()I"⟩ : MethodName) prog_19_method_5_code 7 (some .int) :: ws) ({ frames := 0, cells := 0, slots := 0, locals := 0 } : Room)) (fun a U => a = #[(.ref hp)] ∧ Z.Warmed39 U.vm ∧ U.heap = h0) (fun _ _ _ _ _ => True) (fun _ U o U' => ∃ v L, o = .returned v ∧ Qp Z kf jf n P hp ka ia h0 n0 v U'.heap L ∧ FrameEnd U o U' L ({ frames := 0, cells := 0, slots := 0, locals := 0 } : Room).cells ({ frames := 0, cells := 0, slots := 0, locals := 0 } : Room).slots) := by
  refine MetFree.of_bodySF (plainFor_of_name pn_H) hisR ?_
  intro p e s m args below meth c s₁ Bd hml0 hP hK
  obtain ⟨rfl, hZ, hh⟩ := hP
  have hx := Bd.exec
  have hby := Bd.bytes
  have hml : c.maxLocals = 7 := hml0
  have hown : s.vm.findClass "com/example/wary_checker/warychecker/check/Heap" = some m.cls := findClass_of_methodNamed Bd.named
  have hnm := (name_of_methodNamed Bd.named Bd.method).1
  have X0 : Stand p l e ({ frames := 0, cells := 0, slots := 0, locals := 0 } : Room) s m #[(.ref hp)] below meth c s₁ [] 0 0 := Stand.of_body Bd
  have e0 : s₁.heap = h0 := by rw [← hh, Bd.state]; rfl
  have N0 := Fr.nil n0
  have pre0 : ∀ t, Steps p.tables e below (s₁.setTop (mkF m 0 #[.val (.ref hp), .unset, .unset, .unset, .unset, .unset, .unset] [])) t → Steps p.tables e below (s₁.setTop (entryFrame m #[(.ref hp)] 7)) t := fun t k => castTop (ef_pop m hp) k
  have Y0 : own_St p l e ({ frames := 0, cells := 0, slots := 0, locals := 0 } : Room) s m #[(.ref hp)] below meth c Z h0 n0 hp ka ia 0 0 s₁ [] (Int32.ofNat (n + 1)) (fun j => kf (P j)) (fun j => jf (P j)) := ⟨X0, by rw [e0]; exact H, by rw [e0]; exact Keep.refl _ _, N0⟩
  obtain ⟨T1, L1, g1, n1, K1, I1, Y1, ⟨rfl, ⟨Ls, rfl⟩, rfl, rfl⟩, st⟩ := own_popAll hx hZ hw hby hown kf jf n hn P s₁ [] Y0
  obtain ⟨fs, hr, hrun, hended, hW, hsame⟩ := Y1.1.leave (v := some (.int (jf (P 0)))) (fun h => by rw [Bd.returns] at h; cases h)
  refine ⟨_, _, pre0 _ ?_, hrun, hended, _, _, rfl, ?_, ⟨_, rfl⟩, hW, hsame.mono (by decide) (by decide)⟩
  · exact st _ (retI Y1.1 hx Bd.returns (hb hby dp_164) hr)
  · show Qp Z kf jf n P hp ka ia h0 n0 _ T1.heap _
    exact ⟨rfl, Y1.2.2.2, Y1.2.2.1, Y1.2.1⟩
theorem di_0 : decode prog_19_method_1_code 0 = .ok (.aload_n 0, 1) := by decide +kernel
theorem di_1 : decode prog_19_method_1_code 1 = .ok (.invokespecial 1, 3) := by decide +kernel
theorem di_4 : decode prog_19_method_1_code 4 = .ok (.aload_n 0, 1) := by decide +kernel
theorem di_5 : decode prog_19_method_1_code 5 = .ok (.bipush 16, 2) := by decide +kernel
theorem di_7 : decode prog_19_method_1_code 7 = .ok (.newarray .double, 2) := by decide +kernel
theorem di_9 : decode prog_19_method_1_code 9 = .ok (.putfield 7, 3) := by decide +kernel
theorem di_12 : decode prog_19_method_1_code 12 = .ok (.aload_n 0, 1) := by decide +kernel
theorem di_13 : decode prog_19_method_1_code 13 = .ok (.bipush 16, 2) := by decide +kernel
theorem di_15 : decode prog_19_method_1_code 15 = .ok (.newarray .int, 2) := by decide +kernel
theorem di_17 : decode prog_19_method_1_code 17 = .ok (.putfield 13, 3) := by decide +kernel
theorem di_20 : decode prog_19_method_1_code 20 = .ok (.return_, 1) := by decide +kernel
def Qi (Z : State) (hp : Addr) (h0 : Heap) (n0 : Nat) (v : Option Value) (h : Heap) (L : List Loc) : Prop := v = none ∧ Fr n0 L ∧ Keep h0 h [hp] ∧ ∃ ka ia, own_HI Z h n0 hp ka ia (Int32.ofNat 0) (fun _ => 0) (fun _ => 0) ∧ h0.size ≤ ka ∧ h0.size ≤ ia
set_option maxRecDepth 65536 in
set_option maxHeartbeats 40000000 in
theorem rmi (l : Launch) (Z : State) (a0 : Array Value) (hw : ∀ d ∈ tables_1, d.before a0 Z = true) (ws : List Jvm.Cond) (hp : Addr) (h0 : Heap) (n0 : Nat) (Z0 : n0 ≤ h0.size) (E : Exa Z h0 hp "com/example/wary_checker/warychecker/check/Heap") (F1 : Fld Z h0 hp "com/example/wary_checker/warychecker/check/Heap" "keys" "[D" .null) (F2 : Fld Z h0 hp "com/example/wary_checker/warychecker/check/Heap" "items" "[I" .null) (F3 : Fld Z h0 hp "com/example/wary_checker/warychecker/check/Heap" "size" "I" (.int (0 : Int32))) (gp : n0 ≤ hp) :
    MetFree l (⟨"com/example/wary_checker/warychecker/check/Heap", "<init>", "()V"⟩ : MethodName) (head1 (Jvm.Cond.code (⟨"com/example/wary_checker/warychecker/check/Heap", "<init>", "()V"⟩ : MethodName) prog_19_method_1_code 1 none :: ws) ({ frames := 1, cells := 2, slots := 32, locals := 12 } : Room)) (fun a U => a = #[(.ref hp)] ∧ Z.Warmed39 U.vm ∧ U.heap = h0) (fun _ _ _ _ _ => True) (fun _ U o U' => ∃ v L, o = .returned v ∧ Qi Z hp h0 n0 v U'.heap L ∧ FrameEnd U o U' L ({ frames := 1, cells := 2, slots := 32, locals := 12 } : Room).cells ({ frames := 1, cells := 2, slots := 32, locals := 12 } : Room).slots) := by
  refine MetFree.of_bodySF (plainFor_of_name pn_H) hisR ?_
  intro p e s m args below meth c s₁ Bd hml0 hP hK
  obtain ⟨rfl, hZ, hh⟩ := hP
  have hx := Bd.exec
  have hby := Bd.bytes
  have hml : c.maxLocals = 1 := hml0
  have hown : s.vm.findClass "com/example/wary_checker/warychecker/check/Heap" = some m.cls := findClass_of_methodNamed Bd.named
  have hnm := (name_of_methodNamed Bd.named Bd.method).1
  have X0 : Stand p l e ({ frames := 1, cells := 2, slots := 32, locals := 12 } : Room) s m #[(.ref hp)] below meth c s₁ [] 0 0 := Stand.of_body Bd
  have e0 : s₁.heap = h0 := by rw [← hh, Bd.state]; rfl
  have N0 := Fr.nil n0
  have pre0 : ∀ t, Steps p.tables e below (s₁.setTop (mkF m 0 #[.val (.ref hp)] [])) t → Steps p.tables e below (s₁.setTop (entryFrame m #[(.ref hp)] 1)) t := fun t k => castTop (ef_this m hp) k
  obtain ⟨T1, X1, e1, st1⟩ := initO X0 hx hZ hown (hw _ (List.mem_of_getElem? (i := 11) rfl)) (hw _ (List.mem_of_getElem? (i := 12) rfl)) (hw _ (List.mem_of_getElem? (i := 13) rfl)) e0 (g := (mkF m 1 #[.val (.ref hp)] [(.ref hp)])) rfl (by rw [hml]; rfl) rfl (hb hby di_1) (by decide) (W := 0) (by show 2 * 0 + _ ≤ _; exact Nat.le_of_eq rfl) (by decide)
  obtain ⟨T2, h2, k2, X2, e2, E2, A2, st2⟩ := newP X1 hx hZ (hw _ (List.mem_of_getElem? (i := 0) rfl)) e1 (g := (mkF m 7 #[.val (.ref hp)] [(.int (16 : Int32)), (.ref hp)])) rfl (hb hby di_7) rfl (by decide) (cap := 16) (by decide) (by decide) (by decide) (by decide)
  obtain ⟨ka, g2⟩ : ∃ z, z = h0.size := ⟨_, rfl⟩
  rw [← g2] at A2 st2
  obtain ⟨T3, h3, X3, e3, W3, st3⟩ := putF X2 hx hZ hown (host := "") (Or.inl (hw _ (List.mem_of_getElem? (i := 14) rfl))) Via.refl e2 (F1.ext E2) (E.ext E2) (Or.inl (hw _ (List.mem_of_getElem? (i := 15) rfl))) (hw _ (List.mem_of_getElem? (i := 6) rfl)) (ty := .array .double) (by decide) rfl rfl (g := (mkF m 9 #[.val (.ref hp)] [(.ref ka), (.ref hp)])) rfl rfl (hb hby di_9)
  obtain ⟨T4, h4, k4, X4, e4, E4, A4, st4⟩ := newP X3 hx hZ (hw _ (List.mem_of_getElem? (i := 16) rfl)) e3 (g := (mkF m 15 #[.val (.ref hp)] [(.int (16 : Int32)), (.ref hp)])) rfl (hb hby di_15) rfl (by decide) (cap := 16) (by decide) (by decide) (by decide) (by decide)
  obtain ⟨ia, g4⟩ : ∃ z, z = h3.size := ⟨_, rfl⟩
  rw [← g4] at A4 st4
  have G2 := ((F2.ext E2).other W3 (Or.inr (slot_ne (Or.inl (hw _ (List.mem_of_getElem? (i := 18) rfl))) (Or.inl (hw _ (List.mem_of_getElem? (i := 15) rfl))) (by decide) (t := .array .int) (t' := .array .double) (by decide) (by decide)))).ext E4
  have EE := ((E.ext E2).wr W3).ext E4
  obtain ⟨T5, h5, X5, e5, W5, st5⟩ := putF X4 hx hZ hown (host := "") (Or.inl (hw _ (List.mem_of_getElem? (i := 17) rfl))) Via.refl e4 G2 EE (Or.inl (hw _ (List.mem_of_getElem? (i := 18) rfl))) (hw _ (List.mem_of_getElem? (i := 6) rfl)) (ty := .array .int) (by decide) rfl rfl (g := (mkF m 17 #[.val (.ref hp)] [(.ref ia), (.ref hp)])) rfl rfl (hb hby di_17)
  have q1 : ka > hp := by rw [g2]; exact E.lt
  have q2 : ka < ia := by rw [g4]; exact Nat.lt_of_lt_of_le A2.lt (Keep.of_wr W3).1
  have q3 : ia > hp := Nat.lt_trans q1 q2
  have q4 : h0.size ≤ ka := Nat.le_of_eq g2.symm
  have q5 : h0.size ≤ ia := Nat.le_trans q4 (Nat.le_of_lt q2)
  have D5 := own_DA_other (own_DA_ext (own_DA_other (own_DA_new (n := 16) A2 (by decide)) W3 (Nat.ne_of_gt q1)) E4) W5 (Nat.ne_of_gt q1)
  have A5 := own_IA_other (own_IA_new (n := 16) A4 (by decide)) W5 (Nat.ne_of_gt q3)
  have B1 := (((F1.ext E2).same W3).ext E4).other W5 (Or.inr (slot_ne (Or.inl (hw _ (List.mem_of_getElem? (i := 15) rfl))) (Or.inl (hw _ (List.mem_of_getElem? (i := 18) rfl))) (by decide) (t := .array .double) (t' := .array .int) (by decide) (by decide)))
  have B3 := (((F3.ext E2).other W3 (Or.inr (slot_ne (Or.inl (hw _ (List.mem_of_getElem? (i := 25) rfl))) (Or.inl (hw _ (List.mem_of_getElem? (i := 15) rfl))) (by decide) (t := .int) (t' := .array .double) (by decide) (by decide)))).ext E4).other W5 (Or.inr (slot_ne (Or.inl (hw _ (List.mem_of_getElem? (i := 25) rfl))) (Or.inl (hw _ (List.mem_of_getElem? (i := 18) rfl))) (by decide) (t := .int) (t' := .array .int) (by decide) (by decide)))
  have KK : Keep h0 h5 [hp] := ((((Keep.refl h0 [hp]).ext E2).wr W3 (Or.inl (List.mem_of_getElem? (i := 0) rfl))).ext E4).wr W5 (Or.inl (List.mem_of_getElem? (i := 0) rfl))
  have NN := Fr.snoc X5 (Fr.snoc X3 N0 gp) gp
  obtain ⟨fs, hr, hrun, hended, hW, hsame⟩ := X5.leave (v := none) (fun _ => rfl)
  refine ⟨_, _, pre0 _ ?_, hrun, hended, _, _, rfl, ?_, ⟨_, rfl⟩, hW, hsame.mono (by decide) (by decide)⟩
  · show Steps p.tables e below (s₁.setTop (mkF m 0 #[.val (.ref hp)] [])) _
    refine XS.aloadN X0.here hx rfl (hb hby di_0) rfl rfl ?_
    show Steps p.tables e below (s₁.setTop (mkF m 1 #[.val (.ref hp)] [(.ref hp)])) _
    refine st1 _ ?_
    show Steps p.tables e below (T1.setTop (mkF m 4 #[.val (.ref hp)] [])) _
    refine XS.aloadN X1.here hx rfl (hb hby di_4) rfl rfl ?_
    show Steps p.tables e below (T1.setTop (mkF m 5 #[.val (.ref hp)] [(.ref hp)])) _
    refine XS.bipush X1.here hx rfl (hb hby di_5) ?_
    show Steps p.tables e below (T1.setTop (mkF m 7 #[.val (.ref hp)] [(.int (16 : Int32)), (.ref hp)])) _
    refine st2 _ ?_
    show Steps p.tables e below (T2.setTop (mkF m 9 #[.val (.ref hp)] [(.ref ka), (.ref hp)])) _
    refine st3 _ ?_
    show Steps p.tables e below (T3.setTop (mkF m 12 #[.val (.ref hp)] [])) _
    refine XS.aloadN X3.here hx rfl (hb hby di_12) rfl rfl ?_
    show Steps p.tables e below (T3.setTop (mkF m 13 #[.val (.ref hp)] [(.ref hp)])) _
    refine XS.bipush X3.here hx rfl (hb hby di_13) ?_
    show Steps p.tables e below (T3.setTop (mkF m 15 #[.val (.ref hp)] [(.int (16 : Int32)), (.ref hp)])) _
    refine st4 _ ?_
    show Steps p.tables e below (T4.setTop (mkF m 17 #[.val (.ref hp)] [(.ref ia), (.ref hp)])) _
    refine st5 _ ?_
    show Steps p.tables e below (T5.setTop (mkF m 20 #[.val (.ref hp)] [])) _
    exact X5.returnOut hx Bd.returns (hb hby di_20) hr
  · show Qi Z hp h0 n0 _ T5.heap _
    rw [e5]
    exact ⟨rfl, NN, KK, ka, ia, ⟨EE.wr W5, B1, G2.same W5, B3, D5, A5, ⟨Nat.ne_of_lt q2, Nat.ne_of_lt q1, Nat.ne_of_lt q3⟩, gp, Nat.le_trans Z0 q4, Nat.le_trans Z0 q5⟩, q4, q5⟩
-- the law
def own_kf (b : Int32) : Nat → Int32 := fun i => if i < 5 then own_key b (Int32.ofNat i) else 0
def own_jf (b : Int32) : Nat → Int32 := fun i => if i < 5 then b + Int32.ofNat i else 0
theorem own_jb (b : Int32) {i : Nat} (h : i < 5) : own_jf b i - b = Int32.ofNat i := by simp only [own_jf, h, if_true, own_back]
theorem own_j0 (b : Int32) : b = own_jf b 0 := by simp [own_jf]
def own_LB (p : Program) (l : Launch) (e : Env) (s : State) (m : MethodId) (args : Array Value) (below : List Frame) (meth : Method) (c : Code) (Z : State) (n0 : Nat) (kk hp ka ia : Addr) (kf jf : Nat → Int32) (T : State) (L : List Loc) (n : Nat) (P : Nat → Nat) : Prop :=
  Stand p l e room_1 s m args below meth c T L 4 40 ∧ own_HI Z T.heap n0 hp ka ia (Int32.ofNat n) (fun j => kf (P j)) (fun j => jf (P j)) ∧ own_DA Z T.heap kk 5 kf ∧ Fr n0 L ∧ kk ∉ [hp, ka, ia]
def own_LSeg (p : Program) (l : Launch) (e : Env) (s : State) (m : MethodId) (args : Array Value) (below : List Frame) (meth : Method) (c : Code) (n0 : Nat) (T : State) (g : JFrame) : Prop :=
  ∃ (T' : State) (L' : List Loc) (k' n' : Nat) (Ls : Array Slot), Stand p l e room_1 s m args below meth c T' L' k' n' ∧ (k' ≤ 16 ∧ n' ≤ 192) ∧ Fr n0 L' ∧ ∀ target, Steps p.tables e below (T'.setTop (mkF m 271 Ls [.int (1 : Int32)])) target → Steps p.tables e below (T.setTop g) target
theorem own_lgo {p : Program} {l : Launch} {e : Env} {s : State} {m : MethodId} {args : Array Value} {below : List Frame} {meth : Method} {c : Code} {n0 : Nat} {T T' : State} {g g' : JFrame} (st : ∀ target, Steps p.tables e below (T'.setTop g') target → Steps p.tables e below (T.setTop g) target) (q : own_LSeg p l e s m args below meth c n0 T' g') : own_LSeg p l e s m args below meth c n0 T g := by
  obtain ⟨T1, L1, k1, n1, Ls, X, b, N, k⟩ := q
  exact ⟨T1, L1, k1, n1, Ls, X, b, N, fun t z => st t (k t z)⟩
set_option maxRecDepth 65536 in
set_option maxHeartbeats 40000000 in
theorem own_keyCall {p : Program} {l : Launch} {e : Env} {s : State} {m : MethodId} {args : Array Value} {below : List Frame} {meth : Method} {c : Code} {Z : State} {a0 : Array Value} {n0 : Nat} (hx : p.tables.exec = Jvm.exec) (hZ : Z.Warmed39 s.vm) (hw : ∀ d ∈ tables_1, d.before a0 Z = true) (hown : s.vm.findClass "com/example/wary_checker/warychecker/check/HeapPopPinLaw" = some m.cls) (b i j : Int32) (kk : Addr) {T : State} {L : List Loc} (X : Stand p l e room_1 s m args below meth c T L 1 5) (N : Fr n0 L) (pc : Nat) (Ls : Array Slot) (hsize : Ls.size = c.maxLocals) (hd : decode c.code pc = .ok (.invokestatic 7, 3)) :
    ∃ T' L', (Stand p l e room_1 s m args below meth c T' L' 1 5 ∧ T'.heap = T.heap ∧ Fr n0 L') ∧ ∀ target, Steps p.tables e below (T'.setTop (mkF m (pc + 3) Ls [(.double (FP.i2d (own_key b i))), (.int j), (.ref kk)])) target → Steps p.tables e below (T.setTop (mkF m pc Ls [(.int i), (.int b), (.int j), (.ref kk)])) target := by
  obtain ⟨_, _, ⟨T2, L2, k2, n2⟩, -, X2, ⟨Lc, hQ, l2, y2, z2⟩, st⟩ := Jvm.LawKit.callS X hx (y := (⟨"com/example/wary_checker/warychecker/check/HeapPopPinLaw", "key", "(II)D"⟩ : MethodName)) hown (mvT hZ (hw _ (List.mem_of_getElem? (i := 1) rfl))) (mvT hZ (hw _ (List.mem_of_getElem? (i := 2) rfl))) (mvT hZ (hw _ (List.mem_of_getElem? (i := 3) rfl))) (mvT hZ (hw _ (List.mem_of_getElem? (i := 4) rfl))) (by decide) (backOf (W := 2) (rmk l Z a0 hw [] b i T.heap n0) hZ (hw _ (List.mem_of_getElem? (i := 4) rfl)) (hw _ (List.mem_of_getElem? (i := 3) rfl)) (by decide) (by decide)) (g := (mkF m pc Ls [(.int i), (.int b), (.int j), (.ref kk)])) rfl hsize (argsL := [(.int b), (.int i)]) (rest := [(.int j), (.ref kk)]) (lenOf pd_key rfl) rfl (by show 2 * 0 + _ ≤ _; exact Nat.le_of_eq rfl) hd (fun _ _ => ⟨rfl, rfl, (by decide : 1 + 0 ≤ _), (by decide : 5 + 0 ≤ _)⟩)
  dsimp only [Pt.U, Pt.locs, Pt.cells, Pt.slots] at X2 l2 y2 z2 st hQ
  subst l2 y2 z2
  obtain ⟨rfl, N2, e2⟩ := hQ
  exact ⟨T2, _, ⟨X2, e2, Fr.app N N2⟩, fun t k => st t k⟩
set_option maxRecDepth 65536 in
set_option maxHeartbeats 40000000 in
theorem own_pushCall {p : Program} {l : Launch} {e : Env} {s : State} {m : MethodId} {args : Array Value} {below : List Frame} {meth : Method} {c : Code} {Z : State} {a0 : Array Value} {n0 : Nat} (hx : p.tables.exec = Jvm.exec) (hZ : Z.Warmed39 s.vm) (hw : ∀ d ∈ tables_1, d.before a0 Z = true) (hown : s.vm.findClass "com/example/wary_checker/warychecker/check/HeapPopPinLaw" = some m.cls) {kk hp ka ia : Addr} (kf jf : Nat → Int32) (q n : Nat) (hn : n ≤ 14) (P : Nat → Nat) (z y : Int32) (hz : z = jf q) (hy : y = kf q) {T : State} {L : List Loc} (B : own_LB p l e s m args below meth c Z n0 kk hp ka ia kf jf T L n P) (pc : Nat) (Ls : Array Slot) (hsize : Ls.size = c.maxLocals) (hd : decode c.code pc = .ok (.invokevirtual 16, 3)) :
    ∃ T' L', own_LB p l e s m args below meth c Z n0 kk hp ka ia kf jf T' L' (n + 1) (own_up (own_less kf) q n P n) ∧ ∀ target, Steps p.tables e below (T'.setTop (mkF m (pc + 3) Ls [])) target → Steps p.tables e below (T.setTop (mkF m pc Ls [(.int z), (.double (FP.i2d y)), (.ref hp)])) target := by
  subst hz hy
  obtain ⟨X, H, D, N, hk⟩ := B
  obtain ⟨cq, kq, qa, qb, qc⟩ := isOf hZ rfl H.1
  obtain ⟨_, _, ⟨T2, L2, k2, n2⟩, -, X2, ⟨Lc, hQ, l2, y2, z2⟩, st⟩ := X.virtualBack hx (y := (⟨"com/example/wary_checker/warychecker/check/Heap", "push", "(DI)V"⟩ : MethodName)) (z := (⟨"com/example/wary_checker/warychecker/check/Heap", "push", "(DI)V"⟩ : MethodName)) hown (mvT hZ (hw _ (List.mem_of_getElem? (i := 19) rfl))) (mvT hZ (hw _ (List.mem_of_getElem? (i := 20) rfl))) (notFace_of_selects (args := #[]) (mvT hZ (hw _ (List.mem_of_getElem? (i := 22) rfl)))) (mvT hZ (hw _ (List.mem_of_getElem? (i := 22) rfl))) (mvT hZ (hw _ (List.mem_of_getElem? (i := 21) rfl))) (by decide) (backOf (W := 0) (rmu l Z a0 hw [] kf jf q n hn P hp ka ia T.heap n0 H) hZ (hw _ (List.mem_of_getElem? (i := 23) rfl)) (hw _ (List.mem_of_getElem? (i := 7) rfl)) (by decide) (by decide)) qa qc (g := (mkF m pc Ls [(.int (jf q)), (.double (FP.i2d (kf q))), (.ref hp)])) rfl hsize (Steps.refl _) (argsL := [(.double (FP.i2d (kf q))), (.int (jf q))]) (rest := []) (lenOf pd_push rfl) rfl (by show 2 * 0 + _ ≤ _; exact Nat.le_of_eq rfl) hd (fun _ _ => ⟨rfl, rfl, (by decide : 4 + 0 ≤ _), (by decide : 40 + 0 ≤ _)⟩)
  dsimp only [Pt.U, Pt.locs, Pt.cells, Pt.slots] at X2 l2 y2 z2 st hQ
  subst l2 y2 z2
  obtain ⟨rfl, N2, K2, H2⟩ := hQ
  exact ⟨T2, _, ⟨X2, H2, own_DA_keep D K2 hk, Fr.app N N2, hk⟩, fun t k => st.trans k⟩
set_option maxRecDepth 65536 in
set_option maxHeartbeats 40000000 in
theorem own_popCall {p : Program} {l : Launch} {e : Env} {s : State} {m : MethodId} {args : Array Value} {below : List Frame} {meth : Method} {c : Code} {Z : State} {a0 : Array Value} {n0 : Nat} (hx : p.tables.exec = Jvm.exec) (hZ : Z.Warmed39 s.vm) (hw : ∀ d ∈ tables_1, d.before a0 Z = true) (hown : s.vm.findClass "com/example/wary_checker/warychecker/check/HeapPopPinLaw" = some m.cls) {kk hp ka ia : Addr} (kf jf : Nat → Int32) (n : Nat) (hn : n ≤ 14) (P : Nat → Nat) {T : State} {L : List Loc} (B : own_LB p l e s m args below meth c Z n0 kk hp ka ia kf jf T L (n + 1) P) (pc : Nat) (Ls : Array Slot) (hsize : Ls.size = c.maxLocals) (hd : decode c.code pc = .ok (.invokevirtual 20, 3)) :
    ∃ T' L', own_LB p l e s m args below meth c Z n0 kk hp ka ia kf jf T' L' n (own_dn (own_less kf) (P n) n n P 0) ∧ ∀ target, Steps p.tables e below (T'.setTop (mkF m (pc + 3) Ls [(.int (jf (P 0)))])) target → Steps p.tables e below (T.setTop (mkF m pc Ls [(.ref hp)])) target := by
  obtain ⟨X, H, D, N, hk⟩ := B
  obtain ⟨cq, kq, qa, qb, qc⟩ := isOf hZ rfl H.1
  obtain ⟨_, _, ⟨T2, L2, k2, n2⟩, -, X2, ⟨Lc, hQ, l2, y2, z2⟩, st⟩ := X.virtualBack hx (y := (⟨"com/example/wary_checker/warychecker/check/Heap", "pop", "()I"⟩ : MethodName)) (z := (⟨"com/example/wary_checker/warychecker/check/Heap", "pop", "()I"⟩ : MethodName)) hown (mvT hZ (hw _ (List.mem_of_getElem? (i := 26) rfl))) (mvT hZ (hw _ (List.mem_of_getElem? (i := 27) rfl))) (notFace_of_selects (args := #[]) (mvT hZ (hw _ (List.mem_of_getElem? (i := 29) rfl)))) (mvT hZ (hw _ (List.mem_of_getElem? (i := 29) rfl))) (mvT hZ (hw _ (List.mem_of_getElem? (i := 28) rfl))) (by decide) (backOf (W := 0) (rmp l Z a0 hw [] kf jf n hn P hp ka ia T.heap n0 H) hZ (hw _ (List.mem_of_getElem? (i := 30) rfl)) (hw _ (List.mem_of_getElem? (i := 7) rfl)) (by decide) (by decide)) qa qc (g := (mkF m pc Ls [(.ref hp)])) rfl hsize (Steps.refl _) (argsL := []) (rest := []) (lenOf pd_pop rfl) rfl (by show 2 * 0 + _ ≤ _; exact Nat.le_of_eq rfl) hd (fun _ _ => ⟨rfl, rfl, (by decide : 4 + 0 ≤ _), (by decide : 40 + 0 ≤ _)⟩)
  dsimp only [Pt.U, Pt.locs, Pt.cells, Pt.slots] at X2 l2 y2 z2 st hQ
  subst l2 y2 z2
  obtain ⟨rfl, N2, K2, H2⟩ := hQ
  exact ⟨T2, _, ⟨X2, H2, own_DA_keep D K2 hk, Fr.app N N2, hk⟩, fun t k => st.trans k⟩
set_option maxRecDepth 65536 in
set_option maxHeartbeats 40000000 in
theorem own_okCall {p : Program} {l : Launch} {e : Env} {s : State} {m : MethodId} {args : Array Value} {below : List Frame} {meth : Method} {c : Code} {Z : State} {a0 : Array Value} {n0 : Nat} (hx : p.tables.exec = Jvm.exec) (hZ : Z.Warmed39 s.vm) (hw : ∀ d ∈ tables_1, d.before a0 Z = true) (hown : s.vm.findClass "com/example/wary_checker/warychecker/check/HeapPopPinLaw" = some m.cls) {kk hp ka ia : Addr} (kf jf : Nat → Int32) (n : Nat) (P : Nat → Nat) (i : Nat) (hi : i < 5) {T : State} {L : List Loc} (B : own_LB p l e s m args below meth c Z n0 kk hp ka ia kf jf T L n P) (pc : Nat) (Ls : Array Slot) (hsize : Ls.size = c.maxLocals) (hd : decode c.code pc = .ok (.invokestatic 24, 3)) :
    ∃ T' L', own_LB p l e s m args below meth c Z n0 kk hp ka ia kf jf T' L' n P ∧ ∀ target, Steps p.tables e below (T'.setTop (mkF m (pc + 3) Ls [(.int (1 : Int32))])) target → Steps p.tables e below (T.setTop (mkF m pc Ls [(.int (Int32.ofNat i))])) target := by
  obtain ⟨X, H, D, N, hk⟩ := B
  obtain ⟨cq, kq, qa, qb, qc⟩ := isOf hZ rfl H.1
  obtain ⟨_, _, ⟨T2, L2, k2, n2⟩, -, X2, ⟨Lc, hQ, l2, y2, z2⟩, st⟩ := Jvm.LawKit.callS X hx (y := (⟨"com/example/wary_checker/warychecker/check/HeapPopPinLaw", "ok", "(I)Z"⟩ : MethodName)) hown (mvT hZ (hw _ (List.mem_of_getElem? (i := 31) rfl))) (mvT hZ (hw _ (List.mem_of_getElem? (i := 32) rfl))) (mvT hZ (hw _ (List.mem_of_getElem? (i := 3) rfl))) (mvT hZ (hw _ (List.mem_of_getElem? (i := 33) rfl))) (by decide) (backOf (W := 0) (rmo l Z a0 hw [] i hi T.heap n0) hZ (hw _ (List.mem_of_getElem? (i := 33) rfl)) (hw _ (List.mem_of_getElem? (i := 3) rfl)) (by decide) (by decide)) (g := (mkF m pc Ls [(.int (Int32.ofNat i))])) rfl hsize (argsL := [(.int (Int32.ofNat i))]) (rest := []) (lenOf pd_ok rfl) rfl (by show 2 * 0 + _ ≤ _; exact Nat.le_of_eq rfl) hd (fun _ _ => ⟨rfl, rfl, (by decide : 4 + 0 ≤ _), (by decide : 40 + 0 ≤ _)⟩)
  dsimp only [Pt.U, Pt.locs, Pt.cells, Pt.slots] at X2 l2 y2 z2 st hQ
  subst l2 y2 z2
  obtain ⟨rfl, N2, e2⟩ := hQ
  exact ⟨T2, _, ⟨X2, by rw [e2]; exact H, by rw [e2]; exact D, Fr.app N N2, hk⟩, fun t k => st t k⟩
set_option maxRecDepth 65536 in
set_option maxHeartbeats 40000000 in
theorem own_empCall {p : Program} {l : Launch} {e : Env} {s : State} {m : MethodId} {args : Array Value} {below : List Frame} {meth : Method} {c : Code} {Z : State} {a0 : Array Value} {n0 : Nat} (hx : p.tables.exec = Jvm.exec) (hZ : Z.Warmed39 s.vm) (hw : ∀ d ∈ tables_1, d.before a0 Z = true) (hown : s.vm.findClass "com/example/wary_checker/warychecker/check/HeapPopPinLaw" = some m.cls) {kk hp ka ia : Addr} (kf jf : Nat → Int32) (P : Nat → Nat) {T : State} {L : List Loc} (B : own_LB p l e s m args below meth c Z n0 kk hp ka ia kf jf T L 0 P) (pc : Nat) (Ls : Array Slot) (hsize : Ls.size = c.maxLocals) (hd : decode c.code pc = .ok (.invokevirtual 28, 3)) :
    ∃ T' L', own_LB p l e s m args below meth c Z n0 kk hp ka ia kf jf T' L' 0 P ∧ ∀ target, Steps p.tables e below (T'.setTop (mkF m (pc + 3) Ls [(.int (1 : Int32))])) target → Steps p.tables e below (T.setTop (mkF m pc Ls [(.ref hp)])) target := by
  obtain ⟨X, H, D, N, hk⟩ := B
  obtain ⟨cq, kq, qa, qb, qc⟩ := isOf hZ rfl H.1
  obtain ⟨_, _, ⟨T2, L2, k2, n2⟩, -, X2, ⟨Lc, hQ, l2, y2, z2⟩, st⟩ := X.virtualBack hx (y := (⟨"com/example/wary_checker/warychecker/check/Heap", "isEmpty", "()Z"⟩ : MethodName)) (z := (⟨"com/example/wary_checker/warychecker/check/Heap", "isEmpty", "()Z"⟩ : MethodName)) hown (mvT hZ (hw _ (List.mem_of_getElem? (i := 34) rfl))) (mvT hZ (hw _ (List.mem_of_getElem? (i := 35) rfl))) (notFace_of_selects (args := #[]) (mvT hZ (hw _ (List.mem_of_getElem? (i := 37) rfl)))) (mvT hZ (hw _ (List.mem_of_getElem? (i := 37) rfl))) (mvT hZ (hw _ (List.mem_of_getElem? (i := 36) rfl))) (by decide) (backOf (W := 0) (rme l Z a0 hw [] hp T.heap n0 H.2.2.2.1) hZ (hw _ (List.mem_of_getElem? (i := 38) rfl)) (hw _ (List.mem_of_getElem? (i := 7) rfl)) (by decide) (by decide)) qa qc (g := (mkF m pc Ls [(.ref hp)])) rfl hsize (Steps.refl _) (argsL := []) (rest := []) (lenOf pd_emp rfl) rfl (by show 2 * 0 + _ ≤ _; exact Nat.le_of_eq rfl) hd (fun _ _ => ⟨rfl, rfl, (by decide : 4 + 0 ≤ _), (by decide : 40 + 0 ≤ _)⟩)
  dsimp only [Pt.U, Pt.locs, Pt.cells, Pt.slots] at X2 l2 y2 z2 st hQ
  subst l2 y2 z2
  obtain ⟨rfl, N2, e2⟩ := hQ
  exact ⟨T2, _, ⟨X2, by rw [e2]; exact H, by rw [e2]; exact D, Fr.app N N2, hk⟩, fun t k => st.trans k⟩
set_option maxRecDepth 65536 in
set_option maxHeartbeats 40000000 in
theorem own_lawC {p : Program} {l : Launch} {e : Env} {s : State} {m : MethodId} {args : Array Value} {below : List Frame} {meth : Method} {c : Code} {Z : State} {a0 : Array Value} {n0 : Nat} (hx : p.tables.exec = Jvm.exec) (hZ : Z.Warmed39 s.vm) (hw : ∀ d ∈ tables_1, d.before a0 Z = true) (hown : s.vm.findClass "com/example/wary_checker/warychecker/check/HeapPopPinLaw" = some m.cls) (hby : c.code = code) (hml : c.maxLocals = 10) (b z : Int32) {kk hp ka ia : Addr} {T0 : State} {L0 : List Loc} (B0 : own_LB p l e s m args below meth c Z n0 kk hp ka ia (own_kf b) (own_jf z) T0 L0 0 (fun _ => 5)) :
    own_LSeg p l e s m args below meth c n0 T0 (mkF m 52 #[.val (.int b), .val (.int z), .val (.ref kk), .val (.ref hp), .unset, .unset, .unset, .unset, .unset, .unset] []) := by
  obtain ⟨P1, e1⟩ : ∃ P, P = own_up (own_less (own_kf b)) 0 0 (fun _ => 5) 0 := ⟨_, rfl⟩
  obtain ⟨P2, e2⟩ : ∃ P, P = own_up (own_less (own_kf b)) 1 1 P1 1 := ⟨_, rfl⟩
  obtain ⟨P3, e3⟩ : ∃ P, P = own_up (own_less (own_kf b)) 2 2 P2 2 := ⟨_, rfl⟩
  obtain ⟨P4, e4⟩ : ∃ P, P = own_up (own_less (own_kf b)) 3 3 P3 3 := ⟨_, rfl⟩
  obtain ⟨P5, e5⟩ : ∃ P, P = own_up (own_less (own_kf b)) 4 4 P4 4 := ⟨_, rfl⟩
  obtain ⟨R4, r4⟩ : ∃ P, P = own_dn (own_less (own_kf b)) (P5 4) 4 4 P5 0 := ⟨_, rfl⟩
  obtain ⟨R3, r3⟩ : ∃ P, P = own_dn (own_less (own_kf b)) (R4 3) 3 3 R4 0 := ⟨_, rfl⟩
  obtain ⟨R2, r2⟩ : ∃ P, P = own_dn (own_less (own_kf b)) (R3 2) 2 2 R3 0 := ⟨_, rfl⟩
  obtain ⟨R1, r1⟩ : ∃ P, P = own_dn (own_less (own_kf b)) (R2 1) 1 1 R2 0 := ⟨_, rfl⟩
  obtain ⟨R0, r0⟩ : ∃ P, P = own_dn (own_less (own_kf b)) (R1 0) 0 0 R1 0 := ⟨_, rfl⟩
  obtain ⟨hs, g1, g2, g3, g4⟩ := own_plain (own_kf b) e1 e2 e3 e4 e5 r4 r3 r2 r1
  obtain ⟨⟨i0, i1, i2, i3, i4⟩, hm⟩ := own_fin hs
  show own_LSeg p l e s m args below meth c n0 T0 (mkF m 52 #[.val (.int b), .val (.int z), .val (.ref kk), .val (.ref hp), .unset, .unset, .unset, .unset, .unset, .unset] [])
  refine own_lgo (fun _ kt => XS.aloadN B0.1.here hx rfl (hb hby at_52) rfl rfl kt) ?_
  show own_LSeg p l e s m args below meth c n0 T0 (mkF m 53 #[.val (.int b), .val (.int z), .val (.ref kk), .val (.ref hp), .unset, .unset, .unset, .unset, .unset, .unset] [(.ref hp)])
  refine own_lgo (fun _ kt => XS.aloadN B0.1.here hx rfl (hb hby at_53) rfl rfl kt) ?_
  show own_LSeg p l e s m args below meth c n0 T0 (mkF m 54 #[.val (.int b), .val (.int z), .val (.ref kk), .val (.ref hp), .unset, .unset, .unset, .unset, .unset, .unset] [(.ref kk), (.ref hp)])
  refine own_lgo (fun _ kt => XS.iconst B0.1.here hx rfl (hb hby at_54) kt) ?_
  show own_LSeg p l e s m args below meth c n0 T0 (mkF m 55 #[.val (.int b), .val (.int z), .val (.ref kk), .val (.ref hp), .unset, .unset, .unset, .unset, .unset, .unset] [(.int (Int32.ofNat 0)), (.ref kk), (.ref hp)])
  refine own_lgo (own_dl B0.1 hx hZ B0.2.2.1 (show 0 < 5 by decide) (by decide) (g := (mkF m 55 #[.val (.int b), .val (.int z), .val (.ref kk), .val (.ref hp), .unset, .unset, .unset, .unset, .unset, .unset] [(.int (Int32.ofNat 0)), (.ref kk), (.ref hp)])) rfl rfl (hb hby at_55)) ?_
  show own_LSeg p l e s m args below meth c n0 T0 (mkF m 56 #[.val (.int b), .val (.int z), .val (.ref kk), .val (.ref hp), .unset, .unset, .unset, .unset, .unset, .unset] [(.double (FP.i2d (own_kf b 0))), (.ref hp)])
  refine own_lgo (fun _ kt => XS.iloadN B0.1.here hx rfl (hb hby at_56) rfl kt) ?_
  show own_LSeg p l e s m args below meth c n0 T0 (mkF m 57 #[.val (.int b), .val (.int z), .val (.ref kk), .val (.ref hp), .unset, .unset, .unset, .unset, .unset, .unset] [(.int z), (.double (FP.i2d (own_kf b 0))), (.ref hp)])
  obtain ⟨T1, L1, B1, st1⟩ := own_pushCall hx hZ hw hown (own_kf b) (own_jf z) 0 0 (by decide) (fun _ => 5) z (own_kf b 0) (own_j0 z) rfl B0 57 #[.val (.int b), .val (.int z), .val (.ref kk), .val (.ref hp), .unset, .unset, .unset, .unset, .unset, .unset] (by rw [hml]; rfl) (hb hby at_57)
  rw [← e1] at B1
  refine own_lgo st1 ?_
  show own_LSeg p l e s m args below meth c n0 T1 (mkF m 60 #[.val (.int b), .val (.int z), .val (.ref kk), .val (.ref hp), .unset, .unset, .unset, .unset, .unset, .unset] [])
  refine own_lgo (fun _ kt => XS.aloadN B1.1.here hx rfl (hb hby at_60) rfl rfl kt) ?_
  show own_LSeg p l e s m args below meth c n0 T1 (mkF m 61 #[.val (.int b), .val (.int z), .val (.ref kk), .val (.ref hp), .unset, .unset, .unset, .unset, .unset, .unset] [(.ref hp)])
  refine own_lgo (fun _ kt => XS.aloadN B1.1.here hx rfl (hb hby at_61) rfl rfl kt) ?_
  show own_LSeg p l e s m args below meth c n0 T1 (mkF m 62 #[.val (.int b), .val (.int z), .val (.ref kk), .val (.ref hp), .unset, .unset, .unset, .unset, .unset, .unset] [(.ref kk), (.ref hp)])
  refine own_lgo (fun _ kt => XS.iconst B1.1.here hx rfl (hb hby at_62) kt) ?_
  show own_LSeg p l e s m args below meth c n0 T1 (mkF m 63 #[.val (.int b), .val (.int z), .val (.ref kk), .val (.ref hp), .unset, .unset, .unset, .unset, .unset, .unset] [(.int (Int32.ofNat 1)), (.ref kk), (.ref hp)])
  refine own_lgo (own_dl B1.1 hx hZ B1.2.2.1 (show 1 < 5 by decide) (by decide) (g := (mkF m 63 #[.val (.int b), .val (.int z), .val (.ref kk), .val (.ref hp), .unset, .unset, .unset, .unset, .unset, .unset] [(.int (Int32.ofNat 1)), (.ref kk), (.ref hp)])) rfl rfl (hb hby at_63)) ?_
  show own_LSeg p l e s m args below meth c n0 T1 (mkF m 64 #[.val (.int b), .val (.int z), .val (.ref kk), .val (.ref hp), .unset, .unset, .unset, .unset, .unset, .unset] [(.double (FP.i2d (own_kf b 1))), (.ref hp)])
  refine own_lgo (fun _ kt => XS.iloadN B1.1.here hx rfl (hb hby at_64) rfl kt) ?_
  show own_LSeg p l e s m args below meth c n0 T1 (mkF m 65 #[.val (.int b), .val (.int z), .val (.ref kk), .val (.ref hp), .unset, .unset, .unset, .unset, .unset, .unset] [(.int z), (.double (FP.i2d (own_kf b 1))), (.ref hp)])
  refine own_lgo (fun _ kt => XS.iconst B1.1.here hx rfl (hb hby at_65) kt) ?_
  show own_LSeg p l e s m args below meth c n0 T1 (mkF m 66 #[.val (.int b), .val (.int z), .val (.ref kk), .val (.ref hp), .unset, .unset, .unset, .unset, .unset, .unset] [(.int (1 : Int32)), (.int z), (.double (FP.i2d (own_kf b 1))), (.ref hp)])
  refine own_lgo (fun _ kt => XS.iadd B1.1.here hx rfl (hb hby at_66) rfl kt) ?_
  show own_LSeg p l e s m args below meth c n0 T1 (mkF m 67 #[.val (.int b), .val (.int z), .val (.ref kk), .val (.ref hp), .unset, .unset, .unset, .unset, .unset, .unset] [(.int (z + (1 : Int32))), (.double (FP.i2d (own_kf b 1))), (.ref hp)])
  obtain ⟨T2, L2, B2, st2⟩ := own_pushCall hx hZ hw hown (own_kf b) (own_jf z) 1 1 (by decide) P1 (z + (1 : Int32)) (own_kf b 1) rfl rfl B1 67 #[.val (.int b), .val (.int z), .val (.ref kk), .val (.ref hp), .unset, .unset, .unset, .unset, .unset, .unset] (by rw [hml]; rfl) (hb hby at_67)
  rw [← e2] at B2
  refine own_lgo st2 ?_
  show own_LSeg p l e s m args below meth c n0 T2 (mkF m 70 #[.val (.int b), .val (.int z), .val (.ref kk), .val (.ref hp), .unset, .unset, .unset, .unset, .unset, .unset] [])
  refine own_lgo (fun _ kt => XS.aloadN B2.1.here hx rfl (hb hby at_70) rfl rfl kt) ?_
  show own_LSeg p l e s m args below meth c n0 T2 (mkF m 71 #[.val (.int b), .val (.int z), .val (.ref kk), .val (.ref hp), .unset, .unset, .unset, .unset, .unset, .unset] [(.ref hp)])
  refine own_lgo (fun _ kt => XS.aloadN B2.1.here hx rfl (hb hby at_71) rfl rfl kt) ?_
  show own_LSeg p l e s m args below meth c n0 T2 (mkF m 72 #[.val (.int b), .val (.int z), .val (.ref kk), .val (.ref hp), .unset, .unset, .unset, .unset, .unset, .unset] [(.ref kk), (.ref hp)])
  refine own_lgo (fun _ kt => XS.iconst B2.1.here hx rfl (hb hby at_72) kt) ?_
  show own_LSeg p l e s m args below meth c n0 T2 (mkF m 73 #[.val (.int b), .val (.int z), .val (.ref kk), .val (.ref hp), .unset, .unset, .unset, .unset, .unset, .unset] [(.int (Int32.ofNat 2)), (.ref kk), (.ref hp)])
  refine own_lgo (own_dl B2.1 hx hZ B2.2.2.1 (show 2 < 5 by decide) (by decide) (g := (mkF m 73 #[.val (.int b), .val (.int z), .val (.ref kk), .val (.ref hp), .unset, .unset, .unset, .unset, .unset, .unset] [(.int (Int32.ofNat 2)), (.ref kk), (.ref hp)])) rfl rfl (hb hby at_73)) ?_
  show own_LSeg p l e s m args below meth c n0 T2 (mkF m 74 #[.val (.int b), .val (.int z), .val (.ref kk), .val (.ref hp), .unset, .unset, .unset, .unset, .unset, .unset] [(.double (FP.i2d (own_kf b 2))), (.ref hp)])
  refine own_lgo (fun _ kt => XS.iloadN B2.1.here hx rfl (hb hby at_74) rfl kt) ?_
  show own_LSeg p l e s m args below meth c n0 T2 (mkF m 75 #[.val (.int b), .val (.int z), .val (.ref kk), .val (.ref hp), .unset, .unset, .unset, .unset, .unset, .unset] [(.int z), (.double (FP.i2d (own_kf b 2))), (.ref hp)])
  refine own_lgo (fun _ kt => XS.iconst B2.1.here hx rfl (hb hby at_75) kt) ?_
  show own_LSeg p l e s m args below meth c n0 T2 (mkF m 76 #[.val (.int b), .val (.int z), .val (.ref kk), .val (.ref hp), .unset, .unset, .unset, .unset, .unset, .unset] [(.int (2 : Int32)), (.int z), (.double (FP.i2d (own_kf b 2))), (.ref hp)])
  refine own_lgo (fun _ kt => XS.iadd B2.1.here hx rfl (hb hby at_76) rfl kt) ?_
  show own_LSeg p l e s m args below meth c n0 T2 (mkF m 77 #[.val (.int b), .val (.int z), .val (.ref kk), .val (.ref hp), .unset, .unset, .unset, .unset, .unset, .unset] [(.int (z + (2 : Int32))), (.double (FP.i2d (own_kf b 2))), (.ref hp)])
  obtain ⟨T3, L3, B3, st3⟩ := own_pushCall hx hZ hw hown (own_kf b) (own_jf z) 2 2 (by decide) P2 (z + (2 : Int32)) (own_kf b 2) rfl rfl B2 77 #[.val (.int b), .val (.int z), .val (.ref kk), .val (.ref hp), .unset, .unset, .unset, .unset, .unset, .unset] (by rw [hml]; rfl) (hb hby at_77)
  rw [← e3] at B3
  refine own_lgo st3 ?_
  show own_LSeg p l e s m args below meth c n0 T3 (mkF m 80 #[.val (.int b), .val (.int z), .val (.ref kk), .val (.ref hp), .unset, .unset, .unset, .unset, .unset, .unset] [])
  refine own_lgo (fun _ kt => XS.aloadN B3.1.here hx rfl (hb hby at_80) rfl rfl kt) ?_
  show own_LSeg p l e s m args below meth c n0 T3 (mkF m 81 #[.val (.int b), .val (.int z), .val (.ref kk), .val (.ref hp), .unset, .unset, .unset, .unset, .unset, .unset] [(.ref hp)])
  refine own_lgo (fun _ kt => XS.aloadN B3.1.here hx rfl (hb hby at_81) rfl rfl kt) ?_
  show own_LSeg p l e s m args below meth c n0 T3 (mkF m 82 #[.val (.int b), .val (.int z), .val (.ref kk), .val (.ref hp), .unset, .unset, .unset, .unset, .unset, .unset] [(.ref kk), (.ref hp)])
  refine own_lgo (fun _ kt => XS.iconst B3.1.here hx rfl (hb hby at_82) kt) ?_
  show own_LSeg p l e s m args below meth c n0 T3 (mkF m 83 #[.val (.int b), .val (.int z), .val (.ref kk), .val (.ref hp), .unset, .unset, .unset, .unset, .unset, .unset] [(.int (Int32.ofNat 3)), (.ref kk), (.ref hp)])
  refine own_lgo (own_dl B3.1 hx hZ B3.2.2.1 (show 3 < 5 by decide) (by decide) (g := (mkF m 83 #[.val (.int b), .val (.int z), .val (.ref kk), .val (.ref hp), .unset, .unset, .unset, .unset, .unset, .unset] [(.int (Int32.ofNat 3)), (.ref kk), (.ref hp)])) rfl rfl (hb hby at_83)) ?_
  show own_LSeg p l e s m args below meth c n0 T3 (mkF m 84 #[.val (.int b), .val (.int z), .val (.ref kk), .val (.ref hp), .unset, .unset, .unset, .unset, .unset, .unset] [(.double (FP.i2d (own_kf b 3))), (.ref hp)])
  refine own_lgo (fun _ kt => XS.iloadN B3.1.here hx rfl (hb hby at_84) rfl kt) ?_
  show own_LSeg p l e s m args below meth c n0 T3 (mkF m 85 #[.val (.int b), .val (.int z), .val (.ref kk), .val (.ref hp), .unset, .unset, .unset, .unset, .unset, .unset] [(.int z), (.double (FP.i2d (own_kf b 3))), (.ref hp)])
  refine own_lgo (fun _ kt => XS.iconst B3.1.here hx rfl (hb hby at_85) kt) ?_
  show own_LSeg p l e s m args below meth c n0 T3 (mkF m 86 #[.val (.int b), .val (.int z), .val (.ref kk), .val (.ref hp), .unset, .unset, .unset, .unset, .unset, .unset] [(.int (3 : Int32)), (.int z), (.double (FP.i2d (own_kf b 3))), (.ref hp)])
  refine own_lgo (fun _ kt => XS.iadd B3.1.here hx rfl (hb hby at_86) rfl kt) ?_
  show own_LSeg p l e s m args below meth c n0 T3 (mkF m 87 #[.val (.int b), .val (.int z), .val (.ref kk), .val (.ref hp), .unset, .unset, .unset, .unset, .unset, .unset] [(.int (z + (3 : Int32))), (.double (FP.i2d (own_kf b 3))), (.ref hp)])
  obtain ⟨T4, L4, B4, st4⟩ := own_pushCall hx hZ hw hown (own_kf b) (own_jf z) 3 3 (by decide) P3 (z + (3 : Int32)) (own_kf b 3) rfl rfl B3 87 #[.val (.int b), .val (.int z), .val (.ref kk), .val (.ref hp), .unset, .unset, .unset, .unset, .unset, .unset] (by rw [hml]; rfl) (hb hby at_87)
  rw [← e4] at B4
  refine own_lgo st4 ?_
  show own_LSeg p l e s m args below meth c n0 T4 (mkF m 90 #[.val (.int b), .val (.int z), .val (.ref kk), .val (.ref hp), .unset, .unset, .unset, .unset, .unset, .unset] [])
  refine own_lgo (fun _ kt => XS.aloadN B4.1.here hx rfl (hb hby at_90) rfl rfl kt) ?_
  show own_LSeg p l e s m args below meth c n0 T4 (mkF m 91 #[.val (.int b), .val (.int z), .val (.ref kk), .val (.ref hp), .unset, .unset, .unset, .unset, .unset, .unset] [(.ref hp)])
  refine own_lgo (fun _ kt => XS.aloadN B4.1.here hx rfl (hb hby at_91) rfl rfl kt) ?_
  show own_LSeg p l e s m args below meth c n0 T4 (mkF m 92 #[.val (.int b), .val (.int z), .val (.ref kk), .val (.ref hp), .unset, .unset, .unset, .unset, .unset, .unset] [(.ref kk), (.ref hp)])
  refine own_lgo (fun _ kt => XS.iconst B4.1.here hx rfl (hb hby at_92) kt) ?_
  show own_LSeg p l e s m args below meth c n0 T4 (mkF m 93 #[.val (.int b), .val (.int z), .val (.ref kk), .val (.ref hp), .unset, .unset, .unset, .unset, .unset, .unset] [(.int (Int32.ofNat 4)), (.ref kk), (.ref hp)])
  refine own_lgo (own_dl B4.1 hx hZ B4.2.2.1 (show 4 < 5 by decide) (by decide) (g := (mkF m 93 #[.val (.int b), .val (.int z), .val (.ref kk), .val (.ref hp), .unset, .unset, .unset, .unset, .unset, .unset] [(.int (Int32.ofNat 4)), (.ref kk), (.ref hp)])) rfl rfl (hb hby at_93)) ?_
  show own_LSeg p l e s m args below meth c n0 T4 (mkF m 94 #[.val (.int b), .val (.int z), .val (.ref kk), .val (.ref hp), .unset, .unset, .unset, .unset, .unset, .unset] [(.double (FP.i2d (own_kf b 4))), (.ref hp)])
  refine own_lgo (fun _ kt => XS.iloadN B4.1.here hx rfl (hb hby at_94) rfl kt) ?_
  show own_LSeg p l e s m args below meth c n0 T4 (mkF m 95 #[.val (.int b), .val (.int z), .val (.ref kk), .val (.ref hp), .unset, .unset, .unset, .unset, .unset, .unset] [(.int z), (.double (FP.i2d (own_kf b 4))), (.ref hp)])
  refine own_lgo (fun _ kt => XS.iconst B4.1.here hx rfl (hb hby at_95) kt) ?_
  show own_LSeg p l e s m args below meth c n0 T4 (mkF m 96 #[.val (.int b), .val (.int z), .val (.ref kk), .val (.ref hp), .unset, .unset, .unset, .unset, .unset, .unset] [(.int (4 : Int32)), (.int z), (.double (FP.i2d (own_kf b 4))), (.ref hp)])
  refine own_lgo (fun _ kt => XS.iadd B4.1.here hx rfl (hb hby at_96) rfl kt) ?_
  show own_LSeg p l e s m args below meth c n0 T4 (mkF m 97 #[.val (.int b), .val (.int z), .val (.ref kk), .val (.ref hp), .unset, .unset, .unset, .unset, .unset, .unset] [(.int (z + (4 : Int32))), (.double (FP.i2d (own_kf b 4))), (.ref hp)])
  obtain ⟨T5, L5, B5, st5⟩ := own_pushCall hx hZ hw hown (own_kf b) (own_jf z) 4 4 (by decide) P4 (z + (4 : Int32)) (own_kf b 4) rfl rfl B4 97 #[.val (.int b), .val (.int z), .val (.ref kk), .val (.ref hp), .unset, .unset, .unset, .unset, .unset, .unset] (by rw [hml]; rfl) (hb hby at_97)
  rw [← e5] at B5
  refine own_lgo st5 ?_
  show own_LSeg p l e s m args below meth c n0 T5 (mkF m 100 #[.val (.int b), .val (.int z), .val (.ref kk), .val (.ref hp), .unset, .unset, .unset, .unset, .unset, .unset] [])
  refine own_lgo (fun _ kt => XS.aloadN B5.1.here hx rfl (hb hby at_100) rfl rfl kt) ?_
  show own_LSeg p l e s m args below meth c n0 T5 (mkF m 101 #[.val (.int b), .val (.int z), .val (.ref kk), .val (.ref hp), .unset, .unset, .unset, .unset, .unset, .unset] [(.ref hp)])
  obtain ⟨T6, L6, B6, st6⟩ := own_popCall hx hZ hw hown (own_kf b) (own_jf z) 4 (by decide) P5 B5 101 #[.val (.int b), .val (.int z), .val (.ref kk), .val (.ref hp), .unset, .unset, .unset, .unset, .unset, .unset] (by rw [hml]; rfl) (hb hby at_101)
  rw [← r4] at B6
  refine own_lgo st6 ?_
  show own_LSeg p l e s m args below meth c n0 T6 (mkF m 104 #[.val (.int b), .val (.int z), .val (.ref kk), .val (.ref hp), .unset, .unset, .unset, .unset, .unset, .unset] [(.int (own_jf z (P5 0)))])
  refine own_lgo (fun _ kt => XS.iloadN B6.1.here hx rfl (hb hby at_104) rfl kt) ?_
  show own_LSeg p l e s m args below meth c n0 T6 (mkF m 105 #[.val (.int b), .val (.int z), .val (.ref kk), .val (.ref hp), .unset, .unset, .unset, .unset, .unset, .unset] [(.int z), (.int (own_jf z (P5 0)))])
  refine own_lgo (fun _ kt => XS.isub B6.1.here hx rfl (hb hby at_105) rfl kt) ?_
  show own_LSeg p l e s m args below meth c n0 T6 (mkF m 106 #[.val (.int b), .val (.int z), .val (.ref kk), .val (.ref hp), .unset, .unset, .unset, .unset, .unset, .unset] [(.int ((own_jf z (P5 0)) - z))])
  rw [own_jb z i0]
  show own_LSeg p l e s m args below meth c n0 T6 (mkF m 106 #[.val (.int b), .val (.int z), .val (.ref kk), .val (.ref hp), .unset, .unset, .unset, .unset, .unset, .unset] [(.int (Int32.ofNat (P5 0)))])
  refine own_lgo (fun _ kt => XS.istore B6.1.here hx rfl (hb hby at_106) rfl (l' := #[.val (.int b), .val (.int z), .val (.ref kk), .val (.ref hp), .val (.int (Int32.ofNat (P5 0))), .unset, .unset, .unset, .unset, .unset]) rfl kt) ?_
  show own_LSeg p l e s m args below meth c n0 T6 (mkF m 108 #[.val (.int b), .val (.int z), .val (.ref kk), .val (.ref hp), .val (.int (Int32.ofNat (P5 0))), .unset, .unset, .unset, .unset, .unset] [])
  refine own_lgo (fun _ kt => XS.aloadN B6.1.here hx rfl (hb hby at_108) rfl rfl kt) ?_
  show own_LSeg p l e s m args below meth c n0 T6 (mkF m 109 #[.val (.int b), .val (.int z), .val (.ref kk), .val (.ref hp), .val (.int (Int32.ofNat (P5 0))), .unset, .unset, .unset, .unset, .unset] [(.ref hp)])
  obtain ⟨T7, L7, B7, st7⟩ := own_popCall hx hZ hw hown (own_kf b) (own_jf z) 3 (by decide) R4 B6 109 #[.val (.int b), .val (.int z), .val (.ref kk), .val (.ref hp), .val (.int (Int32.ofNat (P5 0))), .unset, .unset, .unset, .unset, .unset] (by rw [hml]; rfl) (hb hby at_109)
  rw [← r3] at B7
  refine own_lgo st7 ?_
  show own_LSeg p l e s m args below meth c n0 T7 (mkF m 112 #[.val (.int b), .val (.int z), .val (.ref kk), .val (.ref hp), .val (.int (Int32.ofNat (P5 0))), .unset, .unset, .unset, .unset, .unset] [(.int (own_jf z (R4 0)))])
  refine own_lgo (fun _ kt => XS.iloadN B7.1.here hx rfl (hb hby at_112) rfl kt) ?_
  show own_LSeg p l e s m args below meth c n0 T7 (mkF m 113 #[.val (.int b), .val (.int z), .val (.ref kk), .val (.ref hp), .val (.int (Int32.ofNat (P5 0))), .unset, .unset, .unset, .unset, .unset] [(.int z), (.int (own_jf z (R4 0)))])
  refine own_lgo (fun _ kt => XS.isub B7.1.here hx rfl (hb hby at_113) rfl kt) ?_
  show own_LSeg p l e s m args below meth c n0 T7 (mkF m 114 #[.val (.int b), .val (.int z), .val (.ref kk), .val (.ref hp), .val (.int (Int32.ofNat (P5 0))), .unset, .unset, .unset, .unset, .unset] [(.int ((own_jf z (R4 0)) - z))])
  rw [own_jb z i1]
  show own_LSeg p l e s m args below meth c n0 T7 (mkF m 114 #[.val (.int b), .val (.int z), .val (.ref kk), .val (.ref hp), .val (.int (Int32.ofNat (P5 0))), .unset, .unset, .unset, .unset, .unset] [(.int (Int32.ofNat (R4 0)))])
  refine own_lgo (fun _ kt => XS.istore B7.1.here hx rfl (hb hby at_114) rfl (l' := #[.val (.int b), .val (.int z), .val (.ref kk), .val (.ref hp), .val (.int (Int32.ofNat (P5 0))), .val (.int (Int32.ofNat (R4 0))), .unset, .unset, .unset, .unset]) rfl kt) ?_
  show own_LSeg p l e s m args below meth c n0 T7 (mkF m 116 #[.val (.int b), .val (.int z), .val (.ref kk), .val (.ref hp), .val (.int (Int32.ofNat (P5 0))), .val (.int (Int32.ofNat (R4 0))), .unset, .unset, .unset, .unset] [])
  refine own_lgo (fun _ kt => XS.aloadN B7.1.here hx rfl (hb hby at_116) rfl rfl kt) ?_
  show own_LSeg p l e s m args below meth c n0 T7 (mkF m 117 #[.val (.int b), .val (.int z), .val (.ref kk), .val (.ref hp), .val (.int (Int32.ofNat (P5 0))), .val (.int (Int32.ofNat (R4 0))), .unset, .unset, .unset, .unset] [(.ref hp)])
  obtain ⟨T8, L8, B8, st8⟩ := own_popCall hx hZ hw hown (own_kf b) (own_jf z) 2 (by decide) R3 B7 117 #[.val (.int b), .val (.int z), .val (.ref kk), .val (.ref hp), .val (.int (Int32.ofNat (P5 0))), .val (.int (Int32.ofNat (R4 0))), .unset, .unset, .unset, .unset] (by rw [hml]; rfl) (hb hby at_117)
  rw [← r2] at B8
  refine own_lgo st8 ?_
  show own_LSeg p l e s m args below meth c n0 T8 (mkF m 120 #[.val (.int b), .val (.int z), .val (.ref kk), .val (.ref hp), .val (.int (Int32.ofNat (P5 0))), .val (.int (Int32.ofNat (R4 0))), .unset, .unset, .unset, .unset] [(.int (own_jf z (R3 0)))])
  refine own_lgo (fun _ kt => XS.iloadN B8.1.here hx rfl (hb hby at_120) rfl kt) ?_
  show own_LSeg p l e s m args below meth c n0 T8 (mkF m 121 #[.val (.int b), .val (.int z), .val (.ref kk), .val (.ref hp), .val (.int (Int32.ofNat (P5 0))), .val (.int (Int32.ofNat (R4 0))), .unset, .unset, .unset, .unset] [(.int z), (.int (own_jf z (R3 0)))])
  refine own_lgo (fun _ kt => XS.isub B8.1.here hx rfl (hb hby at_121) rfl kt) ?_
  show own_LSeg p l e s m args below meth c n0 T8 (mkF m 122 #[.val (.int b), .val (.int z), .val (.ref kk), .val (.ref hp), .val (.int (Int32.ofNat (P5 0))), .val (.int (Int32.ofNat (R4 0))), .unset, .unset, .unset, .unset] [(.int ((own_jf z (R3 0)) - z))])
  rw [own_jb z i2]
  show own_LSeg p l e s m args below meth c n0 T8 (mkF m 122 #[.val (.int b), .val (.int z), .val (.ref kk), .val (.ref hp), .val (.int (Int32.ofNat (P5 0))), .val (.int (Int32.ofNat (R4 0))), .unset, .unset, .unset, .unset] [(.int (Int32.ofNat (R3 0)))])
  refine own_lgo (fun _ kt => XS.istore B8.1.here hx rfl (hb hby at_122) rfl (l' := #[.val (.int b), .val (.int z), .val (.ref kk), .val (.ref hp), .val (.int (Int32.ofNat (P5 0))), .val (.int (Int32.ofNat (R4 0))), .val (.int (Int32.ofNat (R3 0))), .unset, .unset, .unset]) rfl kt) ?_
  show own_LSeg p l e s m args below meth c n0 T8 (mkF m 124 #[.val (.int b), .val (.int z), .val (.ref kk), .val (.ref hp), .val (.int (Int32.ofNat (P5 0))), .val (.int (Int32.ofNat (R4 0))), .val (.int (Int32.ofNat (R3 0))), .unset, .unset, .unset] [])
  refine own_lgo (fun _ kt => XS.aloadN B8.1.here hx rfl (hb hby at_124) rfl rfl kt) ?_
  show own_LSeg p l e s m args below meth c n0 T8 (mkF m 125 #[.val (.int b), .val (.int z), .val (.ref kk), .val (.ref hp), .val (.int (Int32.ofNat (P5 0))), .val (.int (Int32.ofNat (R4 0))), .val (.int (Int32.ofNat (R3 0))), .unset, .unset, .unset] [(.ref hp)])
  obtain ⟨T9, L9, B9, st9⟩ := own_popCall hx hZ hw hown (own_kf b) (own_jf z) 1 (by decide) R2 B8 125 #[.val (.int b), .val (.int z), .val (.ref kk), .val (.ref hp), .val (.int (Int32.ofNat (P5 0))), .val (.int (Int32.ofNat (R4 0))), .val (.int (Int32.ofNat (R3 0))), .unset, .unset, .unset] (by rw [hml]; rfl) (hb hby at_125)
  rw [← r1] at B9
  refine own_lgo st9 ?_
  show own_LSeg p l e s m args below meth c n0 T9 (mkF m 128 #[.val (.int b), .val (.int z), .val (.ref kk), .val (.ref hp), .val (.int (Int32.ofNat (P5 0))), .val (.int (Int32.ofNat (R4 0))), .val (.int (Int32.ofNat (R3 0))), .unset, .unset, .unset] [(.int (own_jf z (R2 0)))])
  refine own_lgo (fun _ kt => XS.iloadN B9.1.here hx rfl (hb hby at_128) rfl kt) ?_
  show own_LSeg p l e s m args below meth c n0 T9 (mkF m 129 #[.val (.int b), .val (.int z), .val (.ref kk), .val (.ref hp), .val (.int (Int32.ofNat (P5 0))), .val (.int (Int32.ofNat (R4 0))), .val (.int (Int32.ofNat (R3 0))), .unset, .unset, .unset] [(.int z), (.int (own_jf z (R2 0)))])
  refine own_lgo (fun _ kt => XS.isub B9.1.here hx rfl (hb hby at_129) rfl kt) ?_
  show own_LSeg p l e s m args below meth c n0 T9 (mkF m 130 #[.val (.int b), .val (.int z), .val (.ref kk), .val (.ref hp), .val (.int (Int32.ofNat (P5 0))), .val (.int (Int32.ofNat (R4 0))), .val (.int (Int32.ofNat (R3 0))), .unset, .unset, .unset] [(.int ((own_jf z (R2 0)) - z))])
  rw [own_jb z i3]
  show own_LSeg p l e s m args below meth c n0 T9 (mkF m 130 #[.val (.int b), .val (.int z), .val (.ref kk), .val (.ref hp), .val (.int (Int32.ofNat (P5 0))), .val (.int (Int32.ofNat (R4 0))), .val (.int (Int32.ofNat (R3 0))), .unset, .unset, .unset] [(.int (Int32.ofNat (R2 0)))])
  refine own_lgo (fun _ kt => XS.istore B9.1.here hx rfl (hb hby at_130) rfl (l' := #[.val (.int b), .val (.int z), .val (.ref kk), .val (.ref hp), .val (.int (Int32.ofNat (P5 0))), .val (.int (Int32.ofNat (R4 0))), .val (.int (Int32.ofNat (R3 0))), .val (.int (Int32.ofNat (R2 0))), .unset, .unset]) rfl kt) ?_
  show own_LSeg p l e s m args below meth c n0 T9 (mkF m 132 #[.val (.int b), .val (.int z), .val (.ref kk), .val (.ref hp), .val (.int (Int32.ofNat (P5 0))), .val (.int (Int32.ofNat (R4 0))), .val (.int (Int32.ofNat (R3 0))), .val (.int (Int32.ofNat (R2 0))), .unset, .unset] [])
  refine own_lgo (fun _ kt => XS.aloadN B9.1.here hx rfl (hb hby at_132) rfl rfl kt) ?_
  show own_LSeg p l e s m args below meth c n0 T9 (mkF m 133 #[.val (.int b), .val (.int z), .val (.ref kk), .val (.ref hp), .val (.int (Int32.ofNat (P5 0))), .val (.int (Int32.ofNat (R4 0))), .val (.int (Int32.ofNat (R3 0))), .val (.int (Int32.ofNat (R2 0))), .unset, .unset] [(.ref hp)])
  obtain ⟨T10, L10, B10, st10⟩ := own_popCall hx hZ hw hown (own_kf b) (own_jf z) 0 (by decide) R1 B9 133 #[.val (.int b), .val (.int z), .val (.ref kk), .val (.ref hp), .val (.int (Int32.ofNat (P5 0))), .val (.int (Int32.ofNat (R4 0))), .val (.int (Int32.ofNat (R3 0))), .val (.int (Int32.ofNat (R2 0))), .unset, .unset] (by rw [hml]; rfl) (hb hby at_133)
  rw [← r0] at B10
  refine own_lgo st10 ?_
  show own_LSeg p l e s m args below meth c n0 T10 (mkF m 136 #[.val (.int b), .val (.int z), .val (.ref kk), .val (.ref hp), .val (.int (Int32.ofNat (P5 0))), .val (.int (Int32.ofNat (R4 0))), .val (.int (Int32.ofNat (R3 0))), .val (.int (Int32.ofNat (R2 0))), .unset, .unset] [(.int (own_jf z (R1 0)))])
  refine own_lgo (fun _ kt => XS.iloadN B10.1.here hx rfl (hb hby at_136) rfl kt) ?_
  show own_LSeg p l e s m args below meth c n0 T10 (mkF m 137 #[.val (.int b), .val (.int z), .val (.ref kk), .val (.ref hp), .val (.int (Int32.ofNat (P5 0))), .val (.int (Int32.ofNat (R4 0))), .val (.int (Int32.ofNat (R3 0))), .val (.int (Int32.ofNat (R2 0))), .unset, .unset] [(.int z), (.int (own_jf z (R1 0)))])
  refine own_lgo (fun _ kt => XS.isub B10.1.here hx rfl (hb hby at_137) rfl kt) ?_
  show own_LSeg p l e s m args below meth c n0 T10 (mkF m 138 #[.val (.int b), .val (.int z), .val (.ref kk), .val (.ref hp), .val (.int (Int32.ofNat (P5 0))), .val (.int (Int32.ofNat (R4 0))), .val (.int (Int32.ofNat (R3 0))), .val (.int (Int32.ofNat (R2 0))), .unset, .unset] [(.int ((own_jf z (R1 0)) - z))])
  rw [own_jb z i4]
  show own_LSeg p l e s m args below meth c n0 T10 (mkF m 138 #[.val (.int b), .val (.int z), .val (.ref kk), .val (.ref hp), .val (.int (Int32.ofNat (P5 0))), .val (.int (Int32.ofNat (R4 0))), .val (.int (Int32.ofNat (R3 0))), .val (.int (Int32.ofNat (R2 0))), .unset, .unset] [(.int (Int32.ofNat (R1 0)))])
  refine own_lgo (fun _ kt => XS.istore B10.1.here hx rfl (hb hby at_138) rfl (l' := #[.val (.int b), .val (.int z), .val (.ref kk), .val (.ref hp), .val (.int (Int32.ofNat (P5 0))), .val (.int (Int32.ofNat (R4 0))), .val (.int (Int32.ofNat (R3 0))), .val (.int (Int32.ofNat (R2 0))), .val (.int (Int32.ofNat (R1 0))), .unset]) rfl kt) ?_
  show own_LSeg p l e s m args below meth c n0 T10 (mkF m 140 #[.val (.int b), .val (.int z), .val (.ref kk), .val (.ref hp), .val (.int (Int32.ofNat (P5 0))), .val (.int (Int32.ofNat (R4 0))), .val (.int (Int32.ofNat (R3 0))), .val (.int (Int32.ofNat (R2 0))), .val (.int (Int32.ofNat (R1 0))), .unset] [])
  refine own_lgo (fun _ kt => XS.iload B10.1.here hx rfl (hb hby at_140) rfl kt) ?_
  show own_LSeg p l e s m args below meth c n0 T10 (mkF m 142 #[.val (.int b), .val (.int z), .val (.ref kk), .val (.ref hp), .val (.int (Int32.ofNat (P5 0))), .val (.int (Int32.ofNat (R4 0))), .val (.int (Int32.ofNat (R3 0))), .val (.int (Int32.ofNat (R2 0))), .val (.int (Int32.ofNat (R1 0))), .unset] [(.int (Int32.ofNat (P5 0)))])
  obtain ⟨T11, L11, B11, st11⟩ := own_okCall hx hZ hw hown (own_kf b) (own_jf z) 0 R0 (P5 0) i0 B10 142 #[.val (.int b), .val (.int z), .val (.ref kk), .val (.ref hp), .val (.int (Int32.ofNat (P5 0))), .val (.int (Int32.ofNat (R4 0))), .val (.int (Int32.ofNat (R3 0))), .val (.int (Int32.ofNat (R2 0))), .val (.int (Int32.ofNat (R1 0))), .unset] (by rw [hml]; rfl) (hb hby at_142)
  refine own_lgo st11 ?_
  show own_LSeg p l e s m args below meth c n0 T11 (mkF m 145 #[.val (.int b), .val (.int z), .val (.ref kk), .val (.ref hp), .val (.int (Int32.ofNat (P5 0))), .val (.int (Int32.ofNat (R4 0))), .val (.int (Int32.ofNat (R3 0))), .val (.int (Int32.ofNat (R2 0))), .val (.int (Int32.ofNat (R1 0))), .unset] [(.int (1 : Int32))])
  refine own_lgo (fun _ kt => XS.ifNo B11.1.here hx rfl (hb hby at_145) rfl ((if0 _ _).trans (feq (by decide)).1) kt) ?_
  show own_LSeg p l e s m args below meth c n0 T11 (mkF m 148 #[.val (.int b), .val (.int z), .val (.ref kk), .val (.ref hp), .val (.int (Int32.ofNat (P5 0))), .val (.int (Int32.ofNat (R4 0))), .val (.int (Int32.ofNat (R3 0))), .val (.int (Int32.ofNat (R2 0))), .val (.int (Int32.ofNat (R1 0))), .unset] [])
  refine own_lgo (fun _ kt => XS.iload B11.1.here hx rfl (hb hby at_148) rfl kt) ?_
  show own_LSeg p l e s m args below meth c n0 T11 (mkF m 150 #[.val (.int b), .val (.int z), .val (.ref kk), .val (.ref hp), .val (.int (Int32.ofNat (P5 0))), .val (.int (Int32.ofNat (R4 0))), .val (.int (Int32.ofNat (R3 0))), .val (.int (Int32.ofNat (R2 0))), .val (.int (Int32.ofNat (R1 0))), .unset] [(.int (Int32.ofNat (R4 0)))])
  obtain ⟨T12, L12, B12, st12⟩ := own_okCall hx hZ hw hown (own_kf b) (own_jf z) 0 R0 (R4 0) i1 B11 150 #[.val (.int b), .val (.int z), .val (.ref kk), .val (.ref hp), .val (.int (Int32.ofNat (P5 0))), .val (.int (Int32.ofNat (R4 0))), .val (.int (Int32.ofNat (R3 0))), .val (.int (Int32.ofNat (R2 0))), .val (.int (Int32.ofNat (R1 0))), .unset] (by rw [hml]; rfl) (hb hby at_150)
  refine own_lgo st12 ?_
  show own_LSeg p l e s m args below meth c n0 T12 (mkF m 153 #[.val (.int b), .val (.int z), .val (.ref kk), .val (.ref hp), .val (.int (Int32.ofNat (P5 0))), .val (.int (Int32.ofNat (R4 0))), .val (.int (Int32.ofNat (R3 0))), .val (.int (Int32.ofNat (R2 0))), .val (.int (Int32.ofNat (R1 0))), .unset] [(.int (1 : Int32))])
  refine own_lgo (fun _ kt => XS.ifNo B12.1.here hx rfl (hb hby at_153) rfl ((if0 _ _).trans (feq (by decide)).1) kt) ?_
  show own_LSeg p l e s m args below meth c n0 T12 (mkF m 156 #[.val (.int b), .val (.int z), .val (.ref kk), .val (.ref hp), .val (.int (Int32.ofNat (P5 0))), .val (.int (Int32.ofNat (R4 0))), .val (.int (Int32.ofNat (R3 0))), .val (.int (Int32.ofNat (R2 0))), .val (.int (Int32.ofNat (R1 0))), .unset] [])
  refine own_lgo (fun _ kt => XS.iload B12.1.here hx rfl (hb hby at_156) rfl kt) ?_
  show own_LSeg p l e s m args below meth c n0 T12 (mkF m 158 #[.val (.int b), .val (.int z), .val (.ref kk), .val (.ref hp), .val (.int (Int32.ofNat (P5 0))), .val (.int (Int32.ofNat (R4 0))), .val (.int (Int32.ofNat (R3 0))), .val (.int (Int32.ofNat (R2 0))), .val (.int (Int32.ofNat (R1 0))), .unset] [(.int (Int32.ofNat (R3 0)))])
  obtain ⟨T13, L13, B13, st13⟩ := own_okCall hx hZ hw hown (own_kf b) (own_jf z) 0 R0 (R3 0) i2 B12 158 #[.val (.int b), .val (.int z), .val (.ref kk), .val (.ref hp), .val (.int (Int32.ofNat (P5 0))), .val (.int (Int32.ofNat (R4 0))), .val (.int (Int32.ofNat (R3 0))), .val (.int (Int32.ofNat (R2 0))), .val (.int (Int32.ofNat (R1 0))), .unset] (by rw [hml]; rfl) (hb hby at_158)
  refine own_lgo st13 ?_
  show own_LSeg p l e s m args below meth c n0 T13 (mkF m 161 #[.val (.int b), .val (.int z), .val (.ref kk), .val (.ref hp), .val (.int (Int32.ofNat (P5 0))), .val (.int (Int32.ofNat (R4 0))), .val (.int (Int32.ofNat (R3 0))), .val (.int (Int32.ofNat (R2 0))), .val (.int (Int32.ofNat (R1 0))), .unset] [(.int (1 : Int32))])
  refine own_lgo (fun _ kt => XS.ifNo B13.1.here hx rfl (hb hby at_161) rfl ((if0 _ _).trans (feq (by decide)).1) kt) ?_
  show own_LSeg p l e s m args below meth c n0 T13 (mkF m 164 #[.val (.int b), .val (.int z), .val (.ref kk), .val (.ref hp), .val (.int (Int32.ofNat (P5 0))), .val (.int (Int32.ofNat (R4 0))), .val (.int (Int32.ofNat (R3 0))), .val (.int (Int32.ofNat (R2 0))), .val (.int (Int32.ofNat (R1 0))), .unset] [])
  refine own_lgo (fun _ kt => XS.iload B13.1.here hx rfl (hb hby at_164) rfl kt) ?_
  show own_LSeg p l e s m args below meth c n0 T13 (mkF m 166 #[.val (.int b), .val (.int z), .val (.ref kk), .val (.ref hp), .val (.int (Int32.ofNat (P5 0))), .val (.int (Int32.ofNat (R4 0))), .val (.int (Int32.ofNat (R3 0))), .val (.int (Int32.ofNat (R2 0))), .val (.int (Int32.ofNat (R1 0))), .unset] [(.int (Int32.ofNat (R2 0)))])
  obtain ⟨T14, L14, B14, st14⟩ := own_okCall hx hZ hw hown (own_kf b) (own_jf z) 0 R0 (R2 0) i3 B13 166 #[.val (.int b), .val (.int z), .val (.ref kk), .val (.ref hp), .val (.int (Int32.ofNat (P5 0))), .val (.int (Int32.ofNat (R4 0))), .val (.int (Int32.ofNat (R3 0))), .val (.int (Int32.ofNat (R2 0))), .val (.int (Int32.ofNat (R1 0))), .unset] (by rw [hml]; rfl) (hb hby at_166)
  refine own_lgo st14 ?_
  show own_LSeg p l e s m args below meth c n0 T14 (mkF m 169 #[.val (.int b), .val (.int z), .val (.ref kk), .val (.ref hp), .val (.int (Int32.ofNat (P5 0))), .val (.int (Int32.ofNat (R4 0))), .val (.int (Int32.ofNat (R3 0))), .val (.int (Int32.ofNat (R2 0))), .val (.int (Int32.ofNat (R1 0))), .unset] [(.int (1 : Int32))])
  refine own_lgo (fun _ kt => XS.ifNo B14.1.here hx rfl (hb hby at_169) rfl ((if0 _ _).trans (feq (by decide)).1) kt) ?_
  show own_LSeg p l e s m args below meth c n0 T14 (mkF m 172 #[.val (.int b), .val (.int z), .val (.ref kk), .val (.ref hp), .val (.int (Int32.ofNat (P5 0))), .val (.int (Int32.ofNat (R4 0))), .val (.int (Int32.ofNat (R3 0))), .val (.int (Int32.ofNat (R2 0))), .val (.int (Int32.ofNat (R1 0))), .unset] [])
  refine own_lgo (fun _ kt => XS.iload B14.1.here hx rfl (hb hby at_172) rfl kt) ?_
  show own_LSeg p l e s m args below meth c n0 T14 (mkF m 174 #[.val (.int b), .val (.int z), .val (.ref kk), .val (.ref hp), .val (.int (Int32.ofNat (P5 0))), .val (.int (Int32.ofNat (R4 0))), .val (.int (Int32.ofNat (R3 0))), .val (.int (Int32.ofNat (R2 0))), .val (.int (Int32.ofNat (R1 0))), .unset] [(.int (Int32.ofNat (R1 0)))])
  obtain ⟨T15, L15, B15, st15⟩ := own_okCall hx hZ hw hown (own_kf b) (own_jf z) 0 R0 (R1 0) i4 B14 174 #[.val (.int b), .val (.int z), .val (.ref kk), .val (.ref hp), .val (.int (Int32.ofNat (P5 0))), .val (.int (Int32.ofNat (R4 0))), .val (.int (Int32.ofNat (R3 0))), .val (.int (Int32.ofNat (R2 0))), .val (.int (Int32.ofNat (R1 0))), .unset] (by rw [hml]; rfl) (hb hby at_174)
  refine own_lgo st15 ?_
  show own_LSeg p l e s m args below meth c n0 T15 (mkF m 177 #[.val (.int b), .val (.int z), .val (.ref kk), .val (.ref hp), .val (.int (Int32.ofNat (P5 0))), .val (.int (Int32.ofNat (R4 0))), .val (.int (Int32.ofNat (R3 0))), .val (.int (Int32.ofNat (R2 0))), .val (.int (Int32.ofNat (R1 0))), .unset] [(.int (1 : Int32))])
  refine own_lgo (fun _ kt => XS.ifYes B15.1.here hx rfl (pc0 := 177) (pc' := 182) rfl (hb hby at_177) rfl ((if0 _ _).trans (feq (by decide)).2) (by decide) (by decide) kt) ?_
  show own_LSeg p l e s m args below meth c n0 T15 (mkF m 182 #[.val (.int b), .val (.int z), .val (.ref kk), .val (.ref hp), .val (.int (Int32.ofNat (P5 0))), .val (.int (Int32.ofNat (R4 0))), .val (.int (Int32.ofNat (R3 0))), .val (.int (Int32.ofNat (R2 0))), .val (.int (Int32.ofNat (R1 0))), .unset] [])
  refine own_lgo (fun _ kt => XS.iconst B15.1.here hx rfl (hb hby at_182) kt) ?_
  show own_LSeg p l e s m args below meth c n0 T15 (mkF m 183 #[.val (.int b), .val (.int z), .val (.ref kk), .val (.ref hp), .val (.int (Int32.ofNat (P5 0))), .val (.int (Int32.ofNat (R4 0))), .val (.int (Int32.ofNat (R3 0))), .val (.int (Int32.ofNat (R2 0))), .val (.int (Int32.ofNat (R1 0))), .unset] [(.int (1 : Int32))])
  refine own_lgo (fun _ kt => XS.iload B15.1.here hx rfl (hb hby at_183) rfl kt) ?_
  show own_LSeg p l e s m args below meth c n0 T15 (mkF m 185 #[.val (.int b), .val (.int z), .val (.ref kk), .val (.ref hp), .val (.int (Int32.ofNat (P5 0))), .val (.int (Int32.ofNat (R4 0))), .val (.int (Int32.ofNat (R3 0))), .val (.int (Int32.ofNat (R2 0))), .val (.int (Int32.ofNat (R1 0))), .unset] [(.int (Int32.ofNat (P5 0))), (.int (1 : Int32))])
  refine own_lgo (fun _ kt => XS.ishl B15.1.here hx rfl (hb hby at_185) rfl kt) ?_
  show own_LSeg p l e s m args below meth c n0 T15 (mkF m 186 #[.val (.int b), .val (.int z), .val (.ref kk), .val (.ref hp), .val (.int (Int32.ofNat (P5 0))), .val (.int (Int32.ofNat (R4 0))), .val (.int (Int32.ofNat (R3 0))), .val (.int (Int32.ofNat (R2 0))), .val (.int (Int32.ofNat (R1 0))), .unset] [(.int ((1 : Int32) <<< ((Int32.ofNat (P5 0)) &&& 31)))])
  refine own_lgo (fun _ kt => XS.iconst B15.1.here hx rfl (hb hby at_186) kt) ?_
  show own_LSeg p l e s m args below meth c n0 T15 (mkF m 187 #[.val (.int b), .val (.int z), .val (.ref kk), .val (.ref hp), .val (.int (Int32.ofNat (P5 0))), .val (.int (Int32.ofNat (R4 0))), .val (.int (Int32.ofNat (R3 0))), .val (.int (Int32.ofNat (R2 0))), .val (.int (Int32.ofNat (R1 0))), .unset] [(.int (1 : Int32)), (.int ((1 : Int32) <<< ((Int32.ofNat (P5 0)) &&& 31)))])
  refine own_lgo (fun _ kt => XS.iload B15.1.here hx rfl (hb hby at_187) rfl kt) ?_
  show own_LSeg p l e s m args below meth c n0 T15 (mkF m 189 #[.val (.int b), .val (.int z), .val (.ref kk), .val (.ref hp), .val (.int (Int32.ofNat (P5 0))), .val (.int (Int32.ofNat (R4 0))), .val (.int (Int32.ofNat (R3 0))), .val (.int (Int32.ofNat (R2 0))), .val (.int (Int32.ofNat (R1 0))), .unset] [(.int (Int32.ofNat (R4 0))), (.int (1 : Int32)), (.int ((1 : Int32) <<< ((Int32.ofNat (P5 0)) &&& 31)))])
  refine own_lgo (fun _ kt => XS.ishl B15.1.here hx rfl (hb hby at_189) rfl kt) ?_
  show own_LSeg p l e s m args below meth c n0 T15 (mkF m 190 #[.val (.int b), .val (.int z), .val (.ref kk), .val (.ref hp), .val (.int (Int32.ofNat (P5 0))), .val (.int (Int32.ofNat (R4 0))), .val (.int (Int32.ofNat (R3 0))), .val (.int (Int32.ofNat (R2 0))), .val (.int (Int32.ofNat (R1 0))), .unset] [(.int ((1 : Int32) <<< ((Int32.ofNat (R4 0)) &&& 31))), (.int ((1 : Int32) <<< ((Int32.ofNat (P5 0)) &&& 31)))])
  refine own_lgo (fun _ kt => XS.ior B15.1.here hx rfl (hb hby at_190) rfl kt) ?_
  show own_LSeg p l e s m args below meth c n0 T15 (mkF m 191 #[.val (.int b), .val (.int z), .val (.ref kk), .val (.ref hp), .val (.int (Int32.ofNat (P5 0))), .val (.int (Int32.ofNat (R4 0))), .val (.int (Int32.ofNat (R3 0))), .val (.int (Int32.ofNat (R2 0))), .val (.int (Int32.ofNat (R1 0))), .unset] [(.int (((1 : Int32) <<< ((Int32.ofNat (P5 0)) &&& 31)) ||| ((1 : Int32) <<< ((Int32.ofNat (R4 0)) &&& 31))))])
  refine own_lgo (fun _ kt => XS.iconst B15.1.here hx rfl (hb hby at_191) kt) ?_
  show own_LSeg p l e s m args below meth c n0 T15 (mkF m 192 #[.val (.int b), .val (.int z), .val (.ref kk), .val (.ref hp), .val (.int (Int32.ofNat (P5 0))), .val (.int (Int32.ofNat (R4 0))), .val (.int (Int32.ofNat (R3 0))), .val (.int (Int32.ofNat (R2 0))), .val (.int (Int32.ofNat (R1 0))), .unset] [(.int (1 : Int32)), (.int (((1 : Int32) <<< ((Int32.ofNat (P5 0)) &&& 31)) ||| ((1 : Int32) <<< ((Int32.ofNat (R4 0)) &&& 31))))])
  refine own_lgo (fun _ kt => XS.iload B15.1.here hx rfl (hb hby at_192) rfl kt) ?_
  show own_LSeg p l e s m args below meth c n0 T15 (mkF m 194 #[.val (.int b), .val (.int z), .val (.ref kk), .val (.ref hp), .val (.int (Int32.ofNat (P5 0))), .val (.int (Int32.ofNat (R4 0))), .val (.int (Int32.ofNat (R3 0))), .val (.int (Int32.ofNat (R2 0))), .val (.int (Int32.ofNat (R1 0))), .unset] [(.int (Int32.ofNat (R3 0))), (.int (1 : Int32)), (.int (((1 : Int32) <<< ((Int32.ofNat (P5 0)) &&& 31)) ||| ((1 : Int32) <<< ((Int32.ofNat (R4 0)) &&& 31))))])
  refine own_lgo (fun _ kt => XS.ishl B15.1.here hx rfl (hb hby at_194) rfl kt) ?_
  show own_LSeg p l e s m args below meth c n0 T15 (mkF m 195 #[.val (.int b), .val (.int z), .val (.ref kk), .val (.ref hp), .val (.int (Int32.ofNat (P5 0))), .val (.int (Int32.ofNat (R4 0))), .val (.int (Int32.ofNat (R3 0))), .val (.int (Int32.ofNat (R2 0))), .val (.int (Int32.ofNat (R1 0))), .unset] [(.int ((1 : Int32) <<< ((Int32.ofNat (R3 0)) &&& 31))), (.int (((1 : Int32) <<< ((Int32.ofNat (P5 0)) &&& 31)) ||| ((1 : Int32) <<< ((Int32.ofNat (R4 0)) &&& 31))))])
  refine own_lgo (fun _ kt => XS.ior B15.1.here hx rfl (hb hby at_195) rfl kt) ?_
  show own_LSeg p l e s m args below meth c n0 T15 (mkF m 196 #[.val (.int b), .val (.int z), .val (.ref kk), .val (.ref hp), .val (.int (Int32.ofNat (P5 0))), .val (.int (Int32.ofNat (R4 0))), .val (.int (Int32.ofNat (R3 0))), .val (.int (Int32.ofNat (R2 0))), .val (.int (Int32.ofNat (R1 0))), .unset] [(.int ((((1 : Int32) <<< ((Int32.ofNat (P5 0)) &&& 31)) ||| ((1 : Int32) <<< ((Int32.ofNat (R4 0)) &&& 31))) ||| ((1 : Int32) <<< ((Int32.ofNat (R3 0)) &&& 31))))])
  refine own_lgo (fun _ kt => XS.iconst B15.1.here hx rfl (hb hby at_196) kt) ?_
  show own_LSeg p l e s m args below meth c n0 T15 (mkF m 197 #[.val (.int b), .val (.int z), .val (.ref kk), .val (.ref hp), .val (.int (Int32.ofNat (P5 0))), .val (.int (Int32.ofNat (R4 0))), .val (.int (Int32.ofNat (R3 0))), .val (.int (Int32.ofNat (R2 0))), .val (.int (Int32.ofNat (R1 0))), .unset] [(.int (1 : Int32)), (.int ((((1 : Int32) <<< ((Int32.ofNat (P5 0)) &&& 31)) ||| ((1 : Int32) <<< ((Int32.ofNat (R4 0)) &&& 31))) ||| ((1 : Int32) <<< ((Int32.ofNat (R3 0)) &&& 31))))])
  refine own_lgo (fun _ kt => XS.iload B15.1.here hx rfl (hb hby at_197) rfl kt) ?_
  show own_LSeg p l e s m args below meth c n0 T15 (mkF m 199 #[.val (.int b), .val (.int z), .val (.ref kk), .val (.ref hp), .val (.int (Int32.ofNat (P5 0))), .val (.int (Int32.ofNat (R4 0))), .val (.int (Int32.ofNat (R3 0))), .val (.int (Int32.ofNat (R2 0))), .val (.int (Int32.ofNat (R1 0))), .unset] [(.int (Int32.ofNat (R2 0))), (.int (1 : Int32)), (.int ((((1 : Int32) <<< ((Int32.ofNat (P5 0)) &&& 31)) ||| ((1 : Int32) <<< ((Int32.ofNat (R4 0)) &&& 31))) ||| ((1 : Int32) <<< ((Int32.ofNat (R3 0)) &&& 31))))])
  refine own_lgo (fun _ kt => XS.ishl B15.1.here hx rfl (hb hby at_199) rfl kt) ?_
  show own_LSeg p l e s m args below meth c n0 T15 (mkF m 200 #[.val (.int b), .val (.int z), .val (.ref kk), .val (.ref hp), .val (.int (Int32.ofNat (P5 0))), .val (.int (Int32.ofNat (R4 0))), .val (.int (Int32.ofNat (R3 0))), .val (.int (Int32.ofNat (R2 0))), .val (.int (Int32.ofNat (R1 0))), .unset] [(.int ((1 : Int32) <<< ((Int32.ofNat (R2 0)) &&& 31))), (.int ((((1 : Int32) <<< ((Int32.ofNat (P5 0)) &&& 31)) ||| ((1 : Int32) <<< ((Int32.ofNat (R4 0)) &&& 31))) ||| ((1 : Int32) <<< ((Int32.ofNat (R3 0)) &&& 31))))])
  refine own_lgo (fun _ kt => XS.ior B15.1.here hx rfl (hb hby at_200) rfl kt) ?_
  show own_LSeg p l e s m args below meth c n0 T15 (mkF m 201 #[.val (.int b), .val (.int z), .val (.ref kk), .val (.ref hp), .val (.int (Int32.ofNat (P5 0))), .val (.int (Int32.ofNat (R4 0))), .val (.int (Int32.ofNat (R3 0))), .val (.int (Int32.ofNat (R2 0))), .val (.int (Int32.ofNat (R1 0))), .unset] [(.int (((((1 : Int32) <<< ((Int32.ofNat (P5 0)) &&& 31)) ||| ((1 : Int32) <<< ((Int32.ofNat (R4 0)) &&& 31))) ||| ((1 : Int32) <<< ((Int32.ofNat (R3 0)) &&& 31))) ||| ((1 : Int32) <<< ((Int32.ofNat (R2 0)) &&& 31))))])
  refine own_lgo (fun _ kt => XS.iconst B15.1.here hx rfl (hb hby at_201) kt) ?_
  show own_LSeg p l e s m args below meth c n0 T15 (mkF m 202 #[.val (.int b), .val (.int z), .val (.ref kk), .val (.ref hp), .val (.int (Int32.ofNat (P5 0))), .val (.int (Int32.ofNat (R4 0))), .val (.int (Int32.ofNat (R3 0))), .val (.int (Int32.ofNat (R2 0))), .val (.int (Int32.ofNat (R1 0))), .unset] [(.int (1 : Int32)), (.int (((((1 : Int32) <<< ((Int32.ofNat (P5 0)) &&& 31)) ||| ((1 : Int32) <<< ((Int32.ofNat (R4 0)) &&& 31))) ||| ((1 : Int32) <<< ((Int32.ofNat (R3 0)) &&& 31))) ||| ((1 : Int32) <<< ((Int32.ofNat (R2 0)) &&& 31))))])
  refine own_lgo (fun _ kt => XS.iload B15.1.here hx rfl (hb hby at_202) rfl kt) ?_
  show own_LSeg p l e s m args below meth c n0 T15 (mkF m 204 #[.val (.int b), .val (.int z), .val (.ref kk), .val (.ref hp), .val (.int (Int32.ofNat (P5 0))), .val (.int (Int32.ofNat (R4 0))), .val (.int (Int32.ofNat (R3 0))), .val (.int (Int32.ofNat (R2 0))), .val (.int (Int32.ofNat (R1 0))), .unset] [(.int (Int32.ofNat (R1 0))), (.int (1 : Int32)), (.int (((((1 : Int32) <<< ((Int32.ofNat (P5 0)) &&& 31)) ||| ((1 : Int32) <<< ((Int32.ofNat (R4 0)) &&& 31))) ||| ((1 : Int32) <<< ((Int32.ofNat (R3 0)) &&& 31))) ||| ((1 : Int32) <<< ((Int32.ofNat (R2 0)) &&& 31))))])
  refine own_lgo (fun _ kt => XS.ishl B15.1.here hx rfl (hb hby at_204) rfl kt) ?_
  show own_LSeg p l e s m args below meth c n0 T15 (mkF m 205 #[.val (.int b), .val (.int z), .val (.ref kk), .val (.ref hp), .val (.int (Int32.ofNat (P5 0))), .val (.int (Int32.ofNat (R4 0))), .val (.int (Int32.ofNat (R3 0))), .val (.int (Int32.ofNat (R2 0))), .val (.int (Int32.ofNat (R1 0))), .unset] [(.int ((1 : Int32) <<< ((Int32.ofNat (R1 0)) &&& 31))), (.int (((((1 : Int32) <<< ((Int32.ofNat (P5 0)) &&& 31)) ||| ((1 : Int32) <<< ((Int32.ofNat (R4 0)) &&& 31))) ||| ((1 : Int32) <<< ((Int32.ofNat (R3 0)) &&& 31))) ||| ((1 : Int32) <<< ((Int32.ofNat (R2 0)) &&& 31))))])
  refine own_lgo (fun _ kt => XS.ior B15.1.here hx rfl (hb hby at_205) rfl kt) ?_
  show own_LSeg p l e s m args below meth c n0 T15 (mkF m 206 #[.val (.int b), .val (.int z), .val (.ref kk), .val (.ref hp), .val (.int (Int32.ofNat (P5 0))), .val (.int (Int32.ofNat (R4 0))), .val (.int (Int32.ofNat (R3 0))), .val (.int (Int32.ofNat (R2 0))), .val (.int (Int32.ofNat (R1 0))), .unset] [(.int ((((((1 : Int32) <<< ((Int32.ofNat (P5 0)) &&& 31)) ||| ((1 : Int32) <<< ((Int32.ofNat (R4 0)) &&& 31))) ||| ((1 : Int32) <<< ((Int32.ofNat (R3 0)) &&& 31))) ||| ((1 : Int32) <<< ((Int32.ofNat (R2 0)) &&& 31))) ||| ((1 : Int32) <<< ((Int32.ofNat (R1 0)) &&& 31))))])
  rw [hm]
  show own_LSeg p l e s m args below meth c n0 T15 (mkF m 206 #[.val (.int b), .val (.int z), .val (.ref kk), .val (.ref hp), .val (.int (Int32.ofNat (P5 0))), .val (.int (Int32.ofNat (R4 0))), .val (.int (Int32.ofNat (R3 0))), .val (.int (Int32.ofNat (R2 0))), .val (.int (Int32.ofNat (R1 0))), .unset] [(.int (31 : Int32))])
  refine own_lgo (fun _ kt => XS.istore B15.1.here hx rfl (hb hby at_206) rfl (l' := #[.val (.int b), .val (.int z), .val (.ref kk), .val (.ref hp), .val (.int (Int32.ofNat (P5 0))), .val (.int (Int32.ofNat (R4 0))), .val (.int (Int32.ofNat (R3 0))), .val (.int (Int32.ofNat (R2 0))), .val (.int (Int32.ofNat (R1 0))), .val (.int (31 : Int32))]) rfl kt) ?_
  show own_LSeg p l e s m args below meth c n0 T15 (mkF m 208 #[.val (.int b), .val (.int z), .val (.ref kk), .val (.ref hp), .val (.int (Int32.ofNat (P5 0))), .val (.int (Int32.ofNat (R4 0))), .val (.int (Int32.ofNat (R3 0))), .val (.int (Int32.ofNat (R2 0))), .val (.int (Int32.ofNat (R1 0))), .val (.int (31 : Int32))] [])
  refine own_lgo (fun _ kt => XS.iload B15.1.here hx rfl (hb hby at_208) rfl kt) ?_
  show own_LSeg p l e s m args below meth c n0 T15 (mkF m 210 #[.val (.int b), .val (.int z), .val (.ref kk), .val (.ref hp), .val (.int (Int32.ofNat (P5 0))), .val (.int (Int32.ofNat (R4 0))), .val (.int (Int32.ofNat (R3 0))), .val (.int (Int32.ofNat (R2 0))), .val (.int (Int32.ofNat (R1 0))), .val (.int (31 : Int32))] [(.int (31 : Int32))])
  refine own_lgo (fun _ kt => XS.bipush B15.1.here hx rfl (hb hby at_210) kt) ?_
  show own_LSeg p l e s m args below meth c n0 T15 (mkF m 212 #[.val (.int b), .val (.int z), .val (.ref kk), .val (.ref hp), .val (.int (Int32.ofNat (P5 0))), .val (.int (Int32.ofNat (R4 0))), .val (.int (Int32.ofNat (R3 0))), .val (.int (Int32.ofNat (R2 0))), .val (.int (Int32.ofNat (R1 0))), .val (.int (31 : Int32))] [(.int (31 : Int32)), (.int (31 : Int32))])
  refine own_lgo (fun _ kt => XS.icmpYes B15.1.here hx rfl (pc0 := 212) (pc' := 217) rfl (hb hby at_212) rfl (teq rfl).1 (by decide) (by decide) kt) ?_
  show own_LSeg p l e s m args below meth c n0 T15 (mkF m 217 #[.val (.int b), .val (.int z), .val (.ref kk), .val (.ref hp), .val (.int (Int32.ofNat (P5 0))), .val (.int (Int32.ofNat (R4 0))), .val (.int (Int32.ofNat (R3 0))), .val (.int (Int32.ofNat (R2 0))), .val (.int (Int32.ofNat (R1 0))), .val (.int (31 : Int32))] [])
  refine own_lgo (fun _ kt => XS.aloadN B15.1.here hx rfl (hb hby at_217) rfl rfl kt) ?_
  show own_LSeg p l e s m args below meth c n0 T15 (mkF m 218 #[.val (.int b), .val (.int z), .val (.ref kk), .val (.ref hp), .val (.int (Int32.ofNat (P5 0))), .val (.int (Int32.ofNat (R4 0))), .val (.int (Int32.ofNat (R3 0))), .val (.int (Int32.ofNat (R2 0))), .val (.int (Int32.ofNat (R1 0))), .val (.int (31 : Int32))] [(.ref kk)])
  refine own_lgo (fun _ kt => XS.iload B15.1.here hx rfl (hb hby at_218) rfl kt) ?_
  show own_LSeg p l e s m args below meth c n0 T15 (mkF m 220 #[.val (.int b), .val (.int z), .val (.ref kk), .val (.ref hp), .val (.int (Int32.ofNat (P5 0))), .val (.int (Int32.ofNat (R4 0))), .val (.int (Int32.ofNat (R3 0))), .val (.int (Int32.ofNat (R2 0))), .val (.int (Int32.ofNat (R1 0))), .val (.int (31 : Int32))] [(.int (Int32.ofNat (P5 0))), (.ref kk)])
  refine own_lgo (own_dl B15.1 hx hZ B15.2.2.1 i0 (by decide) (g := (mkF m 220 #[.val (.int b), .val (.int z), .val (.ref kk), .val (.ref hp), .val (.int (Int32.ofNat (P5 0))), .val (.int (Int32.ofNat (R4 0))), .val (.int (Int32.ofNat (R3 0))), .val (.int (Int32.ofNat (R2 0))), .val (.int (Int32.ofNat (R1 0))), .val (.int (31 : Int32))] [(.int (Int32.ofNat (P5 0))), (.ref kk)])) rfl rfl (hb hby at_220)) ?_
  show own_LSeg p l e s m args below meth c n0 T15 (mkF m 221 #[.val (.int b), .val (.int z), .val (.ref kk), .val (.ref hp), .val (.int (Int32.ofNat (P5 0))), .val (.int (Int32.ofNat (R4 0))), .val (.int (Int32.ofNat (R3 0))), .val (.int (Int32.ofNat (R2 0))), .val (.int (Int32.ofNat (R1 0))), .val (.int (31 : Int32))] [(.double (FP.i2d (own_kf b (P5 0))))])
  refine own_lgo (fun _ kt => XS.aloadN B15.1.here hx rfl (hb hby at_221) rfl rfl kt) ?_
  show own_LSeg p l e s m args below meth c n0 T15 (mkF m 222 #[.val (.int b), .val (.int z), .val (.ref kk), .val (.ref hp), .val (.int (Int32.ofNat (P5 0))), .val (.int (Int32.ofNat (R4 0))), .val (.int (Int32.ofNat (R3 0))), .val (.int (Int32.ofNat (R2 0))), .val (.int (Int32.ofNat (R1 0))), .val (.int (31 : Int32))] [(.ref kk), (.double (FP.i2d (own_kf b (P5 0))))])
  refine own_lgo (fun _ kt => XS.iload B15.1.here hx rfl (hb hby at_222) rfl kt) ?_
  show own_LSeg p l e s m args below meth c n0 T15 (mkF m 224 #[.val (.int b), .val (.int z), .val (.ref kk), .val (.ref hp), .val (.int (Int32.ofNat (P5 0))), .val (.int (Int32.ofNat (R4 0))), .val (.int (Int32.ofNat (R3 0))), .val (.int (Int32.ofNat (R2 0))), .val (.int (Int32.ofNat (R1 0))), .val (.int (31 : Int32))] [(.int (Int32.ofNat (R4 0))), (.ref kk), (.double (FP.i2d (own_kf b (P5 0))))])
  refine own_lgo (own_dl B15.1 hx hZ B15.2.2.1 i1 (by decide) (g := (mkF m 224 #[.val (.int b), .val (.int z), .val (.ref kk), .val (.ref hp), .val (.int (Int32.ofNat (P5 0))), .val (.int (Int32.ofNat (R4 0))), .val (.int (Int32.ofNat (R3 0))), .val (.int (Int32.ofNat (R2 0))), .val (.int (Int32.ofNat (R1 0))), .val (.int (31 : Int32))] [(.int (Int32.ofNat (R4 0))), (.ref kk), (.double (FP.i2d (own_kf b (P5 0))))])) rfl rfl (hb hby at_224)) ?_
  show own_LSeg p l e s m args below meth c n0 T15 (mkF m 225 #[.val (.int b), .val (.int z), .val (.ref kk), .val (.ref hp), .val (.int (Int32.ofNat (P5 0))), .val (.int (Int32.ofNat (R4 0))), .val (.int (Int32.ofNat (R3 0))), .val (.int (Int32.ofNat (R2 0))), .val (.int (Int32.ofNat (R1 0))), .val (.int (31 : Int32))] [(.double (FP.i2d (own_kf b (R4 0)))), (.double (FP.i2d (own_kf b (P5 0))))])
  refine own_lgo (fun _ kt => XS.dcmpS B15.1.here hx rfl (hb hby at_225) rfl (own_cmp (own_kf b (P5 0)) (own_kf b (R4 0)) _) kt) ?_
  show own_LSeg p l e s m args below meth c n0 T15 (mkF m 226 #[.val (.int b), .val (.int z), .val (.ref kk), .val (.ref hp), .val (.int (Int32.ofNat (P5 0))), .val (.int (Int32.ofNat (R4 0))), .val (.int (Int32.ofNat (R3 0))), .val (.int (Int32.ofNat (R2 0))), .val (.int (Int32.ofNat (R1 0))), .val (.int (31 : Int32))] [(.int (own_c (own_kf b (P5 0)) (own_kf b (R4 0))))])
  refine own_lgo (fun _ kt => XS.ifNo B15.1.here hx rfl (hb hby at_226) rfl (own_gt_f g1) kt) ?_
  show own_LSeg p l e s m args below meth c n0 T15 (mkF m 229 #[.val (.int b), .val (.int z), .val (.ref kk), .val (.ref hp), .val (.int (Int32.ofNat (P5 0))), .val (.int (Int32.ofNat (R4 0))), .val (.int (Int32.ofNat (R3 0))), .val (.int (Int32.ofNat (R2 0))), .val (.int (Int32.ofNat (R1 0))), .val (.int (31 : Int32))] [])
  refine own_lgo (fun _ kt => XS.aloadN B15.1.here hx rfl (hb hby at_229) rfl rfl kt) ?_
  show own_LSeg p l e s m args below meth c n0 T15 (mkF m 230 #[.val (.int b), .val (.int z), .val (.ref kk), .val (.ref hp), .val (.int (Int32.ofNat (P5 0))), .val (.int (Int32.ofNat (R4 0))), .val (.int (Int32.ofNat (R3 0))), .val (.int (Int32.ofNat (R2 0))), .val (.int (Int32.ofNat (R1 0))), .val (.int (31 : Int32))] [(.ref kk)])
  refine own_lgo (fun _ kt => XS.iload B15.1.here hx rfl (hb hby at_230) rfl kt) ?_
  show own_LSeg p l e s m args below meth c n0 T15 (mkF m 232 #[.val (.int b), .val (.int z), .val (.ref kk), .val (.ref hp), .val (.int (Int32.ofNat (P5 0))), .val (.int (Int32.ofNat (R4 0))), .val (.int (Int32.ofNat (R3 0))), .val (.int (Int32.ofNat (R2 0))), .val (.int (Int32.ofNat (R1 0))), .val (.int (31 : Int32))] [(.int (Int32.ofNat (R4 0))), (.ref kk)])
  refine own_lgo (own_dl B15.1 hx hZ B15.2.2.1 i1 (by decide) (g := (mkF m 232 #[.val (.int b), .val (.int z), .val (.ref kk), .val (.ref hp), .val (.int (Int32.ofNat (P5 0))), .val (.int (Int32.ofNat (R4 0))), .val (.int (Int32.ofNat (R3 0))), .val (.int (Int32.ofNat (R2 0))), .val (.int (Int32.ofNat (R1 0))), .val (.int (31 : Int32))] [(.int (Int32.ofNat (R4 0))), (.ref kk)])) rfl rfl (hb hby at_232)) ?_
  show own_LSeg p l e s m args below meth c n0 T15 (mkF m 233 #[.val (.int b), .val (.int z), .val (.ref kk), .val (.ref hp), .val (.int (Int32.ofNat (P5 0))), .val (.int (Int32.ofNat (R4 0))), .val (.int (Int32.ofNat (R3 0))), .val (.int (Int32.ofNat (R2 0))), .val (.int (Int32.ofNat (R1 0))), .val (.int (31 : Int32))] [(.double (FP.i2d (own_kf b (R4 0))))])
  refine own_lgo (fun _ kt => XS.aloadN B15.1.here hx rfl (hb hby at_233) rfl rfl kt) ?_
  show own_LSeg p l e s m args below meth c n0 T15 (mkF m 234 #[.val (.int b), .val (.int z), .val (.ref kk), .val (.ref hp), .val (.int (Int32.ofNat (P5 0))), .val (.int (Int32.ofNat (R4 0))), .val (.int (Int32.ofNat (R3 0))), .val (.int (Int32.ofNat (R2 0))), .val (.int (Int32.ofNat (R1 0))), .val (.int (31 : Int32))] [(.ref kk), (.double (FP.i2d (own_kf b (R4 0))))])
  refine own_lgo (fun _ kt => XS.iload B15.1.here hx rfl (hb hby at_234) rfl kt) ?_
  show own_LSeg p l e s m args below meth c n0 T15 (mkF m 236 #[.val (.int b), .val (.int z), .val (.ref kk), .val (.ref hp), .val (.int (Int32.ofNat (P5 0))), .val (.int (Int32.ofNat (R4 0))), .val (.int (Int32.ofNat (R3 0))), .val (.int (Int32.ofNat (R2 0))), .val (.int (Int32.ofNat (R1 0))), .val (.int (31 : Int32))] [(.int (Int32.ofNat (R3 0))), (.ref kk), (.double (FP.i2d (own_kf b (R4 0))))])
  refine own_lgo (own_dl B15.1 hx hZ B15.2.2.1 i2 (by decide) (g := (mkF m 236 #[.val (.int b), .val (.int z), .val (.ref kk), .val (.ref hp), .val (.int (Int32.ofNat (P5 0))), .val (.int (Int32.ofNat (R4 0))), .val (.int (Int32.ofNat (R3 0))), .val (.int (Int32.ofNat (R2 0))), .val (.int (Int32.ofNat (R1 0))), .val (.int (31 : Int32))] [(.int (Int32.ofNat (R3 0))), (.ref kk), (.double (FP.i2d (own_kf b (R4 0))))])) rfl rfl (hb hby at_236)) ?_
  show own_LSeg p l e s m args below meth c n0 T15 (mkF m 237 #[.val (.int b), .val (.int z), .val (.ref kk), .val (.ref hp), .val (.int (Int32.ofNat (P5 0))), .val (.int (Int32.ofNat (R4 0))), .val (.int (Int32.ofNat (R3 0))), .val (.int (Int32.ofNat (R2 0))), .val (.int (Int32.ofNat (R1 0))), .val (.int (31 : Int32))] [(.double (FP.i2d (own_kf b (R3 0)))), (.double (FP.i2d (own_kf b (R4 0))))])
  refine own_lgo (fun _ kt => XS.dcmpS B15.1.here hx rfl (hb hby at_237) rfl (own_cmp (own_kf b (R4 0)) (own_kf b (R3 0)) _) kt) ?_
  show own_LSeg p l e s m args below meth c n0 T15 (mkF m 238 #[.val (.int b), .val (.int z), .val (.ref kk), .val (.ref hp), .val (.int (Int32.ofNat (P5 0))), .val (.int (Int32.ofNat (R4 0))), .val (.int (Int32.ofNat (R3 0))), .val (.int (Int32.ofNat (R2 0))), .val (.int (Int32.ofNat (R1 0))), .val (.int (31 : Int32))] [(.int (own_c (own_kf b (R4 0)) (own_kf b (R3 0))))])
  refine own_lgo (fun _ kt => XS.ifNo B15.1.here hx rfl (hb hby at_238) rfl (own_gt_f g2) kt) ?_
  show own_LSeg p l e s m args below meth c n0 T15 (mkF m 241 #[.val (.int b), .val (.int z), .val (.ref kk), .val (.ref hp), .val (.int (Int32.ofNat (P5 0))), .val (.int (Int32.ofNat (R4 0))), .val (.int (Int32.ofNat (R3 0))), .val (.int (Int32.ofNat (R2 0))), .val (.int (Int32.ofNat (R1 0))), .val (.int (31 : Int32))] [])
  refine own_lgo (fun _ kt => XS.aloadN B15.1.here hx rfl (hb hby at_241) rfl rfl kt) ?_
  show own_LSeg p l e s m args below meth c n0 T15 (mkF m 242 #[.val (.int b), .val (.int z), .val (.ref kk), .val (.ref hp), .val (.int (Int32.ofNat (P5 0))), .val (.int (Int32.ofNat (R4 0))), .val (.int (Int32.ofNat (R3 0))), .val (.int (Int32.ofNat (R2 0))), .val (.int (Int32.ofNat (R1 0))), .val (.int (31 : Int32))] [(.ref kk)])
  refine own_lgo (fun _ kt => XS.iload B15.1.here hx rfl (hb hby at_242) rfl kt) ?_
  show own_LSeg p l e s m args below meth c n0 T15 (mkF m 244 #[.val (.int b), .val (.int z), .val (.ref kk), .val (.ref hp), .val (.int (Int32.ofNat (P5 0))), .val (.int (Int32.ofNat (R4 0))), .val (.int (Int32.ofNat (R3 0))), .val (.int (Int32.ofNat (R2 0))), .val (.int (Int32.ofNat (R1 0))), .val (.int (31 : Int32))] [(.int (Int32.ofNat (R3 0))), (.ref kk)])
  refine own_lgo (own_dl B15.1 hx hZ B15.2.2.1 i2 (by decide) (g := (mkF m 244 #[.val (.int b), .val (.int z), .val (.ref kk), .val (.ref hp), .val (.int (Int32.ofNat (P5 0))), .val (.int (Int32.ofNat (R4 0))), .val (.int (Int32.ofNat (R3 0))), .val (.int (Int32.ofNat (R2 0))), .val (.int (Int32.ofNat (R1 0))), .val (.int (31 : Int32))] [(.int (Int32.ofNat (R3 0))), (.ref kk)])) rfl rfl (hb hby at_244)) ?_
  show own_LSeg p l e s m args below meth c n0 T15 (mkF m 245 #[.val (.int b), .val (.int z), .val (.ref kk), .val (.ref hp), .val (.int (Int32.ofNat (P5 0))), .val (.int (Int32.ofNat (R4 0))), .val (.int (Int32.ofNat (R3 0))), .val (.int (Int32.ofNat (R2 0))), .val (.int (Int32.ofNat (R1 0))), .val (.int (31 : Int32))] [(.double (FP.i2d (own_kf b (R3 0))))])
  refine own_lgo (fun _ kt => XS.aloadN B15.1.here hx rfl (hb hby at_245) rfl rfl kt) ?_
  show own_LSeg p l e s m args below meth c n0 T15 (mkF m 246 #[.val (.int b), .val (.int z), .val (.ref kk), .val (.ref hp), .val (.int (Int32.ofNat (P5 0))), .val (.int (Int32.ofNat (R4 0))), .val (.int (Int32.ofNat (R3 0))), .val (.int (Int32.ofNat (R2 0))), .val (.int (Int32.ofNat (R1 0))), .val (.int (31 : Int32))] [(.ref kk), (.double (FP.i2d (own_kf b (R3 0))))])
  refine own_lgo (fun _ kt => XS.iload B15.1.here hx rfl (hb hby at_246) rfl kt) ?_
  show own_LSeg p l e s m args below meth c n0 T15 (mkF m 248 #[.val (.int b), .val (.int z), .val (.ref kk), .val (.ref hp), .val (.int (Int32.ofNat (P5 0))), .val (.int (Int32.ofNat (R4 0))), .val (.int (Int32.ofNat (R3 0))), .val (.int (Int32.ofNat (R2 0))), .val (.int (Int32.ofNat (R1 0))), .val (.int (31 : Int32))] [(.int (Int32.ofNat (R2 0))), (.ref kk), (.double (FP.i2d (own_kf b (R3 0))))])
  refine own_lgo (own_dl B15.1 hx hZ B15.2.2.1 i3 (by decide) (g := (mkF m 248 #[.val (.int b), .val (.int z), .val (.ref kk), .val (.ref hp), .val (.int (Int32.ofNat (P5 0))), .val (.int (Int32.ofNat (R4 0))), .val (.int (Int32.ofNat (R3 0))), .val (.int (Int32.ofNat (R2 0))), .val (.int (Int32.ofNat (R1 0))), .val (.int (31 : Int32))] [(.int (Int32.ofNat (R2 0))), (.ref kk), (.double (FP.i2d (own_kf b (R3 0))))])) rfl rfl (hb hby at_248)) ?_
  show own_LSeg p l e s m args below meth c n0 T15 (mkF m 249 #[.val (.int b), .val (.int z), .val (.ref kk), .val (.ref hp), .val (.int (Int32.ofNat (P5 0))), .val (.int (Int32.ofNat (R4 0))), .val (.int (Int32.ofNat (R3 0))), .val (.int (Int32.ofNat (R2 0))), .val (.int (Int32.ofNat (R1 0))), .val (.int (31 : Int32))] [(.double (FP.i2d (own_kf b (R2 0)))), (.double (FP.i2d (own_kf b (R3 0))))])
  refine own_lgo (fun _ kt => XS.dcmpS B15.1.here hx rfl (hb hby at_249) rfl (own_cmp (own_kf b (R3 0)) (own_kf b (R2 0)) _) kt) ?_
  show own_LSeg p l e s m args below meth c n0 T15 (mkF m 250 #[.val (.int b), .val (.int z), .val (.ref kk), .val (.ref hp), .val (.int (Int32.ofNat (P5 0))), .val (.int (Int32.ofNat (R4 0))), .val (.int (Int32.ofNat (R3 0))), .val (.int (Int32.ofNat (R2 0))), .val (.int (Int32.ofNat (R1 0))), .val (.int (31 : Int32))] [(.int (own_c (own_kf b (R3 0)) (own_kf b (R2 0))))])
  refine own_lgo (fun _ kt => XS.ifNo B15.1.here hx rfl (hb hby at_250) rfl (own_gt_f g3) kt) ?_
  show own_LSeg p l e s m args below meth c n0 T15 (mkF m 253 #[.val (.int b), .val (.int z), .val (.ref kk), .val (.ref hp), .val (.int (Int32.ofNat (P5 0))), .val (.int (Int32.ofNat (R4 0))), .val (.int (Int32.ofNat (R3 0))), .val (.int (Int32.ofNat (R2 0))), .val (.int (Int32.ofNat (R1 0))), .val (.int (31 : Int32))] [])
  refine own_lgo (fun _ kt => XS.aloadN B15.1.here hx rfl (hb hby at_253) rfl rfl kt) ?_
  show own_LSeg p l e s m args below meth c n0 T15 (mkF m 254 #[.val (.int b), .val (.int z), .val (.ref kk), .val (.ref hp), .val (.int (Int32.ofNat (P5 0))), .val (.int (Int32.ofNat (R4 0))), .val (.int (Int32.ofNat (R3 0))), .val (.int (Int32.ofNat (R2 0))), .val (.int (Int32.ofNat (R1 0))), .val (.int (31 : Int32))] [(.ref kk)])
  refine own_lgo (fun _ kt => XS.iload B15.1.here hx rfl (hb hby at_254) rfl kt) ?_
  show own_LSeg p l e s m args below meth c n0 T15 (mkF m 256 #[.val (.int b), .val (.int z), .val (.ref kk), .val (.ref hp), .val (.int (Int32.ofNat (P5 0))), .val (.int (Int32.ofNat (R4 0))), .val (.int (Int32.ofNat (R3 0))), .val (.int (Int32.ofNat (R2 0))), .val (.int (Int32.ofNat (R1 0))), .val (.int (31 : Int32))] [(.int (Int32.ofNat (R2 0))), (.ref kk)])
  refine own_lgo (own_dl B15.1 hx hZ B15.2.2.1 i3 (by decide) (g := (mkF m 256 #[.val (.int b), .val (.int z), .val (.ref kk), .val (.ref hp), .val (.int (Int32.ofNat (P5 0))), .val (.int (Int32.ofNat (R4 0))), .val (.int (Int32.ofNat (R3 0))), .val (.int (Int32.ofNat (R2 0))), .val (.int (Int32.ofNat (R1 0))), .val (.int (31 : Int32))] [(.int (Int32.ofNat (R2 0))), (.ref kk)])) rfl rfl (hb hby at_256)) ?_
  show own_LSeg p l e s m args below meth c n0 T15 (mkF m 257 #[.val (.int b), .val (.int z), .val (.ref kk), .val (.ref hp), .val (.int (Int32.ofNat (P5 0))), .val (.int (Int32.ofNat (R4 0))), .val (.int (Int32.ofNat (R3 0))), .val (.int (Int32.ofNat (R2 0))), .val (.int (Int32.ofNat (R1 0))), .val (.int (31 : Int32))] [(.double (FP.i2d (own_kf b (R2 0))))])
  refine own_lgo (fun _ kt => XS.aloadN B15.1.here hx rfl (hb hby at_257) rfl rfl kt) ?_
  show own_LSeg p l e s m args below meth c n0 T15 (mkF m 258 #[.val (.int b), .val (.int z), .val (.ref kk), .val (.ref hp), .val (.int (Int32.ofNat (P5 0))), .val (.int (Int32.ofNat (R4 0))), .val (.int (Int32.ofNat (R3 0))), .val (.int (Int32.ofNat (R2 0))), .val (.int (Int32.ofNat (R1 0))), .val (.int (31 : Int32))] [(.ref kk), (.double (FP.i2d (own_kf b (R2 0))))])
  refine own_lgo (fun _ kt => XS.iload B15.1.here hx rfl (hb hby at_258) rfl kt) ?_
  show own_LSeg p l e s m args below meth c n0 T15 (mkF m 260 #[.val (.int b), .val (.int z), .val (.ref kk), .val (.ref hp), .val (.int (Int32.ofNat (P5 0))), .val (.int (Int32.ofNat (R4 0))), .val (.int (Int32.ofNat (R3 0))), .val (.int (Int32.ofNat (R2 0))), .val (.int (Int32.ofNat (R1 0))), .val (.int (31 : Int32))] [(.int (Int32.ofNat (R1 0))), (.ref kk), (.double (FP.i2d (own_kf b (R2 0))))])
  refine own_lgo (own_dl B15.1 hx hZ B15.2.2.1 i4 (by decide) (g := (mkF m 260 #[.val (.int b), .val (.int z), .val (.ref kk), .val (.ref hp), .val (.int (Int32.ofNat (P5 0))), .val (.int (Int32.ofNat (R4 0))), .val (.int (Int32.ofNat (R3 0))), .val (.int (Int32.ofNat (R2 0))), .val (.int (Int32.ofNat (R1 0))), .val (.int (31 : Int32))] [(.int (Int32.ofNat (R1 0))), (.ref kk), (.double (FP.i2d (own_kf b (R2 0))))])) rfl rfl (hb hby at_260)) ?_
  show own_LSeg p l e s m args below meth c n0 T15 (mkF m 261 #[.val (.int b), .val (.int z), .val (.ref kk), .val (.ref hp), .val (.int (Int32.ofNat (P5 0))), .val (.int (Int32.ofNat (R4 0))), .val (.int (Int32.ofNat (R3 0))), .val (.int (Int32.ofNat (R2 0))), .val (.int (Int32.ofNat (R1 0))), .val (.int (31 : Int32))] [(.double (FP.i2d (own_kf b (R1 0)))), (.double (FP.i2d (own_kf b (R2 0))))])
  refine own_lgo (fun _ kt => XS.dcmpS B15.1.here hx rfl (hb hby at_261) rfl (own_cmp (own_kf b (R2 0)) (own_kf b (R1 0)) _) kt) ?_
  show own_LSeg p l e s m args below meth c n0 T15 (mkF m 262 #[.val (.int b), .val (.int z), .val (.ref kk), .val (.ref hp), .val (.int (Int32.ofNat (P5 0))), .val (.int (Int32.ofNat (R4 0))), .val (.int (Int32.ofNat (R3 0))), .val (.int (Int32.ofNat (R2 0))), .val (.int (Int32.ofNat (R1 0))), .val (.int (31 : Int32))] [(.int (own_c (own_kf b (R2 0)) (own_kf b (R1 0))))])
  refine own_lgo (fun _ kt => XS.ifYes B15.1.here hx rfl (pc0 := 262) (pc' := 267) rfl (hb hby at_262) rfl (own_le_t g4) (by decide) (by decide) kt) ?_
  show own_LSeg p l e s m args below meth c n0 T15 (mkF m 267 #[.val (.int b), .val (.int z), .val (.ref kk), .val (.ref hp), .val (.int (Int32.ofNat (P5 0))), .val (.int (Int32.ofNat (R4 0))), .val (.int (Int32.ofNat (R3 0))), .val (.int (Int32.ofNat (R2 0))), .val (.int (Int32.ofNat (R1 0))), .val (.int (31 : Int32))] [])
  refine own_lgo (fun _ kt => XS.aloadN B15.1.here hx rfl (hb hby at_267) rfl rfl kt) ?_
  show own_LSeg p l e s m args below meth c n0 T15 (mkF m 268 #[.val (.int b), .val (.int z), .val (.ref kk), .val (.ref hp), .val (.int (Int32.ofNat (P5 0))), .val (.int (Int32.ofNat (R4 0))), .val (.int (Int32.ofNat (R3 0))), .val (.int (Int32.ofNat (R2 0))), .val (.int (Int32.ofNat (R1 0))), .val (.int (31 : Int32))] [(.ref hp)])
  obtain ⟨T16, L16, B16, st16⟩ := own_empCall hx hZ hw hown (own_kf b) (own_jf z) R0 B15 268 #[.val (.int b), .val (.int z), .val (.ref kk), .val (.ref hp), .val (.int (Int32.ofNat (P5 0))), .val (.int (Int32.ofNat (R4 0))), .val (.int (Int32.ofNat (R3 0))), .val (.int (Int32.ofNat (R2 0))), .val (.int (Int32.ofNat (R1 0))), .val (.int (31 : Int32))] (by rw [hml]; rfl) (hb hby at_268)
  refine own_lgo st16 ?_
  show own_LSeg p l e s m args below meth c n0 T16 (mkF m 271 #[.val (.int b), .val (.int z), .val (.ref kk), .val (.ref hp), .val (.int (Int32.ofNat (P5 0))), .val (.int (Int32.ofNat (R4 0))), .val (.int (Int32.ofNat (R3 0))), .val (.int (Int32.ofNat (R2 0))), .val (.int (Int32.ofNat (R1 0))), .val (.int (31 : Int32))] [(.int (1 : Int32))])
  exact ⟨T16, _, 4, 40, _, B16.1, by decide, B16.2.2.2.1, fun _ k => k⟩
theorem own_kfs (b : Int32) {Z : State} {h : Heap} {a : Addr} (D : own_DA Z h a 5 (own_upd (own_upd (own_upd (own_upd (own_upd (fun _ => 0) 0 (own_key b (Int32.ofNat 0))) 1 (own_key b (Int32.ofNat 1))) 2 (own_key b (Int32.ofNat 2))) 3 (own_key b (Int32.ofNat 3))) 4 (own_key b (Int32.ofNat 4)))) : own_DA Z h a 5 (own_kf b) := by
  obtain ⟨c, A, S, H⟩ := D
  refine ⟨c, A, S, fun j hj => ?_⟩
  rw [H j hj]
  match j, hj with
  | 0, _ => rfl
  | 1, _ => rfl
  | 2, _ => rfl
  | 3, _ => rfl
  | 4, _ => rfl
set_option maxRecDepth 65536 in
set_option maxHeartbeats 40000000 in
theorem own_lawAll {p : Program} {l : Launch} {e : Env} {s : State} {m : MethodId} {args : Array Value} {below : List Frame} {meth : Method} {c : Code} {Z : State} {a0 : Array Value} {n0 : Nat} (hx : p.tables.exec = Jvm.exec) (hZ : Z.Warmed39 s.vm) (hw : ∀ d ∈ tables_1, d.before a0 Z = true) (hown : s.vm.findClass "com/example/wary_checker/warychecker/check/HeapPopPinLaw" = some m.cls) (hby : c.code = code) (hml : c.maxLocals = 10) (b z : Int32) {h0 : Heap} {T0 : State} (Z0 : n0 ≤ h0.size) (X0 : Stand p l e room_1 s m args below meth c T0 [] 0 0) (e0 : T0.heap = h0) :
    own_LSeg p l e s m args below meth c n0 T0 (mkF m 0 #[.val (.int b), .val (.int z), .unset, .unset, .unset, .unset, .unset, .unset, .unset, .unset] []) := by
  show own_LSeg p l e s m args below meth c n0 T0 (mkF m 0 #[.val (.int b), .val (.int z), .unset, .unset, .unset, .unset, .unset, .unset, .unset, .unset] [])
  refine own_lgo (fun _ kt => XS.iconst X0.here hx rfl (hb hby at_0) kt) ?_
  show own_LSeg p l e s m args below meth c n0 T0 (mkF m 1 #[.val (.int b), .val (.int z), .unset, .unset, .unset, .unset, .unset, .unset, .unset, .unset] [(.int (5 : Int32))])
  obtain ⟨T1, h1, k1, X1a, e1, E1, A1, st1⟩ := newP X0 hx hZ (hw _ (List.mem_of_getElem? (i := 0) rfl)) e0 (g := (mkF m 1 #[.val (.int b), .val (.int z), .unset, .unset, .unset, .unset, .unset, .unset, .unset, .unset] [(.int (5 : Int32))])) rfl (hb hby at_1) rfl (by decide) (cap := 5) (by decide) (by decide) (by decide) (by decide)
  obtain ⟨kk, g1⟩ : ∃ z, z = h0.size := ⟨_, rfl⟩
  rw [← g1] at A1 st1
  have X1 : Stand p l e room_1 s m args below meth c T1 [] 1 5 := X1a
  have gk : n0 ≤ kk := by omega
  have N1 := Fr.nil n0
  have D1 : own_DA Z T1.heap kk 5 (fun _ => 0) := by rw [e1]; exact own_DA_new A1 (by decide)
  have G1 : n0 ≤ T1.heap.size := by rw [e1]; exact Nat.le_trans Z0 E1.1
  refine own_lgo st1 ?_
  show own_LSeg p l e s m args below meth c n0 T1 (mkF m 3 #[.val (.int b), .val (.int z), .unset, .unset, .unset, .unset, .unset, .unset, .unset, .unset] [(.ref kk)])
  refine own_lgo (fun _ kt => XS.astoreN X1.here hx rfl (hb hby at_3) rfl rfl (l' := #[.val (.int b), .val (.int z), .val (.ref kk), .unset, .unset, .unset, .unset, .unset, .unset, .unset]) rfl kt) ?_
  show own_LSeg p l e s m args below meth c n0 T1 (mkF m 4 #[.val (.int b), .val (.int z), .val (.ref kk), .unset, .unset, .unset, .unset, .unset, .unset, .unset] [])
  refine own_lgo (fun _ kt => XS.aloadN X1.here hx rfl (hb hby at_4) rfl rfl kt) ?_
  show own_LSeg p l e s m args below meth c n0 T1 (mkF m 5 #[.val (.int b), .val (.int z), .val (.ref kk), .unset, .unset, .unset, .unset, .unset, .unset, .unset] [(.ref kk)])
  refine own_lgo (fun _ kt => XS.iconst X1.here hx rfl (hb hby at_5) kt) ?_
  show own_LSeg p l e s m args below meth c n0 T1 (mkF m 6 #[.val (.int b), .val (.int z), .val (.ref kk), .unset, .unset, .unset, .unset, .unset, .unset, .unset] [(.int (Int32.ofNat 0)), (.ref kk)])
  refine own_lgo (fun _ kt => XS.iloadN X1.here hx rfl (hb hby at_6) rfl kt) ?_
  show own_LSeg p l e s m args below meth c n0 T1 (mkF m 7 #[.val (.int b), .val (.int z), .val (.ref kk), .unset, .unset, .unset, .unset, .unset, .unset, .unset] [(.int b), (.int (Int32.ofNat 0)), (.ref kk)])
  refine own_lgo (fun _ kt => XS.iconst X1.here hx rfl (hb hby at_7) kt) ?_
  show own_LSeg p l e s m args below meth c n0 T1 (mkF m 8 #[.val (.int b), .val (.int z), .val (.ref kk), .unset, .unset, .unset, .unset, .unset, .unset, .unset] [(.int (Int32.ofNat 0)), (.int b), (.int (Int32.ofNat 0)), (.ref kk)])
  obtain ⟨T2, L2, ⟨X2, e2, N2⟩, st2⟩ := own_keyCall hx hZ hw hown b (Int32.ofNat 0) (Int32.ofNat 0) kk X1 N1 8 #[.val (.int b), .val (.int z), .val (.ref kk), .unset, .unset, .unset, .unset, .unset, .unset, .unset] (by rw [hml]; rfl) (hb hby at_8)
  refine own_lgo st2 ?_
  show own_LSeg p l e s m args below meth c n0 T2 (mkF m 11 #[.val (.int b), .val (.int z), .val (.ref kk), .unset, .unset, .unset, .unset, .unset, .unset, .unset] [(.double (FP.i2d (own_key b (Int32.ofNat 0)))), (.int (Int32.ofNat 0)), (.ref kk)])
  rw [← e2] at D1 G1
  obtain ⟨T3, X3, W3, st3⟩ := own_ds X2 hx hZ D1 (show 0 < 5 by decide) (by decide) (g := (mkF m 11 #[.val (.int b), .val (.int z), .val (.ref kk), .unset, .unset, .unset, .unset, .unset, .unset, .unset] [(.double (FP.i2d (own_key b (Int32.ofNat 0)))), (.int (Int32.ofNat 0)), (.ref kk)])) rfl rfl (hb hby at_11)
  have D3 := own_DA_set D1 W3
  have N3 := Fr.snoc X3 N2 gk
  have G3 : n0 ≤ T3.heap.size := Nat.le_trans G1 (Keep.of_wr W3).1
  refine own_lgo st3 ?_
  show own_LSeg p l e s m args below meth c n0 T3 (mkF m 12 #[.val (.int b), .val (.int z), .val (.ref kk), .unset, .unset, .unset, .unset, .unset, .unset, .unset] [])
  refine own_lgo (fun _ kt => XS.aloadN X3.here hx rfl (hb hby at_12) rfl rfl kt) ?_
  show own_LSeg p l e s m args below meth c n0 T3 (mkF m 13 #[.val (.int b), .val (.int z), .val (.ref kk), .unset, .unset, .unset, .unset, .unset, .unset, .unset] [(.ref kk)])
  refine own_lgo (fun _ kt => XS.iconst X3.here hx rfl (hb hby at_13) kt) ?_
  show own_LSeg p l e s m args below meth c n0 T3 (mkF m 14 #[.val (.int b), .val (.int z), .val (.ref kk), .unset, .unset, .unset, .unset, .unset, .unset, .unset] [(.int (Int32.ofNat 1)), (.ref kk)])
  refine own_lgo (fun _ kt => XS.iloadN X3.here hx rfl (hb hby at_14) rfl kt) ?_
  show own_LSeg p l e s m args below meth c n0 T3 (mkF m 15 #[.val (.int b), .val (.int z), .val (.ref kk), .unset, .unset, .unset, .unset, .unset, .unset, .unset] [(.int b), (.int (Int32.ofNat 1)), (.ref kk)])
  refine own_lgo (fun _ kt => XS.iconst X3.here hx rfl (hb hby at_15) kt) ?_
  show own_LSeg p l e s m args below meth c n0 T3 (mkF m 16 #[.val (.int b), .val (.int z), .val (.ref kk), .unset, .unset, .unset, .unset, .unset, .unset, .unset] [(.int (Int32.ofNat 1)), (.int b), (.int (Int32.ofNat 1)), (.ref kk)])
  obtain ⟨T4, L4, ⟨X4, e4, N4⟩, st4⟩ := own_keyCall hx hZ hw hown b (Int32.ofNat 1) (Int32.ofNat 1) kk X3 N3 16 #[.val (.int b), .val (.int z), .val (.ref kk), .unset, .unset, .unset, .unset, .unset, .unset, .unset] (by rw [hml]; rfl) (hb hby at_16)
  refine own_lgo st4 ?_
  show own_LSeg p l e s m args below meth c n0 T4 (mkF m 19 #[.val (.int b), .val (.int z), .val (.ref kk), .unset, .unset, .unset, .unset, .unset, .unset, .unset] [(.double (FP.i2d (own_key b (Int32.ofNat 1)))), (.int (Int32.ofNat 1)), (.ref kk)])
  rw [← e4] at D3 G3
  obtain ⟨T5, X5, W5, st5⟩ := own_ds X4 hx hZ D3 (show 1 < 5 by decide) (by decide) (g := (mkF m 19 #[.val (.int b), .val (.int z), .val (.ref kk), .unset, .unset, .unset, .unset, .unset, .unset, .unset] [(.double (FP.i2d (own_key b (Int32.ofNat 1)))), (.int (Int32.ofNat 1)), (.ref kk)])) rfl rfl (hb hby at_19)
  have D5 := own_DA_set D3 W5
  have N5 := Fr.snoc X5 N4 gk
  have G5 : n0 ≤ T5.heap.size := Nat.le_trans G3 (Keep.of_wr W5).1
  refine own_lgo st5 ?_
  show own_LSeg p l e s m args below meth c n0 T5 (mkF m 20 #[.val (.int b), .val (.int z), .val (.ref kk), .unset, .unset, .unset, .unset, .unset, .unset, .unset] [])
  refine own_lgo (fun _ kt => XS.aloadN X5.here hx rfl (hb hby at_20) rfl rfl kt) ?_
  show own_LSeg p l e s m args below meth c n0 T5 (mkF m 21 #[.val (.int b), .val (.int z), .val (.ref kk), .unset, .unset, .unset, .unset, .unset, .unset, .unset] [(.ref kk)])
  refine own_lgo (fun _ kt => XS.iconst X5.here hx rfl (hb hby at_21) kt) ?_
  show own_LSeg p l e s m args below meth c n0 T5 (mkF m 22 #[.val (.int b), .val (.int z), .val (.ref kk), .unset, .unset, .unset, .unset, .unset, .unset, .unset] [(.int (Int32.ofNat 2)), (.ref kk)])
  refine own_lgo (fun _ kt => XS.iloadN X5.here hx rfl (hb hby at_22) rfl kt) ?_
  show own_LSeg p l e s m args below meth c n0 T5 (mkF m 23 #[.val (.int b), .val (.int z), .val (.ref kk), .unset, .unset, .unset, .unset, .unset, .unset, .unset] [(.int b), (.int (Int32.ofNat 2)), (.ref kk)])
  refine own_lgo (fun _ kt => XS.iconst X5.here hx rfl (hb hby at_23) kt) ?_
  show own_LSeg p l e s m args below meth c n0 T5 (mkF m 24 #[.val (.int b), .val (.int z), .val (.ref kk), .unset, .unset, .unset, .unset, .unset, .unset, .unset] [(.int (Int32.ofNat 2)), (.int b), (.int (Int32.ofNat 2)), (.ref kk)])
  obtain ⟨T6, L6, ⟨X6, e6, N6⟩, st6⟩ := own_keyCall hx hZ hw hown b (Int32.ofNat 2) (Int32.ofNat 2) kk X5 N5 24 #[.val (.int b), .val (.int z), .val (.ref kk), .unset, .unset, .unset, .unset, .unset, .unset, .unset] (by rw [hml]; rfl) (hb hby at_24)
  refine own_lgo st6 ?_
  show own_LSeg p l e s m args below meth c n0 T6 (mkF m 27 #[.val (.int b), .val (.int z), .val (.ref kk), .unset, .unset, .unset, .unset, .unset, .unset, .unset] [(.double (FP.i2d (own_key b (Int32.ofNat 2)))), (.int (Int32.ofNat 2)), (.ref kk)])
  rw [← e6] at D5 G5
  obtain ⟨T7, X7, W7, st7⟩ := own_ds X6 hx hZ D5 (show 2 < 5 by decide) (by decide) (g := (mkF m 27 #[.val (.int b), .val (.int z), .val (.ref kk), .unset, .unset, .unset, .unset, .unset, .unset, .unset] [(.double (FP.i2d (own_key b (Int32.ofNat 2)))), (.int (Int32.ofNat 2)), (.ref kk)])) rfl rfl (hb hby at_27)
  have D7 := own_DA_set D5 W7
  have N7 := Fr.snoc X7 N6 gk
  have G7 : n0 ≤ T7.heap.size := Nat.le_trans G5 (Keep.of_wr W7).1
  refine own_lgo st7 ?_
  show own_LSeg p l e s m args below meth c n0 T7 (mkF m 28 #[.val (.int b), .val (.int z), .val (.ref kk), .unset, .unset, .unset, .unset, .unset, .unset, .unset] [])
  refine own_lgo (fun _ kt => XS.aloadN X7.here hx rfl (hb hby at_28) rfl rfl kt) ?_
  show own_LSeg p l e s m args below meth c n0 T7 (mkF m 29 #[.val (.int b), .val (.int z), .val (.ref kk), .unset, .unset, .unset, .unset, .unset, .unset, .unset] [(.ref kk)])
  refine own_lgo (fun _ kt => XS.iconst X7.here hx rfl (hb hby at_29) kt) ?_
  show own_LSeg p l e s m args below meth c n0 T7 (mkF m 30 #[.val (.int b), .val (.int z), .val (.ref kk), .unset, .unset, .unset, .unset, .unset, .unset, .unset] [(.int (Int32.ofNat 3)), (.ref kk)])
  refine own_lgo (fun _ kt => XS.iloadN X7.here hx rfl (hb hby at_30) rfl kt) ?_
  show own_LSeg p l e s m args below meth c n0 T7 (mkF m 31 #[.val (.int b), .val (.int z), .val (.ref kk), .unset, .unset, .unset, .unset, .unset, .unset, .unset] [(.int b), (.int (Int32.ofNat 3)), (.ref kk)])
  refine own_lgo (fun _ kt => XS.iconst X7.here hx rfl (hb hby at_31) kt) ?_
  show own_LSeg p l e s m args below meth c n0 T7 (mkF m 32 #[.val (.int b), .val (.int z), .val (.ref kk), .unset, .unset, .unset, .unset, .unset, .unset, .unset] [(.int (Int32.ofNat 3)), (.int b), (.int (Int32.ofNat 3)), (.ref kk)])
  obtain ⟨T8, L8, ⟨X8, e8, N8⟩, st8⟩ := own_keyCall hx hZ hw hown b (Int32.ofNat 3) (Int32.ofNat 3) kk X7 N7 32 #[.val (.int b), .val (.int z), .val (.ref kk), .unset, .unset, .unset, .unset, .unset, .unset, .unset] (by rw [hml]; rfl) (hb hby at_32)
  refine own_lgo st8 ?_
  show own_LSeg p l e s m args below meth c n0 T8 (mkF m 35 #[.val (.int b), .val (.int z), .val (.ref kk), .unset, .unset, .unset, .unset, .unset, .unset, .unset] [(.double (FP.i2d (own_key b (Int32.ofNat 3)))), (.int (Int32.ofNat 3)), (.ref kk)])
  rw [← e8] at D7 G7
  obtain ⟨T9, X9, W9, st9⟩ := own_ds X8 hx hZ D7 (show 3 < 5 by decide) (by decide) (g := (mkF m 35 #[.val (.int b), .val (.int z), .val (.ref kk), .unset, .unset, .unset, .unset, .unset, .unset, .unset] [(.double (FP.i2d (own_key b (Int32.ofNat 3)))), (.int (Int32.ofNat 3)), (.ref kk)])) rfl rfl (hb hby at_35)
  have D9 := own_DA_set D7 W9
  have N9 := Fr.snoc X9 N8 gk
  have G9 : n0 ≤ T9.heap.size := Nat.le_trans G7 (Keep.of_wr W9).1
  refine own_lgo st9 ?_
  show own_LSeg p l e s m args below meth c n0 T9 (mkF m 36 #[.val (.int b), .val (.int z), .val (.ref kk), .unset, .unset, .unset, .unset, .unset, .unset, .unset] [])
  refine own_lgo (fun _ kt => XS.aloadN X9.here hx rfl (hb hby at_36) rfl rfl kt) ?_
  show own_LSeg p l e s m args below meth c n0 T9 (mkF m 37 #[.val (.int b), .val (.int z), .val (.ref kk), .unset, .unset, .unset, .unset, .unset, .unset, .unset] [(.ref kk)])
  refine own_lgo (fun _ kt => XS.iconst X9.here hx rfl (hb hby at_37) kt) ?_
  show own_LSeg p l e s m args below meth c n0 T9 (mkF m 38 #[.val (.int b), .val (.int z), .val (.ref kk), .unset, .unset, .unset, .unset, .unset, .unset, .unset] [(.int (Int32.ofNat 4)), (.ref kk)])
  refine own_lgo (fun _ kt => XS.iloadN X9.here hx rfl (hb hby at_38) rfl kt) ?_
  show own_LSeg p l e s m args below meth c n0 T9 (mkF m 39 #[.val (.int b), .val (.int z), .val (.ref kk), .unset, .unset, .unset, .unset, .unset, .unset, .unset] [(.int b), (.int (Int32.ofNat 4)), (.ref kk)])
  refine own_lgo (fun _ kt => XS.iconst X9.here hx rfl (hb hby at_39) kt) ?_
  show own_LSeg p l e s m args below meth c n0 T9 (mkF m 40 #[.val (.int b), .val (.int z), .val (.ref kk), .unset, .unset, .unset, .unset, .unset, .unset, .unset] [(.int (Int32.ofNat 4)), (.int b), (.int (Int32.ofNat 4)), (.ref kk)])
  obtain ⟨T10, L10, ⟨X10, e10, N10⟩, st10⟩ := own_keyCall hx hZ hw hown b (Int32.ofNat 4) (Int32.ofNat 4) kk X9 N9 40 #[.val (.int b), .val (.int z), .val (.ref kk), .unset, .unset, .unset, .unset, .unset, .unset, .unset] (by rw [hml]; rfl) (hb hby at_40)
  refine own_lgo st10 ?_
  show own_LSeg p l e s m args below meth c n0 T10 (mkF m 43 #[.val (.int b), .val (.int z), .val (.ref kk), .unset, .unset, .unset, .unset, .unset, .unset, .unset] [(.double (FP.i2d (own_key b (Int32.ofNat 4)))), (.int (Int32.ofNat 4)), (.ref kk)])
  rw [← e10] at D9 G9
  obtain ⟨T11, X11, W11, st11⟩ := own_ds X10 hx hZ D9 (show 4 < 5 by decide) (by decide) (g := (mkF m 43 #[.val (.int b), .val (.int z), .val (.ref kk), .unset, .unset, .unset, .unset, .unset, .unset, .unset] [(.double (FP.i2d (own_key b (Int32.ofNat 4)))), (.int (Int32.ofNat 4)), (.ref kk)])) rfl rfl (hb hby at_43)
  have D11 := own_DA_set D9 W11
  have N11 := Fr.snoc X11 N10 gk
  have G11 : n0 ≤ T11.heap.size := Nat.le_trans G9 (Keep.of_wr W11).1
  refine own_lgo st11 ?_
  show own_LSeg p l e s m args below meth c n0 T11 (mkF m 44 #[.val (.int b), .val (.int z), .val (.ref kk), .unset, .unset, .unset, .unset, .unset, .unset, .unset] [])
  have DD := own_kfs b D11
  obtain ⟨Ta, ha, Xa, ea, Ea, Aa, Da, -, sta⟩ := newO X11 hx hZ hown (hw _ (List.mem_of_getElem? (i := 5) rfl)) (hw _ (List.mem_of_getElem? (i := 6) rfl)) (hw _ (List.mem_of_getElem? (i := 7) rfl)) rfl (g := (mkF m 44 #[.val (.int b), .val (.int z), .val (.ref kk), .unset, .unset, .unset, .unset, .unset, .unset, .unset] [])) rfl (hb hby at_44) (by decide) (by decide)
  obtain ⟨hp, gh⟩ : ∃ z, z = T11.heap.size := ⟨_, rfl⟩
  rw [← gh] at Aa Da sta
  have F1 : Fld Z ha hp "com/example/wary_checker/warychecker/check/Heap" "keys" "[D" .null := Da (Or.inl (hw _ (List.mem_of_getElem? (i := 15) rfl))) (ty := .array .double) (by decide)
  have F2 : Fld Z ha hp "com/example/wary_checker/warychecker/check/Heap" "items" "[I" .null := Da (Or.inl (hw _ (List.mem_of_getElem? (i := 18) rfl))) (ty := .array .int) (by decide)
  have F3 : Fld Z ha hp "com/example/wary_checker/warychecker/check/Heap" "size" "I" (.int (0 : Int32)) := Da (Or.inl (hw _ (List.mem_of_getElem? (i := 25) rfl))) (ty := .int) (by decide)
  have gp : n0 ≤ hp := by omega
  have ga : n0 ≤ ha.size := Nat.le_trans G11 Ea.1
  obtain ⟨_, _, ⟨Tb, Lb, kb, nb⟩, -, Xb, ⟨Lcb, hQ, lb, yb, zb⟩, stb⟩ := Xa.specialBack hx (y := (⟨"com/example/wary_checker/warychecker/check/Heap", "<init>", "()V"⟩ : MethodName)) rfl hown (mvT hZ (hw _ (List.mem_of_getElem? (i := 8) rfl))) (mvT hZ (hw _ (List.mem_of_getElem? (i := 9) rfl))) (mvT hZ (hw _ (List.mem_of_getElem? (i := 10) rfl))) (by decide) (backOf (W := 1) (rmi l Z a0 hw [] hp ha n0 ga Aa F1 F2 F3 gp) hZ (hw _ (List.mem_of_getElem? (i := 10) rfl)) (hw _ (List.mem_of_getElem? (i := 7) rfl)) (by decide) (by decide)) (g := (mkF m 48 #[.val (.int b), .val (.int z), .val (.ref kk), .unset, .unset, .unset, .unset, .unset, .unset, .unset] [(.ref hp), (.ref hp)])) rfl (by rw [hml]; rfl) (Steps.refl _) (a := hp) (argsL := []) (rest := [(.ref hp)]) (lenOf pd_v rfl) rfl (by show 2 * 0 + _ ≤ _; exact Nat.le_of_eq rfl) (hb hby at_48) (fun _ _ => ⟨rfl, ea, (by decide : 2 + 2 ≤ _), (by decide : 8 + 32 ≤ _)⟩)
  dsimp only [Pt.U, Pt.locs, Pt.cells, Pt.slots] at Xb lb yb zb stb hQ
  subst lb yb zb
  obtain ⟨rfl, Nb, Kb, ka, ia, Hb, qa, qb⟩ := hQ
  refine own_lgo sta ?_
  show own_LSeg p l e s m args below meth c n0 Ta (mkF m 47 #[.val (.int b), .val (.int z), .val (.ref kk), .unset, .unset, .unset, .unset, .unset, .unset, .unset] [(.ref hp)])
  refine own_lgo (fun _ kt => XS.dup Xa.here hx rfl (hb hby at_47) rfl rfl kt) ?_
  show own_LSeg p l e s m args below meth c n0 Ta (mkF m 48 #[.val (.int b), .val (.int z), .val (.ref kk), .unset, .unset, .unset, .unset, .unset, .unset, .unset] [(.ref hp), (.ref hp)])
  refine own_lgo (fun t kt => stb.trans kt) ?_
  show own_LSeg p l e s m args below meth c n0 Tb (mkF m 51 #[.val (.int b), .val (.int z), .val (.ref kk), .unset, .unset, .unset, .unset, .unset, .unset, .unset] [(.ref hp)])
  refine own_lgo (fun _ kt => XS.astoreN Xb.here hx rfl (hb hby at_51) rfl rfl (l' := #[.val (.int b), .val (.int z), .val (.ref kk), .val (.ref hp), .unset, .unset, .unset, .unset, .unset, .unset]) rfl kt) ?_
  show own_LSeg p l e s m args below meth c n0 Tb (mkF m 52 #[.val (.int b), .val (.int z), .val (.ref kk), .val (.ref hp), .unset, .unset, .unset, .unset, .unset, .unset] [])
  have u1 : hp > kk := by rw [gh]; exact own_DA_lt DD
  have u2 : ha.size > hp := Aa.lt
  have hk : kk ∉ [hp, ka, ia] := ninS (Nat.ne_of_lt u1) (ninS (Nat.ne_of_lt (Nat.lt_of_lt_of_le (Nat.lt_trans u1 u2) qa)) (ninS (Nat.ne_of_lt (Nat.lt_of_lt_of_le (Nat.lt_trans u1 u2) qb)) nin0))
  have DB := own_DA_keep (own_DA_ext DD (by rw [ea] at *; exact Ea)) Kb (ninS (Nat.ne_of_lt u1) nin0)
  exact own_lawC hx hZ hw hown hby hml b z ⟨Xb, Hb, DB, Fr.app N11 Nb, hk⟩
def Q0 (n0 : Nat) (v : Option Value) (L : List Loc) : Prop := v = some (.int (1 : Int32)) ∧ Fr n0 L
set_option maxRecDepth 65536 in
set_option maxHeartbeats 40000000 in
theorem rm0 (l : Launch) (Z : State) (a0 : Array Value) (hw : ∀ d ∈ tables_1, d.before a0 Z = true) (ws : List Jvm.Cond) (p1 p2 : Int32) (h0 : Heap) (n0 : Nat) (Z0 : n0 ≤ h0.size) :
    MetFree l x (head1 (Jvm.Cond.code x code maxLocals ret :: ws) room_1) (fun a U => a = #[(.int p1), (.int p2)] ∧ Z.Warmed39 U.vm ∧ U.heap = h0) (fun _ _ _ _ _ => True) (fun _ U o U' => ∃ v L, o = .returned v ∧ Q0 n0 v L ∧ FrameEnd U o U' L room_1.cells room_1.slots) := by
  refine MetFree.of_bodySF (plainFor_of_name pn_L) hisR ?_
  intro p e s m args below meth c s₁ Bd hml0 hP hK
  obtain ⟨rfl, hZ, hh⟩ := hP
  have hx := Bd.exec
  have hby := Bd.bytes
  have hml : c.maxLocals = 10 := hml0
  have hown : s.vm.findClass "com/example/wary_checker/warychecker/check/HeapPopPinLaw" = some m.cls := findClass_of_methodNamed Bd.named
  have X0 : Stand p l e room_1 s m #[(.int p1), (.int p2)] below meth c s₁ [] 0 0 := Stand.of_body Bd
  have e0 : s₁.heap = h0 := by rw [← hh, Bd.state]; rfl
  have pre0 : ∀ t, Steps p.tables e below (s₁.setTop (mkF m 0 #[.val (.int p1), .val (.int p2), .unset, .unset, .unset, .unset, .unset, .unset, .unset, .unset] [])) t → Steps p.tables e below (s₁.setTop (entryFrame m #[(.int p1), (.int p2)] maxLocals)) t := fun t k => castTop (ef_law m p1 p2) k
  obtain ⟨T1, L1, k1, n1, Ls, X1, ⟨hk1, hn1⟩, N1, st⟩ := own_lawAll hx hZ hw hown hby hml p1 p2 Z0 X0 e0
  obtain ⟨fs, hr, hrun, hended, hW, hsame⟩ := X1.leave (v := some (.int (1 : Int32))) (fun h => by rw [Bd.returns] at h; cases h)
  refine ⟨_, _, pre0 _ (st _ ?_), hrun, hended, _, _, rfl, ⟨rfl, N1⟩, ⟨_, rfl⟩, hW, hsame.mono hk1 hn1⟩
  exact retN X1 hx (t := .boolean) Bd.returns (by simp) (hb hby at_271) hr
set_option maxRecDepth 65536 in
set_option maxHeartbeats 40000000 in
theorem comes_1 {Post : Tables → Env → Array Value → State → Outcome → State → Prop} (hpost : ∀ tb e args s v u, (limb_1_1.after args s (.returned v) u = true ∧ limb_1_2.after args s (.returned v) u = true ∧ True) → FrameEnd s (.returned v) u (Jvm.fieldLocs frame_1_writes args s ++ Jvm.arrayLocs frame_1_arrays args s ++ Jvm.staticLocs frame_1_statics s) 16 192 → Post tb e args s (.returned v) u) :
    ArmFor flags0 classFile x code maxLocals ret World_1 tables_1 room_1 Calls_1 rest_1 Pre_1 Post := by
  intro l hfl _ _ p e ha hc hk s m args below hf hA hF happ hP
  obtain ⟨hcalls, hrest, hpre⟩ := hP
  obtain ⟨-, -, -, hnamed, -, -, -, hat⟩ := (Spec.applies_iff hf).mp happ
  obtain ⟨hg, hn⟩ := and_e (Cond.before_iff.mp (show (Jvm.Cond.and given_1 narrow_1).before args s = true from hpre))
  obtain ⟨g6, g7⟩ := and_e hg
  obtain ⟨g8, g9⟩ := and_e g7
  obtain ⟨w0, w1, rfl⟩ : ∃ w0 w1 : Value, args = #[w0, w1] := by
    have hs : args.size = 2 := by simpa [Cond.value, given_1] using g6
    obtain ⟨L⟩ := args
    match L, hs with
    | [w0, w1], _ => exact ⟨w0, w1, rfl⟩
  have hw := fun d (hd : d ∈ tables_1) => atoms_spec (ws := Jvm.Cond.code x code maxLocals ret :: tables_1) hat d (List.mem_cons_of_mem _ hd)
  obtain ⟨i0, ei0⟩ := is_v g8
  obtain rfl : w0 = (.int i0) := Option.some.inj ei0
  obtain ⟨i1, ei1⟩ := is_v g9
  obtain rfl : w1 = (.int i1) := Option.some.inj ei1
  obtain ⟨n, o, h1, h2, h3, _, L, rfl, ⟨rfl, N⟩, hq⟩ := rm0 l s _ hw tables_1 i0 i1 s.heap s.heap.size (Nat.le_refl _) p e ha hc hk s m _ below hf ((Spec.applies_iff_loose hf).mp happ).1 ⟨rfl, State.Warmed39.refl s, rfl⟩ trivial
  refine ⟨n, _, h1, h2, h3, hpost _ _ _ _ _ _ ⟨Cond.after_iff.mpr rfl, Cond.after_iff.mpr (eq_i res_at (Term.int_eval (1)) rfl), trivial⟩ ⟨hq.1, hq.2.1, (hq.2.2.sift fun y hy => Or.inr (N y hy)).mono (by decide) (by decide)⟩⟩
theorem main_1_1 : Claimed_1_1 := comes_1 fun _ _ _ _ _ _ h hF => ⟨h.1, hF⟩
theorem main_1_2 : Claimed_1_2 := comes_1 fun _ _ _ _ _ _ h hF => ⟨h.2.1, hF⟩
end Jvm.Pilot.@@N@@
namespace Jvm.Pilot.@@N@@
open Jvm Jvm.ClassFile Sem Op Lib Jvm.Free Jvm.Stand Jvm.Pilot.@@N@@.Jvm.D
/-! MADE BY PROGRAM (witnessworld.py) out of the Statement's table words and the real class files: 9 classes; the members and pool entries that the words name. The judged class is class 1, her method 3. -/
namespace start1
open Jvm.ClassFile
def u (s : String) : CpInfo := .utf8 (stringToUtf16 s)
/-- a pool by its gaps: so many unusable entries, then the entry; so many at the end -/
def gap : Nat → List CpInfo → List CpInfo
  | 0, r => r
  | n + 1, r => .unusable :: gap n r
def poolList (es : List (Nat × CpInfo)) (last : Nat) : List CpInfo := es.foldr (fun e r => gap e.1 (e.2 :: r)) (gap last [])
def pool (es : List (Nat × CpInfo)) (last : Nat) : Array CpInfo := ⟨poolList es last⟩
def fileOf (pool : Array CpInfo) (this : Nat) (attrs : Array Attribute := #[]) (ms : Array MethodInfo := #[]) (fl : Nat := 33) (sup : Nat := 0) (ifs : Array Nat := #[]) (fds : Array FieldInfo := #[]) : ClassFile where
  minorVersion := 0
  majorVersion := 65
  constantPool := pool
  accessFlags := fl
  thisClass := this
  superClass := sup
  interfaces := ifs
  fields := fds
  methods := ms
  attributes := attrs
def plain (name : String) (sup : Option ClassId) : Class where
  name := name
  kind := .ordinary
  loader := none
  accessFlags := 33
  super := sup
  interfaces := #[]
  cf := none
  fields := #[]
  methods := #[]
  instanceTypes := #[]
  staticTypes := #[]
  resolved := #[]
  callSites := []
  init := .initialized
  statics := none
  mirror := none

def pool0 : Array CpInfo := pool [(5, u "<init>"), (0, u "()V"), (1, .class_ 10), (1, u "java/lang/Object")] 113

def k0c0 : Code := { maxStack := 0, maxLocals := 1, code := object_method_1_code, exceptionTable := #[], attributes := #[] }
def k0m0 : Method := { name := "<init>", desc := "()V", sig := { parameters := [], returnType := none }, accessFlags := 1, code := some k0c0 }
/-- java/lang/Object -/
def k0 : Class := { plain "java/lang/Object" none with
  accessFlags := 33
  interfaces := #[]
  cf := some (fileOf pool0 8 #[] #[{ accessFlags := 1, nameIndex := 5, descriptorIndex := 6, attributes := #[] }] 33 0 #[] #[])
  fields := #[]
  methods := #[k0m0]
  instanceTypes := #[]
  staticTypes := #[]
  resolved := Array.replicate 124 none
  statics := none }

def pool1 : Array CpInfo := pool [(2, .class_ 4), (0, .nameAndType 5 6), (0, u "java/lang/Object"), (0, u "<init>"), (0, u "()V"), (0, .methodref 8 9), (0, .class_ 10), (0, .nameAndType 11 12), (0, u "com/example/wary_checker/warychecker/check/HeapPopPinLaw"), (0, u "key"), (0, u "(II)D"), (0, .class_ 14), (0, u "com/example/wary_checker/warychecker/check/Heap"), (0, .methodref 13 3), (0, .methodref 13 17), (0, .nameAndType 18 19), (0, u "push"), (0, u "(DI)V"), (0, .methodref 13 21), (0, .nameAndType 22 23), (0, u "pop"), (0, u "()I"), (0, .methodref 8 25), (0, .nameAndType 26 27), (0, u "ok"), (0, u "(I)Z"), (0, .methodref 13 29), (0, .nameAndType 30 31), (0, u "isEmpty"), (0, u "()Z"), (3, u "law"), (0, u "(II)Z")] 4

def k1m0 : Method := { name := "<init>", desc := "()V", sig := { parameters := [], returnType := none }, accessFlags := 1, code := none }
def k1c1 : Code := { maxStack := 3, maxLocals := 2, code := method_2_code, exceptionTable := #[], attributes := #[] }
def k1m1 : Method := { name := "key", desc := "(II)D", sig := { parameters := [.int, .int], returnType := some .double }, accessFlags := 10, code := some k1c1 }
def k1c2 : Code := { maxStack := 2, maxLocals := 1, code := method_3_code, exceptionTable := #[], attributes := #[] }
def k1m2 : Method := { name := "ok", desc := "(I)Z", sig := { parameters := [.int], returnType := some .boolean }, accessFlags := 10, code := some k1c2 }
def k1c3 : Code := { maxStack := 5, maxLocals := 10, code := code, exceptionTable := #[], attributes := #[] }
def k1m3 : Method := { name := "law", desc := "(II)Z", sig := { parameters := [.int, .int], returnType := some .boolean }, accessFlags := 9, code := some k1c3 }
/-- com/example/wary_checker/warychecker/check/HeapPopPinLaw -/
def k1 : Class := { plain "com/example/wary_checker/warychecker/check/HeapPopPinLaw" (some 0) with
  accessFlags := 49
  interfaces := #[]
  cf := some (fileOf pool1 8 #[] #[{ accessFlags := 1, nameIndex := 5, descriptorIndex := 6, attributes := #[] }, { accessFlags := 10, nameIndex := 11, descriptorIndex := 12, attributes := #[] }, { accessFlags := 10, nameIndex := 26, descriptorIndex := 27, attributes := #[] }, { accessFlags := 9, nameIndex := 35, descriptorIndex := 36, attributes := #[] }] 49 2 #[] #[])
  fields := #[]
  methods := #[k1m0, k1m1, k1m2, k1m3]
  instanceTypes := #[]
  staticTypes := #[]
  resolved := Array.replicate 41 none
  statics := none }

def pool2 : Array CpInfo := pool [(1, .methodref 2 3), (0, .class_ 4), (0, .nameAndType 5 6), (0, u "java/lang/Object"), (0, u "<init>"), (0, u "()V"), (0, .fieldref 8 9), (0, .class_ 10), (0, .nameAndType 11 12), (0, u "com/example/wary_checker/warychecker/check/Heap"), (0, u "keys"), (0, u "[D"), (0, .fieldref 8 14), (0, .nameAndType 15 16), (0, u "items"), (0, u "[I"), (0, .fieldref 8 18), (0, .nameAndType 19 20), (0, u "size"), (0, u "I"), (11, u "isEmpty"), (0, u "()Z"), (1, u "push"), (0, u "(DI)V"), (2, u "pop"), (0, u "()I")] 2

def k2c0 : Code := { maxStack := 2, maxLocals := 1, code := prog_19_method_1_code, exceptionTable := #[], attributes := #[] }
def k2m0 : Method := { name := "<init>", desc := "()V", sig := { parameters := [], returnType := none }, accessFlags := 0, code := some k2c0 }
def k2c1 : Code := { maxStack := 1, maxLocals := 1, code := prog_19_method_2_code, exceptionTable := #[], attributes := #[] }
def k2m1 : Method := { name := "isEmpty", desc := "()Z", sig := { parameters := [], returnType := some .boolean }, accessFlags := 0, code := some k2c1 }
def k2c2 : Code := { maxStack := 5, maxLocals := 5, code := prog_19_method_3_code, exceptionTable := #[], attributes := #[] }
def k2m2 : Method := { name := "push", desc := "(DI)V", sig := { parameters := [.double, .int], returnType := none }, accessFlags := 0, code := some k2c2 }
def k2c3 : Code := { maxStack := 4, maxLocals := 7, code := prog_19_method_5_code, exceptionTable := #[], attributes := #[] }
def k2m3 : Method := { name := "pop", desc := "()I", sig := { parameters := [], returnType := some .int }, accessFlags := 0, code := some k2c3 }
/-- com/example/wary_checker/warychecker/check/Heap -/
def k2 : Class := { plain "com/example/wary_checker/warychecker/check/Heap" (some 0) with
  accessFlags := 48
  interfaces := #[]
  cf := some (fileOf pool2 8 #[] #[{ accessFlags := 0, nameIndex := 5, descriptorIndex := 6, attributes := #[] }, { accessFlags := 0, nameIndex := 32, descriptorIndex := 33, attributes := #[] }, { accessFlags := 0, nameIndex := 35, descriptorIndex := 36, attributes := #[] }, { accessFlags := 0, nameIndex := 39, descriptorIndex := 40, attributes := #[] }] 48 2 #[] #[{ accessFlags := 2, nameIndex := 11, descriptorIndex := 12, attributes := #[] }, { accessFlags := 2, nameIndex := 15, descriptorIndex := 16, attributes := #[] }, { accessFlags := 2, nameIndex := 19, descriptorIndex := 20, attributes := #[] }])
  fields := #[{ name := "keys", type := (.array .double), accessFlags := 2, slot := 0, constantValue := 0 }, { name := "items", type := (.array .int), accessFlags := 2, slot := 1, constantValue := 0 }, { name := "size", type := .int, accessFlags := 2, slot := 2, constantValue := 0 }]
  methods := #[k2m0, k2m1, k2m2, k2m3]
  instanceTypes := #[(.array .double), (.array .int), .int]
  staticTypes := #[]
  resolved := Array.replicate 43 none
  statics := none }

def pool3 : Array CpInfo := pool [(1, u "java/lang/Cloneable"), (0, .class_ 1), (0, u "java/lang/Object"), (0, .class_ 3)] 3

/-- java/lang/Cloneable -/
def k3 : Class := { plain "java/lang/Cloneable" (some 0) with
  accessFlags := 1537
  interfaces := #[]
  cf := some (fileOf pool3 2 #[] #[] 1537 4 #[] #[])
  fields := #[]
  methods := #[]
  instanceTypes := #[]
  staticTypes := #[]
  resolved := Array.replicate 8 none
  statics := none }

def pool4 : Array CpInfo := pool [(1, u "java/io/Serializable"), (0, .class_ 1), (0, u "java/lang/Object"), (0, .class_ 3)] 3

/-- java/io/Serializable -/
def k4 : Class := { plain "java/io/Serializable" (some 0) with
  accessFlags := 1537
  interfaces := #[]
  cf := some (fileOf pool4 2 #[] #[] 1537 4 #[] #[])
  fields := #[]
  methods := #[]
  instanceTypes := #[]
  staticTypes := #[]
  resolved := Array.replicate 8 none
  statics := none }

/-- the primitive byte -/
def k5 : Class := { plain "byte" none with kind := .primitive 'B', accessFlags := 0x411 }
/-- [B -/
def k6 : Class := { plain "[B" (some 0) with kind := .array 5 .byte, interfaces := #[3, 4], accessFlags := 1041 }

/-- the primitive int -/
def k7 : Class := { plain "int" none with kind := .primitive 'I', accessFlags := 0x411 }
/-- [I -/
def k8 : Class := { plain "[I" (some 0) with kind := .array 7 .int, interfaces := #[3, 4], accessFlags := 1041 }

/-- by hand: the primitive double -/
def k9 : Class := { plain "double" none with kind := .primitive 'D', accessFlags := 0x411 }
/-- by hand: [D -/
def k10 : Class := { plain "[D" (some 0) with kind := .array 9 .double, interfaces := #[3, 4], accessFlags := 1041 }

def heap : Heap := #[]
def classes : Array Class := #[k0, k1, k2, k3, k4, k5, k6, k7, k8, k9, k10]
def interned : List (Array UInt16 × Addr) := []
def slotsUsed : Nat := 0
def theMethod : MethodId := ⟨1, 3⟩
def args0 : Array Value := #[.int 87, .int 63]
def aboutOver (below : List Frame) : State where
  vm := { classes := classes, interned := interned.toArray }
  heap := heap
  slotsUsed := slotsUsed
  threads := #[{ frames := .invoking theMethod args0 :: below }]
def below0 : List Frame := [.native { method := ⟨0, 0⟩, args := #[] }]
def about1 : State := aboutOver below0
def p0 : Program := .bare "" "" ""
def e0 : Env := launch0.env 0 0 0
theorem w_frames : about1.frames = Frame.invoking theMethod args0 :: below0 := rfl
set_option maxRecDepth 65536 in
theorem w_args : argsFit about1.vm theMethod args0 = true := by decide +kernel
set_option maxRecDepth 65536 in
theorem w_heap : heapFits about1 = true := by decide +kernel
set_option maxRecDepth 65536 in
theorem w_runnable : about1.curStatus? = some .runnable := by decide +kernel
set_option maxRecDepth 65536 in
theorem w_alone : about1.alone = true := by decide +kernel
set_option maxRecDepth 65536 in
theorem w_named : about1.methodNamed? x = some theMethod := by decide +kernel
set_option maxRecDepth 65536 in
theorem w_hears : about1.hears theMethod below0 = true := by decide +kernel
set_option maxRecDepth 65536 in
theorem w_ripe : about1.ripe theMethod args0 below0 = true := by decide +kernel
theorem w_running : about1.status = .running := rfl
set_option maxRecDepth 65536 in
theorem w_room : about1.hasRoom e0.platform room_1 = true :=
  launch0.hasRoom_least _ room_1 (by decide +kernel) (by decide +kernel) (by decide +kernel) (by decide +kernel) (by decide +kernel) (by decide +kernel)
theorem allAtoms_all (ts : List Jvm.Cond) (a : Array Jvm.Value) (st : Jvm.State) : (allAtoms ts).before a st = ts.all (fun c => c.before a st) := by
  induction ts with
  | nil => rfl
  | cons c t ih =>
    show (Jvm.Cond.and c (allAtoms t)).before a st = _
    rw [Jvm.Cond.before_and, ih, List.all_cons]
def words1 : List Jvm.Cond := Jvm.Cond.code x code maxLocals ret :: tables_1
/-- a 'code' word, met by the world's own term for the bytes: nothing is compared byte by byte -/
theorem code_word {y : MethodName} {bytes : ByteArray} {mx : Nat} {rt : Option FieldType} {a : Array Value} {s : State} {m : MethodId} {meth : Method} {c : Code} (h1 : s.methodNamed? y = some m) (h2 : s.vm.method? m = some meth) (h3 : meth.code = some c) (h4 : c.code = bytes)
    (h5 : (c.maxLocals == mx && c.exceptionTable.isEmpty && decide (c.maxStack ≤ mostOperands) && decide (meth.sig.returnType = rt) && !meth.locks && decide (parseMethodDescriptor y.desc = some meth.sig)) = true) : (Jvm.Cond.code y bytes mx rt).before a s = true := by
  simp only [Bool.and_eq_true, beq_iff_eq, Bool.not_eq_true', decide_eq_true_eq] at h5
  obtain ⟨⟨⟨⟨⟨g1, g2⟩, g3⟩, g4⟩, g5⟩, g6⟩ := h5
  simp [Cond.before, Cond.holds, Cond.value, h1, h2, h3, h4, g1, g2, g3, g4, g5, g6]
def isCode : Jvm.Cond → Bool
  | .code _ _ _ _ => true
  | _ => false
theorem all_split {L : List Jvm.Cond} {P : Jvm.Cond → Bool} (h1 : L.all (fun c => isCode c || P c) = true) (h2 : ∀ c ∈ L.filter isCode, P c = true) : L.all P = true := by
  refine List.all_eq_true.mpr fun c hc => ?_
  have h := List.all_eq_true.mp h1 c hc
  rcases Bool.eq_false_or_eq_true (isCode c) with hi | hi
  · exact h2 c (List.mem_filter.mpr ⟨hc, hi⟩)
  · simpa [hi] using h
set_option maxRecDepth 65536 in
theorem w_c0 : (Jvm.Cond.code x code maxLocals ret).before args0 about1 = true := code_word (m := ⟨1, 3⟩) (meth := k1m3) (c := k1c3) (by decide +kernel) rfl rfl rfl (by decide +kernel)
set_option maxRecDepth 65536 in
theorem w_c1 : (Jvm.Cond.code ({ cls := "com/example/wary_checker/warychecker/check/HeapPopPinLaw", name := "key", desc := "(II)D" } : Jvm.MethodName) method_2_code (2 : Nat) (Option.some Jvm.ClassFile.FieldType.double)).before args0 about1 = true := code_word (m := ⟨1, 1⟩) (meth := k1m1) (c := k1c1) (by decide +kernel) rfl rfl rfl (by decide +kernel)
set_option maxRecDepth 65536 in
theorem w_c2 : (Jvm.Cond.code ({ cls := "com/example/wary_checker/warychecker/check/Heap", name := "<init>", desc := "()V" } : Jvm.MethodName) prog_19_method_1_code (1 : Nat) (Option.none : Option Jvm.ClassFile.FieldType)).before args0 about1 = true := code_word (m := ⟨2, 0⟩) (meth := k2m0) (c := k2c0) (by decide +kernel) rfl rfl rfl (by decide +kernel)
set_option maxRecDepth 65536 in
theorem w_c3 : (Jvm.Cond.code ({ cls := "java/lang/Object", name := "<init>", desc := "()V" } : Jvm.MethodName) object_method_1_code (1 : Nat) (Option.none : Option Jvm.ClassFile.FieldType)).before args0 about1 = true := code_word (m := ⟨0, 0⟩) (meth := k0m0) (c := k0c0) (by decide +kernel) rfl rfl rfl (by decide +kernel)
set_option maxRecDepth 65536 in
theorem w_c4 : (Jvm.Cond.code ({ cls := "com/example/wary_checker/warychecker/check/Heap", name := "push", desc := "(DI)V" } : Jvm.MethodName) prog_19_method_3_code (5 : Nat) (Option.none : Option Jvm.ClassFile.FieldType)).before args0 about1 = true := code_word (m := ⟨2, 2⟩) (meth := k2m2) (c := k2c2) (by decide +kernel) rfl rfl rfl (by decide +kernel)
set_option maxRecDepth 65536 in
theorem w_c5 : (Jvm.Cond.code ({ cls := "com/example/wary_checker/warychecker/check/Heap", name := "pop", desc := "()I" } : Jvm.MethodName) prog_19_method_5_code (7 : Nat) (Option.some Jvm.ClassFile.FieldType.int)).before args0 about1 = true := code_word (m := ⟨2, 3⟩) (meth := k2m3) (c := k2c3) (by decide +kernel) rfl rfl rfl (by decide +kernel)
set_option maxRecDepth 65536 in
theorem w_c6 : (Jvm.Cond.code ({ cls := "com/example/wary_checker/warychecker/check/HeapPopPinLaw", name := "ok", desc := "(I)Z" } : Jvm.MethodName) method_3_code (1 : Nat) (Option.some Jvm.ClassFile.FieldType.boolean)).before args0 about1 = true := code_word (m := ⟨1, 2⟩) (meth := k1m2) (c := k1c2) (by decide +kernel) rfl rfl rfl (by decide +kernel)
set_option maxRecDepth 65536 in
theorem w_c7 : (Jvm.Cond.code ({ cls := "com/example/wary_checker/warychecker/check/Heap", name := "isEmpty", desc := "()Z" } : Jvm.MethodName) prog_19_method_2_code (1 : Nat) (Option.some Jvm.ClassFile.FieldType.boolean)).before args0 about1 = true := code_word (m := ⟨2, 1⟩) (meth := k2m1) (c := k2c1) (by decide +kernel) rfl rfl rfl (by decide +kernel)
def codes1 : List Jvm.Cond := [Jvm.Cond.code x code maxLocals ret, Jvm.Cond.code ({ cls := "com/example/wary_checker/warychecker/check/HeapPopPinLaw", name := "key", desc := "(II)D" } : Jvm.MethodName) method_2_code (2 : Nat) (Option.some Jvm.ClassFile.FieldType.double), Jvm.Cond.code ({ cls := "com/example/wary_checker/warychecker/check/Heap", name := "<init>", desc := "()V" } : Jvm.MethodName) prog_19_method_1_code (1 : Nat) (Option.none : Option Jvm.ClassFile.FieldType), Jvm.Cond.code ({ cls := "java/lang/Object", name := "<init>", desc := "()V" } : Jvm.MethodName) object_method_1_code (1 : Nat) (Option.none : Option Jvm.ClassFile.FieldType), Jvm.Cond.code ({ cls := "com/example/wary_checker/warychecker/check/Heap", name := "push", desc := "(DI)V" } : Jvm.MethodName) prog_19_method_3_code (5 : Nat) (Option.none : Option Jvm.ClassFile.FieldType), Jvm.Cond.code ({ cls := "com/example/wary_checker/warychecker/check/Heap", name := "pop", desc := "()I" } : Jvm.MethodName) prog_19_method_5_code (7 : Nat) (Option.some Jvm.ClassFile.FieldType.int), Jvm.Cond.code ({ cls := "com/example/wary_checker/warychecker/check/HeapPopPinLaw", name := "ok", desc := "(I)Z" } : Jvm.MethodName) method_3_code (1 : Nat) (Option.some Jvm.ClassFile.FieldType.boolean), Jvm.Cond.code ({ cls := "com/example/wary_checker/warychecker/check/Heap", name := "isEmpty", desc := "()Z" } : Jvm.MethodName) prog_19_method_2_code (1 : Nat) (Option.some Jvm.ClassFile.FieldType.boolean)]
set_option maxRecDepth 65536 in
theorem codes_eq : words1.filter isCode = codes1 := rfl
theorem w_codes : ∀ c ∈ words1.filter isCode, c.before args0 about1 = true := by
  rw [codes_eq]
  intro c hc
  simp only [codes1, List.mem_cons, List.not_mem_nil, or_false] at hc
  rcases hc with rfl | rfl | rfl | rfl | rfl | rfl | rfl | rfl
  · exact w_c0
  · exact w_c1
  · exact w_c2
  · exact w_c3
  · exact w_c4
  · exact w_c5
  · exact w_c6
  · exact w_c7
set_option maxRecDepth 65536 in
theorem w_t1 : (words1.take 24).all (fun c => isCode c || c.before args0 about1) = true := by decide +kernel
set_option maxRecDepth 65536 in
theorem w_t2 : (words1.drop 24).all (fun c => isCode c || c.before args0 about1) = true := by decide +kernel
theorem w_tables : (allAtoms (Jvm.Cond.code x code maxLocals ret :: tables_1)).before args0 about1 = true := by
  rw [allAtoms_all]
  show words1.all (fun c => c.before args0 about1) = true
  refine all_split ?_ w_codes
  rw [← List.take_append_drop 24 words1, List.all_append, w_t1, w_t2]
  rfl
set_option maxRecDepth 65536 in
theorem w_case : (Jvm.Cond.and given_1 narrow_1).before args0 about1 = true := by decide +kernel
theorem w_applies : (headSpec (Jvm.Cond.code x code maxLocals ret :: tables_1) room_1).applies x e0.platform about1 = true :=
  (Spec.applies_iff w_frames).mpr ⟨w_running, w_runnable, w_alone, w_named, w_hears, w_ripe, w_room, w_tables⟩
theorem atStart : AtStart classFile x code maxLocals ret World_1 tables_1 room_1 Calls_1 rest_1 Pre_1 launch0 p0 e0 about1 theMethod args0 below0 :=
  ⟨lists_1, trivial, launch0.admits_env _ _ _, launch0.least_env, fairChoices_fair.cas, fairChoices_fair.clock, w_frames, w_args, w_heap, w_applies, trivial, trivial, w_case⟩
end start1
theorem witness_1 : WitnessClaimed_1 := ⟨start1.p0, start1.e0, start1.about1, start1.theMethod, start1.args0, start1.below0, start1.atStart⟩
end Jvm.Pilot.@@N@@

import JvmDerived
import JvmDerived.Pilot.@@N@@Statement
import JvmDerived.Pilot.@@N@@Code
set_option linter.unusedVariables false
set_option linter.unusedSimpArgs false
@@BLOCK:NumsL.lean.txt@@
@@BLOCK:Masks.lean.txt@@

namespace Jvm.OwnKit
open Sem ClassFile Op Lib Jvm.Stand Jvm.Free Jvm.LawKit Jvm.RoadKit
/-- where the run of one body stands: the heap h, cells and slots used at the most; nothing below n0 was written -/
def St (p : Program) (l : Launch) (e : Env) (R : Room) (s : State) (m : MethodId) (args : Array Value) (below : List Frame) (meth : Method) (c : Code) (Z : State) (code : ByteArray) (own : String) (ret : Option FieldType) (ml : Nat) (nm : String) (n0 : Nat) (T : State) (h : Heap) (cells slots : Nat) : Prop :=
  ∃ locs, Stand p l e R s m args below meth c T locs cells slots ∧ p.tables.exec = Jvm.exec ∧ Z.Warmed39 s.vm ∧ c.code = code ∧ s.vm.findClass own = some m.cls ∧ meth.sig.returnType = ret ∧ c.maxLocals = ml ∧ meth.name = nm ∧ meth.locks = false ∧ T.heap = h ∧ Fr n0 locs ∧ n0 ≤ s.heap.size
/-- the run from T with the top frame f ends, and returns as Q says -/
def Ends (p : Program) (e : Env) (below : List Frame) (s : State) (n0 C S : Nat) (Q : Option Value → Heap → Prop) (T : State) (f : JFrame) : Prop :=
  ∃ s₂ o, Steps p.tables e below (T.setTop f) s₂ ∧ s₂.status = .running ∧ Ended s₂ below o ∧ ∃ v L, o = .returned v ∧ (Q v s₂.heap ∧ Fr n0 L) ∧ FrameEnd s o s₂ L C S
/-- the contract of a body: called with 'as' at the heap h it returns as Q says -/
def Con (l : Launch) (y : MethodName) (bytes : ByteArray) (maxL : Nat) (ret : Option FieldType) (rm : Room) (C S : Nat) (Z : State) (n0 : Nat) (as : Array Value) (h : Heap) (Q : Option Value → Heap → Prop) : Prop :=
  ∀ ws, MetFree l y (head1 (Cond.code y bytes maxL ret :: ws) rm) (fun a U => a = as ∧ Z.Warmed39 U.vm ∧ U.heap = h) (fun _ _ _ _ _ => True) (fun _ U o U' => ∃ v L, o = .returned v ∧ (Q v U'.heap ∧ Fr n0 L) ∧ FrameEnd U o U' L C S)
theorem Ends.by {p : Program} {e : Env} {below : List Frame} {s : State} {n0 C S : Nat} {Q : Option Value → Heap → Prop} {T T' : State} {f f' : JFrame} (st : ∀ target, Steps p.tables e below (T'.setTop f') target → Steps p.tables e below (T.setTop f) target) (k : Ends p e below s n0 C S Q T' f') : Ends p e below s n0 C S Q T f := by
  obtain ⟨s₂, o, h1, r⟩ := k
  exact ⟨s₂, o, st _ h1, r⟩
theorem Con.body {l : Launch} {y : MethodName} {bytes : ByteArray} {maxL : Nat} {ret : Option FieldType} {rm : Room} {C S : Nat} {Z : State} {n0 : Nat} {as : Array Value} {h : Heap} {Q : Option Value → Heap → Prop} {own nm : String} (ho : y.cls = own) (hnm0 : y.name = nm) (hpl : plainFor y = true) (hn : n0 ≤ h.size)
    (B : ∀ (p : Program) (e : Env) (s : State) (m : MethodId) (below : List Frame) (meth : Method) (c : Code) (T : State), St p l e rm s m as below meth c Z bytes own ret maxL nm n0 T h 0 0 → Ends p e below s n0 C S Q T (entryFrame m as maxL)) : Con l y bytes maxL ret rm C S Z n0 as h Q := by
  subst ho hnm0
  intro ws
  refine MetFree.of_bodySF hpl hisR ?_
  intro p e s m args below meth c s₁ Bd hml0 hP hK
  obtain ⟨rfl, hZ, hh⟩ := hP
  have hnm := (name_of_methodNamed Bd.named Bd.method).1
  exact B p e s m below meth c s₁ ⟨[], Stand.of_body Bd, Bd.exec, hZ, Bd.bytes, findClass_of_methodNamed Bd.named, Bd.returns, hml0, hnm, Bd.notSynchronized, by rw [← hh, Bd.state]; rfl, Fr.nil n0, hh ▸ hn⟩

/-! plain facts on numbers -/
theorem own_len32 {n : Nat} (h : n < 2147483648) : n.toInt32.toNatClampNeg = n := by
  have e1 : (n.toInt32).toInt = n := len_toInt (by omega)
  simp only [Int32.toNatClampNeg, e1]; omega
theorem own_ofNat {n : Nat} (h : n < 2147483648) : (Int32.ofNat n).toInt = n := Int32.toInt_ofNat_of_lt (by omega)
theorem own_natOf {x : Int32} (h : 0 ≤ x.toInt) : x = Int32.ofNat x.toInt.toNat := by
  have r := rng32 x
  apply Int32.toInt_inj.mp
  rw [own_ofNat (by omega)]; omega
theorem own_maskN (x m : Int32) (k : Nat) (hk : k < 32) (hm : m.toBitVec.toNat = 2 ^ k - 1) : ∃ n : Nat, n < 2 ^ k ∧ (x &&& m) = Int32.ofNat n := by
  have e := Jvm.Kit.i32_mask x m (k := k) hk hm
  have p : (0 : Int) < 2 ^ k := Int.pow_pos (by decide)
  have a := Int.emod_nonneg x.toInt (Int.ne_of_gt p)
  have b := Int.emod_lt_of_pos x.toInt p
  refine ⟨(x &&& m).toInt.toNat, ?_, own_natOf (by omega)⟩
  rw [e]
  have c : ((x.toInt % 2 ^ k).toNat : Int) < ((2 ^ k : Nat) : Int) := by rw [Int.toNat_of_nonneg a]; simpa using b
  exact_mod_cast c
theorem own_rem (x m : Int32) (q : Nat) (hm : m.toInt = q) (h1 : 0 < q) : ∃ n : Nat, n < q ∧ (x &&& 2147483647) % m = Int32.ofNat n := by
  have e := Jvm.Kit.i32_mask x 2147483647 (k := 31) (by decide) (by decide)
  have p : 0 ≤ (x &&& 2147483647).toInt := by omega
  have e2 := Jvm.Kit.i32_rem_nonneg (y := m) p
  have hp : (0 : Int) < m.toInt := by omega
  have a := Int.emod_nonneg (x &&& 2147483647).toInt (Int.ne_of_gt hp)
  have b := Int.emod_lt_of_pos (x &&& 2147483647).toInt hp
  exact ⟨((x &&& 2147483647) % m).toInt.toNat, by omega, own_natOf (by omega)⟩
theorem own_m3 {x z : Int32} (h : x &&& (3 : Int32) = z) : z = 0 ∨ z = 1 ∨ z = 2 ∨ z = 3 := by
  obtain ⟨n, hn, e⟩ := own_maskN x 3 2 (by decide) (by decide)
  rw [← h, e]
  have : ∀ i : Fin 4, Int32.ofNat i = 0 ∨ Int32.ofNat i = 1 ∨ Int32.ofNat i = 2 ∨ Int32.ofNat i = 3 := by decide +kernel
  exact this ⟨n, hn⟩
theorem own_m1 {x z : Int32} (h : x &&& (1 : Int32) = z) : z = 0 ∨ z = 1 := by
  obtain ⟨n, hn, e⟩ := own_maskN x 1 1 (by decide) (by decide)
  rw [← h, e]
  have : ∀ i : Fin 2, Int32.ofNat i = 0 ∨ Int32.ofNat i = 1 := by decide +kernel
  exact this ⟨n, hn⟩
section Laws
variable {p : Program} {l : Launch} {e : Env} {R : Room} {s : State} {m : MethodId} {args : Array Value} {below : List Frame} {meth : Method} {c : Code} {Z : State} {code : ByteArray} {own : String} {ret : Option FieldType} {ml : Nat} {nm : String} {n0 : Nat} {T : State} {h : Heap} {cells slots : Nat} {C S : Nat} {Q : Option Value → Heap → Prop} {pc pc' : Nat} {Ls : Array Slot} {stk : List Value}
theorem St.more (X : St p l e R s m args below meth c Z code own ret ml nm n0 T h cells slots) {cells' slots' : Nat} (h1 : cells ≤ cells') (h2 : slots ≤ slots') : St p l e R s m args below meth c Z code own ret ml nm n0 T h cells' slots' := by
  obtain ⟨locs, Y, r⟩ := X
  exact ⟨locs, Y.more h1 h2, r⟩
theorem St.size (X : St p l e R s m args below meth c Z code own ret ml nm n0 T h cells slots) : n0 ≤ h.size := by
  obtain ⟨locs, Y, hx, hZ, hc, ho, hr, hm, hn, hk, rfl, hF, h0⟩ := X
  exact Nat.le_trans h0 (Y.same.2.1 : s.heap.size ≤ T.heap.size)

theorem F_iloadN (X : St p l e R s m args below meth c Z code own ret ml nm n0 T h cells slots) {k : Fin 4} {v : Int32} (hd : decode code pc = .ok (.iload_n k, 1)) (hl : Ls[k.val]? = some (.val (.int v))) (hp : pc + 1 = pc') (k : Ends p e below s n0 C S Q T (mkF m pc' Ls (.int v :: stk))) : Ends p e below s n0 C S Q T (mkF m pc Ls stk) := by
  obtain ⟨locs, Y, hx, hZ, hc, ho, hr, hm, hn, hk, hh, hF, h0⟩ := X
  subst hp
  exact k.by fun _ kt => XS.iloadN Y.here hx rfl (hb hc hd) hl kt
theorem F_iload (X : St p l e R s m args below meth c Z code own ret ml nm n0 T h cells slots) {k : Nat} {v : Int32} (hd : decode code pc = .ok (.iload k, 2)) (hl : Ls[k]? = some (.val (.int v))) (hp : pc + 2 = pc') (k : Ends p e below s n0 C S Q T (mkF m pc' Ls (.int v :: stk))) : Ends p e below s n0 C S Q T (mkF m pc Ls stk) := by
  obtain ⟨locs, Y, hx, hZ, hc, ho, hr, hm, hn, hk, hh, hF, h0⟩ := X
  subst hp
  exact k.by fun _ kt => XS.iload Y.here hx rfl (hb hc hd) hl kt
theorem F_istoreN (X : St p l e R s m args below meth c Z code own ret ml nm n0 T h cells slots) {k : Fin 4} {v : Int32} {Ls' : Array Slot} (hd : decode code pc = .ok (.istore_n k, 1)) (hl : storeLocals Ls k.val (.int v) = some Ls') (hp : pc + 1 = pc') (k : Ends p e below s n0 C S Q T (mkF m pc' Ls' stk)) : Ends p e below s n0 C S Q T (mkF m pc Ls (.int v :: stk)) := by
  obtain ⟨locs, Y, hx, hZ, hc, ho, hr, hm, hn, hk, hh, hF, h0⟩ := X
  subst hp
  exact k.by fun _ kt => XS.istoreN Y.here hx rfl (hb hc hd) rfl hl kt
theorem F_istore (X : St p l e R s m args below meth c Z code own ret ml nm n0 T h cells slots) {k : Nat} {v : Int32} {Ls' : Array Slot} (hd : decode code pc = .ok (.istore k, 2)) (hl : storeLocals Ls k (.int v) = some Ls') (hp : pc + 2 = pc') (k : Ends p e below s n0 C S Q T (mkF m pc' Ls' stk)) : Ends p e below s n0 C S Q T (mkF m pc Ls (.int v :: stk)) := by
  obtain ⟨locs, Y, hx, hZ, hc, ho, hr, hm, hn, hk, hh, hF, h0⟩ := X
  subst hp
  exact k.by fun _ kt => XS.istore Y.here hx rfl (hb hc hd) rfl hl kt
theorem F_lloadN (X : St p l e R s m args below meth c Z code own ret ml nm n0 T h cells slots) {k : Fin 4} {v : Int64} (hd : decode code pc = .ok (.lload_n k, 1)) (hl : Ls[k.val]? = some (.val (.long v))) (hp : pc + 1 = pc') (k : Ends p e below s n0 C S Q T (mkF m pc' Ls (.long v :: stk))) : Ends p e below s n0 C S Q T (mkF m pc Ls stk) := by
  obtain ⟨locs, Y, hx, hZ, hc, ho, hr, hm, hn, hk, hh, hF, h0⟩ := X
  subst hp
  exact k.by fun _ kt => XS.lloadN Y.here hx rfl (hb hc hd) hl kt
theorem F_lload (X : St p l e R s m args below meth c Z code own ret ml nm n0 T h cells slots) {k : Nat} {v : Int64} (hd : decode code pc = .ok (.lload k, 2)) (hl : Ls[k]? = some (.val (.long v))) (hp : pc + 2 = pc') (k : Ends p e below s n0 C S Q T (mkF m pc' Ls (.long v :: stk))) : Ends p e below s n0 C S Q T (mkF m pc Ls stk) := by
  obtain ⟨locs, Y, hx, hZ, hc, ho, hr, hm, hn, hk, hh, hF, h0⟩ := X
  subst hp
  exact k.by fun _ kt => XS.lload Y.here hx rfl (hb hc hd) hl kt
theorem F_lstoreN (X : St p l e R s m args below meth c Z code own ret ml nm n0 T h cells slots) {k : Fin 4} {v : Int64} {Ls' : Array Slot} (hd : decode code pc = .ok (.lstore_n k, 1)) (hl : storeLocals Ls k.val (.long v) = some Ls') (hp : pc + 1 = pc') (k : Ends p e below s n0 C S Q T (mkF m pc' Ls' stk)) : Ends p e below s n0 C S Q T (mkF m pc Ls (.long v :: stk)) := by
  obtain ⟨locs, Y, hx, hZ, hc, ho, hr, hm, hn, hk, hh, hF, h0⟩ := X
  subst hp
  exact k.by fun _ kt => XS.lstoreN Y.here hx rfl (hb hc hd) rfl hl kt
theorem F_lstore (X : St p l e R s m args below meth c Z code own ret ml nm n0 T h cells slots) {k : Nat} {v : Int64} {Ls' : Array Slot} (hd : decode code pc = .ok (.lstore k, 2)) (hl : storeLocals Ls k (.long v) = some Ls') (hp : pc + 2 = pc') (k : Ends p e below s n0 C S Q T (mkF m pc' Ls' stk)) : Ends p e below s n0 C S Q T (mkF m pc Ls (.long v :: stk)) := by
  obtain ⟨locs, Y, hx, hZ, hc, ho, hr, hm, hn, hk, hh, hF, h0⟩ := X
  subst hp
  exact k.by fun _ kt => XS.lstore Y.here hx rfl (hb hc hd) rfl hl kt
theorem F_aloadN (X : St p l e R s m args below meth c Z code own ret ml nm n0 T h cells slots) {k : Fin 4} {v : Value} (hd : decode code pc = .ok (.aload_n k, 1)) (hl : Ls[k.val]? = some (.val v)) (hv : v.isRef = true) (hp : pc + 1 = pc') (k : Ends p e below s n0 C S Q T (mkF m pc' Ls (v :: stk))) : Ends p e below s n0 C S Q T (mkF m pc Ls stk) := by
  obtain ⟨locs, Y, hx, hZ, hc, ho, hr, hm, hn, hk, hh, hF, h0⟩ := X
  subst hp
  exact k.by fun _ kt => XS.aloadN Y.here hx rfl (hb hc hd) hl hv kt
theorem F_aload (X : St p l e R s m args below meth c Z code own ret ml nm n0 T h cells slots) {k : Nat} {v : Value} (hd : decode code pc = .ok (.aload k, 2)) (hl : Ls[k]? = some (.val v)) (hv : v.isRef = true) (hp : pc + 2 = pc') (k : Ends p e below s n0 C S Q T (mkF m pc' Ls (v :: stk))) : Ends p e below s n0 C S Q T (mkF m pc Ls stk) := by
  obtain ⟨locs, Y, hx, hZ, hc, ho, hr, hm, hn, hk, hh, hF, h0⟩ := X
  subst hp
  exact k.by fun _ kt => XS.aload Y.here hx rfl (hb hc hd) hl hv kt
theorem F_astoreN (X : St p l e R s m args below meth c Z code own ret ml nm n0 T h cells slots) {k : Fin 4} {v : Value} {Ls' : Array Slot} (hd : decode code pc = .ok (.astore_n k, 1)) (hv : v.isRef = true) (hl : storeLocals Ls k.val v = some Ls') (hp : pc + 1 = pc') (k : Ends p e below s n0 C S Q T (mkF m pc' Ls' stk)) : Ends p e below s n0 C S Q T (mkF m pc Ls (v :: stk)) := by
  obtain ⟨locs, Y, hx, hZ, hc, ho, hr, hm, hn, hk, hh, hF, h0⟩ := X
  subst hp
  exact k.by fun _ kt => XS.astoreN Y.here hx rfl (hb hc hd) rfl hv hl kt
theorem F_astore (X : St p l e R s m args below meth c Z code own ret ml nm n0 T h cells slots) {k : Nat} {v : Value} {Ls' : Array Slot} (hd : decode code pc = .ok (.astore k, 2)) (hv : v.isRef = true) (hl : storeLocals Ls k v = some Ls') (hp : pc + 2 = pc') (k : Ends p e below s n0 C S Q T (mkF m pc' Ls' stk)) : Ends p e below s n0 C S Q T (mkF m pc Ls (v :: stk)) := by
  obtain ⟨locs, Y, hx, hZ, hc, ho, hr, hm, hn, hk, hh, hF, h0⟩ := X
  subst hp
  exact k.by fun _ kt => XS.astore Y.here hx rfl (hb hc hd) rfl hv hl kt
theorem F_iconst (X : St p l e R s m args below meth c Z code own ret ml nm n0 T h cells slots) {i : Int} {z : Int32} (hd : decode code pc = .ok (.iconst i, 1)) (hz : Int32.ofInt i = z) (hp : pc + 1 = pc') (k : Ends p e below s n0 C S Q T (mkF m pc' Ls (.int z :: stk))) : Ends p e below s n0 C S Q T (mkF m pc Ls stk) := by
  obtain ⟨locs, Y, hx, hZ, hc, ho, hr, hm, hn, hk, hh, hF, h0⟩ := X
  subst hp
  exact k.by fun _ kt => XS.iconst Y.here hx rfl (hb hc hd) (hz ▸ kt)
theorem F_bipush (X : St p l e R s m args below meth c Z code own ret ml nm n0 T h cells slots) {i : Int} {z : Int32} (hd : decode code pc = .ok (.bipush i, 2)) (hz : (Int8.ofInt i).toInt32 = z) (hp : pc + 2 = pc') (k : Ends p e below s n0 C S Q T (mkF m pc' Ls (.int z :: stk))) : Ends p e below s n0 C S Q T (mkF m pc Ls stk) := by
  obtain ⟨locs, Y, hx, hZ, hc, ho, hr, hm, hn, hk, hh, hF, h0⟩ := X
  subst hp
  exact k.by fun _ kt => XS.bipush Y.here hx rfl (hb hc hd) (hz ▸ kt)
theorem F_sipush (X : St p l e R s m args below meth c Z code own ret ml nm n0 T h cells slots) {i : Int} {z : Int32} (hd : decode code pc = .ok (.sipush i, 3)) (hz : (Int16.ofInt i).toInt32 = z) (hp : pc + 3 = pc') (k : Ends p e below s n0 C S Q T (mkF m pc' Ls (.int z :: stk))) : Ends p e below s n0 C S Q T (mkF m pc Ls stk) := by
  obtain ⟨locs, Y, hx, hZ, hc, ho, hr, hm, hn, hk, hh, hF, h0⟩ := X
  subst hp
  exact k.by fun _ kt => XS.sipush Y.here hx rfl (hb hc hd) (hz ▸ kt)
theorem F_lconst (X : St p l e R s m args below meth c Z code own ret ml nm n0 T h cells slots) {i : Fin 2} {z : Int64} (hd : decode code pc = .ok (.lconst i, 1)) (hz : Int64.ofNat i = z) (hp : pc + 1 = pc') (k : Ends p e below s n0 C S Q T (mkF m pc' Ls (.long z :: stk))) : Ends p e below s n0 C S Q T (mkF m pc Ls stk) := by
  obtain ⟨locs, Y, hx, hZ, hc, ho, hr, hm, hn, hk, hh, hF, h0⟩ := X
  subst hp
  exact k.by fun _ kt => XS.lconst Y.here hx rfl (hb hc hd) (hz ▸ kt)
theorem F_aconst_null (X : St p l e R s m args below meth c Z code own ret ml nm n0 T h cells slots)  (hd : decode code pc = .ok (.aconst_null, 1)) (hp : pc + 1 = pc') (k : Ends p e below s n0 C S Q T (mkF m pc' Ls (.null :: stk))) : Ends p e below s n0 C S Q T (mkF m pc Ls stk) := by
  obtain ⟨locs, Y, hx, hZ, hc, ho, hr, hm, hn, hk, hh, hF, h0⟩ := X
  subst hp
  exact k.by fun _ kt => XS.aconstNull Y.here hx rfl (hb hc hd) kt
theorem F_iadd (X : St p l e R s m args below meth c Z code own ret ml nm n0 T h cells slots) {x y z : Int32} (hd : decode code pc = .ok (.iadd, 1)) (hz : x + y = z) (hp : pc + 1 = pc') (k : Ends p e below s n0 C S Q T (mkF m pc' Ls (.int z :: stk))) : Ends p e below s n0 C S Q T (mkF m pc Ls (.int y :: .int x :: stk)) := by
  obtain ⟨locs, Y, hx, hZ, hc, ho, hr, hm, hn, hk, hh, hF, h0⟩ := X
  subst hp
  exact k.by fun _ kt => XS.iadd Y.here hx rfl (hb hc hd) rfl (hz ▸ kt)
theorem F_isub (X : St p l e R s m args below meth c Z code own ret ml nm n0 T h cells slots) {x y z : Int32} (hd : decode code pc = .ok (.isub, 1)) (hz : x - y = z) (hp : pc + 1 = pc') (k : Ends p e below s n0 C S Q T (mkF m pc' Ls (.int z :: stk))) : Ends p e below s n0 C S Q T (mkF m pc Ls (.int y :: .int x :: stk)) := by
  obtain ⟨locs, Y, hx, hZ, hc, ho, hr, hm, hn, hk, hh, hF, h0⟩ := X
  subst hp
  exact k.by fun _ kt => XS.isub Y.here hx rfl (hb hc hd) rfl (hz ▸ kt)
theorem F_imul (X : St p l e R s m args below meth c Z code own ret ml nm n0 T h cells slots) {x y z : Int32} (hd : decode code pc = .ok (.imul, 1)) (hz : x * y = z) (hp : pc + 1 = pc') (k : Ends p e below s n0 C S Q T (mkF m pc' Ls (.int z :: stk))) : Ends p e below s n0 C S Q T (mkF m pc Ls (.int y :: .int x :: stk)) := by
  obtain ⟨locs, Y, hx, hZ, hc, ho, hr, hm, hn, hk, hh, hF, h0⟩ := X
  subst hp
  exact k.by fun _ kt => XS.imul Y.here hx rfl (hb hc hd) rfl (hz ▸ kt)
theorem F_iand (X : St p l e R s m args below meth c Z code own ret ml nm n0 T h cells slots) {x y z : Int32} (hd : decode code pc = .ok (.iand, 1)) (hz : x &&& y = z) (hp : pc + 1 = pc') (k : Ends p e below s n0 C S Q T (mkF m pc' Ls (.int z :: stk))) : Ends p e below s n0 C S Q T (mkF m pc Ls (.int y :: .int x :: stk)) := by
  obtain ⟨locs, Y, hx, hZ, hc, ho, hr, hm, hn, hk, hh, hF, h0⟩ := X
  subst hp
  exact k.by fun _ kt => XS.iand Y.here hx rfl (hb hc hd) rfl (hz ▸ kt)
theorem F_ior (X : St p l e R s m args below meth c Z code own ret ml nm n0 T h cells slots) {x y z : Int32} (hd : decode code pc = .ok (.ior, 1)) (hz : x ||| y = z) (hp : pc + 1 = pc') (k : Ends p e below s n0 C S Q T (mkF m pc' Ls (.int z :: stk))) : Ends p e below s n0 C S Q T (mkF m pc Ls (.int y :: .int x :: stk)) := by
  obtain ⟨locs, Y, hx, hZ, hc, ho, hr, hm, hn, hk, hh, hF, h0⟩ := X
  subst hp
  exact k.by fun _ kt => XS.ior Y.here hx rfl (hb hc hd) rfl (hz ▸ kt)
theorem F_ixor (X : St p l e R s m args below meth c Z code own ret ml nm n0 T h cells slots) {x y z : Int32} (hd : decode code pc = .ok (.ixor, 1)) (hz : x ^^^ y = z) (hp : pc + 1 = pc') (k : Ends p e below s n0 C S Q T (mkF m pc' Ls (.int z :: stk))) : Ends p e below s n0 C S Q T (mkF m pc Ls (.int y :: .int x :: stk)) := by
  obtain ⟨locs, Y, hx, hZ, hc, ho, hr, hm, hn, hk, hh, hF, h0⟩ := X
  subst hp
  exact k.by fun _ kt => XS.ixor Y.here hx rfl (hb hc hd) rfl (hz ▸ kt)
theorem F_ishl (X : St p l e R s m args below meth c Z code own ret ml nm n0 T h cells slots) {x y z : Int32} (hd : decode code pc = .ok (.ishl, 1)) (hz : x <<< (y &&& 31) = z) (hp : pc + 1 = pc') (k : Ends p e below s n0 C S Q T (mkF m pc' Ls (.int z :: stk))) : Ends p e below s n0 C S Q T (mkF m pc Ls (.int y :: .int x :: stk)) := by
  obtain ⟨locs, Y, hx, hZ, hc, ho, hr, hm, hn, hk, hh, hF, h0⟩ := X
  subst hp
  exact k.by fun _ kt => XS.ishl Y.here hx rfl (hb hc hd) rfl (hz ▸ kt)
theorem F_ishr (X : St p l e R s m args below meth c Z code own ret ml nm n0 T h cells slots) {x y z : Int32} (hd : decode code pc = .ok (.ishr, 1)) (hz : x >>> (y &&& 31) = z) (hp : pc + 1 = pc') (k : Ends p e below s n0 C S Q T (mkF m pc' Ls (.int z :: stk))) : Ends p e below s n0 C S Q T (mkF m pc Ls (.int y :: .int x :: stk)) := by
  obtain ⟨locs, Y, hx, hZ, hc, ho, hr, hm, hn, hk, hh, hF, h0⟩ := X
  subst hp
  exact k.by fun _ kt => XS.ishr Y.here hx rfl (hb hc hd) rfl (hz ▸ kt)
theorem F_iushr (X : St p l e R s m args below meth c Z code own ret ml nm n0 T h cells slots) {x y z : Int32} (hd : decode code pc = .ok (.iushr, 1)) (hz : (x.toUInt32 >>> (y &&& 31).toUInt32).toInt32 = z) (hp : pc + 1 = pc') (k : Ends p e below s n0 C S Q T (mkF m pc' Ls (.int z :: stk))) : Ends p e below s n0 C S Q T (mkF m pc Ls (.int y :: .int x :: stk)) := by
  obtain ⟨locs, Y, hx, hZ, hc, ho, hr, hm, hn, hk, hh, hF, h0⟩ := X
  subst hp
  exact k.by fun _ kt => XS.iushr Y.here hx rfl (hb hc hd) rfl (hz ▸ kt)
theorem F_idiv (X : St p l e R s m args below meth c Z code own ret ml nm n0 T h cells slots) {x y z : Int32} (hd : decode code pc = .ok (.idiv, 1)) (hy : y ≠ 0) (hz : x / y = z) (hp : pc + 1 = pc') (k : Ends p e below s n0 C S Q T (mkF m pc' Ls (.int z :: stk))) : Ends p e below s n0 C S Q T (mkF m pc Ls (.int y :: .int x :: stk)) := by
  obtain ⟨locs, Y, hx, hZ, hc, ho, hr, hm, hn, hk, hh, hF, h0⟩ := X
  subst hp
  exact k.by fun _ kt => XS.idiv Y.here hx rfl (hb hc hd) rfl hy (hz ▸ kt)
theorem F_irem (X : St p l e R s m args below meth c Z code own ret ml nm n0 T h cells slots) {x y z : Int32} (hd : decode code pc = .ok (.irem, 1)) (hy : y ≠ 0) (hz : x % y = z) (hp : pc + 1 = pc') (k : Ends p e below s n0 C S Q T (mkF m pc' Ls (.int z :: stk))) : Ends p e below s n0 C S Q T (mkF m pc Ls (.int y :: .int x :: stk)) := by
  obtain ⟨locs, Y, hx, hZ, hc, ho, hr, hm, hn, hk, hh, hF, h0⟩ := X
  subst hp
  exact k.by fun _ kt => iremM Y hx rfl (hb hc hd) rfl hy (hz ▸ kt)
theorem F_ineg (X : St p l e R s m args below meth c Z code own ret ml nm n0 T h cells slots) {x z : Int32} (hd : decode code pc = .ok (.ineg, 1)) (hz : -x = z) (hp : pc + 1 = pc') (k : Ends p e below s n0 C S Q T (mkF m pc' Ls (.int z :: stk))) : Ends p e below s n0 C S Q T (mkF m pc Ls (.int x :: stk)) := by
  obtain ⟨locs, Y, hx, hZ, hc, ho, hr, hm, hn, hk, hh, hF, h0⟩ := X
  subst hp
  exact k.by fun _ kt => XS.ineg Y.here hx rfl (hb hc hd) rfl (hz ▸ kt)
theorem F_ladd (X : St p l e R s m args below meth c Z code own ret ml nm n0 T h cells slots) {x y z : Int64} (hd : decode code pc = .ok (.ladd, 1)) (hz : x + y = z) (hp : pc + 1 = pc') (k : Ends p e below s n0 C S Q T (mkF m pc' Ls (.long z :: stk))) : Ends p e below s n0 C S Q T (mkF m pc Ls (.long y :: .long x :: stk)) := by
  obtain ⟨locs, Y, hx, hZ, hc, ho, hr, hm, hn, hk, hh, hF, h0⟩ := X
  subst hp
  exact k.by fun _ kt => XS.ladd Y.here hx rfl (hb hc hd) rfl (hz ▸ kt)
theorem F_lsub (X : St p l e R s m args below meth c Z code own ret ml nm n0 T h cells slots) {x y z : Int64} (hd : decode code pc = .ok (.lsub, 1)) (hz : x - y = z) (hp : pc + 1 = pc') (k : Ends p e below s n0 C S Q T (mkF m pc' Ls (.long z :: stk))) : Ends p e below s n0 C S Q T (mkF m pc Ls (.long y :: .long x :: stk)) := by
  obtain ⟨locs, Y, hx, hZ, hc, ho, hr, hm, hn, hk, hh, hF, h0⟩ := X
  subst hp
  exact k.by fun _ kt => XS.lsub Y.here hx rfl (hb hc hd) rfl (hz ▸ kt)
theorem F_lmul (X : St p l e R s m args below meth c Z code own ret ml nm n0 T h cells slots) {x y z : Int64} (hd : decode code pc = .ok (.lmul, 1)) (hz : x * y = z) (hp : pc + 1 = pc') (k : Ends p e below s n0 C S Q T (mkF m pc' Ls (.long z :: stk))) : Ends p e below s n0 C S Q T (mkF m pc Ls (.long y :: .long x :: stk)) := by
  obtain ⟨locs, Y, hx, hZ, hc, ho, hr, hm, hn, hk, hh, hF, h0⟩ := X
  subst hp
  exact k.by fun _ kt => XS.lmul Y.here hx rfl (hb hc hd) rfl (hz ▸ kt)
theorem F_land (X : St p l e R s m args below meth c Z code own ret ml nm n0 T h cells slots) {x y z : Int64} (hd : decode code pc = .ok (.land, 1)) (hz : x &&& y = z) (hp : pc + 1 = pc') (k : Ends p e below s n0 C S Q T (mkF m pc' Ls (.long z :: stk))) : Ends p e below s n0 C S Q T (mkF m pc Ls (.long y :: .long x :: stk)) := by
  obtain ⟨locs, Y, hx, hZ, hc, ho, hr, hm, hn, hk, hh, hF, h0⟩ := X
  subst hp
  exact k.by fun _ kt => XS.land Y.here hx rfl (hb hc hd) rfl (hz ▸ kt)
theorem F_lor (X : St p l e R s m args below meth c Z code own ret ml nm n0 T h cells slots) {x y z : Int64} (hd : decode code pc = .ok (.lor, 1)) (hz : x ||| y = z) (hp : pc + 1 = pc') (k : Ends p e below s n0 C S Q T (mkF m pc' Ls (.long z :: stk))) : Ends p e below s n0 C S Q T (mkF m pc Ls (.long y :: .long x :: stk)) := by
  obtain ⟨locs, Y, hx, hZ, hc, ho, hr, hm, hn, hk, hh, hF, h0⟩ := X
  subst hp
  exact k.by fun _ kt => XS.lor Y.here hx rfl (hb hc hd) rfl (hz ▸ kt)
theorem F_lxor (X : St p l e R s m args below meth c Z code own ret ml nm n0 T h cells slots) {x y z : Int64} (hd : decode code pc = .ok (.lxor, 1)) (hz : x ^^^ y = z) (hp : pc + 1 = pc') (k : Ends p e below s n0 C S Q T (mkF m pc' Ls (.long z :: stk))) : Ends p e below s n0 C S Q T (mkF m pc Ls (.long y :: .long x :: stk)) := by
  obtain ⟨locs, Y, hx, hZ, hc, ho, hr, hm, hn, hk, hh, hF, h0⟩ := X
  subst hp
  exact k.by fun _ kt => XS.lxor Y.here hx rfl (hb hc hd) rfl (hz ▸ kt)
theorem F_lshl (X : St p l e R s m args below meth c Z code own ret ml nm n0 T h cells slots) {x z : Int64} {y : Int32} (hd : decode code pc = .ok (.lshl, 1)) (hz : x <<< (y &&& 0x3f).toInt64 = z) (hp : pc + 1 = pc') (k : Ends p e below s n0 C S Q T (mkF m pc' Ls (.long z :: stk))) : Ends p e below s n0 C S Q T (mkF m pc Ls (.int y :: .long x :: stk)) := by
  obtain ⟨locs, Y, hx, hZ, hc, ho, hr, hm, hn, hk, hh, hF, h0⟩ := X
  subst hp
  exact k.by fun _ kt => XS.lshl Y.here hx rfl (hb hc hd) rfl (hz ▸ kt)
theorem F_lshr (X : St p l e R s m args below meth c Z code own ret ml nm n0 T h cells slots) {x z : Int64} {y : Int32} (hd : decode code pc = .ok (.lshr, 1)) (hz : x >>> (y &&& 0x3f).toInt64 = z) (hp : pc + 1 = pc') (k : Ends p e below s n0 C S Q T (mkF m pc' Ls (.long z :: stk))) : Ends p e below s n0 C S Q T (mkF m pc Ls (.int y :: .long x :: stk)) := by
  obtain ⟨locs, Y, hx, hZ, hc, ho, hr, hm, hn, hk, hh, hF, h0⟩ := X
  subst hp
  exact k.by fun _ kt => XS.lshr Y.here hx rfl (hb hc hd) rfl (hz ▸ kt)
theorem F_lushr (X : St p l e R s m args below meth c Z code own ret ml nm n0 T h cells slots) {x z : Int64} {y : Int32} (hd : decode code pc = .ok (.lushr, 1)) (hz : (x.toUInt64 >>> (y &&& 0x3f).toInt64.toUInt64).toInt64 = z) (hp : pc + 1 = pc') (k : Ends p e below s n0 C S Q T (mkF m pc' Ls (.long z :: stk))) : Ends p e below s n0 C S Q T (mkF m pc Ls (.int y :: .long x :: stk)) := by
  obtain ⟨locs, Y, hx, hZ, hc, ho, hr, hm, hn, hk, hh, hF, h0⟩ := X
  subst hp
  exact k.by fun _ kt => XS.lushr Y.here hx rfl (hb hc hd) rfl (hz ▸ kt)
theorem F_ldiv (X : St p l e R s m args below meth c Z code own ret ml nm n0 T h cells slots) {x y z : Int64} (hd : decode code pc = .ok (.ldiv, 1)) (hy : y ≠ 0) (hz : x / y = z) (hp : pc + 1 = pc') (k : Ends p e below s n0 C S Q T (mkF m pc' Ls (.long z :: stk))) : Ends p e below s n0 C S Q T (mkF m pc Ls (.long y :: .long x :: stk)) := by
  obtain ⟨locs, Y, hx, hZ, hc, ho, hr, hm, hn, hk, hh, hF, h0⟩ := X
  subst hp
  exact k.by fun _ kt => XS.ldiv Y.here hx rfl (hb hc hd) rfl hy (hz ▸ kt)
theorem F_lrem (X : St p l e R s m args below meth c Z code own ret ml nm n0 T h cells slots) {x y z : Int64} (hd : decode code pc = .ok (.lrem, 1)) (hy : y ≠ 0) (hz : x - (x / y) * y = z) (hp : pc + 1 = pc') (k : Ends p e below s n0 C S Q T (mkF m pc' Ls (.long z :: stk))) : Ends p e below s n0 C S Q T (mkF m pc Ls (.long y :: .long x :: stk)) := by
  obtain ⟨locs, Y, hx, hZ, hc, ho, hr, hm, hn, hk, hh, hF, h0⟩ := X
  subst hp
  exact k.by fun _ kt => XS.lrem Y.here hx rfl (hb hc hd) rfl hy (hz ▸ kt)
theorem F_i2l (X : St p l e R s m args below meth c Z code own ret ml nm n0 T h cells slots) {x : Int32} {z : Int64} (hd : decode code pc = .ok (.i2l, 1)) (hz : x.toInt64 = z) (hp : pc + 1 = pc') (k : Ends p e below s n0 C S Q T (mkF m pc' Ls (.long z :: stk))) : Ends p e below s n0 C S Q T (mkF m pc Ls (.int x :: stk)) := by
  obtain ⟨locs, Y, hx, hZ, hc, ho, hr, hm, hn, hk, hh, hF, h0⟩ := X
  subst hp
  exact k.by fun _ kt => XS.i2l Y.here hx rfl (hb hc hd) rfl (hz ▸ kt)
theorem F_l2i (X : St p l e R s m args below meth c Z code own ret ml nm n0 T h cells slots) {x : Int64} {z : Int32} (hd : decode code pc = .ok (.l2i, 1)) (hz : x.toInt32 = z) (hp : pc + 1 = pc') (k : Ends p e below s n0 C S Q T (mkF m pc' Ls (.int z :: stk))) : Ends p e below s n0 C S Q T (mkF m pc Ls (.long x :: stk)) := by
  obtain ⟨locs, Y, hx, hZ, hc, ho, hr, hm, hn, hk, hh, hF, h0⟩ := X
  subst hp
  exact k.by fun _ kt => XS.l2i Y.here hx rfl (hb hc hd) rfl (hz ▸ kt)
theorem F_i2b (X : St p l e R s m args below meth c Z code own ret ml nm n0 T h cells slots) {x : Int32} {z : Int32} (hd : decode code pc = .ok (.i2b, 1)) (hz : x.toInt8.toInt32 = z) (hp : pc + 1 = pc') (k : Ends p e below s n0 C S Q T (mkF m pc' Ls (.int z :: stk))) : Ends p e below s n0 C S Q T (mkF m pc Ls (.int x :: stk)) := by
  obtain ⟨locs, Y, hx, hZ, hc, ho, hr, hm, hn, hk, hh, hF, h0⟩ := X
  subst hp
  exact k.by fun _ kt => XS.i2b Y.here hx rfl (hb hc hd) rfl (hz ▸ kt)
theorem F_i2c (X : St p l e R s m args below meth c Z code own ret ml nm n0 T h cells slots) {x : Int32} {z : Int32} (hd : decode code pc = .ok (.i2c, 1)) (hz : x.toUInt32.toUInt16.toUInt32.toInt32 = z) (hp : pc + 1 = pc') (k : Ends p e below s n0 C S Q T (mkF m pc' Ls (.int z :: stk))) : Ends p e below s n0 C S Q T (mkF m pc Ls (.int x :: stk)) := by
  obtain ⟨locs, Y, hx, hZ, hc, ho, hr, hm, hn, hk, hh, hF, h0⟩ := X
  subst hp
  exact k.by fun _ kt => XS.i2c Y.here hx rfl (hb hc hd) rfl (hz ▸ kt)
theorem F_i2s (X : St p l e R s m args below meth c Z code own ret ml nm n0 T h cells slots) {x : Int32} {z : Int32} (hd : decode code pc = .ok (.i2s, 1)) (hz : x.toInt16.toInt32 = z) (hp : pc + 1 = pc') (k : Ends p e below s n0 C S Q T (mkF m pc' Ls (.int z :: stk))) : Ends p e below s n0 C S Q T (mkF m pc Ls (.int x :: stk)) := by
  obtain ⟨locs, Y, hx, hZ, hc, ho, hr, hm, hn, hk, hh, hF, h0⟩ := X
  subst hp
  exact k.by fun _ kt => XS.i2s Y.here hx rfl (hb hc hd) rfl (hz ▸ kt)
theorem F_iinc (X : St p l e R s m args below meth c Z code own ret ml nm n0 T h cells slots) {k : Nat} {i : Int} {v : Int32} {Ls' : Array Slot} (hd : decode code pc = .ok (.iinc k i, 3)) (hl : Ls[k]? = some (.val (.int v))) (hl' : storeLocals Ls k (.int (v + Int32.ofInt i)) = some Ls') (hp : pc + 3 = pc') (k : Ends p e below s n0 C S Q T (mkF m pc' Ls' stk)) : Ends p e below s n0 C S Q T (mkF m pc Ls stk) := by
  obtain ⟨locs, Y, hx, hZ, hc, ho, hr, hm, hn, hk, hh, hF, h0⟩ := X
  subst hp
  exact k.by fun _ kt => XS.iinc Y.here hx rfl (hb hc hd) hl hl' kt
theorem F_dup (X : St p l e R s m args below meth c Z code own ret ml nm n0 T h cells slots) {v : Value} (hd : decode code pc = .ok (.dup, 1)) (hv : v.category = 1) (hp : pc + 1 = pc') (k : Ends p e below s n0 C S Q T (mkF m pc' Ls (v :: v :: stk))) : Ends p e below s n0 C S Q T (mkF m pc Ls (v :: stk)) := by
  obtain ⟨locs, Y, hx, hZ, hc, ho, hr, hm, hn, hk, hh, hF, h0⟩ := X
  subst hp
  exact k.by fun _ kt => XS.dup Y.here hx rfl (hb hc hd) rfl hv kt
theorem F_dup_x1 (X : St p l e R s m args below meth c Z code own ret ml nm n0 T h cells slots) {v w : Value} (hd : decode code pc = .ok (.dup_x1, 1)) (hv : v.category = 1) (hw : w.category = 1) (hp : pc + 1 = pc') (k : Ends p e below s n0 C S Q T (mkF m pc' Ls (v :: w :: v :: stk))) : Ends p e below s n0 C S Q T (mkF m pc Ls (v :: w :: stk)) := by
  obtain ⟨locs, Y, hx, hZ, hc, ho, hr, hm, hn, hk, hh, hF, h0⟩ := X
  subst hp
  exact k.by fun _ kt => XS.dupX1 Y.here hx rfl (hb hc hd) rfl hv hw kt
theorem F_dup2 (X : St p l e R s m args below meth c Z code own ret ml nm n0 T h cells slots) {v w : Value} (hd : decode code pc = .ok (.dup2, 1)) (hv : v.category = 1) (hw : w.category = 1) (hp : pc + 1 = pc') (k : Ends p e below s n0 C S Q T (mkF m pc' Ls (v :: w :: v :: w :: stk))) : Ends p e below s n0 C S Q T (mkF m pc Ls (v :: w :: stk)) := by
  obtain ⟨locs, Y, hx, hZ, hc, ho, hr, hm, hn, hk, hh, hF, h0⟩ := X
  subst hp
  exact k.by fun _ kt => XT.dup2 Y.here hx rfl (hb hc hd) rfl hv hw kt
theorem F_pop (X : St p l e R s m args below meth c Z code own ret ml nm n0 T h cells slots) {v : Value} (hd : decode code pc = .ok (.pop, 1)) (hv : v.category = 1) (hp : pc + 1 = pc') (k : Ends p e below s n0 C S Q T (mkF m pc' Ls stk)) : Ends p e below s n0 C S Q T (mkF m pc Ls (v :: stk)) := by
  obtain ⟨locs, Y, hx, hZ, hc, ho, hr, hm, hn, hk, hh, hF, h0⟩ := X
  subst hp
  exact k.by fun _ kt => XS.pop Y.here hx rfl (hb hc hd) rfl hv kt
theorem F_lcmp (X : St p l e R s m args below meth c Z code own ret ml nm n0 T h cells slots) {x y : Int64} (hd : decode code pc = .ok (.lcmp, 1)) (hp : pc + 1 = pc') (k : Ends p e below s n0 C S Q T (mkF m pc' Ls (.int (lcmpW x y) :: stk))) : Ends p e below s n0 C S Q T (mkF m pc Ls (.long y :: .long x :: stk)) := by
  obtain ⟨locs, Y, hx, hZ, hc, ho, hr, hm, hn, hk, hh, hF, h0⟩ := X
  subst hp
  exact k.by fun _ kt => XS.lcmp Y.here hx rfl (hb hc hd) rfl kt
theorem F_goto (X : St p l e R s m args below meth c Z code own ret ml nm n0 T h cells slots) {o : Int} (hd : decode code pc = .ok (.goto o, 3)) (hof : 0 ≤ (pc : Int) + o) (hp : ((pc : Int) + o).toNat = pc') (k : Ends p e below s n0 C S Q T (mkF m pc' Ls stk)) : Ends p e below s n0 C S Q T (mkF m pc Ls stk) := by
  obtain ⟨locs, Y, hx, hZ, hc, ho, hr, hm, hn, hk, hh, hF, h0⟩ := X
  exact k.by fun _ kt => XS.goto Y.here hx rfl rfl (hb hc hd) hof hp kt
theorem F_icmp_lt (X : St p l e R s m args below meth c Z code own ret ml nm n0 T h cells slots) {x y : Int32} {o : Int} {pt : Nat} (hd : decode code pc = .ok (.if_icmp .lt o, 3)) (hof : 0 ≤ (pc : Int) + o) (hp : ((pc : Int) + o).toNat = pt) (hq : pc + 3 = pc') (kt : (x < y) → Ends p e below s n0 C S Q T (mkF m pt Ls stk)) (kf : ¬ (x < y) → Ends p e below s n0 C S Q T (mkF m pc' Ls stk)) : Ends p e below s n0 C S Q T (mkF m pc Ls (.int y :: .int x :: stk)) := by
  obtain ⟨locs, Y, hx, hZ, hc, ho, hr, hm, hn, hk, hh, hF, h0⟩ := X
  subst hq
  by_cases q : x < y
  · exact (kt q).by fun _ z => XS.icmpYes Y.here hx rfl rfl (hb hc hd) rfl (tlt q).1 hof hp z
  · exact (kf q).by fun _ z => XS.icmpNo Y.here hx rfl (hb hc hd) rfl (flt q).1 z
theorem F_if_lt (X : St p l e R s m args below meth c Z code own ret ml nm n0 T h cells slots) {x : Int32} {o : Int} {pt : Nat} (hd : decode code pc = .ok (.ifCond .lt o, 3)) (hof : 0 ≤ (pc : Int) + o) (hp : ((pc : Int) + o).toNat = pt) (hq : pc + 3 = pc') (kt : (x < 0) → Ends p e below s n0 C S Q T (mkF m pt Ls stk)) (kf : ¬ (x < 0) → Ends p e below s n0 C S Q T (mkF m pc' Ls stk)) : Ends p e below s n0 C S Q T (mkF m pc Ls (.int x :: stk)) := by
  obtain ⟨locs, Y, hx, hZ, hc, ho, hr, hm, hn, hk, hh, hF, h0⟩ := X
  subst hq
  by_cases q : x < 0
  · exact (kt q).by fun _ z => XS.ifYes Y.here hx rfl rfl (hb hc hd) rfl ((if0 _ _).trans (tlt q).1) hof hp z
  · exact (kf q).by fun _ z => XS.ifNo Y.here hx rfl (hb hc hd) rfl ((if0 _ _).trans (flt q).1) z
theorem F_lif_lt (X : St p l e R s m args below meth c Z code own ret ml nm n0 T h cells slots) {x y : Int64} {o : Int} {pt : Nat} (hd : decode code pc = .ok (.ifCond .lt o, 3)) (hof : 0 ≤ (pc : Int) + o) (hp : ((pc : Int) + o).toNat = pt) (hq : pc + 3 = pc') (kt : (x < y) → Ends p e below s n0 C S Q T (mkF m pt Ls stk)) (kf : ¬ (x < y) → Ends p e below s n0 C S Q T (mkF m pc' Ls stk)) : Ends p e below s n0 C S Q T (mkF m pc Ls (.int (lcmpW x y) :: stk)) := by
  obtain ⟨locs, Y, hx, hZ, hc, ho, hr, hm, hn, hk, hh, hF, h0⟩ := X
  subst hq
  by_cases q : x < y
  · exact (kt q).by fun _ z => XS.ifYes Y.here hx rfl rfl (hb hc hd) rfl ((if0 _ _).trans (tlt ((lw_lt _ _).mpr q)).1) hof hp z
  · exact (kf q).by fun _ z => XS.ifNo Y.here hx rfl (hb hc hd) rfl ((if0 _ _).trans (flt (fun z => q ((lw_lt _ _).mp z))).1) z
theorem F_icmp_ge (X : St p l e R s m args below meth c Z code own ret ml nm n0 T h cells slots) {x y : Int32} {o : Int} {pt : Nat} (hd : decode code pc = .ok (.if_icmp .ge o, 3)) (hof : 0 ≤ (pc : Int) + o) (hp : ((pc : Int) + o).toNat = pt) (hq : pc + 3 = pc') (kt : ¬ (x < y) → Ends p e below s n0 C S Q T (mkF m pt Ls stk)) (kf : (x < y) → Ends p e below s n0 C S Q T (mkF m pc' Ls stk)) : Ends p e below s n0 C S Q T (mkF m pc Ls (.int y :: .int x :: stk)) := by
  obtain ⟨locs, Y, hx, hZ, hc, ho, hr, hm, hn, hk, hh, hF, h0⟩ := X
  subst hq
  by_cases q : x < y
  · exact (kf q).by fun _ z => XS.icmpNo Y.here hx rfl (hb hc hd) rfl (tlt q).2.1 z
  · exact (kt q).by fun _ z => XS.icmpYes Y.here hx rfl rfl (hb hc hd) rfl (flt q).2.1 hof hp z
theorem F_if_ge (X : St p l e R s m args below meth c Z code own ret ml nm n0 T h cells slots) {x : Int32} {o : Int} {pt : Nat} (hd : decode code pc = .ok (.ifCond .ge o, 3)) (hof : 0 ≤ (pc : Int) + o) (hp : ((pc : Int) + o).toNat = pt) (hq : pc + 3 = pc') (kt : ¬ (x < 0) → Ends p e below s n0 C S Q T (mkF m pt Ls stk)) (kf : (x < 0) → Ends p e below s n0 C S Q T (mkF m pc' Ls stk)) : Ends p e below s n0 C S Q T (mkF m pc Ls (.int x :: stk)) := by
  obtain ⟨locs, Y, hx, hZ, hc, ho, hr, hm, hn, hk, hh, hF, h0⟩ := X
  subst hq
  by_cases q : x < 0
  · exact (kf q).by fun _ z => XS.ifNo Y.here hx rfl (hb hc hd) rfl ((if0 _ _).trans (tlt q).2.1) z
  · exact (kt q).by fun _ z => XS.ifYes Y.here hx rfl rfl (hb hc hd) rfl ((if0 _ _).trans (flt q).2.1) hof hp z
theorem F_lif_ge (X : St p l e R s m args below meth c Z code own ret ml nm n0 T h cells slots) {x y : Int64} {o : Int} {pt : Nat} (hd : decode code pc = .ok (.ifCond .ge o, 3)) (hof : 0 ≤ (pc : Int) + o) (hp : ((pc : Int) + o).toNat = pt) (hq : pc + 3 = pc') (kt : ¬ (x < y) → Ends p e below s n0 C S Q T (mkF m pt Ls stk)) (kf : (x < y) → Ends p e below s n0 C S Q T (mkF m pc' Ls stk)) : Ends p e below s n0 C S Q T (mkF m pc Ls (.int (lcmpW x y) :: stk)) := by
  obtain ⟨locs, Y, hx, hZ, hc, ho, hr, hm, hn, hk, hh, hF, h0⟩ := X
  subst hq
  by_cases q : x < y
  · exact (kf q).by fun _ z => XS.ifNo Y.here hx rfl (hb hc hd) rfl ((if0 _ _).trans (tlt ((lw_lt _ _).mpr q)).2.1) z
  · exact (kt q).by fun _ z => XS.ifYes Y.here hx rfl rfl (hb hc hd) rfl ((if0 _ _).trans (flt (fun z => q ((lw_lt _ _).mp z))).2.1) hof hp z
theorem F_icmp_gt (X : St p l e R s m args below meth c Z code own ret ml nm n0 T h cells slots) {x y : Int32} {o : Int} {pt : Nat} (hd : decode code pc = .ok (.if_icmp .gt o, 3)) (hof : 0 ≤ (pc : Int) + o) (hp : ((pc : Int) + o).toNat = pt) (hq : pc + 3 = pc') (kt : (y < x) → Ends p e below s n0 C S Q T (mkF m pt Ls stk)) (kf : ¬ (y < x) → Ends p e below s n0 C S Q T (mkF m pc' Ls stk)) : Ends p e below s n0 C S Q T (mkF m pc Ls (.int y :: .int x :: stk)) := by
  obtain ⟨locs, Y, hx, hZ, hc, ho, hr, hm, hn, hk, hh, hF, h0⟩ := X
  subst hq
  by_cases q : y < x
  · exact (kt q).by fun _ z => XS.icmpYes Y.here hx rfl rfl (hb hc hd) rfl (tlt q).2.2.1 hof hp z
  · exact (kf q).by fun _ z => XS.icmpNo Y.here hx rfl (hb hc hd) rfl (flt q).2.2.1 z
theorem F_if_gt (X : St p l e R s m args below meth c Z code own ret ml nm n0 T h cells slots) {x : Int32} {o : Int} {pt : Nat} (hd : decode code pc = .ok (.ifCond .gt o, 3)) (hof : 0 ≤ (pc : Int) + o) (hp : ((pc : Int) + o).toNat = pt) (hq : pc + 3 = pc') (kt : (0 < x) → Ends p e below s n0 C S Q T (mkF m pt Ls stk)) (kf : ¬ (0 < x) → Ends p e below s n0 C S Q T (mkF m pc' Ls stk)) : Ends p e below s n0 C S Q T (mkF m pc Ls (.int x :: stk)) := by
  obtain ⟨locs, Y, hx, hZ, hc, ho, hr, hm, hn, hk, hh, hF, h0⟩ := X
  subst hq
  by_cases q : 0 < x
  · exact (kt q).by fun _ z => XS.ifYes Y.here hx rfl rfl (hb hc hd) rfl ((if0 _ _).trans (tlt q).2.2.1) hof hp z
  · exact (kf q).by fun _ z => XS.ifNo Y.here hx rfl (hb hc hd) rfl ((if0 _ _).trans (flt q).2.2.1) z
theorem F_lif_gt (X : St p l e R s m args below meth c Z code own ret ml nm n0 T h cells slots) {x y : Int64} {o : Int} {pt : Nat} (hd : decode code pc = .ok (.ifCond .gt o, 3)) (hof : 0 ≤ (pc : Int) + o) (hp : ((pc : Int) + o).toNat = pt) (hq : pc + 3 = pc') (kt : (y < x) → Ends p e below s n0 C S Q T (mkF m pt Ls stk)) (kf : ¬ (y < x) → Ends p e below s n0 C S Q T (mkF m pc' Ls stk)) : Ends p e below s n0 C S Q T (mkF m pc Ls (.int (lcmpW x y) :: stk)) := by
  obtain ⟨locs, Y, hx, hZ, hc, ho, hr, hm, hn, hk, hh, hF, h0⟩ := X
  subst hq
  by_cases q : y < x
  · exact (kt q).by fun _ z => XS.ifYes Y.here hx rfl rfl (hb hc hd) rfl ((if0 _ _).trans (tlt ((lw_gt _ _).mpr q)).2.2.1) hof hp z
  · exact (kf q).by fun _ z => XS.ifNo Y.here hx rfl (hb hc hd) rfl ((if0 _ _).trans (flt (fun z => q ((lw_gt _ _).mp z))).2.2.1) z
theorem F_icmp_le (X : St p l e R s m args below meth c Z code own ret ml nm n0 T h cells slots) {x y : Int32} {o : Int} {pt : Nat} (hd : decode code pc = .ok (.if_icmp .le o, 3)) (hof : 0 ≤ (pc : Int) + o) (hp : ((pc : Int) + o).toNat = pt) (hq : pc + 3 = pc') (kt : ¬ (y < x) → Ends p e below s n0 C S Q T (mkF m pt Ls stk)) (kf : (y < x) → Ends p e below s n0 C S Q T (mkF m pc' Ls stk)) : Ends p e below s n0 C S Q T (mkF m pc Ls (.int y :: .int x :: stk)) := by
  obtain ⟨locs, Y, hx, hZ, hc, ho, hr, hm, hn, hk, hh, hF, h0⟩ := X
  subst hq
  by_cases q : y < x
  · exact (kf q).by fun _ z => XS.icmpNo Y.here hx rfl (hb hc hd) rfl (tlt q).2.2.2 z
  · exact (kt q).by fun _ z => XS.icmpYes Y.here hx rfl rfl (hb hc hd) rfl (flt q).2.2.2 hof hp z
theorem F_if_le (X : St p l e R s m args below meth c Z code own ret ml nm n0 T h cells slots) {x : Int32} {o : Int} {pt : Nat} (hd : decode code pc = .ok (.ifCond .le o, 3)) (hof : 0 ≤ (pc : Int) + o) (hp : ((pc : Int) + o).toNat = pt) (hq : pc + 3 = pc') (kt : ¬ (0 < x) → Ends p e below s n0 C S Q T (mkF m pt Ls stk)) (kf : (0 < x) → Ends p e below s n0 C S Q T (mkF m pc' Ls stk)) : Ends p e below s n0 C S Q T (mkF m pc Ls (.int x :: stk)) := by
  obtain ⟨locs, Y, hx, hZ, hc, ho, hr, hm, hn, hk, hh, hF, h0⟩ := X
  subst hq
  by_cases q : 0 < x
  · exact (kf q).by fun _ z => XS.ifNo Y.here hx rfl (hb hc hd) rfl ((if0 _ _).trans (tlt q).2.2.2) z
  · exact (kt q).by fun _ z => XS.ifYes Y.here hx rfl rfl (hb hc hd) rfl ((if0 _ _).trans (flt q).2.2.2) hof hp z
theorem F_lif_le (X : St p l e R s m args below meth c Z code own ret ml nm n0 T h cells slots) {x y : Int64} {o : Int} {pt : Nat} (hd : decode code pc = .ok (.ifCond .le o, 3)) (hof : 0 ≤ (pc : Int) + o) (hp : ((pc : Int) + o).toNat = pt) (hq : pc + 3 = pc') (kt : ¬ (y < x) → Ends p e below s n0 C S Q T (mkF m pt Ls stk)) (kf : (y < x) → Ends p e below s n0 C S Q T (mkF m pc' Ls stk)) : Ends p e below s n0 C S Q T (mkF m pc Ls (.int (lcmpW x y) :: stk)) := by
  obtain ⟨locs, Y, hx, hZ, hc, ho, hr, hm, hn, hk, hh, hF, h0⟩ := X
  subst hq
  by_cases q : y < x
  · exact (kf q).by fun _ z => XS.ifNo Y.here hx rfl (hb hc hd) rfl ((if0 _ _).trans (tlt ((lw_gt _ _).mpr q)).2.2.2) z
  · exact (kt q).by fun _ z => XS.ifYes Y.here hx rfl rfl (hb hc hd) rfl ((if0 _ _).trans (flt (fun z => q ((lw_gt _ _).mp z))).2.2.2) hof hp z
theorem F_icmp_eq (X : St p l e R s m args below meth c Z code own ret ml nm n0 T h cells slots) {x y : Int32} {o : Int} {pt : Nat} (hd : decode code pc = .ok (.if_icmp .eq o, 3)) (hof : 0 ≤ (pc : Int) + o) (hp : ((pc : Int) + o).toNat = pt) (hq : pc + 3 = pc') (kt : (x = y) → Ends p e below s n0 C S Q T (mkF m pt Ls stk)) (kf : ¬ (x = y) → Ends p e below s n0 C S Q T (mkF m pc' Ls stk)) : Ends p e below s n0 C S Q T (mkF m pc Ls (.int y :: .int x :: stk)) := by
  obtain ⟨locs, Y, hx, hZ, hc, ho, hr, hm, hn, hk, hh, hF, h0⟩ := X
  subst hq
  by_cases q : x = y
  · exact (kt q).by fun _ z => XS.icmpYes Y.here hx rfl rfl (hb hc hd) rfl (teq q).1 hof hp z
  · exact (kf q).by fun _ z => XS.icmpNo Y.here hx rfl (hb hc hd) rfl (feq q).1 z
theorem F_if_eq (X : St p l e R s m args below meth c Z code own ret ml nm n0 T h cells slots) {x : Int32} {o : Int} {pt : Nat} (hd : decode code pc = .ok (.ifCond .eq o, 3)) (hof : 0 ≤ (pc : Int) + o) (hp : ((pc : Int) + o).toNat = pt) (hq : pc + 3 = pc') (kt : (x = 0) → Ends p e below s n0 C S Q T (mkF m pt Ls stk)) (kf : ¬ (x = 0) → Ends p e below s n0 C S Q T (mkF m pc' Ls stk)) : Ends p e below s n0 C S Q T (mkF m pc Ls (.int x :: stk)) := by
  obtain ⟨locs, Y, hx, hZ, hc, ho, hr, hm, hn, hk, hh, hF, h0⟩ := X
  subst hq
  by_cases q : x = 0
  · exact (kt q).by fun _ z => XS.ifYes Y.here hx rfl rfl (hb hc hd) rfl ((if0 _ _).trans (teq q).1) hof hp z
  · exact (kf q).by fun _ z => XS.ifNo Y.here hx rfl (hb hc hd) rfl ((if0 _ _).trans (feq q).1) z
theorem F_lif_eq (X : St p l e R s m args below meth c Z code own ret ml nm n0 T h cells slots) {x y : Int64} {o : Int} {pt : Nat} (hd : decode code pc = .ok (.ifCond .eq o, 3)) (hof : 0 ≤ (pc : Int) + o) (hp : ((pc : Int) + o).toNat = pt) (hq : pc + 3 = pc') (kt : (x = y) → Ends p e below s n0 C S Q T (mkF m pt Ls stk)) (kf : ¬ (x = y) → Ends p e below s n0 C S Q T (mkF m pc' Ls stk)) : Ends p e below s n0 C S Q T (mkF m pc Ls (.int (lcmpW x y) :: stk)) := by
  obtain ⟨locs, Y, hx, hZ, hc, ho, hr, hm, hn, hk, hh, hF, h0⟩ := X
  subst hq
  by_cases q : x = y
  · exact (kt q).by fun _ z => XS.ifYes Y.here hx rfl rfl (hb hc hd) rfl ((if0 _ _).trans (teq ((lw_eq _ _).mpr q)).1) hof hp z
  · exact (kf q).by fun _ z => XS.ifNo Y.here hx rfl (hb hc hd) rfl ((if0 _ _).trans (feq (fun z => q ((lw_eq _ _).mp z))).1) z
theorem F_icmp_ne (X : St p l e R s m args below meth c Z code own ret ml nm n0 T h cells slots) {x y : Int32} {o : Int} {pt : Nat} (hd : decode code pc = .ok (.if_icmp .ne o, 3)) (hof : 0 ≤ (pc : Int) + o) (hp : ((pc : Int) + o).toNat = pt) (hq : pc + 3 = pc') (kt : ¬ (x = y) → Ends p e below s n0 C S Q T (mkF m pt Ls stk)) (kf : (x = y) → Ends p e below s n0 C S Q T (mkF m pc' Ls stk)) : Ends p e below s n0 C S Q T (mkF m pc Ls (.int y :: .int x :: stk)) := by
  obtain ⟨locs, Y, hx, hZ, hc, ho, hr, hm, hn, hk, hh, hF, h0⟩ := X
  subst hq
  by_cases q : x = y
  · exact (kf q).by fun _ z => XS.icmpNo Y.here hx rfl (hb hc hd) rfl (teq q).2 z
  · exact (kt q).by fun _ z => XS.icmpYes Y.here hx rfl rfl (hb hc hd) rfl (feq q).2 hof hp z
theorem F_if_ne (X : St p l e R s m args below meth c Z code own ret ml nm n0 T h cells slots) {x : Int32} {o : Int} {pt : Nat} (hd : decode code pc = .ok (.ifCond .ne o, 3)) (hof : 0 ≤ (pc : Int) + o) (hp : ((pc : Int) + o).toNat = pt) (hq : pc + 3 = pc') (kt : ¬ (x = 0) → Ends p e below s n0 C S Q T (mkF m pt Ls stk)) (kf : (x = 0) → Ends p e below s n0 C S Q T (mkF m pc' Ls stk)) : Ends p e below s n0 C S Q T (mkF m pc Ls (.int x :: stk)) := by
  obtain ⟨locs, Y, hx, hZ, hc, ho, hr, hm, hn, hk, hh, hF, h0⟩ := X
  subst hq
  by_cases q : x = 0
  · exact (kf q).by fun _ z => XS.ifNo Y.here hx rfl (hb hc hd) rfl ((if0 _ _).trans (teq q).2) z
  · exact (kt q).by fun _ z => XS.ifYes Y.here hx rfl rfl (hb hc hd) rfl ((if0 _ _).trans (feq q).2) hof hp z
theorem F_lif_ne (X : St p l e R s m args below meth c Z code own ret ml nm n0 T h cells slots) {x y : Int64} {o : Int} {pt : Nat} (hd : decode code pc = .ok (.ifCond .ne o, 3)) (hof : 0 ≤ (pc : Int) + o) (hp : ((pc : Int) + o).toNat = pt) (hq : pc + 3 = pc') (kt : ¬ (x = y) → Ends p e below s n0 C S Q T (mkF m pt Ls stk)) (kf : (x = y) → Ends p e below s n0 C S Q T (mkF m pc' Ls stk)) : Ends p e below s n0 C S Q T (mkF m pc Ls (.int (lcmpW x y) :: stk)) := by
  obtain ⟨locs, Y, hx, hZ, hc, ho, hr, hm, hn, hk, hh, hF, h0⟩ := X
  subst hq
  by_cases q : x = y
  · exact (kf q).by fun _ z => XS.ifNo Y.here hx rfl (hb hc hd) rfl ((if0 _ _).trans (teq ((lw_eq _ _).mpr q)).2) z
  · exact (kt q).by fun _ z => XS.ifYes Y.here hx rfl rfl (hb hc hd) rfl ((if0 _ _).trans (feq (fun z => q ((lw_eq _ _).mp z))).2) hof hp z
theorem F_ifnull_null (X : St p l e R s m args below meth c Z code own ret ml nm n0 T h cells slots) {o : Int} {pt : Nat} (hd : decode code pc = .ok (.ifnull o, 3)) (hof : 0 ≤ (pc : Int) + o) (hp : ((pc : Int) + o).toNat = pt) (k : Ends p e below s n0 C S Q T (mkF m pt Ls stk)) : Ends p e below s n0 C S Q T (mkF m pc Ls (.null :: stk)) := by
  obtain ⟨locs, Y, hx, hZ, hc, ho, hr, hm, hn, hk, hh, hF, h0⟩ := X
  exact k.by fun _ z => XS.ifnullYes Y.here hx rfl rfl (hb hc hd) rfl hof hp z
theorem F_ifnull_ref (X : St p l e R s m args below meth c Z code own ret ml nm n0 T h cells slots) {a : Addr} {o : Int} (hd : decode code pc = .ok (.ifnull o, 3)) (hq : pc + 3 = pc') (k : Ends p e below s n0 C S Q T (mkF m pc' Ls stk)) : Ends p e below s n0 C S Q T (mkF m pc Ls (.ref a :: stk)) := by
  obtain ⟨locs, Y, hx, hZ, hc, ho, hr, hm, hn, hk, hh, hF, h0⟩ := X
  subst hq
  exact k.by fun _ z => XS.ifnullNo Y.here hx rfl (hb hc hd) rfl z
theorem F_ifnonnull_null (X : St p l e R s m args below meth c Z code own ret ml nm n0 T h cells slots) {o : Int} (hd : decode code pc = .ok (.ifnonnull o, 3)) (hq : pc + 3 = pc') (k : Ends p e below s n0 C S Q T (mkF m pc' Ls stk)) : Ends p e below s n0 C S Q T (mkF m pc Ls (.null :: stk)) := by
  obtain ⟨locs, Y, hx, hZ, hc, ho, hr, hm, hn, hk, hh, hF, h0⟩ := X
  subst hq
  exact k.by fun _ z => XS.ifnonnullNo Y.here hx rfl (hb hc hd) rfl z
theorem F_ifnonnull_ref (X : St p l e R s m args below meth c Z code own ret ml nm n0 T h cells slots) {a : Addr} {o : Int} {pt : Nat} (hd : decode code pc = .ok (.ifnonnull o, 3)) (hof : 0 ≤ (pc : Int) + o) (hp : ((pc : Int) + o).toNat = pt) (k : Ends p e below s n0 C S Q T (mkF m pt Ls stk)) : Ends p e below s n0 C S Q T (mkF m pc Ls (.ref a :: stk)) := by
  obtain ⟨locs, Y, hx, hZ, hc, ho, hr, hm, hn, hk, hh, hF, h0⟩ := X
  exact k.by fun _ z => XS.ifnonnullYes Y.here hx rfl rfl (hb hc hd) rfl hof hp z
theorem F_acmp (X : St p l e R s m args below meth c Z code own ret ml nm n0 T h cells slots) {cd : ACond} {v w : Value} {o : Int} {same : Bool} (hd : decode code pc = .ok (.if_acmp cd o, 3)) (h1 : v.isRef = true) (h2 : w.isRef = true) (hq : decide (v = w) = same) (hof : 0 ≤ (pc : Int) + o) (hp : pc' = if acV cd same = true then ((pc : Int) + o).toNat else pc + 3) (k : Ends p e below s n0 C S Q T (mkF m pc' Ls stk)) : Ends p e below s n0 C S Q T (mkF m pc Ls (w :: v :: stk)) := by
  obtain ⟨locs, Y, hx, hZ, hc, ho, hr, hm, hn, hk, hh, hF, h0⟩ := X
  exact k.by fun _ z => Jvm.RoadKit.acmp Y hx rfl h1 h2 rfl (hb hc hd) rfl hq hof hp z
variable {a0 : Array Value}
theorem F_ldcInt (X : St p l e R s m args below meth c Z code own ret ml nm n0 T h cells slots) {idx : Nat} {v : Int32} (w : (Cond.constant own idx v).before a0 Z = true) (hd : decode code pc = .ok (.ldc idx, 2)) (hp : pc + 2 = pc') (k : Ends p e below s n0 C S Q T (mkF m pc' Ls (.int v :: stk))) : Ends p e below s n0 C S Q T (mkF m pc Ls stk) := by
  obtain ⟨locs, Y, hx, hZ, hc, ho, hr, hm, hn, hk, hh, hF, h0⟩ := X
  subst hp
  exact k.by (Y.ldcInt hx ho (mvT hZ w) (g := mkF m pc Ls stk) rfl (hb hc hd))
theorem F_ldcwInt (X : St p l e R s m args below meth c Z code own ret ml nm n0 T h cells slots) {idx : Nat} {v : Int32} (w : (Cond.constant own idx v).before a0 Z = true) (hd : decode code pc = .ok (.ldc_w idx, 3)) (hp : pc + 3 = pc') (k : Ends p e below s n0 C S Q T (mkF m pc' Ls (.int v :: stk))) : Ends p e below s n0 C S Q T (mkF m pc Ls stk) := by
  obtain ⟨locs, Y, hx, hZ, hc, ho, hr, hm, hn, hk, hh, hF, h0⟩ := X
  subst hp
  exact k.by (Y.ldcwInt hx ho (mvT hZ w) (g := mkF m pc Ls stk) rfl (hb hc hd))
theorem F_ldc2Long (X : St p l e R s m args below meth c Z code own ret ml nm n0 T h cells slots) {idx : Nat} {v : Int64} (w : (Cond.constantLong own idx v).before a0 Z = true) (hd : decode code pc = .ok (.ldc2_w idx, 3)) (hp : pc + 3 = pc') (k : Ends p e below s n0 C S Q T (mkF m pc' Ls (.long v :: stk))) : Ends p e below s n0 C S Q T (mkF m pc Ls stk) := by
  obtain ⟨locs, Y, hx, hZ, hc, ho, hr, hm, hn, hk, hh, hF, h0⟩ := X
  subst hp
  exact k.by (Y.ldc2Long hx ho (mvT hZ w) (g := mkF m pc Ls stk) rfl (hb hc hd))
theorem F_ldc2Double (X : St p l e R s m args below meth c Z code own ret ml nm n0 T h cells slots) {idx : Nat} {v : UInt64} (w : (Cond.constantDouble own idx v).before a0 Z = true) (hd : decode code pc = .ok (.ldc2_w idx, 3)) (hp : pc + 3 = pc') (k : Ends p e below s n0 C S Q T (mkF m pc' Ls (.double v :: stk))) : Ends p e below s n0 C S Q T (mkF m pc Ls stk) := by
  obtain ⟨locs, Y, hx, hZ, hc, ho, hr, hm, hn, hk, hh, hF, h0⟩ := X
  subst hp
  exact k.by (Y.ldc2DoubleC hx ho (mvT hZ w) (g := mkF m pc Ls stk) rfl (hb hc hd))
theorem F_ireturn (X : St p l e R s m args below meth c Z code own ret ml nm n0 T h cells slots) {z : Int32} (hd : decode code pc = .ok (.ireturn, 1)) (hret : ret = some .int) (hC : cells ≤ C) (hS : slots ≤ S) (hQ : Q (some (.int z)) h) : Ends p e below s n0 C S Q T (mkF m pc Ls (.int z :: stk)) := by
  obtain ⟨locs, Y, hx, hZ, hc, ho, hr, hm, hn, hk, hh, hF, h0⟩ := X
  obtain ⟨fs, hl, hrun, hend, hW, hsame⟩ := Y.leave (v := some (.int z)) (fun z => by rw [hr, hret] at z; cases z) hk
  refine ⟨_, _, retOut Y hx (hr.trans hret) rfl (Or.inl ⟨rfl, Or.inl rfl, _, rfl⟩) (hb hc hd) hl, hrun, hend, _, _, rfl, ⟨?_, hF⟩, ⟨_, rfl⟩, hW, hsame.mono hC hS⟩
  show Q _ T.heap
  rw [hh]; exact hQ
theorem F_ireturn_boolean (X : St p l e R s m args below meth c Z code own ret ml nm n0 T h cells slots) {z z' : Int32} (hz : nar .boolean z = z') (hd : decode code pc = .ok (.ireturn, 1)) (hret : ret = some .boolean) (hC : cells ≤ C) (hS : slots ≤ S) (hQ : Q (some (.int z')) h) : Ends p e below s n0 C S Q T (mkF m pc Ls (.int z :: stk)) := by
  obtain ⟨locs, Y, hx, hZ, hc, ho, hr, hm, hn, hk, hh, hF, h0⟩ := X
  obtain ⟨fs, hl, hrun, hend, hW, hsame⟩ := Y.leave (v := some (.int z')) (fun z => by rw [hr, hret] at z; cases z) hk
  refine ⟨_, _, retN Y hx (t := .boolean) (hr.trans hret) (by simp) (hb hc hd) (hz ▸ hl), hrun, hend, _, _, rfl, ⟨?_, hF⟩, ⟨_, rfl⟩, hW, hsame.mono hC hS⟩
  show Q _ T.heap
  rw [hh]; exact hQ
theorem F_ireturn_byte (X : St p l e R s m args below meth c Z code own ret ml nm n0 T h cells slots) {z z' : Int32} (hz : nar .byte z = z') (hd : decode code pc = .ok (.ireturn, 1)) (hret : ret = some .byte) (hC : cells ≤ C) (hS : slots ≤ S) (hQ : Q (some (.int z')) h) : Ends p e below s n0 C S Q T (mkF m pc Ls (.int z :: stk)) := by
  obtain ⟨locs, Y, hx, hZ, hc, ho, hr, hm, hn, hk, hh, hF, h0⟩ := X
  obtain ⟨fs, hl, hrun, hend, hW, hsame⟩ := Y.leave (v := some (.int z')) (fun z => by rw [hr, hret] at z; cases z) hk
  refine ⟨_, _, retN Y hx (t := .byte) (hr.trans hret) (by simp) (hb hc hd) (hz ▸ hl), hrun, hend, _, _, rfl, ⟨?_, hF⟩, ⟨_, rfl⟩, hW, hsame.mono hC hS⟩
  show Q _ T.heap
  rw [hh]; exact hQ
theorem F_ireturn_char (X : St p l e R s m args below meth c Z code own ret ml nm n0 T h cells slots) {z z' : Int32} (hz : nar .char z = z') (hd : decode code pc = .ok (.ireturn, 1)) (hret : ret = some .char) (hC : cells ≤ C) (hS : slots ≤ S) (hQ : Q (some (.int z')) h) : Ends p e below s n0 C S Q T (mkF m pc Ls (.int z :: stk)) := by
  obtain ⟨locs, Y, hx, hZ, hc, ho, hr, hm, hn, hk, hh, hF, h0⟩ := X
  obtain ⟨fs, hl, hrun, hend, hW, hsame⟩ := Y.leave (v := some (.int z')) (fun z => by rw [hr, hret] at z; cases z) hk
  refine ⟨_, _, retN Y hx (t := .char) (hr.trans hret) (by simp) (hb hc hd) (hz ▸ hl), hrun, hend, _, _, rfl, ⟨?_, hF⟩, ⟨_, rfl⟩, hW, hsame.mono hC hS⟩
  show Q _ T.heap
  rw [hh]; exact hQ
theorem F_ireturn_short (X : St p l e R s m args below meth c Z code own ret ml nm n0 T h cells slots) {z z' : Int32} (hz : nar .short z = z') (hd : decode code pc = .ok (.ireturn, 1)) (hret : ret = some .short) (hC : cells ≤ C) (hS : slots ≤ S) (hQ : Q (some (.int z')) h) : Ends p e below s n0 C S Q T (mkF m pc Ls (.int z :: stk)) := by
  obtain ⟨locs, Y, hx, hZ, hc, ho, hr, hm, hn, hk, hh, hF, h0⟩ := X
  obtain ⟨fs, hl, hrun, hend, hW, hsame⟩ := Y.leave (v := some (.int z')) (fun z => by rw [hr, hret] at z; cases z) hk
  refine ⟨_, _, retN Y hx (t := .short) (hr.trans hret) (by simp) (hb hc hd) (hz ▸ hl), hrun, hend, _, _, rfl, ⟨?_, hF⟩, ⟨_, rfl⟩, hW, hsame.mono hC hS⟩
  show Q _ T.heap
  rw [hh]; exact hQ
theorem F_return (X : St p l e R s m args below meth c Z code own ret ml nm n0 T h cells slots)  (hd : decode code pc = .ok (.return_, 1)) (hret : ret = none) (hC : cells ≤ C) (hS : slots ≤ S) (hQ : Q (none) h) : Ends p e below s n0 C S Q T (mkF m pc Ls ([])) := by
  obtain ⟨locs, Y, hx, hZ, hc, ho, hr, hm, hn, hk, hh, hF, h0⟩ := X
  obtain ⟨fs, hl, hrun, hend, hW, hsame⟩ := Y.leave (v := none) (fun _ => rfl) hk
  refine ⟨_, _, Y.returnOut hx (hr.trans hret) (hb hc hd) hl, hrun, hend, _, _, rfl, ⟨?_, hF⟩, ⟨_, rfl⟩, hW, hsame.mono hC hS⟩
  show Q _ T.heap
  rw [hh]; exact hQ
theorem F_lreturn (X : St p l e R s m args below meth c Z code own ret ml nm n0 T h cells slots) {z : Int64} (hd : decode code pc = .ok (.lreturn, 1)) (hret : ret = some .long) (hC : cells ≤ C) (hS : slots ≤ S) (hQ : Q (some (.long z)) h) : Ends p e below s n0 C S Q T (mkF m pc Ls ([.long z])) := by
  obtain ⟨locs, Y, hx, hZ, hc, ho, hr, hm, hn, hk, hh, hF, h0⟩ := X
  obtain ⟨fs, hl, hrun, hend, hW, hsame⟩ := Y.leave (v := some (.long z)) (fun z => by rw [hr, hret] at z; cases z) hk
  refine ⟨_, _, Y.lreturnOut hx (hr.trans hret) (hb hc hd) hl, hrun, hend, _, _, rfl, ⟨?_, hF⟩, ⟨_, rfl⟩, hW, hsame.mono hC hS⟩
  show Q _ T.heap
  rw [hh]; exact hQ
theorem F_areturn (X : St p l e R s m args below meth c Z code own ret ml nm n0 T h cells slots) {v : Value} {t : FieldType} (ht : t.isReference = true) (hv : v.isRef = true) (hn' : narrow t v = v) (hd : decode code pc = .ok (.areturn, 1)) (hret : ret = some t) (hC : cells ≤ C) (hS : slots ≤ S) (hQ : Q (some v) h) : Ends p e below s n0 C S Q T (mkF m pc Ls (v :: stk)) := by
  obtain ⟨locs, Y, hx, hZ, hc, ho, hr, hm, hn, hk, hh, hF, h0⟩ := X
  obtain ⟨fs, hl, hrun, hend, hW, hsame⟩ := Y.leave (v := some v) (fun z => by rw [hr, hret] at z; cases z) hk
  refine ⟨_, _, retOut Y hx (hr.trans hret) hn' (Or.inr (Or.inr (Or.inr (Or.inr ⟨rfl, ht, hv⟩)))) (hb hc hd) hl, hrun, hend, _, _, rfl, ⟨?_, hF⟩, ⟨_, rfl⟩, hW, hsame.mono hC hS⟩
  show Q _ T.heap
  rw [hh]; exact hQ
theorem F_callS (X : St p l e R s m args below meth c Z code own ret ml nm n0 T h cells slots) {y : MethodName} {bytes : ByteArray} {maxL : Nat} {rt : Option FieldType} {rm : Room} {Q' : Option Value → Heap → Prop} {idx : Nat} (w1 : (Cond.methodLink own idx y).before a0 Z = true) (w2 : (Cond.static y).before a0 Z = true) (w3 : (Cond.initialized y.cls).before a0 Z = true) (w4 : (Cond.code y bytes maxL rt).before a0 Z = true) (hy : y.cls ≠ "java/lang/invoke/MethodHandle" ∧ y.cls ≠ "java/lang/invoke/VarHandle")
    {argsL : List Value} (K : Con l y bytes maxL rt rm rm.cells rm.slots Z n0 argsL.toArray h Q') (r1 : rm.frames + 1 ≤ R.frames) {W : Nat} (hW : (stk.map fun v => v.category).sum ≤ W) (r2 : W + (maxL + 11) + rm.locals ≤ R.locals) (r3 : cells + rm.cells ≤ R.cells) (r4 : slots + rm.slots ≤ R.slots) (hls : Ls.size = ml) (hlen : ∀ sig, parseMethodDescriptor y.desc = some sig → argsL.length = sig.parameters.length) {stk0 : List Value} (hst : stk0 = argsL.reverse ++ stk) (hd : decode code pc = .ok (.invokestatic idx, 3)) (hp : pc + 3 = pc')
    (k : ∀ (T' : State) (v : Option Value) (h' : Heap), St p l e R s m args below meth c Z code own ret ml nm n0 T' h' (cells + rm.cells) (slots + rm.slots) → Q' v h' → Ends p e below s n0 C S Q T' (mkF m pc' Ls (v.toList ++ stk))) : Ends p e below s n0 C S Q T (mkF m pc Ls stk0) := by
  obtain ⟨locs, Y, hx, hZ, hc, ho, hr, hm, hn, hk, hh, hF, h0⟩ := X
  subst hp hst
  obtain ⟨v, vm1, ⟨T', L', k', n'⟩, -, Y', ⟨L, q1, q2, q3, q4⟩, st⟩ := Jvm.LawKit.callS Y hx (y := y) ho (mvT hZ w1) (mvT hZ w2) (mvT hZ w3) (mvT hZ w4) hy (backOf (W := W) (Q := fun v h' L => Q' v h' ∧ Fr n0 L) (K []) hZ w4 w3 r1 r2) (g := mkF m pc Ls (argsL.reverse ++ stk)) rfl (by rw [hm]; exact hls) (argsL := argsL) (rest := stk) hlen rfl (by show 2 * 0 + _ ≤ _; omega) (hb hc hd) (fun _ _ => ⟨rfl, hh, r3, r4⟩)
  dsimp only [Pt.U, Pt.locs, Pt.cells, Pt.slots] at Y' q2 q3 q4 st q1
  subst q2 q3 q4
  obtain ⟨q1, q5⟩ := q1
  exact (k T' v T'.heap ⟨_, Y', hx, hZ, hc, ho, hr, hm, hn, hk, rfl, Fr.app hF q5, h0⟩ q1).by st
theorem F_init (X : St p l e R s m args below meth c Z code own ret ml nm n0 T h cells slots) {y : MethodName} {bytes : ByteArray} {maxL : Nat} {rm : Room} {Q' : Option Value → Heap → Prop} {idx : Nat} (hy1 : y.name = "<init>") (w1 : (Cond.methodLink own idx y).before a0 Z = true) (w2 : (Cond.instanceMethod y).before a0 Z = true) (w3 : (Cond.initialized y.cls).before a0 Z = true) (w4 : (Cond.code y bytes maxL none).before a0 Z = true) (hy : y.cls ≠ "java/lang/invoke/MethodHandle" ∧ y.cls ≠ "java/lang/invoke/VarHandle")
    {a : Addr} {argsL : List Value} (K : Con l y bytes maxL none rm rm.cells rm.slots Z n0 (.ref a :: argsL).toArray h Q') (r1 : rm.frames + 1 ≤ R.frames) {W : Nat} (hW : (stk.map fun v => v.category).sum ≤ W) (r2 : W + (maxL + 11) + rm.locals ≤ R.locals) (r3 : cells + rm.cells ≤ R.cells) (r4 : slots + rm.slots ≤ R.slots) (hls : Ls.size = ml) (hlen : ∀ sig, parseMethodDescriptor y.desc = some sig → argsL.length = sig.parameters.length) {stk0 : List Value} (hst : stk0 = argsL.reverse ++ .ref a :: stk) (hd : decode code pc = .ok (.invokespecial idx, 3)) (hp : pc + 3 = pc')
    (k : ∀ (T' : State) (v : Option Value) (h' : Heap), St p l e R s m args below meth c Z code own ret ml nm n0 T' h' (cells + rm.cells) (slots + rm.slots) → Q' v h' → Ends p e below s n0 C S Q T' (mkF m pc' Ls (v.toList ++ stk))) : Ends p e below s n0 C S Q T (mkF m pc Ls stk0) := by
  obtain ⟨locs, Y, hx, hZ, hc, ho, hr, hm, hn, hk, hh, hF, h0⟩ := X
  subst hp hst
  obtain ⟨v, vm1, ⟨T', L', k', n'⟩, -, Y', ⟨L, q1, q2, q3, q4⟩, st⟩ := Y.specialBack hx (y := y) hy1 ho (mvT hZ w1) (mvT hZ w2) (mvT hZ w4) hy (backOf (W := W) (Q := fun v h' L => Q' v h' ∧ Fr n0 L) (K []) hZ w4 w3 r1 r2) (g := mkF m pc Ls (argsL.reverse ++ .ref a :: stk)) rfl (by rw [hm]; exact hls) (Steps.refl _) (a := a) (argsL := argsL) (rest := stk) hlen rfl (by show 2 * 0 + _ ≤ _; omega) (hb hc hd) (fun _ _ => ⟨rfl, hh, r3, r4⟩)
  dsimp only [Pt.U, Pt.locs, Pt.cells, Pt.slots] at Y' q2 q3 q4 st q1
  subst q2 q3 q4
  obtain ⟨q1, q5⟩ := q1
  exact (k T' v T'.heap ⟨_, Y', hx, hZ, hc, ho, hr, hm, hn, hk, rfl, Fr.app hF q5, h0⟩ q1).by fun _ z => st.trans z
theorem F_callV (X : St p l e R s m args below meth c Z code own ret ml nm n0 T h cells slots) {y : MethodName} {bytes : ByteArray} {maxL : Nat} {rt : Option FieldType} {rm : Room} {Q' : Option Value → Heap → Prop} {idx : Nat} (w1 : (Cond.methodLink own idx y).before a0 Z = true) (w5 : (Cond.declares y).before a0 Z = true) (w6 : (Cond.selects y.cls y y).before a0 Z = true) (w2 : (Cond.instanceMethod y).before a0 Z = true) (w3 : (Cond.initialized y.cls).before a0 Z = true) (w4 : (Cond.code y bytes maxL rt).before a0 Z = true) (hy : y.cls ≠ "java/lang/invoke/MethodHandle" ∧ y.cls ≠ "java/lang/invoke/VarHandle")
    {a : Addr} (E : Exa Z h a y.cls) {argsL : List Value} (K : Con l y bytes maxL rt rm rm.cells rm.slots Z n0 (.ref a :: argsL).toArray h Q') (r1 : rm.frames + 1 ≤ R.frames) {W : Nat} (hW : (stk.map fun v => v.category).sum ≤ W) (r2 : W + (maxL + 11) + rm.locals ≤ R.locals) (r3 : cells + rm.cells ≤ R.cells) (r4 : slots + rm.slots ≤ R.slots) (hls : Ls.size = ml) (hlen : ∀ sig, parseMethodDescriptor y.desc = some sig → argsL.length = sig.parameters.length) {stk0 : List Value} (hst : stk0 = argsL.reverse ++ .ref a :: stk) (hd : decode code pc = .ok (.invokevirtual idx, 3)) (hp : pc + 3 = pc')
    (k : ∀ (T' : State) (v : Option Value) (h' : Heap), St p l e R s m args below meth c Z code own ret ml nm n0 T' h' (cells + rm.cells) (slots + rm.slots) → Q' v h' → Ends p e below s n0 C S Q T' (mkF m pc' Ls (v.toList ++ stk))) : Ends p e below s n0 C S Q T (mkF m pc Ls stk0) := by
  obtain ⟨locs, Y, hx, hZ, hc, ho, hr, hm, hn, hk, hh, hF, h0⟩ := X
  subst hp hst
  obtain ⟨cq, kq, qa, qb, qc⟩ := isOf hZ hh E
  obtain ⟨v, vm1, ⟨T', L', k', n'⟩, -, Y', ⟨L, q1, q2, q3, q4⟩, st⟩ := Y.virtualBack hx (y := y) (z := y) ho (mvT hZ w1) (mvT hZ w5) (notFace_of_selects (args := #[]) (mvT hZ w6)) (mvT hZ w6) (mvT hZ w2) hy (backOf (W := W) (Q := fun v h' L => Q' v h' ∧ Fr n0 L) (K []) hZ w4 w3 r1 r2) qa qc (g := mkF m pc Ls (argsL.reverse ++ .ref a :: stk)) rfl (by rw [hm]; exact hls) (Steps.refl _) (argsL := argsL) (rest := stk) hlen rfl (by show 2 * 0 + _ ≤ _; omega) (hb hc hd) (fun _ _ => ⟨rfl, hh, r3, r4⟩)
  dsimp only [Pt.U, Pt.locs, Pt.cells, Pt.slots] at Y' q2 q3 q4 st q1
  subst q2 q3 q4
  obtain ⟨q1, q5⟩ := q1
  exact (k T' v T'.heap ⟨_, Y', hx, hZ, hc, ho, hr, hm, hn, hk, rfl, Fr.app hF q5, h0⟩ q1).by fun _ z => st.trans z
theorem F_callP (X : St p l e R s m args below meth c Z code own ret ml nm n0 T h cells slots) {y : MethodName} {bytes : ByteArray} {maxL : Nat} {rt : Option FieldType} {rm : Room} {Q' : Option Value → Heap → Prop} {idx : Nat} {kk : Nat} (w1 : (Cond.methodLink own idx y).before a0 Z = true) (wp : (Cond.privateMethod y).before a0 Z = true) (wi : (Cond.instantiable y.cls kk).before a0 Z = true) (w2 : (Cond.instanceMethod y).before a0 Z = true) (w3 : (Cond.initialized y.cls).before a0 Z = true) (w4 : (Cond.code y bytes maxL rt).before a0 Z = true) (hy : y.cls ≠ "java/lang/invoke/MethodHandle" ∧ y.cls ≠ "java/lang/invoke/VarHandle")
    {a : Addr} (E : Exa Z h a y.cls) {argsL : List Value} (K : Con l y bytes maxL rt rm rm.cells rm.slots Z n0 (.ref a :: argsL).toArray h Q') (r1 : rm.frames + 1 ≤ R.frames) {W : Nat} (hW : (stk.map fun v => v.category).sum ≤ W) (r2 : W + (maxL + 11) + rm.locals ≤ R.locals) (r3 : cells + rm.cells ≤ R.cells) (r4 : slots + rm.slots ≤ R.slots) (hls : Ls.size = ml) (hlen : ∀ sig, parseMethodDescriptor y.desc = some sig → argsL.length = sig.parameters.length) {stk0 : List Value} (hst : stk0 = argsL.reverse ++ .ref a :: stk) (hd : decode code pc = .ok (.invokevirtual idx, 3)) (hp : pc + 3 = pc')
    (k : ∀ (T' : State) (v : Option Value) (h' : Heap), St p l e R s m args below meth c Z code own ret ml nm n0 T' h' (cells + rm.cells) (slots + rm.slots) → Q' v h' → Ends p e below s n0 C S Q T' (mkF m pc' Ls (v.toList ++ stk))) : Ends p e below s n0 C S Q T (mkF m pc Ls stk0) := by
  obtain ⟨locs, Y, hx, hZ, hc, ho, hr, hm, hn, hk, hh, hF, h0⟩ := X
  subst hp hst
  obtain ⟨cq, q, q'⟩ := E.cell
  have wi' : (Cond.instantiable y.cls kk).before args s = true := mvT hZ wi
  obtain ⟨c1, k1, i1, i2, -, i4, -⟩ := Cond.instantiable_spec wi'
  have hpr := Cond.privateMethod_at (mvP hZ wp (args := #[]))
  have hsel : (Cond.selects y.cls y y).before args s = true := selects_self_of_private i1 i2 (by simp at i4; exact i4.1) hpr (mvT hZ w2) hy
  obtain ⟨v, vm1, ⟨T', L', k', n'⟩, -, Y', ⟨L, q1, q2, q3, q4⟩, st⟩ := Y.privateBack hx (y := y) ho (mvT hZ w1) (mvT hZ w2) hsel hpr (mvT hZ w4) hy (backOf (W := W) (Q := fun v h' L => Q' v h' ∧ Fr n0 L) (K []) hZ w4 w3 r1 r2) (g := mkF m pc Ls (argsL.reverse ++ .ref a :: stk)) rfl (by rw [hm]; exact hls) (Steps.refl _) (a := a) (by rw [hh]; exact q) q' (argsL := argsL) (rest := stk) hlen rfl (by show 2 * 0 + _ ≤ _; omega) (hb hc hd) (fun _ _ => ⟨rfl, hh, r3, r4⟩)
  dsimp only [Pt.U, Pt.locs, Pt.cells, Pt.slots] at Y' q2 q3 q4 st q1
  subst q2 q3 q4
  obtain ⟨q1, q5⟩ := q1
  exact (k T' v T'.heap ⟨_, Y', hx, hZ, hc, ho, hr, hm, hn, hk, rfl, Fr.app hF q5, h0⟩ q1).by fun _ z => st.trans z
theorem F_objInit (X : St p l e R s m args below meth c Z code own ret ml nm n0 T h cells slots) {idx : Nat} {a : Addr} (w1 : (Cond.methodLink own idx Lib.objectInit).before a0 Z = true) (w2 : (Cond.instanceMethod Lib.objectInit).before a0 Z = true) (w3 : (Cond.code Lib.objectInit ⟨#[0xb1]⟩ 1 none).before a0 Z = true) (r1 : 1 ≤ R.frames) {W : Nat} (hW : (stk.map fun v => v.category).sum ≤ W) (r2 : W + 12 ≤ R.locals) (hls : Ls.size = ml) (hd : decode code pc = .ok (.invokespecial idx, 3)) (hp : pc + 3 = pc')
    (k : ∀ T' : State, St p l e R s m args below meth c Z code own ret ml nm n0 T' h cells slots → Ends p e below s n0 C S Q T' (mkF m pc' Ls stk)) : Ends p e below s n0 C S Q T (mkF m pc Ls (.ref a :: stk)) := by
  obtain ⟨locs, Y, hx, hZ, hc, ho, hr, hm, hn, hk, hh, hF, h0⟩ := X
  subst hp
  obtain ⟨T', Y', e', st⟩ := initO Y hx hZ ho w1 w2 w3 hh (g := mkF m pc Ls (.ref a :: stk)) rfl (by rw [hm]; exact hls) rfl (hb hc hd) r1 (W := W) (by show 2 * 0 + _ ≤ _; omega) r2
  exact (k T' ⟨_, Y', hx, hZ, hc, ho, hr, hm, hn, hk, e', hF, h0⟩).by st
theorem F_new (X : St p l e R s m args below meth c Z code own ret ml nm n0 T h cells slots) {idx n : Nat} {K : String} (w : (Cond.classLink own idx K).before a0 Z = true) (wi : (Cond.instantiable K n).before a0 Z = true) (wz : (Cond.initialized K).before a0 Z = true) (r3 : cells + 1 ≤ R.cells) (r4 : slots + n ≤ R.slots) (hd : decode code pc = .ok (.new idx, 3)) (hp : pc + 3 = pc')
    (k : ∀ (T' : State) (h' : Heap) (a : Addr), St p l e R s m args below meth c Z code own ret ml nm n0 T' h' (cells + 1) (slots + n) → Ext h h' → a = h.size → n0 ≤ a → Exa Z h' a K → (∀ {O nm d : String} {ty : FieldType}, Laid Z a0 K O nm d → parseFieldDescriptor d = some ty → Fld Z h' a O nm d (defaultValue ty)) → Ends p e below s n0 C S Q T' (mkF m pc' Ls (.ref a :: stk))) : Ends p e below s n0 C S Q T (mkF m pc Ls stk) := by
  have hsz := X.size
  obtain ⟨locs, Y, hx, hZ, hc, ho, hr, hm, hn, hk, hh, hF, h0⟩ := X
  subst hp
  obtain ⟨T', h', Y', e', E, A, D, -, st⟩ := newO Y hx hZ ho w wi wz hh (g := mkF m pc Ls stk) rfl (hb hc hd) r3 r4
  exact (k T' h' _ ⟨_, Y', hx, hZ, hc, ho, hr, hm, hn, hk, e', hF, h0⟩ E rfl hsz A D).by st
theorem F_getfield (X : St p l e R s m args below meth c Z code own ret ml nm n0 T h cells slots) {idx : Nat} {K f d : String} {a : Addr} {v : Value} (w : (Cond.fieldLink own idx K f d).before a0 Z = true) (F : Fld Z h a K f d v) (hd : decode code pc = .ok (.getfield idx, 3)) (hp : pc + 3 = pc')
    (k : ∀ T' : State, St p l e R s m args below meth c Z code own ret ml nm n0 T' h cells slots → Ends p e below s n0 C S Q T' (mkF m pc' Ls (v :: stk))) : Ends p e below s n0 C S Q T (mkF m pc Ls (.ref a :: stk)) := by
  obtain ⟨locs, Y, hx, hZ, hc, ho, hr, hm, hn, hk, hh, hF, h0⟩ := X
  subst hp
  obtain ⟨T', Y', e', st⟩ := getF Y hx hZ ho (host := "") (Or.inl w) Via.refl hh F (g := mkF m pc Ls (.ref a :: stk)) rfl rfl (hb hc hd)
  exact (k T' ⟨_, Y', hx, hZ, hc, ho, hr, hm, hn, hk, e', hF, h0⟩).by st
theorem F_putfield (X : St p l e R s m args below meth c Z code own ret ml nm n0 T h cells slots) {idx kk : Nat} {K f d : String} {a : Addr} {v old : Value} {ty : FieldType} (w : (Cond.fieldLink own idx K f d).before a0 Z = true) (F : Fld Z h a K f d old) (E : Exa Z h a K) (L : (Cond.lays K K f d).before a0 Z = true ∨ ((Cond.laysFinal K K f d).before a0 Z = true ∧ own = K ∧ nm = "<init>")) (wi : (Cond.instantiable K kk).before a0 Z = true) (hty : parseFieldDescriptor d = some ty) (hnr : narrow ty v = v) (hft : fits ty v = true) (ge : n0 ≤ a) (hd : decode code pc = .ok (.putfield idx, 3)) (hp : pc + 3 = pc')
    (k : ∀ (T' : State) (h' : Heap), St p l e R s m args below meth c Z code own ret ml nm n0 T' h' cells slots → Wr h h' a (Jvm.RoadKit.slotOf Z K f d) v → Ends p e below s n0 C S Q T' (mkF m pc' Ls stk)) : Ends p e below s n0 C S Q T (mkF m pc Ls (v :: .ref a :: stk)) := by
  obtain ⟨locs, Y, hx, hZ, hc, ho, hr, hm, hn, hk, hh, hF, h0⟩ := X
  subst hp
  obtain ⟨T', h', Y', e', W, st⟩ := putF Y hx hZ ho (host := "") (Or.inl w) Via.refl hh F E (L.imp id fun q => ⟨q.1, q.2.1, hn.trans q.2.2⟩) wi hty hnr hft (g := mkF m pc Ls (v :: .ref a :: stk)) rfl rfl (hb hc hd)
  exact (k T' h' ⟨_, Y', hx, hZ, hc, ho, hr, hm, hn, hk, e', Fr.snoc Y' hF ge, h0⟩ W).by st
theorem F_putfieldN (X : St p l e R s m args below meth c Z code own ret ml nm n0 T h cells slots) {idx kk : Nat} {K f d : String} {a : Addr} {v v' old : Value} {ty : FieldType} (w : (Cond.fieldLink own idx K f d).before a0 Z = true) (F : Fld Z h a K f d old) (E : Exa Z h a K) (L : (Cond.lays K K f d).before a0 Z = true ∨ ((Cond.laysFinal K K f d).before a0 Z = true ∧ own = K ∧ nm = "<init>")) (wi : (Cond.instantiable K kk).before a0 Z = true) (hty : parseFieldDescriptor d = some ty) (hnr : narrow ty v = v') (hft : fits ty v' = true) (ge : n0 ≤ a) (hd : decode code pc = .ok (.putfield idx, 3)) (hp : pc + 3 = pc')
    (k : ∀ (T' : State) (h' : Heap), St p l e R s m args below meth c Z code own ret ml nm n0 T' h' cells slots → Wr h h' a (Jvm.RoadKit.slotOf Z K f d) v' → Ends p e below s n0 C S Q T' (mkF m pc' Ls stk)) : Ends p e below s n0 C S Q T (mkF m pc Ls (v :: .ref a :: stk)) := by
  obtain ⟨locs, Y, hx, hZ, hc, ho, hr, hm, hn, hk, hh, hF, h0⟩ := X
  subst hp
  obtain ⟨T', h', Y', e', W, st⟩ := putFN Y hx hZ ho w Via.refl hh F E (L.imp id fun q => ⟨q.1, q.2.1, hn.trans q.2.2⟩) wi hty hnr hft (g := mkF m pc Ls (v :: .ref a :: stk)) rfl rfl (hb hc hd)
  exact (k T' h' ⟨_, Y', hx, hZ, hc, ho, hr, hm, hn, hk, e', Fr.snoc Y' hF ge, h0⟩ W).by st
/-- the array at a, of the component kind ty, holds just the values vs -/
def AV (Z : State) (h : Heap) (a : Addr) (ty : FieldType) (vs : List Value) : Prop := ∃ cl : Cell, Arr Z h a cl ty ∧ cl.slots.toList = vs ∧ vs.length < 2147483648 ∧ ∀ v ∈ vs, fits ty v = true
theorem AV.lt {a : Addr} {ty : FieldType} {vs : List Value} (A : AV Z h a ty vs) : a < h.size := by obtain ⟨cl, A, -⟩ := A; exact A.lt
theorem AV.ext {h' : Heap} {a : Addr} {ty : FieldType} {vs : List Value} (A : AV Z h a ty vs) (E : Ext h h') : AV Z h' a ty vs := by obtain ⟨cl, A, r⟩ := A; exact ⟨cl, A.ext E, r⟩
theorem AV.other {h' : Heap} {a b : Addr} {sl : Nat} {v : Value} {ty : FieldType} {vs : List Value} (A : AV Z h a ty vs) (W : Wr h h' b sl v) (q : a ≠ b) : AV Z h' a ty vs := by obtain ⟨cl, A, r⟩ := A; exact ⟨cl, A.other W q, r⟩
theorem AV.keep {h' : Heap} {a : Addr} {ws : List Addr} {ty : FieldType} {vs : List Value} (A : AV Z h a ty vs) (K : Keep h h' ws) (q : a ∉ ws) : AV Z h' a ty vs := by obtain ⟨cl, A, r⟩ := A; exact ⟨cl, ⟨K.2.1 a cl A.1 q, A.2⟩, r⟩
theorem AV.same {h' : Heap} {a : Addr} {j : Nat} {v : Value} {ty : FieldType} {vs : List Value} (A : AV Z h a ty vs) (W : Wr h h' a j v) (hf : fits ty v = true) : AV Z h' a ty (vs.set j v) := by
  obtain ⟨cl, A, r1, r2, r3⟩ := A
  refine ⟨cl.setSlot j v, A.same W, ?_, by simpa using r2, fun u hu => ?_⟩
  · rw [← r1]; simp [Cell.setSlot]
  · rcases List.mem_or_eq_of_mem_set hu with q | q
    · exact r3 u q
    · exact q ▸ hf
theorem idx_ok {cl : Cell} {vs : List Value} {v : Value} {j : Int32} (r1 : cl.slots.toList = vs) (hj : ¬ j < 0) (hv : vs[j.toNatClampNeg]? = some v) : ¬ (j < 0 ∨ cl.slots.size ≤ j.toNatClampNeg) ∧ cl.slots[j.toNatClampNeg]? = some v := by
  subst r1
  rw [Array.getElem?_toList] at hv
  exact ⟨fun q => q.elim hj fun q => (by rw [Array.getElem?_eq_none q] at hv; cases hv), hv⟩

theorem F_iaload (X : St p l e R s m args below meth c Z code own ret ml nm n0 T h cells slots) {a : Addr} {vs : List Value} {j : Int32} {v : Int32} (A : AV Z h a .int vs) (hj : ¬ j < 0) (hv : vs[j.toNatClampNeg]? = some (.int v)) (hd : decode code pc = .ok (.iaload, 1)) (hp : pc + 1 = pc') (k : Ends p e below s n0 C S Q T (mkF m pc' Ls (.int v :: stk))) : Ends p e below s n0 C S Q T (mkF m pc Ls (.int j :: .ref a :: stk)) := by
  obtain ⟨locs, Y, hx, hZ, hc, ho, hr, hm, hn, hk, hh, hF, h0⟩ := X
  subst hp
  obtain ⟨cl, A, r1, r2, r3⟩ := A
  obtain ⟨q1, q2⟩ := idx_ok r1 hj hv
  exact k.by fun _ z => Y.iaload hx (j := j) (by rw [hh]; exact A.1) (State.isArrayOf_alike hZ.alike A.2.1) A.2.2 q1 q2 (g := mkF m pc Ls (.int j :: .ref a :: stk)) rfl rfl (hb hc hd) _ z
theorem F_laload (X : St p l e R s m args below meth c Z code own ret ml nm n0 T h cells slots) {a : Addr} {vs : List Value} {j : Int32} {v : Int64} (A : AV Z h a .long vs) (hj : ¬ j < 0) (hv : vs[j.toNatClampNeg]? = some (.long v)) (hd : decode code pc = .ok (.laload, 1)) (hp : pc + 1 = pc') (k : Ends p e below s n0 C S Q T (mkF m pc' Ls (.long v :: stk))) : Ends p e below s n0 C S Q T (mkF m pc Ls (.int j :: .ref a :: stk)) := by
  obtain ⟨locs, Y, hx, hZ, hc, ho, hr, hm, hn, hk, hh, hF, h0⟩ := X
  subst hp
  obtain ⟨cl, A, r1, r2, r3⟩ := A
  obtain ⟨q1, q2⟩ := idx_ok r1 hj hv
  exact k.by fun _ z => Y.laload hx (j := j) (by rw [hh]; exact A.1) (State.isArrayOf_alike hZ.alike A.2.1) A.2.2 q1 q2 (g := mkF m pc Ls (.int j :: .ref a :: stk)) rfl rfl (hb hc hd) _ z
theorem F_baload (X : St p l e R s m args below meth c Z code own ret ml nm n0 T h cells slots) {a : Addr} {vs : List Value} {j : Int32} {v : Int32} (A : AV Z h a .byte vs) (hj : ¬ j < 0) (hv : vs[j.toNatClampNeg]? = some (.int v)) (hd : decode code pc = .ok (.baload, 1)) (hp : pc + 1 = pc') (k : Ends p e below s n0 C S Q T (mkF m pc' Ls (.int v :: stk))) : Ends p e below s n0 C S Q T (mkF m pc Ls (.int j :: .ref a :: stk)) := by
  obtain ⟨locs, Y, hx, hZ, hc, ho, hr, hm, hn, hk, hh, hF, h0⟩ := X
  subst hp
  obtain ⟨cl, A, r1, r2, r3⟩ := A
  obtain ⟨q1, q2⟩ := idx_ok r1 hj hv
  exact k.by fun _ z => Y.baloadBytes hx (j := j) (by rw [hh]; exact A.1) (State.isArrayOf_alike hZ.alike A.2.1) A.2.2 q1 q2 (g := mkF m pc Ls (.int j :: .ref a :: stk)) rfl rfl (hb hc hd) _ z
theorem F_arraylength (X : St p l e R s m args below meth c Z code own ret ml nm n0 T h cells slots) {a : Addr} {ty : FieldType} {vs : List Value} {z : Int32} (A : AV Z h a ty vs) (hz : vs.length.toInt32 = z) (hd : decode code pc = .ok (.arraylength, 1)) (hp : pc + 1 = pc') (k : Ends p e below s n0 C S Q T (mkF m pc' Ls (.int z :: stk))) : Ends p e below s n0 C S Q T (mkF m pc Ls (.ref a :: stk)) := by
  obtain ⟨locs, Y, hx, hZ, hc, ho, hr, hm, hn, hk, hh, hF, h0⟩ := X
  subst hp
  obtain ⟨cl, A, r1, r2, r3⟩ := A
  subst hz r1
  exact k.by fun _ z => Y.arraylength hx (by rw [hh]; exact A.1) (State.isArrayOf_alike hZ.alike A.2.1) (g := mkF m pc Ls (.ref a :: stk)) rfl rfl (hb hc hd) _ (by simpa using z)
theorem F_iastore (X : St p l e R s m args below meth c Z code own ret ml nm n0 T h cells slots) {a : Addr} {vs : List Value} {j : Int32} {x : Int32} {i : Nat} (A : AV Z h a .int vs) (hj : ¬ j < 0) (hi : j.toNatClampNeg = i) (hlt : i < vs.length) (ge : n0 ≤ a) (hd : decode code pc = .ok (.iastore, 1)) (hp : pc + 1 = pc')
    (k : ∀ (T' : State) (h' : Heap), St p l e R s m args below meth c Z code own ret ml nm n0 T' h' cells slots → Wr h h' a i (.int x) → AV Z h' a .int (vs.set i (.int x)) → Ends p e below s n0 C S Q T' (mkF m pc' Ls stk)) : Ends p e below s n0 C S Q T (mkF m pc Ls (.int x :: .int j :: .ref a :: stk)) := by
  obtain ⟨locs, Y, hx, hZ, hc, ho, hr, hm, hn, hk, hh, hF, h0⟩ := X
  subst hp hi
  have A0 := A
  obtain ⟨cl, A, r1, r2, r3⟩ := A
  subst r1
  obtain ⟨T', h', Y', e', W, st⟩ := stI Y hx hZ hh A (j := j) (x := x) (fun q => q.elim hj fun q => by simp at hlt; omega) (g := mkF m pc Ls (.int x :: .int j :: .ref a :: stk)) rfl rfl (hb hc hd)
  exact (k T' h' ⟨_, Y', hx, hZ, hc, ho, hr, hm, hn, hk, e', Fr.snoc Y' hF ge, h0⟩ W (A0.same W rfl)).by st
theorem F_lastore (X : St p l e R s m args below meth c Z code own ret ml nm n0 T h cells slots) {a : Addr} {vs : List Value} {j : Int32} {x : Int64} {i : Nat} (A : AV Z h a .long vs) (hj : ¬ j < 0) (hi : j.toNatClampNeg = i) (hlt : i < vs.length) (ge : n0 ≤ a) (hd : decode code pc = .ok (.lastore, 1)) (hp : pc + 1 = pc')
    (k : ∀ (T' : State) (h' : Heap), St p l e R s m args below meth c Z code own ret ml nm n0 T' h' cells slots → Wr h h' a i (.long x) → AV Z h' a .long (vs.set i (.long x)) → Ends p e below s n0 C S Q T' (mkF m pc' Ls stk)) : Ends p e below s n0 C S Q T (mkF m pc Ls (.long x :: .int j :: .ref a :: stk)) := by
  obtain ⟨locs, Y, hx, hZ, hc, ho, hr, hm, hn, hk, hh, hF, h0⟩ := X
  subst hp hi
  have A0 := A
  obtain ⟨cl, A, r1, r2, r3⟩ := A
  subst r1
  obtain ⟨T', h', Y', e', W, st⟩ := stJ Y hx hZ hh A (j := j) (x := x) (fun q => q.elim hj fun q => by simp at hlt; omega) (g := mkF m pc Ls (.long x :: .int j :: .ref a :: stk)) rfl rfl (hb hc hd)
  exact (k T' h' ⟨_, Y', hx, hZ, hc, ho, hr, hm, hn, hk, e', Fr.snoc Y' hF ge, h0⟩ W (A0.same W rfl)).by st
theorem F_bastore (X : St p l e R s m args below meth c Z code own ret ml nm n0 T h cells slots) {a : Addr} {vs : List Value} {j : Int32} {x : Int32} {i : Nat} (A : AV Z h a .byte vs) (hj : ¬ j < 0) (hi : j.toNatClampNeg = i) (hlt : i < vs.length) (ge : n0 ≤ a) {z : Int32} (hz : x.toInt8.toInt32 = z) (hd : decode code pc = .ok (.bastore, 1)) (hp : pc + 1 = pc')
    (k : ∀ (T' : State) (h' : Heap), St p l e R s m args below meth c Z code own ret ml nm n0 T' h' cells slots → Wr h h' a i (.int z) → AV Z h' a .byte (vs.set i (.int z)) → Ends p e below s n0 C S Q T' (mkF m pc' Ls stk)) : Ends p e below s n0 C S Q T (mkF m pc Ls (.int x :: .int j :: .ref a :: stk)) := by
  obtain ⟨locs, Y, hx, hZ, hc, ho, hr, hm, hn, hk, hh, hF, h0⟩ := X
  subst hp hi
  have A0 := A
  obtain ⟨cl, A, r1, r2, r3⟩ := A
  subst r1
  obtain ⟨T', h', Y', e', W, st⟩ := stB Y hx hZ hh A (j := j) (x := x) (fun q => q.elim hj fun q => by simp at hlt; omega) (g := mkF m pc Ls (.int x :: .int j :: .ref a :: stk)) rfl rfl (hb hc hd)
  subst hz
  exact (k T' h' ⟨_, Y', hx, hZ, hc, ho, hr, hm, hn, hk, e', Fr.snoc Y' hF ge, h0⟩ W (A0.same W (fits_nar_byte _))).by st
theorem F_newarray (X : St p l e R s m args below meth c Z code own ret ml nm n0 T h cells slots) {aty : ArrayType} {n : Int32} {cap : Nat} {ad : String} (w : (Cond.arrayClass (newarray.typeOf aty)).before a0 Z = true) (hn0 : ¬ n < 0) (hcap : n.toNatClampNeg = cap) (hbig : cap * 8 ≤ 536870912) (r3 : cells + 1 ≤ R.cells) (r4 : slots + cap ≤ R.slots) (had : "[" ++ (newarray.typeOf aty).toString = ad) (hd : decode code pc = .ok (.newarray aty, 2)) (hp : pc + 2 = pc')
    (k : ∀ (T' : State) (h' : Heap) (a : Addr), St p l e R s m args below meth c Z code own ret ml nm n0 T' h' (cells + 1) (slots + cap) → Ext h h' → a = h.size → n0 ≤ a → Exa Z h' a ad → AV Z h' a (newarray.typeOf aty) (List.replicate cap (defaultValue (newarray.typeOf aty))) → Ends p e below s n0 C S Q T' (mkF m pc' Ls (.ref a :: stk))) : Ends p e below s n0 C S Q T (mkF m pc Ls (.int n :: stk)) := by
  have hsz := X.size
  obtain ⟨locs, Y, hx, hZ, hc, ho, hr, hm, hn, hk, hh, hF, h0⟩ := X
  subst hp
  obtain ⟨T', h', cA, Y', e', E, A, EX, st⟩ := newPE Y hx hZ w hh (g := mkF m pc Ls (.int n :: stk)) rfl (hb hc hd) rfl hn0 (Nat.le_of_eq hcap) hbig r3 r4 had
  refine (k T' h' _ ⟨_, Y', hx, hZ, hc, ho, hr, hm, hn, hk, e', hF, h0⟩ E rfl hsz EX ⟨_, A, by simp [newA, hcap], by simp; omega, fun v hv => ?_⟩).by st
  rw [(List.mem_replicate.mp hv).2]
  cases aty <;> rfl
theorem AV.arv {a : Addr} {ty : FieldType} {vs : List Value} (A : AV Z h a ty vs) (dv : Value) : ∃ k, Arv Z h a k ty vs.length.toInt32 vs dv := by
  obtain ⟨cl, A, r1, r2, r3⟩ := A
  have e1 : (vs.length.toInt32).toInt = vs.length := len_toInt (by omega)
  have e2 : vs.length.toInt32.toNatClampNeg = vs.length := by simp only [Int32.toNatClampNeg, e1]; omega
  have sz : cl.slots.size = vs.length := by rw [← r1]; simp
  have g : ∀ i, i < vs.length → vs[i]? = some (vs.getD i dv) := fun i hi => by simp [List.getD_eq_getElem?_getD, hi]
  refine ⟨cl.cls, cl, A, rfl, by rw [e2]; exact sz, by simp only [Int32.lt_iff_toInt_lt, e1, Int32.reduceToInt]; omega, fun i hi => ?_, fun i hi => ?_⟩
  · rw [← Array.getElem?_toList, r1]; exact g i (sz ▸ hi)
  · exact r3 _ (List.mem_of_getElem? (g i (sz ▸ hi)))
theorem AV.of_arv {a : Addr} {ty : FieldType} {vs : List Value} {k : ClassId} {z : Int32} {dv : Value} (A : Arv Z h a k ty z vs dv) (hz : z.toNatClampNeg = vs.length) : AV Z h a ty vs := by
  obtain ⟨cl, A, r1, r2, r3, H, G⟩ := A
  have sz : cl.slots.size = vs.length := r2.trans hz
  have e : cl.slots.toList = vs := by
    apply List.ext_getElem?
    intro i
    rw [Array.getElem?_toList]
    by_cases hi : i < vs.length
    · rw [H i (by rw [sz]; exact hi)]; simp [List.getD_eq_getElem?_getD, hi]
    · rw [Array.getElem?_eq_none (by omega), List.getElem?_eq_none (by omega)]
  refine ⟨cl, A, e, by have := (back32 r3).2; omega, fun v hv => ?_⟩
  obtain ⟨i, hi, rfl⟩ := List.getElem_of_mem hv
  have q := G i (by rw [sz]; exact hi)
  simpa [List.getD_eq_getElem?_getD, hi] using q

theorem F_arraycopy (X : St p l e R s m args below meth c Z code own ret ml nm n0 T h cells slots) {idx : Nat} {a b : Addr} {ty : FieldType} {vs vd us vr : List Value} {sp dp nn : Int32} (w1 : (Cond.methodLink own idx Jvm.Stand.acN).before a0 Z = true) (w2 : (Cond.native Jvm.Stand.acN).before a0 Z = true) (w3 : (Cond.static Jvm.Stand.acN).before a0 Z = true) (w4 : (Cond.initialized "java/lang/System").before a0 Z = true)
    (A : AV Z h a ty vs) (B : AV Z h b ty vd) (dv : Value) (hty : refKind ty = false) (h1 : ¬ sp < 0) (h2 : ¬ dp < 0) (h3 : ¬ nn < 0) (h4 : sp.toNatClampNeg + nn.toNatClampNeg ≤ vs.length) (h5 : dp.toNatClampNeg + nn.toNatClampNeg ≤ vd.length)
    (hus : us = (List.range nn.toNatClampNeg).map fun i => vs.getD (sp.toNatClampNeg + i) dv) (hvr : vd.take dp.toNatClampNeg ++ us ++ vd.drop (dp.toNatClampNeg + nn.toNatClampNeg) = vr) (ge : n0 ≤ b) (hls : Ls.size = ml) (r1 : 1 ≤ R.frames) {W : Nat} (hW : (stk.map fun v => v.category).sum ≤ W) (r2 : W + (nativeFrameWords "java/lang/System" "arraycopy" 5 + 11) ≤ R.locals) (hd : decode code pc = .ok (.invokestatic idx, 3)) (hp : pc + 3 = pc')
    (k : ∀ (T' : State) (h' : Heap), St p l e R s m args below meth c Z code own ret ml nm n0 T' h' cells slots → Keep h h' [b] → AV Z h' b ty vr → Ends p e below s n0 C S Q T' (mkF m pc' Ls stk)) : Ends p e below s n0 C S Q T (mkF m pc Ls (.int nn :: .int dp :: .ref b :: .int sp :: .ref a :: stk)) := by
  obtain ⟨locs, Y, hx, hZ, hc, ho, hr, hm, hn, hk, hh, hF, h0⟩ := X
  have hla : vs.length < 2147483648 := by obtain ⟨_, _, _, q, _⟩ := A; exact q
  have hlb : vd.length < 2147483648 := by obtain ⟨_, _, _, q, _⟩ := B; exact q
  subst hp
  obtain ⟨ka, A⟩ := A.arv dv
  obtain ⟨kb, B0⟩ := B.arv dv
  obtain ⟨T', h', L, Y', e', N', K', B', st⟩ := cpA Y hx hZ ho w1 w2 w3 w4 hh A B0 (Or.inl ⟨rfl, hty⟩) h1 h2 h3 (by rw [own_len32 hla]; exact h4) (by rw [own_len32 hlb]; exact h5) hus h5 hF ge (g := mkF m pc Ls (.int nn :: .int dp :: .ref b :: .int sp :: .ref a :: stk)) rfl (by rw [hm]; exact hls) rfl (hb hc hd) r1 (W := W) (by show 2 * 0 + _ ≤ _; omega) r2
  rw [hvr] at B'
  exact (k T' h' ⟨_, Y', hx, hZ, hc, ho, hr, hm, hn, hk, e', N', h0⟩ K' (AV.of_arv B' (by rw [own_len32 hlb, ← hvr, hus]; simp; omega))).by st
theorem F_clone (X : St p l e R s m args below meth c Z code own ret ml nm n0 T h cells slots) {idx : Nat} {a : Addr} {ty : FieldType} {vs : List Value} {ad : String} {cap : Nat} (w1 : (Cond.methodLink own idx ⟨ad, "clone", "()Ljava/lang/Object;"⟩).before a0 Z = true) (w2 : (Cond.sameMethod ad "java/lang/Object" "clone" "()Ljava/lang/Object;").before a0 Z = true) (w3 : (Cond.native ⟨"java/lang/Object", "clone", "()Ljava/lang/Object;"⟩).before a0 Z = true)
    (w4 : (Cond.instanceMethod ⟨"java/lang/Object", "clone", "()Ljava/lang/Object;"⟩).before a0 Z = true) (w5 : (Cond.selects ad ⟨ad, "clone", "()Ljava/lang/Object;"⟩ ⟨"java/lang/Object", "clone", "()Ljava/lang/Object;"⟩).before a0 Z = true) (w6 : (Cond.castable ad "java/lang/Cloneable").before a0 Z = true)
    (A : AV Z h a ty vs) (E : Exa Z h a ad) (hls : Ls.size = ml) (r1 : 1 ≤ R.frames) {W : Nat} (hW : (stk.map fun v => v.category).sum ≤ W) (r2 : W + 14 ≤ R.locals) (hcap : vs.length ≤ cap) (r3 : cells + 1 ≤ R.cells) (r4 : slots + cap ≤ R.slots) (hd : decode code pc = .ok (.invokevirtual idx, 3)) (hp : pc + 3 = pc')
    (k : ∀ (T' : State) (h' : Heap) (b : Addr), St p l e R s m args below meth c Z code own ret ml nm n0 T' h' (cells + 1) (slots + cap) → Ext h h' → b = h.size → n0 ≤ b → Exa Z h' b ad → AV Z h' b ty vs → Ends p e below s n0 C S Q T' (mkF m pc' Ls (.ref b :: stk))) : Ends p e below s n0 C S Q T (mkF m pc Ls (.ref a :: stk)) := by
  have hsz := X.size
  obtain ⟨locs, Y, hx, hZ, hc, ho, hr, hm, hn, hk, hh, hF, h0⟩ := X
  subst hp
  obtain ⟨cl, A, q1, q2, q3⟩ := A
  have FC : FitC Z cl := fitC_of A fun i hi v hv => q3 v (by rw [← q1]; exact List.mem_of_getElem? (i := i) (by rw [Array.getElem?_toList]; exact hv))
  obtain ⟨T', h', Y', e', E', A', EX, st⟩ := cloneA Y hx hZ ho w1 w2 w3 w4 w5 w6 hh A E FC (g := mkF m pc Ls (.ref a :: stk)) rfl (by rw [hm]; exact hls) rfl (hb hc hd) r1 (W := W) (by show 2 * 0 + _ ≤ _; omega) r2 (cap := cap) (by rw [← q1] at hcap; simpa using hcap) r3 r4
  exact (k T' h' _ ⟨_, Y', hx, hZ, hc, ho, hr, hm, hn, hk, e', hF, h0⟩ E' rfl hsz EX ⟨_, A', q1, q2, q3⟩).by st
theorem F_checkcast (X : St p l e R s m args below meth c Z code own ret ml nm n0 T h cells slots) {idx : Nat} {a : Addr} {K : String} (w : (Cond.classLink own idx K).before a0 Z = true) (E : Exa Z h a K) (hd : decode code pc = .ok (.checkcast idx, 3)) (hp : pc + 3 = pc')
    (k : ∀ T' : State, St p l e R s m args below meth c Z code own ret ml nm n0 T' h cells slots → Ends p e below s n0 C S Q T' (mkF m pc' Ls (.ref a :: stk))) : Ends p e below s n0 C S Q T (mkF m pc Ls (.ref a :: stk)) := by
  obtain ⟨locs, Y, hx, hZ, hc, ho, hr, hm, hn, hk, hh, hF, h0⟩ := X
  subst hp
  obtain ⟨T', Y', e', st⟩ := castY Y hx hZ ho w hh (Ins.self E) (g := mkF m pc Ls (.ref a :: stk)) rfl rfl (hb hc hd)
  exact (k T' ⟨_, Y', hx, hZ, hc, ho, hr, hm, hn, hk, e', hF, h0⟩).by st
end Laws
end Jvm.OwnKit

namespace Jvm.Pilot.@@N@@
open Jvm Jvm.ClassFile Sem Op Lib Jvm.Free Jvm.Stand Jvm.LawKit Jvm.RoadKit Jvm.OwnKit Bundle Jvm.Pilot.@@N@@.Jvm.D
theorem wd0 {a0 : Array Value} {Z : State} (hw : ∀ d ∈ tables_1, d.before a0 Z = true) : (Jvm.Cond.constantLong "org/pulsewire/store/SeqRunsContainsPinLaw" (9 : Nat) (9223372036854775795 : Int64)).before a0 Z = true := hw _ (List.mem_of_getElem? (i := 0) rfl)
theorem wd1 {a0 : Array Value} {Z : State} (hw : ∀ d ∈ tables_1, d.before a0 Z = true) : (Jvm.Cond.methodLink "org/pulsewire/store/SeqRunsContainsPinLaw" (11 : Nat) ({ cls := "java/lang/Math", name := "min", desc := "(JJ)J" } : Jvm.MethodName)).before a0 Z = true := hw _ (List.mem_of_getElem? (i := 1) rfl)
theorem wd2 {a0 : Array Value} {Z : State} (hw : ∀ d ∈ tables_1, d.before a0 Z = true) : (Jvm.Cond.static ({ cls := "java/lang/Math", name := "min", desc := "(JJ)J" } : Jvm.MethodName)).before a0 Z = true := hw _ (List.mem_of_getElem? (i := 2) rfl)
theorem wd3 {a0 : Array Value} {Z : State} (hw : ∀ d ∈ tables_1, d.before a0 Z = true) : (Jvm.Cond.initialized "java/lang/Math").before a0 Z = true := hw _ (List.mem_of_getElem? (i := 3) rfl)
theorem wd4 {a0 : Array Value} {Z : State} (hw : ∀ d ∈ tables_1, d.before a0 Z = true) : (Jvm.Cond.code ({ cls := "java/lang/Math", name := "min", desc := "(JJ)J" } : Jvm.MethodName) jdk_29_method_70_code (4 : Nat) (Option.some Jvm.ClassFile.FieldType.long)).before a0 Z = true := hw _ (List.mem_of_getElem? (i := 4) rfl)
theorem wd5 {a0 : Array Value} {Z : State} (hw : ∀ d ∈ tables_1, d.before a0 Z = true) : (Jvm.Cond.constantLong "org/pulsewire/store/SeqRunsContainsPinLaw" (17 : Nat) (2 : Int64)).before a0 Z = true := hw _ (List.mem_of_getElem? (i := 5) rfl)
theorem wd6 {a0 : Array Value} {Z : State} (hw : ∀ d ∈ tables_1, d.before a0 Z = true) : (Jvm.Cond.classLink "org/pulsewire/store/SeqRunsContainsPinLaw" (19 : Nat) "org/pulsewire/store/SeqRuns").before a0 Z = true := hw _ (List.mem_of_getElem? (i := 6) rfl)
theorem wd7 {a0 : Array Value} {Z : State} (hw : ∀ d ∈ tables_1, d.before a0 Z = true) : (Jvm.Cond.instantiable "org/pulsewire/store/SeqRuns" (2 : Nat)).before a0 Z = true := hw _ (List.mem_of_getElem? (i := 7) rfl)
theorem wd8 {a0 : Array Value} {Z : State} (hw : ∀ d ∈ tables_1, d.before a0 Z = true) : (Jvm.Cond.initialized "org/pulsewire/store/SeqRuns").before a0 Z = true := hw _ (List.mem_of_getElem? (i := 8) rfl)
theorem wd9 {a0 : Array Value} {Z : State} (hw : ∀ d ∈ tables_1, d.before a0 Z = true) : (Jvm.Cond.methodLink "org/pulsewire/store/SeqRunsContainsPinLaw" (21 : Nat) ({ cls := "org/pulsewire/store/SeqRuns", name := "<init>", desc := "()V" } : Jvm.MethodName)).before a0 Z = true := hw _ (List.mem_of_getElem? (i := 9) rfl)
theorem wd10 {a0 : Array Value} {Z : State} (hw : ∀ d ∈ tables_1, d.before a0 Z = true) : (Jvm.Cond.instanceMethod ({ cls := "org/pulsewire/store/SeqRuns", name := "<init>", desc := "()V" } : Jvm.MethodName)).before a0 Z = true := hw _ (List.mem_of_getElem? (i := 10) rfl)
theorem wd11 {a0 : Array Value} {Z : State} (hw : ∀ d ∈ tables_1, d.before a0 Z = true) : (Jvm.Cond.code ({ cls := "org/pulsewire/store/SeqRuns", name := "<init>", desc := "()V" } : Jvm.MethodName) prog_202_method_1_code (1 : Nat) (Option.none : Option Jvm.ClassFile.FieldType)).before a0 Z = true := hw _ (List.mem_of_getElem? (i := 11) rfl)
theorem wd12 {a0 : Array Value} {Z : State} (hw : ∀ d ∈ tables_1, d.before a0 Z = true) : (Jvm.Cond.methodLink "org/pulsewire/store/SeqRuns" (1 : Nat) ({ cls := "java/lang/Object", name := "<init>", desc := "()V" } : Jvm.MethodName)).before a0 Z = true := hw _ (List.mem_of_getElem? (i := 12) rfl)
theorem wd13 {a0 : Array Value} {Z : State} (hw : ∀ d ∈ tables_1, d.before a0 Z = true) : (Jvm.Cond.instanceMethod ({ cls := "java/lang/Object", name := "<init>", desc := "()V" } : Jvm.MethodName)).before a0 Z = true := hw _ (List.mem_of_getElem? (i := 13) rfl)
theorem wd14 {a0 : Array Value} {Z : State} (hw : ∀ d ∈ tables_1, d.before a0 Z = true) : (Jvm.Cond.code ({ cls := "java/lang/Object", name := "<init>", desc := "()V" } : Jvm.MethodName) object_method_1_code (1 : Nat) (Option.none : Option Jvm.ClassFile.FieldType)).before a0 Z = true := hw _ (List.mem_of_getElem? (i := 14) rfl)
theorem wd15 {a0 : Array Value} {Z : State} (hw : ∀ d ∈ tables_1, d.before a0 Z = true) : (Jvm.Cond.arrayClass Jvm.ClassFile.FieldType.long).before a0 Z = true := hw _ (List.mem_of_getElem? (i := 15) rfl)
theorem wd16 {a0 : Array Value} {Z : State} (hw : ∀ d ∈ tables_1, d.before a0 Z = true) : (Jvm.Cond.fieldLink "org/pulsewire/store/SeqRuns" (7 : Nat) "org/pulsewire/store/SeqRuns" "bounds" "[J").before a0 Z = true := hw _ (List.mem_of_getElem? (i := 16) rfl)
theorem wd17 {a0 : Array Value} {Z : State} (hw : ∀ d ∈ tables_1, d.before a0 Z = true) : (Jvm.Cond.lays "org/pulsewire/store/SeqRuns" "org/pulsewire/store/SeqRuns" "bounds" "[J").before a0 Z = true := hw _ (List.mem_of_getElem? (i := 17) rfl)
theorem wd18 {a0 : Array Value} {Z : State} (hw : ∀ d ∈ tables_1, d.before a0 Z = true) : (Jvm.Cond.methodLink "org/pulsewire/store/SeqRunsContainsPinLaw" (26 : Nat) ({ cls := "org/pulsewire/store/SeqRuns", name := "contains", desc := "(J)Z" } : Jvm.MethodName)).before a0 Z = true := hw _ (List.mem_of_getElem? (i := 18) rfl)
theorem wd19 {a0 : Array Value} {Z : State} (hw : ∀ d ∈ tables_1, d.before a0 Z = true) : (Jvm.Cond.declares ({ cls := "org/pulsewire/store/SeqRuns", name := "contains", desc := "(J)Z" } : Jvm.MethodName)).before a0 Z = true := hw _ (List.mem_of_getElem? (i := 19) rfl)
theorem wd20 {a0 : Array Value} {Z : State} (hw : ∀ d ∈ tables_1, d.before a0 Z = true) : (Jvm.Cond.instanceMethod ({ cls := "org/pulsewire/store/SeqRuns", name := "contains", desc := "(J)Z" } : Jvm.MethodName)).before a0 Z = true := hw _ (List.mem_of_getElem? (i := 20) rfl)
theorem wd21 {a0 : Array Value} {Z : State} (hw : ∀ d ∈ tables_1, d.before a0 Z = true) : (Jvm.Cond.selects "org/pulsewire/store/SeqRuns" ({ cls := "org/pulsewire/store/SeqRuns", name := "contains", desc := "(J)Z" } : Jvm.MethodName) ({ cls := "org/pulsewire/store/SeqRuns", name := "contains", desc := "(J)Z" } : Jvm.MethodName)).before a0 Z = true := hw _ (List.mem_of_getElem? (i := 21) rfl)
theorem wd22 {a0 : Array Value} {Z : State} (hw : ∀ d ∈ tables_1, d.before a0 Z = true) : (Jvm.Cond.code ({ cls := "org/pulsewire/store/SeqRuns", name := "contains", desc := "(J)Z" } : Jvm.MethodName) prog_202_method_3_code (7 : Nat) (Option.some Jvm.ClassFile.FieldType.boolean)).before a0 Z = true := hw _ (List.mem_of_getElem? (i := 22) rfl)
theorem wd23 {a0 : Array Value} {Z : State} (hw : ∀ d ∈ tables_1, d.before a0 Z = true) : (Jvm.Cond.fieldLink "org/pulsewire/store/SeqRuns" (13 : Nat) "org/pulsewire/store/SeqRuns" "taken" "I").before a0 Z = true := hw _ (List.mem_of_getElem? (i := 23) rfl)
theorem wd24 {a0 : Array Value} {Z : State} (hw : ∀ d ∈ tables_1, d.before a0 Z = true) : (Jvm.Cond.lays "org/pulsewire/store/SeqRuns" "org/pulsewire/store/SeqRuns" "taken" "I").before a0 Z = true := hw _ (List.mem_of_getElem? (i := 24) rfl)
theorem wd25 {a0 : Array Value} {Z : State} (hw : ∀ d ∈ tables_1, d.before a0 Z = true) : (Jvm.Cond.methodLink "org/pulsewire/store/SeqRunsContainsPinLaw" (22 : Nat) ({ cls := "org/pulsewire/store/SeqRuns", name := "add", desc := "(J)V" } : Jvm.MethodName)).before a0 Z = true := hw _ (List.mem_of_getElem? (i := 25) rfl)
theorem wd26 {a0 : Array Value} {Z : State} (hw : ∀ d ∈ tables_1, d.before a0 Z = true) : (Jvm.Cond.declares ({ cls := "org/pulsewire/store/SeqRuns", name := "add", desc := "(J)V" } : Jvm.MethodName)).before a0 Z = true := hw _ (List.mem_of_getElem? (i := 26) rfl)
theorem wd27 {a0 : Array Value} {Z : State} (hw : ∀ d ∈ tables_1, d.before a0 Z = true) : (Jvm.Cond.instanceMethod ({ cls := "org/pulsewire/store/SeqRuns", name := "add", desc := "(J)V" } : Jvm.MethodName)).before a0 Z = true := hw _ (List.mem_of_getElem? (i := 27) rfl)
theorem wd28 {a0 : Array Value} {Z : State} (hw : ∀ d ∈ tables_1, d.before a0 Z = true) : (Jvm.Cond.selects "org/pulsewire/store/SeqRuns" ({ cls := "org/pulsewire/store/SeqRuns", name := "add", desc := "(J)V" } : Jvm.MethodName) ({ cls := "org/pulsewire/store/SeqRuns", name := "add", desc := "(J)V" } : Jvm.MethodName)).before a0 Z = true := hw _ (List.mem_of_getElem? (i := 28) rfl)
theorem wd29 {a0 : Array Value} {Z : State} (hw : ∀ d ∈ tables_1, d.before a0 Z = true) : (Jvm.Cond.code ({ cls := "org/pulsewire/store/SeqRuns", name := "add", desc := "(J)V" } : Jvm.MethodName) prog_202_method_2_code (3 : Nat) (Option.none : Option Jvm.ClassFile.FieldType)).before a0 Z = true := hw _ (List.mem_of_getElem? (i := 29) rfl)
theorem pd0 : parseMethodDescriptor "(JJ)J" = some ⟨[.long, .long], some .long⟩ := by decide +kernel
theorem pd1 : parseMethodDescriptor "()V" = some ⟨[], none⟩ := by decide +kernel
theorem pd2 : parseMethodDescriptor "(J)Z" = some ⟨[.long], some .boolean⟩ := by decide +kernel
theorem pd3 : parseMethodDescriptor "(J)V" = some ⟨[.long], none⟩ := by decide +kernel
def lmin (x y : Int64) : Int64 := if y < x then y else x
theorem own_lmin {x z : Int64} (h : lmin x (9223372036854775795 : Int64) = z) : z.toInt ≤ 9223372036854775795 := by
  have d : (9223372036854775795 : Int64).toInt = 9223372036854775795 := by decide
  subst h; unfold lmin; by_cases q : (9223372036854775795 : Int64) < x
  · rw [if_pos q, d]; decide
  · rw [if_neg q]; rw [Int64.lt_iff_toInt_lt, d] at q; omega
theorem own_add {a b : Int64} {i : Int32} (h : (a + (i &&& (3 : Int32)).toInt64) + (1 : Int64) = b) (ha : a.toInt ≤ 9223372036854775803) : a.toInt < b.toInt ∧ b.toInt ≤ a.toInt + 4 := by
  have m : 0 ≤ (i &&& (3 : Int32)).toInt64.toInt ∧ (i &&& (3 : Int32)).toInt64.toInt ≤ 3 := by
    obtain ⟨n, hn, e⟩ := own_maskN i 3 2 (by decide) (by decide)
    rw [e, Int32.toInt_toInt64, own_ofNat (by simp at hn; omega)]
    simp at hn; omega
  have r0 := rng64 a
  generalize (i &&& (3 : Int32)).toInt64 = d at *
  have e1 := c_ladd a d; have e2 := c_ladd (a + d) 1
  have r1 := rng64 (a + d); have r2 := rng64 (a + d + 1)
  have d1 : (1 : Int64).toInt = 1 := by decide
  subst h
  omega
theorem own_dec {a b : Int64} (h : a.toInt < b.toInt) : (b - (1 : Int64)).toInt = b.toInt - 1 := by
  have e1 := c_lsub b 1; have r1 := rng64 (b - 1); have r2 := rng64 a; have r3 := rng64 b
  have d1 : (1 : Int64).toInt = 1 := by decide
  omega
theorem own_k {x z : Int32} (h : ((x.toUInt32 >>> ((6 : Int32) &&& 31).toUInt32).toInt32) % (5 : Int32) = z) : z = 0 ∨ z = 1 ∨ z = 2 ∨ z = 3 ∨ z = 4 := by
  have a := Jvm.Kit.i32_iushr_nonneg x (n := ((6 : Int32) &&& 31).toUInt32) (k := 6) (by decide) (by decide) (by decide)
  rw [Jvm.Kit.i32_nonneg] at a
  have b := Jvm.Kit.i32_rem_nonneg (y := 5) a
  have d : (5 : Int32).toInt = 5 := by decide
  rw [h, d] at b
  simp only [← Int32.toInt_inj]
  have d0 : (0 : Int32).toInt = 0 := by decide
  have d1 : (1 : Int32).toInt = 1 := by decide
  have d2 : (2 : Int32).toInt = 2 := by decide
  have d3 : (3 : Int32).toInt = 3 := by decide
  have d4 : (4 : Int32).toInt = 4 := by decide
  omega
def ct0 ( v : Int64) : Int32 := (0 : Int32)
def ct1 (z0 z1 v : Int64) : Int32 := (if v < z0 then (0 : Int32) else (if z1 < v then (0 : Int32) else (1 : Int32)))
def ct2 (z0 z1 z2 z3 v : Int64) : Int32 := (if v < z0 then (0 : Int32) else (if v < z2 then (if z1 < v then (0 : Int32) else (1 : Int32)) else (if z3 < v then (0 : Int32) else (1 : Int32))))
def ct3 (z0 z1 z2 z3 z4 z5 v : Int64) : Int32 := (if v < z2 then (if v < z0 then (0 : Int32) else (if z1 < v then (0 : Int32) else (1 : Int32))) else (if v < z4 then (if z3 < v then (0 : Int32) else (1 : Int32)) else (if z5 < v then (0 : Int32) else (1 : Int32))))
def ct4 (z0 z1 z2 z3 z4 z5 z6 z7 v : Int64) : Int32 := (if v < z2 then (if v < z0 then (0 : Int32) else (if z1 < v then (0 : Int32) else (1 : Int32))) else (if v < z4 then (if z3 < v then (0 : Int32) else (1 : Int32)) else (if v < z6 then (if z5 < v then (0 : Int32) else (1 : Int32)) else (if z7 < v then (0 : Int32) else (1 : Int32)))))
theorem d1_0 : decode jdk_29_method_70_code 0 = .ok (.lload_n 0, 1) := by decide +kernel
theorem d1_1 : decode jdk_29_method_70_code 1 = .ok (.lload_n 2, 1) := by decide +kernel
theorem d1_2 : decode jdk_29_method_70_code 2 = .ok (.lcmp, 1) := by decide +kernel
theorem d1_3 : decode jdk_29_method_70_code 3 = .ok (.ifCond .gt 7, 3) := by decide +kernel
theorem d1_6 : decode jdk_29_method_70_code 6 = .ok (.lload_n 0, 1) := by decide +kernel
theorem d1_7 : decode jdk_29_method_70_code 7 = .ok (.goto 4, 3) := by decide +kernel
theorem d1_10 : decode jdk_29_method_70_code 10 = .ok (.lload_n 2, 1) := by decide +kernel
theorem d1_11 : decode jdk_29_method_70_code 11 = .ok (.lreturn, 1) := by decide +kernel
theorem ef_con_min (m : MethodId) (x0 : Int64) (x1 : Int64) : entryFrame m #[(.long x0), (.long x1)] 4 = mkF m 0 #[.val (.long x0), .second, .val (.long x1), .second] [] := by first | (simp [entryFrame, mkF, argsToLocals, Value.category]; done) | rfl
set_option maxRecDepth 65536 in
set_option maxHeartbeats 40000000 in
theorem con_min (l : Launch) (Z : State) (a0 : Array Value) (hw : ∀ d ∈ tables_1, d.before a0 Z = true) (n0 : Nat) (h : Heap) (hn0 : n0 ≤ h.size) (u1 : Int64) (u2 : Int64) :
    Con l (⟨"java/lang/Math", "min", "(JJ)J"⟩ : MethodName) jdk_29_method_70_code 4 (some .long) ({ frames := 0, cells := 0, slots := 0, locals := 0 } : Room) 0 0 Z n0 #[(.long u1), (.long u2)] h (fun v h' => v = some (.long (lmin u1 u2)) ∧ h = h') := by
  refine Con.body (own := "java/lang/Math") (nm := "min") rfl rfl (Jvm.Free.JP.mathPlain rfl (by decide +kernel)) hn0 ?_
  intro p e s m below meth c T0 X0
  rw [ef_con_min]
  refine F_lloadN X0 d1_0 rfl (pc' := 1) rfl ?_
  refine F_lloadN X0 d1_1 rfl (pc' := 2) rfl ?_
  refine F_lcmp X0 d1_2 (pc' := 3) rfl ?_
  refine F_lif_gt X0 d1_3 (by decide) (pt := 10) (by decide) (pc' := 6) rfl (fun hc3_1 => ?_) (fun hc3_1 => ?_)
  · refine F_lloadN X0 d1_10 rfl (pc' := 11) rfl ?_
    refine F_lreturn X0 d1_11 rfl (by decide) (by decide) ?_
    exact ⟨by simp [lmin, *], rfl⟩
  · refine F_lloadN X0 d1_6 rfl (pc' := 7) rfl ?_
    refine F_goto X0 d1_7 (by decide) (pc' := 11) (by decide) ?_
    refine F_lreturn X0 d1_11 rfl (by decide) (by decide) ?_
    exact ⟨by simp [lmin, *], rfl⟩
theorem d2_0 : decode prog_202_method_1_code 0 = .ok (.aload_n 0, 1) := by decide +kernel
theorem d2_1 : decode prog_202_method_1_code 1 = .ok (.invokespecial 1, 3) := by decide +kernel
theorem d2_4 : decode prog_202_method_1_code 4 = .ok (.aload_n 0, 1) := by decide +kernel
theorem d2_5 : decode prog_202_method_1_code 5 = .ok (.bipush 16, 2) := by decide +kernel
theorem d2_7 : decode prog_202_method_1_code 7 = .ok (.newarray .long, 2) := by decide +kernel
theorem d2_9 : decode prog_202_method_1_code 9 = .ok (.putfield 7, 3) := by decide +kernel
theorem d2_12 : decode prog_202_method_1_code 12 = .ok (.return_, 1) := by decide +kernel
theorem pn2 : plainName "org/pulsewire/store/SeqRuns" = true := by first | (simp [plainName, overriddenIn]; done) | decide +kernel
theorem ef_conI (m : MethodId) (x0 : Addr) : entryFrame m #[(.ref x0)] 1 = mkF m 0 #[.val (.ref x0)] [] := by first | (simp [entryFrame, mkF, argsToLocals, Value.category]; done) | rfl
set_option maxRecDepth 65536 in
set_option maxHeartbeats 40000000 in
theorem conI (l : Launch) (Z : State) (a0 : Array Value) (hw : ∀ d ∈ tables_1, d.before a0 Z = true) (n0 : Nat) (h : Heap) (hn0 : n0 ≤ h.size) (o1 : Addr) (E_o1 : Exa Z h o1 "org/pulsewire/store/SeqRuns") (F_bounds_o1 : Fld Z h o1 "org/pulsewire/store/SeqRuns" "bounds" "[J" .null) (F_taken_o1 : Fld Z h o1 "org/pulsewire/store/SeqRuns" "taken" "I" (.int (0 : Int32))) (ge_o1 : n0 ≤ o1) :
    Con l (⟨"org/pulsewire/store/SeqRuns", "<init>", "()V"⟩ : MethodName) prog_202_method_1_code 1 none ({ frames := 1, cells := 1, slots := 16, locals := 12 } : Room) 1 16 Z n0 #[(.ref o1)] h (fun v h' => ∃ fb : Addr, v = none ∧ h.size ≤ fb ∧ Keep h h' [o1] ∧ Exa Z h' o1 "org/pulsewire/store/SeqRuns" ∧ Exa Z h' fb "[J" ∧ Fld Z h' o1 "org/pulsewire/store/SeqRuns" "bounds" "[J" (.ref fb) ∧ Fld Z h' o1 "org/pulsewire/store/SeqRuns" "taken" "I" (.int (0 : Int32)) ∧ AV Z h' fb .long [(.long (0 : Int64)), (.long (0 : Int64)), (.long (0 : Int64)), (.long (0 : Int64)), (.long (0 : Int64)), (.long (0 : Int64)), (.long (0 : Int64)), (.long (0 : Int64)), (.long (0 : Int64)), (.long (0 : Int64)), (.long (0 : Int64)), (.long (0 : Int64)), (.long (0 : Int64)), (.long (0 : Int64)), (.long (0 : Int64)), (.long (0 : Int64))]) := by
  refine Con.body (own := "org/pulsewire/store/SeqRuns") (nm := "<init>") rfl rfl (plainFor_of_name pn2) hn0 ?_
  intro p e s m below meth c T0 X0
  rw [ef_conI]
  refine F_aloadN X0 d2_0 rfl rfl (pc' := 1) rfl ?_
  refine F_objInit X0 (wd12 hw) (wd13 hw) (wd14 hw) (by decide) (W := 0) (Nat.le_of_ble_eq_true rfl) (by decide) rfl d2_1 (pc' := 4) rfl fun T1 X1 => ?_
  refine F_aloadN X1 d2_4 rfl rfl (pc' := 5) rfl ?_
  refine F_bipush X1 d2_5 (z := (16 : Int32)) (by decide) (pc' := 7) rfl ?_
  refine F_newarray X1 (aty := .long) (wd15 hw) (by decide) (cap := 16) (by decide) (by decide) (by decide) (by decide) (ad := "[J") rfl d2_7 (pc' := 9) rfl fun T2 h2 b2 X2 Ex2 g2 ge2 E_b2 A2 => ?_
  replace A2 : AV Z h2 b2 .long [(.long (0 : Int64)), (.long (0 : Int64)), (.long (0 : Int64)), (.long (0 : Int64)), (.long (0 : Int64)), (.long (0 : Int64)), (.long (0 : Int64)), (.long (0 : Int64)), (.long (0 : Int64)), (.long (0 : Int64)), (.long (0 : Int64)), (.long (0 : Int64)), (.long (0 : Int64)), (.long (0 : Int64)), (.long (0 : Int64)), (.long (0 : Int64))] := A2
  have ne_o1_b2 : o1 ≠ b2 := Nat.ne_of_lt (Nat.lt_of_lt_of_le E_o1.lt (Nat.le_of_eq g2.symm))
  have E2_o1 := E_o1.ext Ex2
  have F2_bounds_o1 := F_bounds_o1.ext Ex2
  have F2_taken_o1 := F_taken_o1.ext Ex2
  have sz_b2 : h.size ≤ b2 := Nat.le_trans (Keep.refl h [o1]).1 (Nat.le_of_eq g2.symm)
  have K3 := (Keep.refl h [o1]).ext Ex2
  replace X2 := X2.more (cells' := 1) (slots' := 16) (by decide) (by decide)
  refine F_putfield X2 (wd16 hw) F2_bounds_o1 E2_o1 (Or.inl (wd17 hw)) (wd7 hw) (ty := (.array .long)) (by decide) rfl rfl ge_o1 d2_9 (pc' := 12) rfl fun T4 h4 X4 W4 => ?_
  have F4_bounds_o1 := F2_bounds_o1.same W4
  have E4_o1 := E2_o1.wr W4
  have E4_b2 := E_b2.wr W4
  have F4_taken_o1 := F2_taken_o1.other W4 (Or.inr (slot_ne (Or.inl (wd24 hw)) (Or.inl (wd17 hw)) (by decide) (t := .int) (t' := (.array .long)) (by decide) (by decide)))
  have A4_b2 := A2.other W4 (Ne.symm ne_o1_b2)
  have K5 := K3.wr W4 (Or.inl (List.mem_of_getElem? (i := 0) rfl))
  refine F_return X4 d2_12 rfl (by decide) (by decide) ?_
  exact ⟨_, rfl, sz_b2, K5, E4_o1, E4_b2, F4_bounds_o1, F4_taken_o1, A4_b2⟩
theorem d5_0 : decode prog_202_method_2_code 0 = .ok (.aload_n 0, 1) := by decide +kernel
theorem d5_1 : decode prog_202_method_2_code 1 = .ok (.getfield 13, 3) := by decide +kernel
theorem d5_4 : decode prog_202_method_2_code 4 = .ok (.ifCond .le 34, 3) := by decide +kernel
theorem d5_38 : decode prog_202_method_2_code 38 = .ok (.aload_n 0, 1) := by decide +kernel
theorem d5_39 : decode prog_202_method_2_code 39 = .ok (.getfield 13, 3) := by decide +kernel
theorem d5_42 : decode prog_202_method_2_code 42 = .ok (.aload_n 0, 1) := by decide +kernel
theorem d5_43 : decode prog_202_method_2_code 43 = .ok (.getfield 7, 3) := by decide +kernel
theorem d5_46 : decode prog_202_method_2_code 46 = .ok (.arraylength, 1) := by decide +kernel
theorem d5_47 : decode prog_202_method_2_code 47 = .ok (.if_icmp .ne 20, 3) := by decide +kernel
theorem d5_67 : decode prog_202_method_2_code 67 = .ok (.aload_n 0, 1) := by decide +kernel
theorem d5_68 : decode prog_202_method_2_code 68 = .ok (.getfield 7, 3) := by decide +kernel
theorem d5_71 : decode prog_202_method_2_code 71 = .ok (.aload_n 0, 1) := by decide +kernel
theorem d5_72 : decode prog_202_method_2_code 72 = .ok (.dup, 1) := by decide +kernel
theorem d5_73 : decode prog_202_method_2_code 73 = .ok (.getfield 13, 3) := by decide +kernel
theorem d5_76 : decode prog_202_method_2_code 76 = .ok (.dup_x1, 1) := by decide +kernel
theorem d5_77 : decode prog_202_method_2_code 77 = .ok (.iconst 1, 1) := by decide +kernel
theorem d5_78 : decode prog_202_method_2_code 78 = .ok (.iadd, 1) := by decide +kernel
theorem d5_79 : decode prog_202_method_2_code 79 = .ok (.putfield 13, 3) := by decide +kernel
theorem d5_82 : decode prog_202_method_2_code 82 = .ok (.lload_n 1, 1) := by decide +kernel
theorem d5_83 : decode prog_202_method_2_code 83 = .ok (.lastore, 1) := by decide +kernel
theorem d5_84 : decode prog_202_method_2_code 84 = .ok (.aload_n 0, 1) := by decide +kernel
theorem d5_85 : decode prog_202_method_2_code 85 = .ok (.getfield 7, 3) := by decide +kernel
theorem d5_88 : decode prog_202_method_2_code 88 = .ok (.aload_n 0, 1) := by decide +kernel
theorem d5_89 : decode prog_202_method_2_code 89 = .ok (.dup, 1) := by decide +kernel
theorem d5_90 : decode prog_202_method_2_code 90 = .ok (.getfield 13, 3) := by decide +kernel
theorem d5_93 : decode prog_202_method_2_code 93 = .ok (.dup_x1, 1) := by decide +kernel
theorem d5_94 : decode prog_202_method_2_code 94 = .ok (.iconst 1, 1) := by decide +kernel
theorem d5_95 : decode prog_202_method_2_code 95 = .ok (.iadd, 1) := by decide +kernel
theorem d5_96 : decode prog_202_method_2_code 96 = .ok (.putfield 13, 3) := by decide +kernel
theorem d5_99 : decode prog_202_method_2_code 99 = .ok (.lload_n 1, 1) := by decide +kernel
theorem d5_100 : decode prog_202_method_2_code 100 = .ok (.lastore, 1) := by decide +kernel
theorem d5_101 : decode prog_202_method_2_code 101 = .ok (.return_, 1) := by decide +kernel
theorem pn5 : plainName "org/pulsewire/store/SeqRuns" = true := by first | (simp [plainName, overriddenIn]; done) | decide +kernel
theorem ef_conN0 (m : MethodId) (x0 : Addr) (x1 : Int64) : entryFrame m #[(.ref x0), (.long x1)] 3 = mkF m 0 #[.val (.ref x0), .val (.long x1), .second] [] := by first | (simp [entryFrame, mkF, argsToLocals, Value.category]; done) | rfl
set_option maxRecDepth 65536 in
set_option maxHeartbeats 40000000 in
theorem conN0 (l : Launch) (Z : State) (a0 : Array Value) (hw : ∀ d ∈ tables_1, d.before a0 Z = true) (n0 : Nat) (h : Heap) (hn0 : n0 ≤ h.size) (o1 : Addr) (u2 : Int64) (o2 : Addr) (E_o1 : Exa Z h o1 "org/pulsewire/store/SeqRuns") (F_bounds_o1 : Fld Z h o1 "org/pulsewire/store/SeqRuns" "bounds" "[J" (.ref o2)) (F_taken_o1 : Fld Z h o1 "org/pulsewire/store/SeqRuns" "taken" "I" (.int (0 : Int32))) (A_o2 : AV Z h o2 .long [(.long (0 : Int64)), (.long (0 : Int64)), (.long (0 : Int64)), (.long (0 : Int64)), (.long (0 : Int64)), (.long (0 : Int64)), (.long (0 : Int64)), (.long (0 : Int64)), (.long (0 : Int64)), (.long (0 : Int64)), (.long (0 : Int64)), (.long (0 : Int64)), (.long (0 : Int64)), (.long (0 : Int64)), (.long (0 : Int64)), (.long (0 : Int64))]) (ge_o1 : n0 ≤ o1) (ge_o2 : n0 ≤ o2) (ne_o1_o2 : o1 ≠ o2) :
    Con l (⟨"org/pulsewire/store/SeqRuns", "add", "(J)V"⟩ : MethodName) prog_202_method_2_code 3 none ({ frames := 0, cells := 0, slots := 0, locals := 0 } : Room) 0 0 Z n0 #[(.ref o1), (.long u2)] h (fun v h' => v = none ∧ Keep h h' [o1, o2] ∧ Fld Z h' o1 "org/pulsewire/store/SeqRuns" "bounds" "[J" (.ref o2) ∧ Fld Z h' o1 "org/pulsewire/store/SeqRuns" "taken" "I" (.int (2 : Int32)) ∧ AV Z h' o2 .long [(.long u2), (.long u2), (.long (0 : Int64)), (.long (0 : Int64)), (.long (0 : Int64)), (.long (0 : Int64)), (.long (0 : Int64)), (.long (0 : Int64)), (.long (0 : Int64)), (.long (0 : Int64)), (.long (0 : Int64)), (.long (0 : Int64)), (.long (0 : Int64)), (.long (0 : Int64)), (.long (0 : Int64)), (.long (0 : Int64))]) := by
  refine Con.body (own := "org/pulsewire/store/SeqRuns") (nm := "add") rfl rfl (plainFor_of_name pn5) hn0 ?_
  intro p e s m below meth c T0 X0
  rw [ef_conN0]
  refine F_aloadN X0 d5_0 rfl rfl (pc' := 1) rfl ?_
  refine F_getfield X0 (wd23 hw) F_taken_o1 d5_1 (pc' := 4) rfl fun T1 X1 => ?_
  refine F_if_le X1 d5_4 (by decide) (pt := 38) (by decide) (pc' := 7) rfl (fun _ => ?_) (fun q => absurd q (by decide))
  refine F_aloadN X1 d5_38 rfl rfl (pc' := 39) rfl ?_
  refine F_getfield X1 (wd23 hw) F_taken_o1 d5_39 (pc' := 42) rfl fun T2 X2 => ?_
  refine F_aloadN X2 d5_42 rfl rfl (pc' := 43) rfl ?_
  refine F_getfield X2 (wd16 hw) F_bounds_o1 d5_43 (pc' := 46) rfl fun T3 X3 => ?_
  refine F_arraylength X3 A_o2 (z := (16 : Int32)) rfl d5_46 (pc' := 47) rfl ?_
  refine F_icmp_ne X3 d5_47 (by decide) (pt := 67) (by decide) (pc' := 50) rfl (fun _ => ?_) (fun q => absurd q (by decide))
  refine F_aloadN X3 d5_67 rfl rfl (pc' := 68) rfl ?_
  refine F_getfield X3 (wd16 hw) F_bounds_o1 d5_68 (pc' := 71) rfl fun T4 X4 => ?_
  refine F_aloadN X4 d5_71 rfl rfl (pc' := 72) rfl ?_
  refine F_dup X4 d5_72 rfl (pc' := 73) rfl ?_
  refine F_getfield X4 (wd23 hw) F_taken_o1 d5_73 (pc' := 76) rfl fun T5 X5 => ?_
  refine F_dup_x1 X5 d5_76 rfl rfl (pc' := 77) rfl ?_
  refine F_iconst X5 d5_77 (z := (1 : Int32)) (by decide) (pc' := 78) rfl ?_
  refine F_iadd X5 d5_78 (z := (1 : Int32)) (by decide) (pc' := 79) rfl ?_
  refine F_putfield X5 (wd23 hw) F_taken_o1 E_o1 (Or.inl (wd24 hw)) (wd7 hw) (ty := .int) (by decide) rfl rfl ge_o1 d5_79 (pc' := 82) rfl fun T6 h6 X6 W6 => ?_
  have F6_taken_o1 := F_taken_o1.same W6
  have E6_o1 := E_o1.wr W6
  have F6_bounds_o1 := F_bounds_o1.other W6 (Or.inr (slot_ne (Or.inl (wd17 hw)) (Or.inl (wd24 hw)) (by decide) (t := (.array .long)) (t' := .int) (by decide) (by decide)))
  have A6_o2 := A_o2.other W6 (Ne.symm ne_o1_o2)
  have K7 := (Keep.refl h [o1, o2]).wr W6 (Or.inl (List.mem_of_getElem? (i := 0) rfl))
  refine F_lloadN X6 d5_82 rfl (pc' := 83) rfl ?_
  refine F_lastore X6 A6_o2 (by decide) (i := 0) (by decide) (Nat.le_of_ble_eq_true rfl) ge_o2 d5_83 (pc' := 84) rfl fun T8 h8 X8 W8 A8 => ?_
  replace A8 : AV Z h8 o2 .long [(.long u2), (.long (0 : Int64)), (.long (0 : Int64)), (.long (0 : Int64)), (.long (0 : Int64)), (.long (0 : Int64)), (.long (0 : Int64)), (.long (0 : Int64)), (.long (0 : Int64)), (.long (0 : Int64)), (.long (0 : Int64)), (.long (0 : Int64)), (.long (0 : Int64)), (.long (0 : Int64)), (.long (0 : Int64)), (.long (0 : Int64))] := A8
  have E8_o1 := E6_o1.wr W8
  have F8_bounds_o1 := F6_bounds_o1.other W8 (Or.inl ne_o1_o2)
  have F8_taken_o1 := F6_taken_o1.other W8 (Or.inl ne_o1_o2)
  have K9 := K7.wr W8 (Or.inl (List.mem_of_getElem? (i := 1) rfl))
  refine F_aloadN X8 d5_84 rfl rfl (pc' := 85) rfl ?_
  refine F_getfield X8 (wd16 hw) F8_bounds_o1 d5_85 (pc' := 88) rfl fun T10 X10 => ?_
  refine F_aloadN X10 d5_88 rfl rfl (pc' := 89) rfl ?_
  refine F_dup X10 d5_89 rfl (pc' := 90) rfl ?_
  refine F_getfield X10 (wd23 hw) F8_taken_o1 d5_90 (pc' := 93) rfl fun T11 X11 => ?_
  refine F_dup_x1 X11 d5_93 rfl rfl (pc' := 94) rfl ?_
  refine F_iconst X11 d5_94 (z := (1 : Int32)) (by decide) (pc' := 95) rfl ?_
  refine F_iadd X11 d5_95 (z := (2 : Int32)) (by decide) (pc' := 96) rfl ?_
  refine F_putfield X11 (wd23 hw) F8_taken_o1 E8_o1 (Or.inl (wd24 hw)) (wd7 hw) (ty := .int) (by decide) rfl rfl ge_o1 d5_96 (pc' := 99) rfl fun T12 h12 X12 W12 => ?_
  have F12_taken_o1 := F8_taken_o1.same W12
  have E12_o1 := E8_o1.wr W12
  have F12_bounds_o1 := F8_bounds_o1.other W12 (Or.inr (slot_ne (Or.inl (wd17 hw)) (Or.inl (wd24 hw)) (by decide) (t := (.array .long)) (t' := .int) (by decide) (by decide)))
  have A12_o2 := A8.other W12 (Ne.symm ne_o1_o2)
  have K13 := K9.wr W12 (Or.inl (List.mem_of_getElem? (i := 0) rfl))
  refine F_lloadN X12 d5_99 rfl (pc' := 100) rfl ?_
  refine F_lastore X12 A12_o2 (by decide) (i := 1) (by decide) (Nat.le_of_ble_eq_true rfl) ge_o2 d5_100 (pc' := 101) rfl fun T14 h14 X14 W14 A14 => ?_
  replace A14 : AV Z h14 o2 .long [(.long u2), (.long u2), (.long (0 : Int64)), (.long (0 : Int64)), (.long (0 : Int64)), (.long (0 : Int64)), (.long (0 : Int64)), (.long (0 : Int64)), (.long (0 : Int64)), (.long (0 : Int64)), (.long (0 : Int64)), (.long (0 : Int64)), (.long (0 : Int64)), (.long (0 : Int64)), (.long (0 : Int64)), (.long (0 : Int64))] := A14
  have E14_o1 := E12_o1.wr W14
  have F14_bounds_o1 := F12_bounds_o1.other W14 (Or.inl ne_o1_o2)
  have F14_taken_o1 := F12_taken_o1.other W14 (Or.inl ne_o1_o2)
  have K15 := K13.wr W14 (Or.inl (List.mem_of_getElem? (i := 1) rfl))
  refine F_return X14 d5_101 rfl (by decide) (by decide) ?_
  exact ⟨rfl, K15, F14_bounds_o1, F14_taken_o1, A14⟩
theorem d5_7 : decode prog_202_method_2_code 7 = .ok (.aload_n 0, 1) := by decide +kernel
theorem d5_8 : decode prog_202_method_2_code 8 = .ok (.getfield 7, 3) := by decide +kernel
theorem d5_11 : decode prog_202_method_2_code 11 = .ok (.aload_n 0, 1) := by decide +kernel
theorem d5_12 : decode prog_202_method_2_code 12 = .ok (.getfield 13, 3) := by decide +kernel
theorem d5_15 : decode prog_202_method_2_code 15 = .ok (.iconst 1, 1) := by decide +kernel
theorem d5_16 : decode prog_202_method_2_code 16 = .ok (.isub, 1) := by decide +kernel
theorem d5_17 : decode prog_202_method_2_code 17 = .ok (.laload, 1) := by decide +kernel
theorem d5_18 : decode prog_202_method_2_code 18 = .ok (.lload_n 1, 1) := by decide +kernel
theorem d5_19 : decode prog_202_method_2_code 19 = .ok (.lconst 1, 1) := by decide +kernel
theorem d5_20 : decode prog_202_method_2_code 20 = .ok (.lsub, 1) := by decide +kernel
theorem d5_21 : decode prog_202_method_2_code 21 = .ok (.lcmp, 1) := by decide +kernel
theorem d5_22 : decode prog_202_method_2_code 22 = .ok (.ifCond .ne 16, 3) := by decide +kernel
theorem ef_conN2 (m : MethodId) (x0 : Addr) (x1 : Int64) : entryFrame m #[(.ref x0), (.long x1)] 3 = mkF m 0 #[.val (.ref x0), .val (.long x1), .second] [] := by first | (simp [entryFrame, mkF, argsToLocals, Value.category]; done) | rfl
set_option maxRecDepth 65536 in
set_option maxHeartbeats 40000000 in
theorem conN2 (l : Launch) (Z : State) (a0 : Array Value) (hw : ∀ d ∈ tables_1, d.before a0 Z = true) (n0 : Nat) (h : Heap) (hn0 : n0 ≤ h.size) (o1 : Addr) (u2 : Int64) (o2 : Addr) (z0 : Int64) (z1 : Int64) (E_o1 : Exa Z h o1 "org/pulsewire/store/SeqRuns") (F_bounds_o1 : Fld Z h o1 "org/pulsewire/store/SeqRuns" "bounds" "[J" (.ref o2)) (F_taken_o1 : Fld Z h o1 "org/pulsewire/store/SeqRuns" "taken" "I" (.int (2 : Int32))) (A_o2 : AV Z h o2 .long [(.long z0), (.long z1), (.long (0 : Int64)), (.long (0 : Int64)), (.long (0 : Int64)), (.long (0 : Int64)), (.long (0 : Int64)), (.long (0 : Int64)), (.long (0 : Int64)), (.long (0 : Int64)), (.long (0 : Int64)), (.long (0 : Int64)), (.long (0 : Int64)), (.long (0 : Int64)), (.long (0 : Int64)), (.long (0 : Int64))]) (ge_o1 : n0 ≤ o1) (ge_o2 : n0 ≤ o2) (ne_o1_o2 : o1 ≠ o2) (hq : ¬ (z1 = (u2 - (1 : Int64)))) :
    Con l (⟨"org/pulsewire/store/SeqRuns", "add", "(J)V"⟩ : MethodName) prog_202_method_2_code 3 none ({ frames := 0, cells := 0, slots := 0, locals := 0 } : Room) 0 0 Z n0 #[(.ref o1), (.long u2)] h (fun v h' => v = none ∧ Keep h h' [o1, o2] ∧ Fld Z h' o1 "org/pulsewire/store/SeqRuns" "bounds" "[J" (.ref o2) ∧ Fld Z h' o1 "org/pulsewire/store/SeqRuns" "taken" "I" (.int (4 : Int32)) ∧ AV Z h' o2 .long [(.long z0), (.long z1), (.long u2), (.long u2), (.long (0 : Int64)), (.long (0 : Int64)), (.long (0 : Int64)), (.long (0 : Int64)), (.long (0 : Int64)), (.long (0 : Int64)), (.long (0 : Int64)), (.long (0 : Int64)), (.long (0 : Int64)), (.long (0 : Int64)), (.long (0 : Int64)), (.long (0 : Int64))]) := by
  refine Con.body (own := "org/pulsewire/store/SeqRuns") (nm := "add") rfl rfl (plainFor_of_name pn5) hn0 ?_
  intro p e s m below meth c T0 X0
  rw [ef_conN2]
  refine F_aloadN X0 d5_0 rfl rfl (pc' := 1) rfl ?_
  refine F_getfield X0 (wd23 hw) F_taken_o1 d5_1 (pc' := 4) rfl fun T1 X1 => ?_
  refine F_if_le X1 d5_4 (by decide) (pt := 38) (by decide) (pc' := 7) rfl (fun q => absurd q (by decide)) (fun _ => ?_)
  refine F_aloadN X1 d5_7 rfl rfl (pc' := 8) rfl ?_
  refine F_getfield X1 (wd16 hw) F_bounds_o1 d5_8 (pc' := 11) rfl fun T2 X2 => ?_
  refine F_aloadN X2 d5_11 rfl rfl (pc' := 12) rfl ?_
  refine F_getfield X2 (wd23 hw) F_taken_o1 d5_12 (pc' := 15) rfl fun T3 X3 => ?_
  refine F_iconst X3 d5_15 (z := (1 : Int32)) (by decide) (pc' := 16) rfl ?_
  refine F_isub X3 d5_16 (z := (1 : Int32)) (by decide) (pc' := 17) rfl ?_
  refine F_laload X3 A_o2 (by decide) rfl d5_17 (pc' := 18) rfl ?_
  refine F_lloadN X3 d5_18 rfl (pc' := 19) rfl ?_
  refine F_lconst X3 d5_19 (z := (1 : Int64)) (by decide) (pc' := 20) rfl ?_
  refine F_lsub X3 d5_20 rfl (pc' := 21) rfl ?_
  refine F_lcmp X3 d5_21 (pc' := 22) rfl ?_
  refine F_lif_ne X3 d5_22 (by decide) (pt := 38) (by decide) (pc' := 25) rfl (fun hc22_4 => ?_) (fun hc22_4 => by exfalso; exact hq hc22_4)
  refine F_aloadN X3 d5_38 rfl rfl (pc' := 39) rfl ?_
  refine F_getfield X3 (wd23 hw) F_taken_o1 d5_39 (pc' := 42) rfl fun T5 X5 => ?_
  refine F_aloadN X5 d5_42 rfl rfl (pc' := 43) rfl ?_
  refine F_getfield X5 (wd16 hw) F_bounds_o1 d5_43 (pc' := 46) rfl fun T6 X6 => ?_
  refine F_arraylength X6 A_o2 (z := (16 : Int32)) rfl d5_46 (pc' := 47) rfl ?_
  refine F_icmp_ne X6 d5_47 (by decide) (pt := 67) (by decide) (pc' := 50) rfl (fun _ => ?_) (fun q => absurd q (by decide))
  refine F_aloadN X6 d5_67 rfl rfl (pc' := 68) rfl ?_
  refine F_getfield X6 (wd16 hw) F_bounds_o1 d5_68 (pc' := 71) rfl fun T7 X7 => ?_
  refine F_aloadN X7 d5_71 rfl rfl (pc' := 72) rfl ?_
  refine F_dup X7 d5_72 rfl (pc' := 73) rfl ?_
  refine F_getfield X7 (wd23 hw) F_taken_o1 d5_73 (pc' := 76) rfl fun T8 X8 => ?_
  refine F_dup_x1 X8 d5_76 rfl rfl (pc' := 77) rfl ?_
  refine F_iconst X8 d5_77 (z := (1 : Int32)) (by decide) (pc' := 78) rfl ?_
  refine F_iadd X8 d5_78 (z := (3 : Int32)) (by decide) (pc' := 79) rfl ?_
  refine F_putfield X8 (wd23 hw) F_taken_o1 E_o1 (Or.inl (wd24 hw)) (wd7 hw) (ty := .int) (by decide) rfl rfl ge_o1 d5_79 (pc' := 82) rfl fun T9 h9 X9 W9 => ?_
  have F9_taken_o1 := F_taken_o1.same W9
  have E9_o1 := E_o1.wr W9
  have F9_bounds_o1 := F_bounds_o1.other W9 (Or.inr (slot_ne (Or.inl (wd17 hw)) (Or.inl (wd24 hw)) (by decide) (t := (.array .long)) (t' := .int) (by decide) (by decide)))
  have A9_o2 := A_o2.other W9 (Ne.symm ne_o1_o2)
  have K10 := (Keep.refl h [o1, o2]).wr W9 (Or.inl (List.mem_of_getElem? (i := 0) rfl))
  refine F_lloadN X9 d5_82 rfl (pc' := 83) rfl ?_
  refine F_lastore X9 A9_o2 (by decide) (i := 2) (by decide) (Nat.le_of_ble_eq_true rfl) ge_o2 d5_83 (pc' := 84) rfl fun T11 h11 X11 W11 A11 => ?_
  replace A11 : AV Z h11 o2 .long [(.long z0), (.long z1), (.long u2), (.long (0 : Int64)), (.long (0 : Int64)), (.long (0 : Int64)), (.long (0 : Int64)), (.long (0 : Int64)), (.long (0 : Int64)), (.long (0 : Int64)), (.long (0 : Int64)), (.long (0 : Int64)), (.long (0 : Int64)), (.long (0 : Int64)), (.long (0 : Int64)), (.long (0 : Int64))] := A11
  have E11_o1 := E9_o1.wr W11
  have F11_bounds_o1 := F9_bounds_o1.other W11 (Or.inl ne_o1_o2)
  have F11_taken_o1 := F9_taken_o1.other W11 (Or.inl ne_o1_o2)
  have K12 := K10.wr W11 (Or.inl (List.mem_of_getElem? (i := 1) rfl))
  refine F_aloadN X11 d5_84 rfl rfl (pc' := 85) rfl ?_
  refine F_getfield X11 (wd16 hw) F11_bounds_o1 d5_85 (pc' := 88) rfl fun T13 X13 => ?_
  refine F_aloadN X13 d5_88 rfl rfl (pc' := 89) rfl ?_
  refine F_dup X13 d5_89 rfl (pc' := 90) rfl ?_
  refine F_getfield X13 (wd23 hw) F11_taken_o1 d5_90 (pc' := 93) rfl fun T14 X14 => ?_
  refine F_dup_x1 X14 d5_93 rfl rfl (pc' := 94) rfl ?_
  refine F_iconst X14 d5_94 (z := (1 : Int32)) (by decide) (pc' := 95) rfl ?_
  refine F_iadd X14 d5_95 (z := (4 : Int32)) (by decide) (pc' := 96) rfl ?_
  refine F_putfield X14 (wd23 hw) F11_taken_o1 E11_o1 (Or.inl (wd24 hw)) (wd7 hw) (ty := .int) (by decide) rfl rfl ge_o1 d5_96 (pc' := 99) rfl fun T15 h15 X15 W15 => ?_
  have F15_taken_o1 := F11_taken_o1.same W15
  have E15_o1 := E11_o1.wr W15
  have F15_bounds_o1 := F11_bounds_o1.other W15 (Or.inr (slot_ne (Or.inl (wd17 hw)) (Or.inl (wd24 hw)) (by decide) (t := (.array .long)) (t' := .int) (by decide) (by decide)))
  have A15_o2 := A11.other W15 (Ne.symm ne_o1_o2)
  have K16 := K12.wr W15 (Or.inl (List.mem_of_getElem? (i := 0) rfl))
  refine F_lloadN X15 d5_99 rfl (pc' := 100) rfl ?_
  refine F_lastore X15 A15_o2 (by decide) (i := 3) (by decide) (Nat.le_of_ble_eq_true rfl) ge_o2 d5_100 (pc' := 101) rfl fun T17 h17 X17 W17 A17 => ?_
  replace A17 : AV Z h17 o2 .long [(.long z0), (.long z1), (.long u2), (.long u2), (.long (0 : Int64)), (.long (0 : Int64)), (.long (0 : Int64)), (.long (0 : Int64)), (.long (0 : Int64)), (.long (0 : Int64)), (.long (0 : Int64)), (.long (0 : Int64)), (.long (0 : Int64)), (.long (0 : Int64)), (.long (0 : Int64)), (.long (0 : Int64))] := A17
  have E17_o1 := E15_o1.wr W17
  have F17_bounds_o1 := F15_bounds_o1.other W17 (Or.inl ne_o1_o2)
  have F17_taken_o1 := F15_taken_o1.other W17 (Or.inl ne_o1_o2)
  have K18 := K16.wr W17 (Or.inl (List.mem_of_getElem? (i := 1) rfl))
  refine F_return X17 d5_101 rfl (by decide) (by decide) ?_
  exact ⟨rfl, K18, F17_bounds_o1, F17_taken_o1, A17⟩
theorem d5_25 : decode prog_202_method_2_code 25 = .ok (.aload_n 0, 1) := by decide +kernel
theorem d5_26 : decode prog_202_method_2_code 26 = .ok (.getfield 7, 3) := by decide +kernel
theorem d5_29 : decode prog_202_method_2_code 29 = .ok (.aload_n 0, 1) := by decide +kernel
theorem d5_30 : decode prog_202_method_2_code 30 = .ok (.getfield 13, 3) := by decide +kernel
theorem d5_33 : decode prog_202_method_2_code 33 = .ok (.iconst 1, 1) := by decide +kernel
theorem d5_34 : decode prog_202_method_2_code 34 = .ok (.isub, 1) := by decide +kernel
theorem d5_35 : decode prog_202_method_2_code 35 = .ok (.lload_n 1, 1) := by decide +kernel
theorem d5_36 : decode prog_202_method_2_code 36 = .ok (.lastore, 1) := by decide +kernel
theorem d5_37 : decode prog_202_method_2_code 37 = .ok (.return_, 1) := by decide +kernel
theorem ef_conX2 (m : MethodId) (x0 : Addr) (x1 : Int64) : entryFrame m #[(.ref x0), (.long x1)] 3 = mkF m 0 #[.val (.ref x0), .val (.long x1), .second] [] := by first | (simp [entryFrame, mkF, argsToLocals, Value.category]; done) | rfl
set_option maxRecDepth 65536 in
set_option maxHeartbeats 40000000 in
theorem conX2 (l : Launch) (Z : State) (a0 : Array Value) (hw : ∀ d ∈ tables_1, d.before a0 Z = true) (n0 : Nat) (h : Heap) (hn0 : n0 ≤ h.size) (o1 : Addr) (u2 : Int64) (o2 : Addr) (z0 : Int64) (z1 : Int64) (E_o1 : Exa Z h o1 "org/pulsewire/store/SeqRuns") (F_bounds_o1 : Fld Z h o1 "org/pulsewire/store/SeqRuns" "bounds" "[J" (.ref o2)) (F_taken_o1 : Fld Z h o1 "org/pulsewire/store/SeqRuns" "taken" "I" (.int (2 : Int32))) (A_o2 : AV Z h o2 .long [(.long z0), (.long z1), (.long (0 : Int64)), (.long (0 : Int64)), (.long (0 : Int64)), (.long (0 : Int64)), (.long (0 : Int64)), (.long (0 : Int64)), (.long (0 : Int64)), (.long (0 : Int64)), (.long (0 : Int64)), (.long (0 : Int64)), (.long (0 : Int64)), (.long (0 : Int64)), (.long (0 : Int64)), (.long (0 : Int64))]) (ge_o1 : n0 ≤ o1) (ge_o2 : n0 ≤ o2) (ne_o1_o2 : o1 ≠ o2) (hq : (z1 = (u2 - (1 : Int64)))) :
    Con l (⟨"org/pulsewire/store/SeqRuns", "add", "(J)V"⟩ : MethodName) prog_202_method_2_code 3 none ({ frames := 0, cells := 0, slots := 0, locals := 0 } : Room) 0 0 Z n0 #[(.ref o1), (.long u2)] h (fun v h' => v = none ∧ Keep h h' [o1, o2] ∧ Fld Z h' o1 "org/pulsewire/store/SeqRuns" "bounds" "[J" (.ref o2) ∧ Fld Z h' o1 "org/pulsewire/store/SeqRuns" "taken" "I" (.int (2 : Int32)) ∧ AV Z h' o2 .long [(.long z0), (.long u2), (.long (0 : Int64)), (.long (0 : Int64)), (.long (0 : Int64)), (.long (0 : Int64)), (.long (0 : Int64)), (.long (0 : Int64)), (.long (0 : Int64)), (.long (0 : Int64)), (.long (0 : Int64)), (.long (0 : Int64)), (.long (0 : Int64)), (.long (0 : Int64)), (.long (0 : Int64)), (.long (0 : Int64))]) := by
  refine Con.body (own := "org/pulsewire/store/SeqRuns") (nm := "add") rfl rfl (plainFor_of_name pn5) hn0 ?_
  intro p e s m below meth c T0 X0
  rw [ef_conX2]
  refine F_aloadN X0 d5_0 rfl rfl (pc' := 1) rfl ?_
  refine F_getfield X0 (wd23 hw) F_taken_o1 d5_1 (pc' := 4) rfl fun T1 X1 => ?_
  refine F_if_le X1 d5_4 (by decide) (pt := 38) (by decide) (pc' := 7) rfl (fun q => absurd q (by decide)) (fun _ => ?_)
  refine F_aloadN X1 d5_7 rfl rfl (pc' := 8) rfl ?_
  refine F_getfield X1 (wd16 hw) F_bounds_o1 d5_8 (pc' := 11) rfl fun T2 X2 => ?_
  refine F_aloadN X2 d5_11 rfl rfl (pc' := 12) rfl ?_
  refine F_getfield X2 (wd23 hw) F_taken_o1 d5_12 (pc' := 15) rfl fun T3 X3 => ?_
  refine F_iconst X3 d5_15 (z := (1 : Int32)) (by decide) (pc' := 16) rfl ?_
  refine F_isub X3 d5_16 (z := (1 : Int32)) (by decide) (pc' := 17) rfl ?_
  refine F_laload X3 A_o2 (by decide) rfl d5_17 (pc' := 18) rfl ?_
  refine F_lloadN X3 d5_18 rfl (pc' := 19) rfl ?_
  refine F_lconst X3 d5_19 (z := (1 : Int64)) (by decide) (pc' := 20) rfl ?_
  refine F_lsub X3 d5_20 rfl (pc' := 21) rfl ?_
  refine F_lcmp X3 d5_21 (pc' := 22) rfl ?_
  refine F_lif_ne X3 d5_22 (by decide) (pt := 38) (by decide) (pc' := 25) rfl (fun hc22_4 => by exfalso; exact hc22_4 hq) (fun hc22_4 => ?_)
  refine F_aloadN X3 d5_25 rfl rfl (pc' := 26) rfl ?_
  refine F_getfield X3 (wd16 hw) F_bounds_o1 d5_26 (pc' := 29) rfl fun T5 X5 => ?_
  refine F_aloadN X5 d5_29 rfl rfl (pc' := 30) rfl ?_
  refine F_getfield X5 (wd23 hw) F_taken_o1 d5_30 (pc' := 33) rfl fun T6 X6 => ?_
  refine F_iconst X6 d5_33 (z := (1 : Int32)) (by decide) (pc' := 34) rfl ?_
  refine F_isub X6 d5_34 (z := (1 : Int32)) (by decide) (pc' := 35) rfl ?_
  refine F_lloadN X6 d5_35 rfl (pc' := 36) rfl ?_
  refine F_lastore X6 A_o2 (by decide) (i := 1) (by decide) (Nat.le_of_ble_eq_true rfl) ge_o2 d5_36 (pc' := 37) rfl fun T7 h7 X7 W7 A7 => ?_
  replace A7 : AV Z h7 o2 .long [(.long z0), (.long u2), (.long (0 : Int64)), (.long (0 : Int64)), (.long (0 : Int64)), (.long (0 : Int64)), (.long (0 : Int64)), (.long (0 : Int64)), (.long (0 : Int64)), (.long (0 : Int64)), (.long (0 : Int64)), (.long (0 : Int64)), (.long (0 : Int64)), (.long (0 : Int64)), (.long (0 : Int64)), (.long (0 : Int64))] := A7
  have E7_o1 := E_o1.wr W7
  have F7_bounds_o1 := F_bounds_o1.other W7 (Or.inl ne_o1_o2)
  have F7_taken_o1 := F_taken_o1.other W7 (Or.inl ne_o1_o2)
  have K8 := (Keep.refl h [o1, o2]).wr W7 (Or.inl (List.mem_of_getElem? (i := 1) rfl))
  refine F_return X7 d5_37 rfl (by decide) (by decide) ?_
  exact ⟨rfl, K8, F7_bounds_o1, F7_taken_o1, A7⟩
theorem ef_conN4 (m : MethodId) (x0 : Addr) (x1 : Int64) : entryFrame m #[(.ref x0), (.long x1)] 3 = mkF m 0 #[.val (.ref x0), .val (.long x1), .second] [] := by first | (simp [entryFrame, mkF, argsToLocals, Value.category]; done) | rfl
set_option maxRecDepth 65536 in
set_option maxHeartbeats 40000000 in
theorem conN4 (l : Launch) (Z : State) (a0 : Array Value) (hw : ∀ d ∈ tables_1, d.before a0 Z = true) (n0 : Nat) (h : Heap) (hn0 : n0 ≤ h.size) (o1 : Addr) (u2 : Int64) (o2 : Addr) (z0 : Int64) (z1 : Int64) (z2 : Int64) (z3 : Int64) (E_o1 : Exa Z h o1 "org/pulsewire/store/SeqRuns") (F_bounds_o1 : Fld Z h o1 "org/pulsewire/store/SeqRuns" "bounds" "[J" (.ref o2)) (F_taken_o1 : Fld Z h o1 "org/pulsewire/store/SeqRuns" "taken" "I" (.int (4 : Int32))) (A_o2 : AV Z h o2 .long [(.long z0), (.long z1), (.long z2), (.long z3), (.long (0 : Int64)), (.long (0 : Int64)), (.long (0 : Int64)), (.long (0 : Int64)), (.long (0 : Int64)), (.long (0 : Int64)), (.long (0 : Int64)), (.long (0 : Int64)), (.long (0 : Int64)), (.long (0 : Int64)), (.long (0 : Int64)), (.long (0 : Int64))]) (ge_o1 : n0 ≤ o1) (ge_o2 : n0 ≤ o2) (ne_o1_o2 : o1 ≠ o2) (hq : ¬ (z3 = (u2 - (1 : Int64)))) :
    Con l (⟨"org/pulsewire/store/SeqRuns", "add", "(J)V"⟩ : MethodName) prog_202_method_2_code 3 none ({ frames := 0, cells := 0, slots := 0, locals := 0 } : Room) 0 0 Z n0 #[(.ref o1), (.long u2)] h (fun v h' => v = none ∧ Keep h h' [o1, o2] ∧ Fld Z h' o1 "org/pulsewire/store/SeqRuns" "bounds" "[J" (.ref o2) ∧ Fld Z h' o1 "org/pulsewire/store/SeqRuns" "taken" "I" (.int (6 : Int32)) ∧ AV Z h' o2 .long [(.long z0), (.long z1), (.long z2), (.long z3), (.long u2), (.long u2), (.long (0 : Int64)), (.long (0 : Int64)), (.long (0 : Int64)), (.long (0 : Int64)), (.long (0 : Int64)), (.long (0 : Int64)), (.long (0 : Int64)), (.long (0 : Int64)), (.long (0 : Int64)), (.long (0 : Int64))]) := by
  refine Con.body (own := "org/pulsewire/store/SeqRuns") (nm := "add") rfl rfl (plainFor_of_name pn5) hn0 ?_
  intro p e s m below meth c T0 X0
  rw [ef_conN4]
  refine F_aloadN X0 d5_0 rfl rfl (pc' := 1) rfl ?_
  refine F_getfield X0 (wd23 hw) F_taken_o1 d5_1 (pc' := 4) rfl fun T1 X1 => ?_
  refine F_if_le X1 d5_4 (by decide) (pt := 38) (by decide) (pc' := 7) rfl (fun q => absurd q (by decide)) (fun _ => ?_)
  refine F_aloadN X1 d5_7 rfl rfl (pc' := 8) rfl ?_
  refine F_getfield X1 (wd16 hw) F_bounds_o1 d5_8 (pc' := 11) rfl fun T2 X2 => ?_
  refine F_aloadN X2 d5_11 rfl rfl (pc' := 12) rfl ?_
  refine F_getfield X2 (wd23 hw) F_taken_o1 d5_12 (pc' := 15) rfl fun T3 X3 => ?_
  refine F_iconst X3 d5_15 (z := (1 : Int32)) (by decide) (pc' := 16) rfl ?_
  refine F_isub X3 d5_16 (z := (3 : Int32)) (by decide) (pc' := 17) rfl ?_
  refine F_laload X3 A_o2 (by decide) rfl d5_17 (pc' := 18) rfl ?_
  refine F_lloadN X3 d5_18 rfl (pc' := 19) rfl ?_
  refine F_lconst X3 d5_19 (z := (1 : Int64)) (by decide) (pc' := 20) rfl ?_
  refine F_lsub X3 d5_20 rfl (pc' := 21) rfl ?_
  refine F_lcmp X3 d5_21 (pc' := 22) rfl ?_
  refine F_lif_ne X3 d5_22 (by decide) (pt := 38) (by decide) (pc' := 25) rfl (fun hc22_4 => ?_) (fun hc22_4 => by exfalso; exact hq hc22_4)
  refine F_aloadN X3 d5_38 rfl rfl (pc' := 39) rfl ?_
  refine F_getfield X3 (wd23 hw) F_taken_o1 d5_39 (pc' := 42) rfl fun T5 X5 => ?_
  refine F_aloadN X5 d5_42 rfl rfl (pc' := 43) rfl ?_
  refine F_getfield X5 (wd16 hw) F_bounds_o1 d5_43 (pc' := 46) rfl fun T6 X6 => ?_
  refine F_arraylength X6 A_o2 (z := (16 : Int32)) rfl d5_46 (pc' := 47) rfl ?_
  refine F_icmp_ne X6 d5_47 (by decide) (pt := 67) (by decide) (pc' := 50) rfl (fun _ => ?_) (fun q => absurd q (by decide))
  refine F_aloadN X6 d5_67 rfl rfl (pc' := 68) rfl ?_
  refine F_getfield X6 (wd16 hw) F_bounds_o1 d5_68 (pc' := 71) rfl fun T7 X7 => ?_
  refine F_aloadN X7 d5_71 rfl rfl (pc' := 72) rfl ?_
  refine F_dup X7 d5_72 rfl (pc' := 73) rfl ?_
  refine F_getfield X7 (wd23 hw) F_taken_o1 d5_73 (pc' := 76) rfl fun T8 X8 => ?_
  refine F_dup_x1 X8 d5_76 rfl rfl (pc' := 77) rfl ?_
  refine F_iconst X8 d5_77 (z := (1 : Int32)) (by decide) (pc' := 78) rfl ?_
  refine F_iadd X8 d5_78 (z := (5 : Int32)) (by decide) (pc' := 79) rfl ?_
  refine F_putfield X8 (wd23 hw) F_taken_o1 E_o1 (Or.inl (wd24 hw)) (wd7 hw) (ty := .int) (by decide) rfl rfl ge_o1 d5_79 (pc' := 82) rfl fun T9 h9 X9 W9 => ?_
  have F9_taken_o1 := F_taken_o1.same W9
  have E9_o1 := E_o1.wr W9
  have F9_bounds_o1 := F_bounds_o1.other W9 (Or.inr (slot_ne (Or.inl (wd17 hw)) (Or.inl (wd24 hw)) (by decide) (t := (.array .long)) (t' := .int) (by decide) (by decide)))
  have A9_o2 := A_o2.other W9 (Ne.symm ne_o1_o2)
  have K10 := (Keep.refl h [o1, o2]).wr W9 (Or.inl (List.mem_of_getElem? (i := 0) rfl))
  refine F_lloadN X9 d5_82 rfl (pc' := 83) rfl ?_
  refine F_lastore X9 A9_o2 (by decide) (i := 4) (by decide) (Nat.le_of_ble_eq_true rfl) ge_o2 d5_83 (pc' := 84) rfl fun T11 h11 X11 W11 A11 => ?_
  replace A11 : AV Z h11 o2 .long [(.long z0), (.long z1), (.long z2), (.long z3), (.long u2), (.long (0 : Int64)), (.long (0 : Int64)), (.long (0 : Int64)), (.long (0 : Int64)), (.long (0 : Int64)), (.long (0 : Int64)), (.long (0 : Int64)), (.long (0 : Int64)), (.long (0 : Int64)), (.long (0 : Int64)), (.long (0 : Int64))] := A11
  have E11_o1 := E9_o1.wr W11
  have F11_bounds_o1 := F9_bounds_o1.other W11 (Or.inl ne_o1_o2)
  have F11_taken_o1 := F9_taken_o1.other W11 (Or.inl ne_o1_o2)
  have K12 := K10.wr W11 (Or.inl (List.mem_of_getElem? (i := 1) rfl))
  refine F_aloadN X11 d5_84 rfl rfl (pc' := 85) rfl ?_
  refine F_getfield X11 (wd16 hw) F11_bounds_o1 d5_85 (pc' := 88) rfl fun T13 X13 => ?_
  refine F_aloadN X13 d5_88 rfl rfl (pc' := 89) rfl ?_
  refine F_dup X13 d5_89 rfl (pc' := 90) rfl ?_
  refine F_getfield X13 (wd23 hw) F11_taken_o1 d5_90 (pc' := 93) rfl fun T14 X14 => ?_
  refine F_dup_x1 X14 d5_93 rfl rfl (pc' := 94) rfl ?_
  refine F_iconst X14 d5_94 (z := (1 : Int32)) (by decide) (pc' := 95) rfl ?_
  refine F_iadd X14 d5_95 (z := (6 : Int32)) (by decide) (pc' := 96) rfl ?_
  refine F_putfield X14 (wd23 hw) F11_taken_o1 E11_o1 (Or.inl (wd24 hw)) (wd7 hw) (ty := .int) (by decide) rfl rfl ge_o1 d5_96 (pc' := 99) rfl fun T15 h15 X15 W15 => ?_
  have F15_taken_o1 := F11_taken_o1.same W15
  have E15_o1 := E11_o1.wr W15
  have F15_bounds_o1 := F11_bounds_o1.other W15 (Or.inr (slot_ne (Or.inl (wd17 hw)) (Or.inl (wd24 hw)) (by decide) (t := (.array .long)) (t' := .int) (by decide) (by decide)))
  have A15_o2 := A11.other W15 (Ne.symm ne_o1_o2)
  have K16 := K12.wr W15 (Or.inl (List.mem_of_getElem? (i := 0) rfl))
  refine F_lloadN X15 d5_99 rfl (pc' := 100) rfl ?_
  refine F_lastore X15 A15_o2 (by decide) (i := 5) (by decide) (Nat.le_of_ble_eq_true rfl) ge_o2 d5_100 (pc' := 101) rfl fun T17 h17 X17 W17 A17 => ?_
  replace A17 : AV Z h17 o2 .long [(.long z0), (.long z1), (.long z2), (.long z3), (.long u2), (.long u2), (.long (0 : Int64)), (.long (0 : Int64)), (.long (0 : Int64)), (.long (0 : Int64)), (.long (0 : Int64)), (.long (0 : Int64)), (.long (0 : Int64)), (.long (0 : Int64)), (.long (0 : Int64)), (.long (0 : Int64))] := A17
  have E17_o1 := E15_o1.wr W17
  have F17_bounds_o1 := F15_bounds_o1.other W17 (Or.inl ne_o1_o2)
  have F17_taken_o1 := F15_taken_o1.other W17 (Or.inl ne_o1_o2)
  have K18 := K16.wr W17 (Or.inl (List.mem_of_getElem? (i := 1) rfl))
  refine F_return X17 d5_101 rfl (by decide) (by decide) ?_
  exact ⟨rfl, K18, F17_bounds_o1, F17_taken_o1, A17⟩
theorem ef_conX4 (m : MethodId) (x0 : Addr) (x1 : Int64) : entryFrame m #[(.ref x0), (.long x1)] 3 = mkF m 0 #[.val (.ref x0), .val (.long x1), .second] [] := by first | (simp [entryFrame, mkF, argsToLocals, Value.category]; done) | rfl
set_option maxRecDepth 65536 in
set_option maxHeartbeats 40000000 in
theorem conX4 (l : Launch) (Z : State) (a0 : Array Value) (hw : ∀ d ∈ tables_1, d.before a0 Z = true) (n0 : Nat) (h : Heap) (hn0 : n0 ≤ h.size) (o1 : Addr) (u2 : Int64) (o2 : Addr) (z0 : Int64) (z1 : Int64) (z2 : Int64) (z3 : Int64) (E_o1 : Exa Z h o1 "org/pulsewire/store/SeqRuns") (F_bounds_o1 : Fld Z h o1 "org/pulsewire/store/SeqRuns" "bounds" "[J" (.ref o2)) (F_taken_o1 : Fld Z h o1 "org/pulsewire/store/SeqRuns" "taken" "I" (.int (4 : Int32))) (A_o2 : AV Z h o2 .long [(.long z0), (.long z1), (.long z2), (.long z3), (.long (0 : Int64)), (.long (0 : Int64)), (.long (0 : Int64)), (.long (0 : Int64)), (.long (0 : Int64)), (.long (0 : Int64)), (.long (0 : Int64)), (.long (0 : Int64)), (.long (0 : Int64)), (.long (0 : Int64)), (.long (0 : Int64)), (.long (0 : Int64))]) (ge_o1 : n0 ≤ o1) (ge_o2 : n0 ≤ o2) (ne_o1_o2 : o1 ≠ o2) (hq : (z3 = (u2 - (1 : Int64)))) :
    Con l (⟨"org/pulsewire/store/SeqRuns", "add", "(J)V"⟩ : MethodName) prog_202_method_2_code 3 none ({ frames := 0, cells := 0, slots := 0, locals := 0 } : Room) 0 0 Z n0 #[(.ref o1), (.long u2)] h (fun v h' => v = none ∧ Keep h h' [o1, o2] ∧ Fld Z h' o1 "org/pulsewire/store/SeqRuns" "bounds" "[J" (.ref o2) ∧ Fld Z h' o1 "org/pulsewire/store/SeqRuns" "taken" "I" (.int (4 : Int32)) ∧ AV Z h' o2 .long [(.long z0), (.long z1), (.long z2), (.long u2), (.long (0 : Int64)), (.long (0 : Int64)), (.long (0 : Int64)), (.long (0 : Int64)), (.long (0 : Int64)), (.long (0 : Int64)), (.long (0 : Int64)), (.long (0 : Int64)), (.long (0 : Int64)), (.long (0 : Int64)), (.long (0 : Int64)), (.long (0 : Int64))]) := by
  refine Con.body (own := "org/pulsewire/store/SeqRuns") (nm := "add") rfl rfl (plainFor_of_name pn5) hn0 ?_
  intro p e s m below meth c T0 X0
  rw [ef_conX4]
  refine F_aloadN X0 d5_0 rfl rfl (pc' := 1) rfl ?_
  refine F_getfield X0 (wd23 hw) F_taken_o1 d5_1 (pc' := 4) rfl fun T1 X1 => ?_
  refine F_if_le X1 d5_4 (by decide) (pt := 38) (by decide) (pc' := 7) rfl (fun q => absurd q (by decide)) (fun _ => ?_)
  refine F_aloadN X1 d5_7 rfl rfl (pc' := 8) rfl ?_
  refine F_getfield X1 (wd16 hw) F_bounds_o1 d5_8 (pc' := 11) rfl fun T2 X2 => ?_
  refine F_aloadN X2 d5_11 rfl rfl (pc' := 12) rfl ?_
  refine F_getfield X2 (wd23 hw) F_taken_o1 d5_12 (pc' := 15) rfl fun T3 X3 => ?_
  refine F_iconst X3 d5_15 (z := (1 : Int32)) (by decide) (pc' := 16) rfl ?_
  refine F_isub X3 d5_16 (z := (3 : Int32)) (by decide) (pc' := 17) rfl ?_
  refine F_laload X3 A_o2 (by decide) rfl d5_17 (pc' := 18) rfl ?_
  refine F_lloadN X3 d5_18 rfl (pc' := 19) rfl ?_
  refine F_lconst X3 d5_19 (z := (1 : Int64)) (by decide) (pc' := 20) rfl ?_
  refine F_lsub X3 d5_20 rfl (pc' := 21) rfl ?_
  refine F_lcmp X3 d5_21 (pc' := 22) rfl ?_
  refine F_lif_ne X3 d5_22 (by decide) (pt := 38) (by decide) (pc' := 25) rfl (fun hc22_4 => by exfalso; exact hc22_4 hq) (fun hc22_4 => ?_)
  refine F_aloadN X3 d5_25 rfl rfl (pc' := 26) rfl ?_
  refine F_getfield X3 (wd16 hw) F_bounds_o1 d5_26 (pc' := 29) rfl fun T5 X5 => ?_
  refine F_aloadN X5 d5_29 rfl rfl (pc' := 30) rfl ?_
  refine F_getfield X5 (wd23 hw) F_taken_o1 d5_30 (pc' := 33) rfl fun T6 X6 => ?_
  refine F_iconst X6 d5_33 (z := (1 : Int32)) (by decide) (pc' := 34) rfl ?_
  refine F_isub X6 d5_34 (z := (3 : Int32)) (by decide) (pc' := 35) rfl ?_
  refine F_lloadN X6 d5_35 rfl (pc' := 36) rfl ?_
  refine F_lastore X6 A_o2 (by decide) (i := 3) (by decide) (Nat.le_of_ble_eq_true rfl) ge_o2 d5_36 (pc' := 37) rfl fun T7 h7 X7 W7 A7 => ?_
  replace A7 : AV Z h7 o2 .long [(.long z0), (.long z1), (.long z2), (.long u2), (.long (0 : Int64)), (.long (0 : Int64)), (.long (0 : Int64)), (.long (0 : Int64)), (.long (0 : Int64)), (.long (0 : Int64)), (.long (0 : Int64)), (.long (0 : Int64)), (.long (0 : Int64)), (.long (0 : Int64)), (.long (0 : Int64)), (.long (0 : Int64))] := A7
  have E7_o1 := E_o1.wr W7
  have F7_bounds_o1 := F_bounds_o1.other W7 (Or.inl ne_o1_o2)
  have F7_taken_o1 := F_taken_o1.other W7 (Or.inl ne_o1_o2)
  have K8 := (Keep.refl h [o1, o2]).wr W7 (Or.inl (List.mem_of_getElem? (i := 1) rfl))
  refine F_return X7 d5_37 rfl (by decide) (by decide) ?_
  exact ⟨rfl, K8, F7_bounds_o1, F7_taken_o1, A7⟩
theorem ef_conN6 (m : MethodId) (x0 : Addr) (x1 : Int64) : entryFrame m #[(.ref x0), (.long x1)] 3 = mkF m 0 #[.val (.ref x0), .val (.long x1), .second] [] := by first | (simp [entryFrame, mkF, argsToLocals, Value.category]; done) | rfl
set_option maxRecDepth 65536 in
set_option maxHeartbeats 40000000 in
theorem conN6 (l : Launch) (Z : State) (a0 : Array Value) (hw : ∀ d ∈ tables_1, d.before a0 Z = true) (n0 : Nat) (h : Heap) (hn0 : n0 ≤ h.size) (o1 : Addr) (u2 : Int64) (o2 : Addr) (z0 : Int64) (z1 : Int64) (z2 : Int64) (z3 : Int64) (z4 : Int64) (z5 : Int64) (E_o1 : Exa Z h o1 "org/pulsewire/store/SeqRuns") (F_bounds_o1 : Fld Z h o1 "org/pulsewire/store/SeqRuns" "bounds" "[J" (.ref o2)) (F_taken_o1 : Fld Z h o1 "org/pulsewire/store/SeqRuns" "taken" "I" (.int (6 : Int32))) (A_o2 : AV Z h o2 .long [(.long z0), (.long z1), (.long z2), (.long z3), (.long z4), (.long z5), (.long (0 : Int64)), (.long (0 : Int64)), (.long (0 : Int64)), (.long (0 : Int64)), (.long (0 : Int64)), (.long (0 : Int64)), (.long (0 : Int64)), (.long (0 : Int64)), (.long (0 : Int64)), (.long (0 : Int64))]) (ge_o1 : n0 ≤ o1) (ge_o2 : n0 ≤ o2) (ne_o1_o2 : o1 ≠ o2) (hq : ¬ (z5 = (u2 - (1 : Int64)))) :
    Con l (⟨"org/pulsewire/store/SeqRuns", "add", "(J)V"⟩ : MethodName) prog_202_method_2_code 3 none ({ frames := 0, cells := 0, slots := 0, locals := 0 } : Room) 0 0 Z n0 #[(.ref o1), (.long u2)] h (fun v h' => v = none ∧ Keep h h' [o1, o2] ∧ Fld Z h' o1 "org/pulsewire/store/SeqRuns" "bounds" "[J" (.ref o2) ∧ Fld Z h' o1 "org/pulsewire/store/SeqRuns" "taken" "I" (.int (8 : Int32)) ∧ AV Z h' o2 .long [(.long z0), (.long z1), (.long z2), (.long z3), (.long z4), (.long z5), (.long u2), (.long u2), (.long (0 : Int64)), (.long (0 : Int64)), (.long (0 : Int64)), (.long (0 : Int64)), (.long (0 : Int64)), (.long (0 : Int64)), (.long (0 : Int64)), (.long (0 : Int64))]) := by
  refine Con.body (own := "org/pulsewire/store/SeqRuns") (nm := "add") rfl rfl (plainFor_of_name pn5) hn0 ?_
  intro p e s m below meth c T0 X0
  rw [ef_conN6]
  refine F_aloadN X0 d5_0 rfl rfl (pc' := 1) rfl ?_
  refine F_getfield X0 (wd23 hw) F_taken_o1 d5_1 (pc' := 4) rfl fun T1 X1 => ?_
  refine F_if_le X1 d5_4 (by decide) (pt := 38) (by decide) (pc' := 7) rfl (fun q => absurd q (by decide)) (fun _ => ?_)
  refine F_aloadN X1 d5_7 rfl rfl (pc' := 8) rfl ?_
  refine F_getfield X1 (wd16 hw) F_bounds_o1 d5_8 (pc' := 11) rfl fun T2 X2 => ?_
  refine F_aloadN X2 d5_11 rfl rfl (pc' := 12) rfl ?_
  refine F_getfield X2 (wd23 hw) F_taken_o1 d5_12 (pc' := 15) rfl fun T3 X3 => ?_
  refine F_iconst X3 d5_15 (z := (1 : Int32)) (by decide) (pc' := 16) rfl ?_
  refine F_isub X3 d5_16 (z := (5 : Int32)) (by decide) (pc' := 17) rfl ?_
  refine F_laload X3 A_o2 (by decide) rfl d5_17 (pc' := 18) rfl ?_
  refine F_lloadN X3 d5_18 rfl (pc' := 19) rfl ?_
  refine F_lconst X3 d5_19 (z := (1 : Int64)) (by decide) (pc' := 20) rfl ?_
  refine F_lsub X3 d5_20 rfl (pc' := 21) rfl ?_
  refine F_lcmp X3 d5_21 (pc' := 22) rfl ?_
  refine F_lif_ne X3 d5_22 (by decide) (pt := 38) (by decide) (pc' := 25) rfl (fun hc22_4 => ?_) (fun hc22_4 => by exfalso; exact hq hc22_4)
  refine F_aloadN X3 d5_38 rfl rfl (pc' := 39) rfl ?_
  refine F_getfield X3 (wd23 hw) F_taken_o1 d5_39 (pc' := 42) rfl fun T5 X5 => ?_
  refine F_aloadN X5 d5_42 rfl rfl (pc' := 43) rfl ?_
  refine F_getfield X5 (wd16 hw) F_bounds_o1 d5_43 (pc' := 46) rfl fun T6 X6 => ?_
  refine F_arraylength X6 A_o2 (z := (16 : Int32)) rfl d5_46 (pc' := 47) rfl ?_
  refine F_icmp_ne X6 d5_47 (by decide) (pt := 67) (by decide) (pc' := 50) rfl (fun _ => ?_) (fun q => absurd q (by decide))
  refine F_aloadN X6 d5_67 rfl rfl (pc' := 68) rfl ?_
  refine F_getfield X6 (wd16 hw) F_bounds_o1 d5_68 (pc' := 71) rfl fun T7 X7 => ?_
  refine F_aloadN X7 d5_71 rfl rfl (pc' := 72) rfl ?_
  refine F_dup X7 d5_72 rfl (pc' := 73) rfl ?_
  refine F_getfield X7 (wd23 hw) F_taken_o1 d5_73 (pc' := 76) rfl fun T8 X8 => ?_
  refine F_dup_x1 X8 d5_76 rfl rfl (pc' := 77) rfl ?_
  refine F_iconst X8 d5_77 (z := (1 : Int32)) (by decide) (pc' := 78) rfl ?_
  refine F_iadd X8 d5_78 (z := (7 : Int32)) (by decide) (pc' := 79) rfl ?_
  refine F_putfield X8 (wd23 hw) F_taken_o1 E_o1 (Or.inl (wd24 hw)) (wd7 hw) (ty := .int) (by decide) rfl rfl ge_o1 d5_79 (pc' := 82) rfl fun T9 h9 X9 W9 => ?_
  have F9_taken_o1 := F_taken_o1.same W9
  have E9_o1 := E_o1.wr W9
  have F9_bounds_o1 := F_bounds_o1.other W9 (Or.inr (slot_ne (Or.inl (wd17 hw)) (Or.inl (wd24 hw)) (by decide) (t := (.array .long)) (t' := .int) (by decide) (by decide)))
  have A9_o2 := A_o2.other W9 (Ne.symm ne_o1_o2)
  have K10 := (Keep.refl h [o1, o2]).wr W9 (Or.inl (List.mem_of_getElem? (i := 0) rfl))
  refine F_lloadN X9 d5_82 rfl (pc' := 83) rfl ?_
  refine F_lastore X9 A9_o2 (by decide) (i := 6) (by decide) (Nat.le_of_ble_eq_true rfl) ge_o2 d5_83 (pc' := 84) rfl fun T11 h11 X11 W11 A11 => ?_
  replace A11 : AV Z h11 o2 .long [(.long z0), (.long z1), (.long z2), (.long z3), (.long z4), (.long z5), (.long u2), (.long (0 : Int64)), (.long (0 : Int64)), (.long (0 : Int64)), (.long (0 : Int64)), (.long (0 : Int64)), (.long (0 : Int64)), (.long (0 : Int64)), (.long (0 : Int64)), (.long (0 : Int64))] := A11
  have E11_o1 := E9_o1.wr W11
  have F11_bounds_o1 := F9_bounds_o1.other W11 (Or.inl ne_o1_o2)
  have F11_taken_o1 := F9_taken_o1.other W11 (Or.inl ne_o1_o2)
  have K12 := K10.wr W11 (Or.inl (List.mem_of_getElem? (i := 1) rfl))
  refine F_aloadN X11 d5_84 rfl rfl (pc' := 85) rfl ?_
  refine F_getfield X11 (wd16 hw) F11_bounds_o1 d5_85 (pc' := 88) rfl fun T13 X13 => ?_
  refine F_aloadN X13 d5_88 rfl rfl (pc' := 89) rfl ?_
  refine F_dup X13 d5_89 rfl (pc' := 90) rfl ?_
  refine F_getfield X13 (wd23 hw) F11_taken_o1 d5_90 (pc' := 93) rfl fun T14 X14 => ?_
  refine F_dup_x1 X14 d5_93 rfl rfl (pc' := 94) rfl ?_
  refine F_iconst X14 d5_94 (z := (1 : Int32)) (by decide) (pc' := 95) rfl ?_
  refine F_iadd X14 d5_95 (z := (8 : Int32)) (by decide) (pc' := 96) rfl ?_
  refine F_putfield X14 (wd23 hw) F11_taken_o1 E11_o1 (Or.inl (wd24 hw)) (wd7 hw) (ty := .int) (by decide) rfl rfl ge_o1 d5_96 (pc' := 99) rfl fun T15 h15 X15 W15 => ?_
  have F15_taken_o1 := F11_taken_o1.same W15
  have E15_o1 := E11_o1.wr W15
  have F15_bounds_o1 := F11_bounds_o1.other W15 (Or.inr (slot_ne (Or.inl (wd17 hw)) (Or.inl (wd24 hw)) (by decide) (t := (.array .long)) (t' := .int) (by decide) (by decide)))
  have A15_o2 := A11.other W15 (Ne.symm ne_o1_o2)
  have K16 := K12.wr W15 (Or.inl (List.mem_of_getElem? (i := 0) rfl))
  refine F_lloadN X15 d5_99 rfl (pc' := 100) rfl ?_
  refine F_lastore X15 A15_o2 (by decide) (i := 7) (by decide) (Nat.le_of_ble_eq_true rfl) ge_o2 d5_100 (pc' := 101) rfl fun T17 h17 X17 W17 A17 => ?_
  replace A17 : AV Z h17 o2 .long [(.long z0), (.long z1), (.long z2), (.long z3), (.long z4), (.long z5), (.long u2), (.long u2), (.long (0 : Int64)), (.long (0 : Int64)), (.long (0 : Int64)), (.long (0 : Int64)), (.long (0 : Int64)), (.long (0 : Int64)), (.long (0 : Int64)), (.long (0 : Int64))] := A17
  have E17_o1 := E15_o1.wr W17
  have F17_bounds_o1 := F15_bounds_o1.other W17 (Or.inl ne_o1_o2)
  have F17_taken_o1 := F15_taken_o1.other W17 (Or.inl ne_o1_o2)
  have K18 := K16.wr W17 (Or.inl (List.mem_of_getElem? (i := 1) rfl))
  refine F_return X17 d5_101 rfl (by decide) (by decide) ?_
  exact ⟨rfl, K18, F17_bounds_o1, F17_taken_o1, A17⟩
theorem ef_conX6 (m : MethodId) (x0 : Addr) (x1 : Int64) : entryFrame m #[(.ref x0), (.long x1)] 3 = mkF m 0 #[.val (.ref x0), .val (.long x1), .second] [] := by first | (simp [entryFrame, mkF, argsToLocals, Value.category]; done) | rfl
set_option maxRecDepth 65536 in
set_option maxHeartbeats 40000000 in
theorem conX6 (l : Launch) (Z : State) (a0 : Array Value) (hw : ∀ d ∈ tables_1, d.before a0 Z = true) (n0 : Nat) (h : Heap) (hn0 : n0 ≤ h.size) (o1 : Addr) (u2 : Int64) (o2 : Addr) (z0 : Int64) (z1 : Int64) (z2 : Int64) (z3 : Int64) (z4 : Int64) (z5 : Int64) (E_o1 : Exa Z h o1 "org/pulsewire/store/SeqRuns") (F_bounds_o1 : Fld Z h o1 "org/pulsewire/store/SeqRuns" "bounds" "[J" (.ref o2)) (F_taken_o1 : Fld Z h o1 "org/pulsewire/store/SeqRuns" "taken" "I" (.int (6 : Int32))) (A_o2 : AV Z h o2 .long [(.long z0), (.long z1), (.long z2), (.long z3), (.long z4), (.long z5), (.long (0 : Int64)), (.long (0 : Int64)), (.long (0 : Int64)), (.long (0 : Int64)), (.long (0 : Int64)), (.long (0 : Int64)), (.long (0 : Int64)), (.long (0 : Int64)), (.long (0 : Int64)), (.long (0 : Int64))]) (ge_o1 : n0 ≤ o1) (ge_o2 : n0 ≤ o2) (ne_o1_o2 : o1 ≠ o2) (hq : (z5 = (u2 - (1 : Int64)))) :
    Con l (⟨"org/pulsewire/store/SeqRuns", "add", "(J)V"⟩ : MethodName) prog_202_method_2_code 3 none ({ frames := 0, cells := 0, slots := 0, locals := 0 } : Room) 0 0 Z n0 #[(.ref o1), (.long u2)] h (fun v h' => v = none ∧ Keep h h' [o1, o2] ∧ Fld Z h' o1 "org/pulsewire/store/SeqRuns" "bounds" "[J" (.ref o2) ∧ Fld Z h' o1 "org/pulsewire/store/SeqRuns" "taken" "I" (.int (6 : Int32)) ∧ AV Z h' o2 .long [(.long z0), (.long z1), (.long z2), (.long z3), (.long z4), (.long u2), (.long (0 : Int64)), (.long (0 : Int64)), (.long (0 : Int64)), (.long (0 : Int64)), (.long (0 : Int64)), (.long (0 : Int64)), (.long (0 : Int64)), (.long (0 : Int64)), (.long (0 : Int64)), (.long (0 : Int64))]) := by
  refine Con.body (own := "org/pulsewire/store/SeqRuns") (nm := "add") rfl rfl (plainFor_of_name pn5) hn0 ?_
  intro p e s m below meth c T0 X0
  rw [ef_conX6]
  refine F_aloadN X0 d5_0 rfl rfl (pc' := 1) rfl ?_
  refine F_getfield X0 (wd23 hw) F_taken_o1 d5_1 (pc' := 4) rfl fun T1 X1 => ?_
  refine F_if_le X1 d5_4 (by decide) (pt := 38) (by decide) (pc' := 7) rfl (fun q => absurd q (by decide)) (fun _ => ?_)
  refine F_aloadN X1 d5_7 rfl rfl (pc' := 8) rfl ?_
  refine F_getfield X1 (wd16 hw) F_bounds_o1 d5_8 (pc' := 11) rfl fun T2 X2 => ?_
  refine F_aloadN X2 d5_11 rfl rfl (pc' := 12) rfl ?_
  refine F_getfield X2 (wd23 hw) F_taken_o1 d5_12 (pc' := 15) rfl fun T3 X3 => ?_
  refine F_iconst X3 d5_15 (z := (1 : Int32)) (by decide) (pc' := 16) rfl ?_
  refine F_isub X3 d5_16 (z := (5 : Int32)) (by decide) (pc' := 17) rfl ?_
  refine F_laload X3 A_o2 (by decide) rfl d5_17 (pc' := 18) rfl ?_
  refine F_lloadN X3 d5_18 rfl (pc' := 19) rfl ?_
  refine F_lconst X3 d5_19 (z := (1 : Int64)) (by decide) (pc' := 20) rfl ?_
  refine F_lsub X3 d5_20 rfl (pc' := 21) rfl ?_
  refine F_lcmp X3 d5_21 (pc' := 22) rfl ?_
  refine F_lif_ne X3 d5_22 (by decide) (pt := 38) (by decide) (pc' := 25) rfl (fun hc22_4 => by exfalso; exact hc22_4 hq) (fun hc22_4 => ?_)
  refine F_aloadN X3 d5_25 rfl rfl (pc' := 26) rfl ?_
  refine F_getfield X3 (wd16 hw) F_bounds_o1 d5_26 (pc' := 29) rfl fun T5 X5 => ?_
  refine F_aloadN X5 d5_29 rfl rfl (pc' := 30) rfl ?_
  refine F_getfield X5 (wd23 hw) F_taken_o1 d5_30 (pc' := 33) rfl fun T6 X6 => ?_
  refine F_iconst X6 d5_33 (z := (1 : Int32)) (by decide) (pc' := 34) rfl ?_
  refine F_isub X6 d5_34 (z := (5 : Int32)) (by decide) (pc' := 35) rfl ?_
  refine F_lloadN X6 d5_35 rfl (pc' := 36) rfl ?_
  refine F_lastore X6 A_o2 (by decide) (i := 5) (by decide) (Nat.le_of_ble_eq_true rfl) ge_o2 d5_36 (pc' := 37) rfl fun T7 h7 X7 W7 A7 => ?_
  replace A7 : AV Z h7 o2 .long [(.long z0), (.long z1), (.long z2), (.long z3), (.long z4), (.long u2), (.long (0 : Int64)), (.long (0 : Int64)), (.long (0 : Int64)), (.long (0 : Int64)), (.long (0 : Int64)), (.long (0 : Int64)), (.long (0 : Int64)), (.long (0 : Int64)), (.long (0 : Int64)), (.long (0 : Int64))] := A7
  have E7_o1 := E_o1.wr W7
  have F7_bounds_o1 := F_bounds_o1.other W7 (Or.inl ne_o1_o2)
  have F7_taken_o1 := F_taken_o1.other W7 (Or.inl ne_o1_o2)
  have K8 := (Keep.refl h [o1, o2]).wr W7 (Or.inl (List.mem_of_getElem? (i := 1) rfl))
  refine F_return X7 d5_37 rfl (by decide) (by decide) ?_
  exact ⟨rfl, K8, F7_bounds_o1, F7_taken_o1, A7⟩
theorem d4_0 : decode prog_202_method_3_code 0 = .ok (.iconst 0, 1) := by decide +kernel
theorem d4_1 : decode prog_202_method_3_code 1 = .ok (.istore_n 3, 1) := by decide +kernel
theorem d4_2 : decode prog_202_method_3_code 2 = .ok (.aload_n 0, 1) := by decide +kernel
theorem d4_3 : decode prog_202_method_3_code 3 = .ok (.getfield 13, 3) := by decide +kernel
theorem d4_6 : decode prog_202_method_3_code 6 = .ok (.iconst 2, 1) := by decide +kernel
theorem d4_7 : decode prog_202_method_3_code 7 = .ok (.idiv, 1) := by decide +kernel
theorem d4_8 : decode prog_202_method_3_code 8 = .ok (.iconst 1, 1) := by decide +kernel
theorem d4_9 : decode prog_202_method_3_code 9 = .ok (.isub, 1) := by decide +kernel
theorem d4_10 : decode prog_202_method_3_code 10 = .ok (.istore 4, 2) := by decide +kernel
theorem d4_12 : decode prog_202_method_3_code 12 = .ok (.iconst (-1), 1) := by decide +kernel
theorem d4_13 : decode prog_202_method_3_code 13 = .ok (.istore 5, 2) := by decide +kernel
theorem d4_15 : decode prog_202_method_3_code 15 = .ok (.iload_n 3, 1) := by decide +kernel
theorem d4_16 : decode prog_202_method_3_code 16 = .ok (.iload 4, 2) := by decide +kernel
theorem d4_18 : decode prog_202_method_3_code 18 = .ok (.if_icmp .gt 46, 3) := by decide +kernel
theorem d4_64 : decode prog_202_method_3_code 64 = .ok (.iload 5, 2) := by decide +kernel
theorem d4_66 : decode prog_202_method_3_code 66 = .ok (.ifCond .lt 23, 3) := by decide +kernel
theorem d4_89 : decode prog_202_method_3_code 89 = .ok (.iconst 0, 1) := by decide +kernel
theorem d4_90 : decode prog_202_method_3_code 90 = .ok (.ireturn, 1) := by decide +kernel
theorem pn4 : plainName "org/pulsewire/store/SeqRuns" = true := by first | (simp [plainName, overriddenIn]; done) | decide +kernel
theorem ef_conC0 (m : MethodId) (x0 : Addr) (x1 : Int64) : entryFrame m #[(.ref x0), (.long x1)] 7 = mkF m 0 #[.val (.ref x0), .val (.long x1), .second, .unset, .unset, .unset, .unset] [] := by first | (simp [entryFrame, mkF, argsToLocals, Value.category]; done) | rfl
set_option maxRecDepth 65536 in
set_option maxHeartbeats 40000000 in
theorem conC0 (l : Launch) (Z : State) (a0 : Array Value) (hw : ∀ d ∈ tables_1, d.before a0 Z = true) (n0 : Nat) (h : Heap) (hn0 : n0 ≤ h.size) (o1 : Addr) (u2 : Int64) (o2 : Addr) (F_bounds_o1 : Fld Z h o1 "org/pulsewire/store/SeqRuns" "bounds" "[J" (.ref o2)) (F_taken_o1 : Fld Z h o1 "org/pulsewire/store/SeqRuns" "taken" "I" (.int (0 : Int32))) (A_o2 : AV Z h o2 .long [(.long (0 : Int64)), (.long (0 : Int64)), (.long (0 : Int64)), (.long (0 : Int64)), (.long (0 : Int64)), (.long (0 : Int64)), (.long (0 : Int64)), (.long (0 : Int64)), (.long (0 : Int64)), (.long (0 : Int64)), (.long (0 : Int64)), (.long (0 : Int64)), (.long (0 : Int64)), (.long (0 : Int64)), (.long (0 : Int64)), (.long (0 : Int64))]) :
    Con l (⟨"org/pulsewire/store/SeqRuns", "contains", "(J)Z"⟩ : MethodName) prog_202_method_3_code 7 (some .boolean) ({ frames := 0, cells := 0, slots := 0, locals := 0 } : Room) 0 0 Z n0 #[(.ref o1), (.long u2)] h (fun v h' => v = some (.int (ct0 u2)) ∧ h = h') := by
  refine Con.body (own := "org/pulsewire/store/SeqRuns") (nm := "contains") rfl rfl (plainFor_of_name pn4) hn0 ?_
  intro p e s m below meth c T0 X0
  rw [ef_conC0]
  refine F_iconst X0 d4_0 (z := (0 : Int32)) (by decide) (pc' := 1) rfl ?_
  refine F_istoreN X0 d4_1 (Ls' := #[.val (.ref o1), .val (.long u2), .second, .val (.int (0 : Int32)), .unset, .unset, .unset]) rfl (pc' := 2) rfl ?_
  refine F_aloadN X0 d4_2 rfl rfl (pc' := 3) rfl ?_
  refine F_getfield X0 (wd23 hw) F_taken_o1 d4_3 (pc' := 6) rfl fun T1 X1 => ?_
  refine F_iconst X1 d4_6 (z := (2 : Int32)) (by decide) (pc' := 7) rfl ?_
  refine F_idiv X1 d4_7 (by decide) (z := (0 : Int32)) (by decide) (pc' := 8) rfl ?_
  refine F_iconst X1 d4_8 (z := (1 : Int32)) (by decide) (pc' := 9) rfl ?_
  refine F_isub X1 d4_9 (z := (-1 : Int32)) (by decide) (pc' := 10) rfl ?_
  refine F_istore X1 d4_10 (Ls' := #[.val (.ref o1), .val (.long u2), .second, .val (.int (0 : Int32)), .val (.int (-1 : Int32)), .unset, .unset]) rfl (pc' := 12) rfl ?_
  refine F_iconst X1 d4_12 (z := (-1 : Int32)) (by decide) (pc' := 13) rfl ?_
  refine F_istore X1 d4_13 (Ls' := #[.val (.ref o1), .val (.long u2), .second, .val (.int (0 : Int32)), .val (.int (-1 : Int32)), .val (.int (-1 : Int32)), .unset]) rfl (pc' := 15) rfl ?_
  refine F_iloadN X1 d4_15 rfl (pc' := 16) rfl ?_
  refine F_iload X1 d4_16 rfl (pc' := 18) rfl ?_
  refine F_icmp_gt X1 d4_18 (by decide) (pt := 64) (by decide) (pc' := 21) rfl (fun _ => ?_) (fun q => absurd q (by decide))
  refine F_iload X1 d4_64 rfl (pc' := 66) rfl ?_
  refine F_if_lt X1 d4_66 (by decide) (pt := 89) (by decide) (pc' := 69) rfl (fun _ => ?_) (fun q => absurd q (by decide))
  refine F_iconst X1 d4_89 (z := (0 : Int32)) (by decide) (pc' := 90) rfl ?_
  refine F_ireturn_boolean (z' := (0 : Int32)) X1 (by decide) d4_90 rfl (by decide) (by decide) ?_
  exact ⟨by simp [ct0, *], rfl⟩
theorem d4_21 : decode prog_202_method_3_code 21 = .ok (.iload_n 3, 1) := by decide +kernel
theorem d4_22 : decode prog_202_method_3_code 22 = .ok (.iload 4, 2) := by decide +kernel
theorem d4_24 : decode prog_202_method_3_code 24 = .ok (.iadd, 1) := by decide +kernel
theorem d4_25 : decode prog_202_method_3_code 25 = .ok (.iconst 1, 1) := by decide +kernel
theorem d4_26 : decode prog_202_method_3_code 26 = .ok (.iushr, 1) := by decide +kernel
theorem d4_27 : decode prog_202_method_3_code 27 = .ok (.istore 6, 2) := by decide +kernel
theorem d4_29 : decode prog_202_method_3_code 29 = .ok (.aload_n 0, 1) := by decide +kernel
theorem d4_30 : decode prog_202_method_3_code 30 = .ok (.getfield 7, 3) := by decide +kernel
theorem d4_33 : decode prog_202_method_3_code 33 = .ok (.iconst 2, 1) := by decide +kernel
theorem d4_34 : decode prog_202_method_3_code 34 = .ok (.iload 6, 2) := by decide +kernel
theorem d4_36 : decode prog_202_method_3_code 36 = .ok (.imul, 1) := by decide +kernel
theorem d4_37 : decode prog_202_method_3_code 37 = .ok (.laload, 1) := by decide +kernel
theorem d4_38 : decode prog_202_method_3_code 38 = .ok (.lload_n 1, 1) := by decide +kernel
theorem d4_39 : decode prog_202_method_3_code 39 = .ok (.lcmp, 1) := by decide +kernel
theorem d4_40 : decode prog_202_method_3_code 40 = .ok (.ifCond .gt 15, 3) := by decide +kernel
theorem d4_43 : decode prog_202_method_3_code 43 = .ok (.iload 6, 2) := by decide +kernel
theorem d4_45 : decode prog_202_method_3_code 45 = .ok (.istore 5, 2) := by decide +kernel
theorem d4_47 : decode prog_202_method_3_code 47 = .ok (.iload 6, 2) := by decide +kernel
theorem d4_49 : decode prog_202_method_3_code 49 = .ok (.iconst 1, 1) := by decide +kernel
theorem d4_50 : decode prog_202_method_3_code 50 = .ok (.iadd, 1) := by decide +kernel
theorem d4_51 : decode prog_202_method_3_code 51 = .ok (.istore_n 3, 1) := by decide +kernel
theorem d4_52 : decode prog_202_method_3_code 52 = .ok (.goto 9, 3) := by decide +kernel
theorem d4_55 : decode prog_202_method_3_code 55 = .ok (.iload 6, 2) := by decide +kernel
theorem d4_57 : decode prog_202_method_3_code 57 = .ok (.iconst 1, 1) := by decide +kernel
theorem d4_58 : decode prog_202_method_3_code 58 = .ok (.isub, 1) := by decide +kernel
theorem d4_59 : decode prog_202_method_3_code 59 = .ok (.istore 4, 2) := by decide +kernel
theorem d4_61 : decode prog_202_method_3_code 61 = .ok (.goto (-46), 3) := by decide +kernel
theorem d4_69 : decode prog_202_method_3_code 69 = .ok (.lload_n 1, 1) := by decide +kernel
theorem d4_70 : decode prog_202_method_3_code 70 = .ok (.aload_n 0, 1) := by decide +kernel
theorem d4_71 : decode prog_202_method_3_code 71 = .ok (.getfield 7, 3) := by decide +kernel
theorem d4_74 : decode prog_202_method_3_code 74 = .ok (.iconst 2, 1) := by decide +kernel
theorem d4_75 : decode prog_202_method_3_code 75 = .ok (.iload 5, 2) := by decide +kernel
theorem d4_77 : decode prog_202_method_3_code 77 = .ok (.imul, 1) := by decide +kernel
theorem d4_78 : decode prog_202_method_3_code 78 = .ok (.iconst 1, 1) := by decide +kernel
theorem d4_79 : decode prog_202_method_3_code 79 = .ok (.iadd, 1) := by decide +kernel
theorem d4_80 : decode prog_202_method_3_code 80 = .ok (.laload, 1) := by decide +kernel
theorem d4_81 : decode prog_202_method_3_code 81 = .ok (.lcmp, 1) := by decide +kernel
theorem d4_82 : decode prog_202_method_3_code 82 = .ok (.ifCond .gt 7, 3) := by decide +kernel
theorem d4_85 : decode prog_202_method_3_code 85 = .ok (.iconst 1, 1) := by decide +kernel
theorem d4_86 : decode prog_202_method_3_code 86 = .ok (.goto 4, 3) := by decide +kernel
theorem ef_conC1 (m : MethodId) (x0 : Addr) (x1 : Int64) : entryFrame m #[(.ref x0), (.long x1)] 7 = mkF m 0 #[.val (.ref x0), .val (.long x1), .second, .unset, .unset, .unset, .unset] [] := by first | (simp [entryFrame, mkF, argsToLocals, Value.category]; done) | rfl
set_option maxRecDepth 65536 in
set_option maxHeartbeats 40000000 in
theorem conC1 (l : Launch) (Z : State) (a0 : Array Value) (hw : ∀ d ∈ tables_1, d.before a0 Z = true) (n0 : Nat) (h : Heap) (hn0 : n0 ≤ h.size) (o1 : Addr) (u2 : Int64) (o2 : Addr) (z0 : Int64) (z1 : Int64) (F_bounds_o1 : Fld Z h o1 "org/pulsewire/store/SeqRuns" "bounds" "[J" (.ref o2)) (F_taken_o1 : Fld Z h o1 "org/pulsewire/store/SeqRuns" "taken" "I" (.int (2 : Int32))) (A_o2 : AV Z h o2 .long [(.long z0), (.long z1), (.long (0 : Int64)), (.long (0 : Int64)), (.long (0 : Int64)), (.long (0 : Int64)), (.long (0 : Int64)), (.long (0 : Int64)), (.long (0 : Int64)), (.long (0 : Int64)), (.long (0 : Int64)), (.long (0 : Int64)), (.long (0 : Int64)), (.long (0 : Int64)), (.long (0 : Int64)), (.long (0 : Int64))]) :
    Con l (⟨"org/pulsewire/store/SeqRuns", "contains", "(J)Z"⟩ : MethodName) prog_202_method_3_code 7 (some .boolean) ({ frames := 0, cells := 0, slots := 0, locals := 0 } : Room) 0 0 Z n0 #[(.ref o1), (.long u2)] h (fun v h' => v = some (.int (ct1 z0 z1 u2)) ∧ h = h') := by
  refine Con.body (own := "org/pulsewire/store/SeqRuns") (nm := "contains") rfl rfl (plainFor_of_name pn4) hn0 ?_
  intro p e s m below meth c T0 X0
  rw [ef_conC1]
  refine F_iconst X0 d4_0 (z := (0 : Int32)) (by decide) (pc' := 1) rfl ?_
  refine F_istoreN X0 d4_1 (Ls' := #[.val (.ref o1), .val (.long u2), .second, .val (.int (0 : Int32)), .unset, .unset, .unset]) rfl (pc' := 2) rfl ?_
  refine F_aloadN X0 d4_2 rfl rfl (pc' := 3) rfl ?_
  refine F_getfield X0 (wd23 hw) F_taken_o1 d4_3 (pc' := 6) rfl fun T1 X1 => ?_
  refine F_iconst X1 d4_6 (z := (2 : Int32)) (by decide) (pc' := 7) rfl ?_
  refine F_idiv X1 d4_7 (by decide) (z := (1 : Int32)) (by decide) (pc' := 8) rfl ?_
  refine F_iconst X1 d4_8 (z := (1 : Int32)) (by decide) (pc' := 9) rfl ?_
  refine F_isub X1 d4_9 (z := (0 : Int32)) (by decide) (pc' := 10) rfl ?_
  refine F_istore X1 d4_10 (Ls' := #[.val (.ref o1), .val (.long u2), .second, .val (.int (0 : Int32)), .val (.int (0 : Int32)), .unset, .unset]) rfl (pc' := 12) rfl ?_
  refine F_iconst X1 d4_12 (z := (-1 : Int32)) (by decide) (pc' := 13) rfl ?_
  refine F_istore X1 d4_13 (Ls' := #[.val (.ref o1), .val (.long u2), .second, .val (.int (0 : Int32)), .val (.int (0 : Int32)), .val (.int (-1 : Int32)), .unset]) rfl (pc' := 15) rfl ?_
  refine F_iloadN X1 d4_15 rfl (pc' := 16) rfl ?_
  refine F_iload X1 d4_16 rfl (pc' := 18) rfl ?_
  refine F_icmp_gt X1 d4_18 (by decide) (pt := 64) (by decide) (pc' := 21) rfl (fun q => absurd q (by decide)) (fun _ => ?_)
  refine F_iloadN X1 d4_21 rfl (pc' := 22) rfl ?_
  refine F_iload X1 d4_22 rfl (pc' := 24) rfl ?_
  refine F_iadd X1 d4_24 (z := (0 : Int32)) (by decide) (pc' := 25) rfl ?_
  refine F_iconst X1 d4_25 (z := (1 : Int32)) (by decide) (pc' := 26) rfl ?_
  refine F_iushr X1 d4_26 (z := (0 : Int32)) (by decide) (pc' := 27) rfl ?_
  refine F_istore X1 d4_27 (Ls' := #[.val (.ref o1), .val (.long u2), .second, .val (.int (0 : Int32)), .val (.int (0 : Int32)), .val (.int (-1 : Int32)), .val (.int (0 : Int32))]) rfl (pc' := 29) rfl ?_
  refine F_aloadN X1 d4_29 rfl rfl (pc' := 30) rfl ?_
  refine F_getfield X1 (wd16 hw) F_bounds_o1 d4_30 (pc' := 33) rfl fun T2 X2 => ?_
  refine F_iconst X2 d4_33 (z := (2 : Int32)) (by decide) (pc' := 34) rfl ?_
  refine F_iload X2 d4_34 rfl (pc' := 36) rfl ?_
  refine F_imul X2 d4_36 (z := (0 : Int32)) (by decide) (pc' := 37) rfl ?_
  refine F_laload X2 A_o2 (by decide) rfl d4_37 (pc' := 38) rfl ?_
  refine F_lloadN X2 d4_38 rfl (pc' := 39) rfl ?_
  refine F_lcmp X2 d4_39 (pc' := 40) rfl ?_
  refine F_lif_gt X2 d4_40 (by decide) (pt := 55) (by decide) (pc' := 43) rfl (fun hc40_3 => ?_) (fun hc40_3 => ?_)
  · refine F_iload X2 d4_55 rfl (pc' := 57) rfl ?_
    refine F_iconst X2 d4_57 (z := (1 : Int32)) (by decide) (pc' := 58) rfl ?_
    refine F_isub X2 d4_58 (z := (-1 : Int32)) (by decide) (pc' := 59) rfl ?_
    refine F_istore X2 d4_59 (Ls' := #[.val (.ref o1), .val (.long u2), .second, .val (.int (0 : Int32)), .val (.int (-1 : Int32)), .val (.int (-1 : Int32)), .val (.int (0 : Int32))]) rfl (pc' := 61) rfl ?_
    refine F_goto X2 d4_61 (by decide) (pc' := 15) (by decide) ?_
    refine F_iloadN X2 d4_15 rfl (pc' := 16) rfl ?_
    refine F_iload X2 d4_16 rfl (pc' := 18) rfl ?_
    refine F_icmp_gt X2 d4_18 (by decide) (pt := 64) (by decide) (pc' := 21) rfl (fun _ => ?_) (fun q => absurd q (by decide))
    refine F_iload X2 d4_64 rfl (pc' := 66) rfl ?_
    refine F_if_lt X2 d4_66 (by decide) (pt := 89) (by decide) (pc' := 69) rfl (fun _ => ?_) (fun q => absurd q (by decide))
    refine F_iconst X2 d4_89 (z := (0 : Int32)) (by decide) (pc' := 90) rfl ?_
    refine F_ireturn_boolean (z' := (0 : Int32)) X2 (by decide) d4_90 rfl (by decide) (by decide) ?_
    exact ⟨by simp [ct1, *], rfl⟩
  · refine F_iload X2 d4_43 rfl (pc' := 45) rfl ?_
    refine F_istore X2 d4_45 (Ls' := #[.val (.ref o1), .val (.long u2), .second, .val (.int (0 : Int32)), .val (.int (0 : Int32)), .val (.int (0 : Int32)), .val (.int (0 : Int32))]) rfl (pc' := 47) rfl ?_
    refine F_iload X2 d4_47 rfl (pc' := 49) rfl ?_
    refine F_iconst X2 d4_49 (z := (1 : Int32)) (by decide) (pc' := 50) rfl ?_
    refine F_iadd X2 d4_50 (z := (1 : Int32)) (by decide) (pc' := 51) rfl ?_
    refine F_istoreN X2 d4_51 (Ls' := #[.val (.ref o1), .val (.long u2), .second, .val (.int (1 : Int32)), .val (.int (0 : Int32)), .val (.int (0 : Int32)), .val (.int (0 : Int32))]) rfl (pc' := 52) rfl ?_
    refine F_goto X2 d4_52 (by decide) (pc' := 61) (by decide) ?_
    refine F_goto X2 d4_61 (by decide) (pc' := 15) (by decide) ?_
    refine F_iloadN X2 d4_15 rfl (pc' := 16) rfl ?_
    refine F_iload X2 d4_16 rfl (pc' := 18) rfl ?_
    refine F_icmp_gt X2 d4_18 (by decide) (pt := 64) (by decide) (pc' := 21) rfl (fun _ => ?_) (fun q => absurd q (by decide))
    refine F_iload X2 d4_64 rfl (pc' := 66) rfl ?_
    refine F_if_lt X2 d4_66 (by decide) (pt := 89) (by decide) (pc' := 69) rfl (fun q => absurd q (by decide)) (fun _ => ?_)
    refine F_lloadN X2 d4_69 rfl (pc' := 70) rfl ?_
    refine F_aloadN X2 d4_70 rfl rfl (pc' := 71) rfl ?_
    refine F_getfield X2 (wd16 hw) F_bounds_o1 d4_71 (pc' := 74) rfl fun T4 X4 => ?_
    refine F_iconst X4 d4_74 (z := (2 : Int32)) (by decide) (pc' := 75) rfl ?_
    refine F_iload X4 d4_75 rfl (pc' := 77) rfl ?_
    refine F_imul X4 d4_77 (z := (0 : Int32)) (by decide) (pc' := 78) rfl ?_
    refine F_iconst X4 d4_78 (z := (1 : Int32)) (by decide) (pc' := 79) rfl ?_
    refine F_iadd X4 d4_79 (z := (1 : Int32)) (by decide) (pc' := 80) rfl ?_
    refine F_laload X4 A_o2 (by decide) rfl d4_80 (pc' := 81) rfl ?_
    refine F_lcmp X4 d4_81 (pc' := 82) rfl ?_
    refine F_lif_gt X4 d4_82 (by decide) (pt := 89) (by decide) (pc' := 85) rfl (fun hc82_5 => ?_) (fun hc82_5 => ?_)
    · refine F_iconst X4 d4_89 (z := (0 : Int32)) (by decide) (pc' := 90) rfl ?_
      refine F_ireturn_boolean (z' := (0 : Int32)) X4 (by decide) d4_90 rfl (by decide) (by decide) ?_
      exact ⟨by simp [ct1, *], rfl⟩
    · refine F_iconst X4 d4_85 (z := (1 : Int32)) (by decide) (pc' := 86) rfl ?_
      refine F_goto X4 d4_86 (by decide) (pc' := 90) (by decide) ?_
      refine F_ireturn_boolean (z' := (1 : Int32)) X4 (by decide) d4_90 rfl (by decide) (by decide) ?_
      exact ⟨by simp [ct1, *], rfl⟩
theorem ef_conC2 (m : MethodId) (x0 : Addr) (x1 : Int64) : entryFrame m #[(.ref x0), (.long x1)] 7 = mkF m 0 #[.val (.ref x0), .val (.long x1), .second, .unset, .unset, .unset, .unset] [] := by first | (simp [entryFrame, mkF, argsToLocals, Value.category]; done) | rfl
set_option maxRecDepth 65536 in
set_option maxHeartbeats 40000000 in
theorem conC2 (l : Launch) (Z : State) (a0 : Array Value) (hw : ∀ d ∈ tables_1, d.before a0 Z = true) (n0 : Nat) (h : Heap) (hn0 : n0 ≤ h.size) (o1 : Addr) (u2 : Int64) (o2 : Addr) (z0 : Int64) (z1 : Int64) (z2 : Int64) (z3 : Int64) (F_bounds_o1 : Fld Z h o1 "org/pulsewire/store/SeqRuns" "bounds" "[J" (.ref o2)) (F_taken_o1 : Fld Z h o1 "org/pulsewire/store/SeqRuns" "taken" "I" (.int (4 : Int32))) (A_o2 : AV Z h o2 .long [(.long z0), (.long z1), (.long z2), (.long z3), (.long (0 : Int64)), (.long (0 : Int64)), (.long (0 : Int64)), (.long (0 : Int64)), (.long (0 : Int64)), (.long (0 : Int64)), (.long (0 : Int64)), (.long (0 : Int64)), (.long (0 : Int64)), (.long (0 : Int64)), (.long (0 : Int64)), (.long (0 : Int64))]) :
    Con l (⟨"org/pulsewire/store/SeqRuns", "contains", "(J)Z"⟩ : MethodName) prog_202_method_3_code 7 (some .boolean) ({ frames := 0, cells := 0, slots := 0, locals := 0 } : Room) 0 0 Z n0 #[(.ref o1), (.long u2)] h (fun v h' => v = some (.int (ct2 z0 z1 z2 z3 u2)) ∧ h = h') := by
  refine Con.body (own := "org/pulsewire/store/SeqRuns") (nm := "contains") rfl rfl (plainFor_of_name pn4) hn0 ?_
  intro p e s m below meth c T0 X0
  rw [ef_conC2]
  refine F_iconst X0 d4_0 (z := (0 : Int32)) (by decide) (pc' := 1) rfl ?_
  refine F_istoreN X0 d4_1 (Ls' := #[.val (.ref o1), .val (.long u2), .second, .val (.int (0 : Int32)), .unset, .unset, .unset]) rfl (pc' := 2) rfl ?_
  refine F_aloadN X0 d4_2 rfl rfl (pc' := 3) rfl ?_
  refine F_getfield X0 (wd23 hw) F_taken_o1 d4_3 (pc' := 6) rfl fun T1 X1 => ?_
  refine F_iconst X1 d4_6 (z := (2 : Int32)) (by decide) (pc' := 7) rfl ?_
  refine F_idiv X1 d4_7 (by decide) (z := (2 : Int32)) (by decide) (pc' := 8) rfl ?_
  refine F_iconst X1 d4_8 (z := (1 : Int32)) (by decide) (pc' := 9) rfl ?_
  refine F_isub X1 d4_9 (z := (1 : Int32)) (by decide) (pc' := 10) rfl ?_
  refine F_istore X1 d4_10 (Ls' := #[.val (.ref o1), .val (.long u2), .second, .val (.int (0 : Int32)), .val (.int (1 : Int32)), .unset, .unset]) rfl (pc' := 12) rfl ?_
  refine F_iconst X1 d4_12 (z := (-1 : Int32)) (by decide) (pc' := 13) rfl ?_
  refine F_istore X1 d4_13 (Ls' := #[.val (.ref o1), .val (.long u2), .second, .val (.int (0 : Int32)), .val (.int (1 : Int32)), .val (.int (-1 : Int32)), .unset]) rfl (pc' := 15) rfl ?_
  refine F_iloadN X1 d4_15 rfl (pc' := 16) rfl ?_
  refine F_iload X1 d4_16 rfl (pc' := 18) rfl ?_
  refine F_icmp_gt X1 d4_18 (by decide) (pt := 64) (by decide) (pc' := 21) rfl (fun q => absurd q (by decide)) (fun _ => ?_)
  refine F_iloadN X1 d4_21 rfl (pc' := 22) rfl ?_
  refine F_iload X1 d4_22 rfl (pc' := 24) rfl ?_
  refine F_iadd X1 d4_24 (z := (1 : Int32)) (by decide) (pc' := 25) rfl ?_
  refine F_iconst X1 d4_25 (z := (1 : Int32)) (by decide) (pc' := 26) rfl ?_
  refine F_iushr X1 d4_26 (z := (0 : Int32)) (by decide) (pc' := 27) rfl ?_
  refine F_istore X1 d4_27 (Ls' := #[.val (.ref o1), .val (.long u2), .second, .val (.int (0 : Int32)), .val (.int (1 : Int32)), .val (.int (-1 : Int32)), .val (.int (0 : Int32))]) rfl (pc' := 29) rfl ?_
  refine F_aloadN X1 d4_29 rfl rfl (pc' := 30) rfl ?_
  refine F_getfield X1 (wd16 hw) F_bounds_o1 d4_30 (pc' := 33) rfl fun T2 X2 => ?_
  refine F_iconst X2 d4_33 (z := (2 : Int32)) (by decide) (pc' := 34) rfl ?_
  refine F_iload X2 d4_34 rfl (pc' := 36) rfl ?_
  refine F_imul X2 d4_36 (z := (0 : Int32)) (by decide) (pc' := 37) rfl ?_
  refine F_laload X2 A_o2 (by decide) rfl d4_37 (pc' := 38) rfl ?_
  refine F_lloadN X2 d4_38 rfl (pc' := 39) rfl ?_
  refine F_lcmp X2 d4_39 (pc' := 40) rfl ?_
  refine F_lif_gt X2 d4_40 (by decide) (pt := 55) (by decide) (pc' := 43) rfl (fun hc40_3 => ?_) (fun hc40_3 => ?_)
  · refine F_iload X2 d4_55 rfl (pc' := 57) rfl ?_
    refine F_iconst X2 d4_57 (z := (1 : Int32)) (by decide) (pc' := 58) rfl ?_
    refine F_isub X2 d4_58 (z := (-1 : Int32)) (by decide) (pc' := 59) rfl ?_
    refine F_istore X2 d4_59 (Ls' := #[.val (.ref o1), .val (.long u2), .second, .val (.int (0 : Int32)), .val (.int (-1 : Int32)), .val (.int (-1 : Int32)), .val (.int (0 : Int32))]) rfl (pc' := 61) rfl ?_
    refine F_goto X2 d4_61 (by decide) (pc' := 15) (by decide) ?_
    refine F_iloadN X2 d4_15 rfl (pc' := 16) rfl ?_
    refine F_iload X2 d4_16 rfl (pc' := 18) rfl ?_
    refine F_icmp_gt X2 d4_18 (by decide) (pt := 64) (by decide) (pc' := 21) rfl (fun _ => ?_) (fun q => absurd q (by decide))
    refine F_iload X2 d4_64 rfl (pc' := 66) rfl ?_
    refine F_if_lt X2 d4_66 (by decide) (pt := 89) (by decide) (pc' := 69) rfl (fun _ => ?_) (fun q => absurd q (by decide))
    refine F_iconst X2 d4_89 (z := (0 : Int32)) (by decide) (pc' := 90) rfl ?_
    refine F_ireturn_boolean (z' := (0 : Int32)) X2 (by decide) d4_90 rfl (by decide) (by decide) ?_
    exact ⟨by simp [ct2, *], rfl⟩
  · refine F_iload X2 d4_43 rfl (pc' := 45) rfl ?_
    refine F_istore X2 d4_45 (Ls' := #[.val (.ref o1), .val (.long u2), .second, .val (.int (0 : Int32)), .val (.int (1 : Int32)), .val (.int (0 : Int32)), .val (.int (0 : Int32))]) rfl (pc' := 47) rfl ?_
    refine F_iload X2 d4_47 rfl (pc' := 49) rfl ?_
    refine F_iconst X2 d4_49 (z := (1 : Int32)) (by decide) (pc' := 50) rfl ?_
    refine F_iadd X2 d4_50 (z := (1 : Int32)) (by decide) (pc' := 51) rfl ?_
    refine F_istoreN X2 d4_51 (Ls' := #[.val (.ref o1), .val (.long u2), .second, .val (.int (1 : Int32)), .val (.int (1 : Int32)), .val (.int (0 : Int32)), .val (.int (0 : Int32))]) rfl (pc' := 52) rfl ?_
    refine F_goto X2 d4_52 (by decide) (pc' := 61) (by decide) ?_
    refine F_goto X2 d4_61 (by decide) (pc' := 15) (by decide) ?_
    refine F_iloadN X2 d4_15 rfl (pc' := 16) rfl ?_
    refine F_iload X2 d4_16 rfl (pc' := 18) rfl ?_
    refine F_icmp_gt X2 d4_18 (by decide) (pt := 64) (by decide) (pc' := 21) rfl (fun q => absurd q (by decide)) (fun _ => ?_)
    refine F_iloadN X2 d4_21 rfl (pc' := 22) rfl ?_
    refine F_iload X2 d4_22 rfl (pc' := 24) rfl ?_
    refine F_iadd X2 d4_24 (z := (2 : Int32)) (by decide) (pc' := 25) rfl ?_
    refine F_iconst X2 d4_25 (z := (1 : Int32)) (by decide) (pc' := 26) rfl ?_
    refine F_iushr X2 d4_26 (z := (1 : Int32)) (by decide) (pc' := 27) rfl ?_
    refine F_istore X2 d4_27 (Ls' := #[.val (.ref o1), .val (.long u2), .second, .val (.int (1 : Int32)), .val (.int (1 : Int32)), .val (.int (0 : Int32)), .val (.int (1 : Int32))]) rfl (pc' := 29) rfl ?_
    refine F_aloadN X2 d4_29 rfl rfl (pc' := 30) rfl ?_
    refine F_getfield X2 (wd16 hw) F_bounds_o1 d4_30 (pc' := 33) rfl fun T4 X4 => ?_
    refine F_iconst X4 d4_33 (z := (2 : Int32)) (by decide) (pc' := 34) rfl ?_
    refine F_iload X4 d4_34 rfl (pc' := 36) rfl ?_
    refine F_imul X4 d4_36 (z := (2 : Int32)) (by decide) (pc' := 37) rfl ?_
    refine F_laload X4 A_o2 (by decide) rfl d4_37 (pc' := 38) rfl ?_
    refine F_lloadN X4 d4_38 rfl (pc' := 39) rfl ?_
    refine F_lcmp X4 d4_39 (pc' := 40) rfl ?_
    refine F_lif_gt X4 d4_40 (by decide) (pt := 55) (by decide) (pc' := 43) rfl (fun hc40_5 => ?_) (fun hc40_5 => ?_)
    · refine F_iload X4 d4_55 rfl (pc' := 57) rfl ?_
      refine F_iconst X4 d4_57 (z := (1 : Int32)) (by decide) (pc' := 58) rfl ?_
      refine F_isub X4 d4_58 (z := (0 : Int32)) (by decide) (pc' := 59) rfl ?_
      refine F_istore X4 d4_59 (Ls' := #[.val (.ref o1), .val (.long u2), .second, .val (.int (1 : Int32)), .val (.int (0 : Int32)), .val (.int (0 : Int32)), .val (.int (1 : Int32))]) rfl (pc' := 61) rfl ?_
      refine F_goto X4 d4_61 (by decide) (pc' := 15) (by decide) ?_
      refine F_iloadN X4 d4_15 rfl (pc' := 16) rfl ?_
      refine F_iload X4 d4_16 rfl (pc' := 18) rfl ?_
      refine F_icmp_gt X4 d4_18 (by decide) (pt := 64) (by decide) (pc' := 21) rfl (fun _ => ?_) (fun q => absurd q (by decide))
      refine F_iload X4 d4_64 rfl (pc' := 66) rfl ?_
      refine F_if_lt X4 d4_66 (by decide) (pt := 89) (by decide) (pc' := 69) rfl (fun q => absurd q (by decide)) (fun _ => ?_)
      refine F_lloadN X4 d4_69 rfl (pc' := 70) rfl ?_
      refine F_aloadN X4 d4_70 rfl rfl (pc' := 71) rfl ?_
      refine F_getfield X4 (wd16 hw) F_bounds_o1 d4_71 (pc' := 74) rfl fun T6 X6 => ?_
      refine F_iconst X6 d4_74 (z := (2 : Int32)) (by decide) (pc' := 75) rfl ?_
      refine F_iload X6 d4_75 rfl (pc' := 77) rfl ?_
      refine F_imul X6 d4_77 (z := (0 : Int32)) (by decide) (pc' := 78) rfl ?_
      refine F_iconst X6 d4_78 (z := (1 : Int32)) (by decide) (pc' := 79) rfl ?_
      refine F_iadd X6 d4_79 (z := (1 : Int32)) (by decide) (pc' := 80) rfl ?_
      refine F_laload X6 A_o2 (by decide) rfl d4_80 (pc' := 81) rfl ?_
      refine F_lcmp X6 d4_81 (pc' := 82) rfl ?_
      refine F_lif_gt X6 d4_82 (by decide) (pt := 89) (by decide) (pc' := 85) rfl (fun hc82_7 => ?_) (fun hc82_7 => ?_)
      · refine F_iconst X6 d4_89 (z := (0 : Int32)) (by decide) (pc' := 90) rfl ?_
        refine F_ireturn_boolean (z' := (0 : Int32)) X6 (by decide) d4_90 rfl (by decide) (by decide) ?_
        exact ⟨by simp [ct2, *], rfl⟩
      · refine F_iconst X6 d4_85 (z := (1 : Int32)) (by decide) (pc' := 86) rfl ?_
        refine F_goto X6 d4_86 (by decide) (pc' := 90) (by decide) ?_
        refine F_ireturn_boolean (z' := (1 : Int32)) X6 (by decide) d4_90 rfl (by decide) (by decide) ?_
        exact ⟨by simp [ct2, *], rfl⟩
    · refine F_iload X4 d4_43 rfl (pc' := 45) rfl ?_
      refine F_istore X4 d4_45 (Ls' := #[.val (.ref o1), .val (.long u2), .second, .val (.int (1 : Int32)), .val (.int (1 : Int32)), .val (.int (1 : Int32)), .val (.int (1 : Int32))]) rfl (pc' := 47) rfl ?_
      refine F_iload X4 d4_47 rfl (pc' := 49) rfl ?_
      refine F_iconst X4 d4_49 (z := (1 : Int32)) (by decide) (pc' := 50) rfl ?_
      refine F_iadd X4 d4_50 (z := (2 : Int32)) (by decide) (pc' := 51) rfl ?_
      refine F_istoreN X4 d4_51 (Ls' := #[.val (.ref o1), .val (.long u2), .second, .val (.int (2 : Int32)), .val (.int (1 : Int32)), .val (.int (1 : Int32)), .val (.int (1 : Int32))]) rfl (pc' := 52) rfl ?_
      refine F_goto X4 d4_52 (by decide) (pc' := 61) (by decide) ?_
      refine F_goto X4 d4_61 (by decide) (pc' := 15) (by decide) ?_
      refine F_iloadN X4 d4_15 rfl (pc' := 16) rfl ?_
      refine F_iload X4 d4_16 rfl (pc' := 18) rfl ?_
      refine F_icmp_gt X4 d4_18 (by decide) (pt := 64) (by decide) (pc' := 21) rfl (fun _ => ?_) (fun q => absurd q (by decide))
      refine F_iload X4 d4_64 rfl (pc' := 66) rfl ?_
      refine F_if_lt X4 d4_66 (by decide) (pt := 89) (by decide) (pc' := 69) rfl (fun q => absurd q (by decide)) (fun _ => ?_)
      refine F_lloadN X4 d4_69 rfl (pc' := 70) rfl ?_
      refine F_aloadN X4 d4_70 rfl rfl (pc' := 71) rfl ?_
      refine F_getfield X4 (wd16 hw) F_bounds_o1 d4_71 (pc' := 74) rfl fun T8 X8 => ?_
      refine F_iconst X8 d4_74 (z := (2 : Int32)) (by decide) (pc' := 75) rfl ?_
      refine F_iload X8 d4_75 rfl (pc' := 77) rfl ?_
      refine F_imul X8 d4_77 (z := (2 : Int32)) (by decide) (pc' := 78) rfl ?_
      refine F_iconst X8 d4_78 (z := (1 : Int32)) (by decide) (pc' := 79) rfl ?_
      refine F_iadd X8 d4_79 (z := (3 : Int32)) (by decide) (pc' := 80) rfl ?_
      refine F_laload X8 A_o2 (by decide) rfl d4_80 (pc' := 81) rfl ?_
      refine F_lcmp X8 d4_81 (pc' := 82) rfl ?_
      refine F_lif_gt X8 d4_82 (by decide) (pt := 89) (by decide) (pc' := 85) rfl (fun hc82_9 => ?_) (fun hc82_9 => ?_)
      · refine F_iconst X8 d4_89 (z := (0 : Int32)) (by decide) (pc' := 90) rfl ?_
        refine F_ireturn_boolean (z' := (0 : Int32)) X8 (by decide) d4_90 rfl (by decide) (by decide) ?_
        exact ⟨by simp [ct2, *], rfl⟩
      · refine F_iconst X8 d4_85 (z := (1 : Int32)) (by decide) (pc' := 86) rfl ?_
        refine F_goto X8 d4_86 (by decide) (pc' := 90) (by decide) ?_
        refine F_ireturn_boolean (z' := (1 : Int32)) X8 (by decide) d4_90 rfl (by decide) (by decide) ?_
        exact ⟨by simp [ct2, *], rfl⟩
theorem ef_conC3 (m : MethodId) (x0 : Addr) (x1 : Int64) : entryFrame m #[(.ref x0), (.long x1)] 7 = mkF m 0 #[.val (.ref x0), .val (.long x1), .second, .unset, .unset, .unset, .unset] [] := by first | (simp [entryFrame, mkF, argsToLocals, Value.category]; done) | rfl
set_option maxRecDepth 65536 in
set_option maxHeartbeats 40000000 in
theorem conC3 (l : Launch) (Z : State) (a0 : Array Value) (hw : ∀ d ∈ tables_1, d.before a0 Z = true) (n0 : Nat) (h : Heap) (hn0 : n0 ≤ h.size) (o1 : Addr) (u2 : Int64) (o2 : Addr) (z0 : Int64) (z1 : Int64) (z2 : Int64) (z3 : Int64) (z4 : Int64) (z5 : Int64) (F_bounds_o1 : Fld Z h o1 "org/pulsewire/store/SeqRuns" "bounds" "[J" (.ref o2)) (F_taken_o1 : Fld Z h o1 "org/pulsewire/store/SeqRuns" "taken" "I" (.int (6 : Int32))) (A_o2 : AV Z h o2 .long [(.long z0), (.long z1), (.long z2), (.long z3), (.long z4), (.long z5), (.long (0 : Int64)), (.long (0 : Int64)), (.long (0 : Int64)), (.long (0 : Int64)), (.long (0 : Int64)), (.long (0 : Int64)), (.long (0 : Int64)), (.long (0 : Int64)), (.long (0 : Int64)), (.long (0 : Int64))]) :
    Con l (⟨"org/pulsewire/store/SeqRuns", "contains", "(J)Z"⟩ : MethodName) prog_202_method_3_code 7 (some .boolean) ({ frames := 0, cells := 0, slots := 0, locals := 0 } : Room) 0 0 Z n0 #[(.ref o1), (.long u2)] h (fun v h' => v = some (.int (ct3 z0 z1 z2 z3 z4 z5 u2)) ∧ h = h') := by
  refine Con.body (own := "org/pulsewire/store/SeqRuns") (nm := "contains") rfl rfl (plainFor_of_name pn4) hn0 ?_
  intro p e s m below meth c T0 X0
  rw [ef_conC3]
  refine F_iconst X0 d4_0 (z := (0 : Int32)) (by decide) (pc' := 1) rfl ?_
  refine F_istoreN X0 d4_1 (Ls' := #[.val (.ref o1), .val (.long u2), .second, .val (.int (0 : Int32)), .unset, .unset, .unset]) rfl (pc' := 2) rfl ?_
  refine F_aloadN X0 d4_2 rfl rfl (pc' := 3) rfl ?_
  refine F_getfield X0 (wd23 hw) F_taken_o1 d4_3 (pc' := 6) rfl fun T1 X1 => ?_
  refine F_iconst X1 d4_6 (z := (2 : Int32)) (by decide) (pc' := 7) rfl ?_
  refine F_idiv X1 d4_7 (by decide) (z := (3 : Int32)) (by decide) (pc' := 8) rfl ?_
  refine F_iconst X1 d4_8 (z := (1 : Int32)) (by decide) (pc' := 9) rfl ?_
  refine F_isub X1 d4_9 (z := (2 : Int32)) (by decide) (pc' := 10) rfl ?_
  refine F_istore X1 d4_10 (Ls' := #[.val (.ref o1), .val (.long u2), .second, .val (.int (0 : Int32)), .val (.int (2 : Int32)), .unset, .unset]) rfl (pc' := 12) rfl ?_
  refine F_iconst X1 d4_12 (z := (-1 : Int32)) (by decide) (pc' := 13) rfl ?_
  refine F_istore X1 d4_13 (Ls' := #[.val (.ref o1), .val (.long u2), .second, .val (.int (0 : Int32)), .val (.int (2 : Int32)), .val (.int (-1 : Int32)), .unset]) rfl (pc' := 15) rfl ?_
  refine F_iloadN X1 d4_15 rfl (pc' := 16) rfl ?_
  refine F_iload X1 d4_16 rfl (pc' := 18) rfl ?_
  refine F_icmp_gt X1 d4_18 (by decide) (pt := 64) (by decide) (pc' := 21) rfl (fun q => absurd q (by decide)) (fun _ => ?_)
  refine F_iloadN X1 d4_21 rfl (pc' := 22) rfl ?_
  refine F_iload X1 d4_22 rfl (pc' := 24) rfl ?_
  refine F_iadd X1 d4_24 (z := (2 : Int32)) (by decide) (pc' := 25) rfl ?_
  refine F_iconst X1 d4_25 (z := (1 : Int32)) (by decide) (pc' := 26) rfl ?_
  refine F_iushr X1 d4_26 (z := (1 : Int32)) (by decide) (pc' := 27) rfl ?_
  refine F_istore X1 d4_27 (Ls' := #[.val (.ref o1), .val (.long u2), .second, .val (.int (0 : Int32)), .val (.int (2 : Int32)), .val (.int (-1 : Int32)), .val (.int (1 : Int32))]) rfl (pc' := 29) rfl ?_
  refine F_aloadN X1 d4_29 rfl rfl (pc' := 30) rfl ?_
  refine F_getfield X1 (wd16 hw) F_bounds_o1 d4_30 (pc' := 33) rfl fun T2 X2 => ?_
  refine F_iconst X2 d4_33 (z := (2 : Int32)) (by decide) (pc' := 34) rfl ?_
  refine F_iload X2 d4_34 rfl (pc' := 36) rfl ?_
  refine F_imul X2 d4_36 (z := (2 : Int32)) (by decide) (pc' := 37) rfl ?_
  refine F_laload X2 A_o2 (by decide) rfl d4_37 (pc' := 38) rfl ?_
  refine F_lloadN X2 d4_38 rfl (pc' := 39) rfl ?_
  refine F_lcmp X2 d4_39 (pc' := 40) rfl ?_
  refine F_lif_gt X2 d4_40 (by decide) (pt := 55) (by decide) (pc' := 43) rfl (fun hc40_3 => ?_) (fun hc40_3 => ?_)
  · refine F_iload X2 d4_55 rfl (pc' := 57) rfl ?_
    refine F_iconst X2 d4_57 (z := (1 : Int32)) (by decide) (pc' := 58) rfl ?_
    refine F_isub X2 d4_58 (z := (0 : Int32)) (by decide) (pc' := 59) rfl ?_
    refine F_istore X2 d4_59 (Ls' := #[.val (.ref o1), .val (.long u2), .second, .val (.int (0 : Int32)), .val (.int (0 : Int32)), .val (.int (-1 : Int32)), .val (.int (1 : Int32))]) rfl (pc' := 61) rfl ?_
    refine F_goto X2 d4_61 (by decide) (pc' := 15) (by decide) ?_
    refine F_iloadN X2 d4_15 rfl (pc' := 16) rfl ?_
    refine F_iload X2 d4_16 rfl (pc' := 18) rfl ?_
    refine F_icmp_gt X2 d4_18 (by decide) (pt := 64) (by decide) (pc' := 21) rfl (fun q => absurd q (by decide)) (fun _ => ?_)
    refine F_iloadN X2 d4_21 rfl (pc' := 22) rfl ?_
    refine F_iload X2 d4_22 rfl (pc' := 24) rfl ?_
    refine F_iadd X2 d4_24 (z := (0 : Int32)) (by decide) (pc' := 25) rfl ?_
    refine F_iconst X2 d4_25 (z := (1 : Int32)) (by decide) (pc' := 26) rfl ?_
    refine F_iushr X2 d4_26 (z := (0 : Int32)) (by decide) (pc' := 27) rfl ?_
    refine F_istore X2 d4_27 (Ls' := #[.val (.ref o1), .val (.long u2), .second, .val (.int (0 : Int32)), .val (.int (0 : Int32)), .val (.int (-1 : Int32)), .val (.int (0 : Int32))]) rfl (pc' := 29) rfl ?_
    refine F_aloadN X2 d4_29 rfl rfl (pc' := 30) rfl ?_
    refine F_getfield X2 (wd16 hw) F_bounds_o1 d4_30 (pc' := 33) rfl fun T4 X4 => ?_
    refine F_iconst X4 d4_33 (z := (2 : Int32)) (by decide) (pc' := 34) rfl ?_
    refine F_iload X4 d4_34 rfl (pc' := 36) rfl ?_
    refine F_imul X4 d4_36 (z := (0 : Int32)) (by decide) (pc' := 37) rfl ?_
    refine F_laload X4 A_o2 (by decide) rfl d4_37 (pc' := 38) rfl ?_
    refine F_lloadN X4 d4_38 rfl (pc' := 39) rfl ?_
    refine F_lcmp X4 d4_39 (pc' := 40) rfl ?_
    refine F_lif_gt X4 d4_40 (by decide) (pt := 55) (by decide) (pc' := 43) rfl (fun hc40_5 => ?_) (fun hc40_5 => ?_)
    · refine F_iload X4 d4_55 rfl (pc' := 57) rfl ?_
      refine F_iconst X4 d4_57 (z := (1 : Int32)) (by decide) (pc' := 58) rfl ?_
      refine F_isub X4 d4_58 (z := (-1 : Int32)) (by decide) (pc' := 59) rfl ?_
      refine F_istore X4 d4_59 (Ls' := #[.val (.ref o1), .val (.long u2), .second, .val (.int (0 : Int32)), .val (.int (-1 : Int32)), .val (.int (-1 : Int32)), .val (.int (0 : Int32))]) rfl (pc' := 61) rfl ?_
      refine F_goto X4 d4_61 (by decide) (pc' := 15) (by decide) ?_
      refine F_iloadN X4 d4_15 rfl (pc' := 16) rfl ?_
      refine F_iload X4 d4_16 rfl (pc' := 18) rfl ?_
      refine F_icmp_gt X4 d4_18 (by decide) (pt := 64) (by decide) (pc' := 21) rfl (fun _ => ?_) (fun q => absurd q (by decide))
      refine F_iload X4 d4_64 rfl (pc' := 66) rfl ?_
      refine F_if_lt X4 d4_66 (by decide) (pt := 89) (by decide) (pc' := 69) rfl (fun _ => ?_) (fun q => absurd q (by decide))
      refine F_iconst X4 d4_89 (z := (0 : Int32)) (by decide) (pc' := 90) rfl ?_
      refine F_ireturn_boolean (z' := (0 : Int32)) X4 (by decide) d4_90 rfl (by decide) (by decide) ?_
      exact ⟨by simp [ct3, *], rfl⟩
    · refine F_iload X4 d4_43 rfl (pc' := 45) rfl ?_
      refine F_istore X4 d4_45 (Ls' := #[.val (.ref o1), .val (.long u2), .second, .val (.int (0 : Int32)), .val (.int (0 : Int32)), .val (.int (0 : Int32)), .val (.int (0 : Int32))]) rfl (pc' := 47) rfl ?_
      refine F_iload X4 d4_47 rfl (pc' := 49) rfl ?_
      refine F_iconst X4 d4_49 (z := (1 : Int32)) (by decide) (pc' := 50) rfl ?_
      refine F_iadd X4 d4_50 (z := (1 : Int32)) (by decide) (pc' := 51) rfl ?_
      refine F_istoreN X4 d4_51 (Ls' := #[.val (.ref o1), .val (.long u2), .second, .val (.int (1 : Int32)), .val (.int (0 : Int32)), .val (.int (0 : Int32)), .val (.int (0 : Int32))]) rfl (pc' := 52) rfl ?_
      refine F_goto X4 d4_52 (by decide) (pc' := 61) (by decide) ?_
      refine F_goto X4 d4_61 (by decide) (pc' := 15) (by decide) ?_
      refine F_iloadN X4 d4_15 rfl (pc' := 16) rfl ?_
      refine F_iload X4 d4_16 rfl (pc' := 18) rfl ?_
      refine F_icmp_gt X4 d4_18 (by decide) (pt := 64) (by decide) (pc' := 21) rfl (fun _ => ?_) (fun q => absurd q (by decide))
      refine F_iload X4 d4_64 rfl (pc' := 66) rfl ?_
      refine F_if_lt X4 d4_66 (by decide) (pt := 89) (by decide) (pc' := 69) rfl (fun q => absurd q (by decide)) (fun _ => ?_)
      refine F_lloadN X4 d4_69 rfl (pc' := 70) rfl ?_
      refine F_aloadN X4 d4_70 rfl rfl (pc' := 71) rfl ?_
      refine F_getfield X4 (wd16 hw) F_bounds_o1 d4_71 (pc' := 74) rfl fun T6 X6 => ?_
      refine F_iconst X6 d4_74 (z := (2 : Int32)) (by decide) (pc' := 75) rfl ?_
      refine F_iload X6 d4_75 rfl (pc' := 77) rfl ?_
      refine F_imul X6 d4_77 (z := (0 : Int32)) (by decide) (pc' := 78) rfl ?_
      refine F_iconst X6 d4_78 (z := (1 : Int32)) (by decide) (pc' := 79) rfl ?_
      refine F_iadd X6 d4_79 (z := (1 : Int32)) (by decide) (pc' := 80) rfl ?_
      refine F_laload X6 A_o2 (by decide) rfl d4_80 (pc' := 81) rfl ?_
      refine F_lcmp X6 d4_81 (pc' := 82) rfl ?_
      refine F_lif_gt X6 d4_82 (by decide) (pt := 89) (by decide) (pc' := 85) rfl (fun hc82_7 => ?_) (fun hc82_7 => ?_)
      · refine F_iconst X6 d4_89 (z := (0 : Int32)) (by decide) (pc' := 90) rfl ?_
        refine F_ireturn_boolean (z' := (0 : Int32)) X6 (by decide) d4_90 rfl (by decide) (by decide) ?_
        exact ⟨by simp [ct3, *], rfl⟩
      · refine F_iconst X6 d4_85 (z := (1 : Int32)) (by decide) (pc' := 86) rfl ?_
        refine F_goto X6 d4_86 (by decide) (pc' := 90) (by decide) ?_
        refine F_ireturn_boolean (z' := (1 : Int32)) X6 (by decide) d4_90 rfl (by decide) (by decide) ?_
        exact ⟨by simp [ct3, *], rfl⟩
  · refine F_iload X2 d4_43 rfl (pc' := 45) rfl ?_
    refine F_istore X2 d4_45 (Ls' := #[.val (.ref o1), .val (.long u2), .second, .val (.int (0 : Int32)), .val (.int (2 : Int32)), .val (.int (1 : Int32)), .val (.int (1 : Int32))]) rfl (pc' := 47) rfl ?_
    refine F_iload X2 d4_47 rfl (pc' := 49) rfl ?_
    refine F_iconst X2 d4_49 (z := (1 : Int32)) (by decide) (pc' := 50) rfl ?_
    refine F_iadd X2 d4_50 (z := (2 : Int32)) (by decide) (pc' := 51) rfl ?_
    refine F_istoreN X2 d4_51 (Ls' := #[.val (.ref o1), .val (.long u2), .second, .val (.int (2 : Int32)), .val (.int (2 : Int32)), .val (.int (1 : Int32)), .val (.int (1 : Int32))]) rfl (pc' := 52) rfl ?_
    refine F_goto X2 d4_52 (by decide) (pc' := 61) (by decide) ?_
    refine F_goto X2 d4_61 (by decide) (pc' := 15) (by decide) ?_
    refine F_iloadN X2 d4_15 rfl (pc' := 16) rfl ?_
    refine F_iload X2 d4_16 rfl (pc' := 18) rfl ?_
    refine F_icmp_gt X2 d4_18 (by decide) (pt := 64) (by decide) (pc' := 21) rfl (fun q => absurd q (by decide)) (fun _ => ?_)
    refine F_iloadN X2 d4_21 rfl (pc' := 22) rfl ?_
    refine F_iload X2 d4_22 rfl (pc' := 24) rfl ?_
    refine F_iadd X2 d4_24 (z := (4 : Int32)) (by decide) (pc' := 25) rfl ?_
    refine F_iconst X2 d4_25 (z := (1 : Int32)) (by decide) (pc' := 26) rfl ?_
    refine F_iushr X2 d4_26 (z := (2 : Int32)) (by decide) (pc' := 27) rfl ?_
    refine F_istore X2 d4_27 (Ls' := #[.val (.ref o1), .val (.long u2), .second, .val (.int (2 : Int32)), .val (.int (2 : Int32)), .val (.int (1 : Int32)), .val (.int (2 : Int32))]) rfl (pc' := 29) rfl ?_
    refine F_aloadN X2 d4_29 rfl rfl (pc' := 30) rfl ?_
    refine F_getfield X2 (wd16 hw) F_bounds_o1 d4_30 (pc' := 33) rfl fun T8 X8 => ?_
    refine F_iconst X8 d4_33 (z := (2 : Int32)) (by decide) (pc' := 34) rfl ?_
    refine F_iload X8 d4_34 rfl (pc' := 36) rfl ?_
    refine F_imul X8 d4_36 (z := (4 : Int32)) (by decide) (pc' := 37) rfl ?_
    refine F_laload X8 A_o2 (by decide) rfl d4_37 (pc' := 38) rfl ?_
    refine F_lloadN X8 d4_38 rfl (pc' := 39) rfl ?_
    refine F_lcmp X8 d4_39 (pc' := 40) rfl ?_
    refine F_lif_gt X8 d4_40 (by decide) (pt := 55) (by decide) (pc' := 43) rfl (fun hc40_9 => ?_) (fun hc40_9 => ?_)
    · refine F_iload X8 d4_55 rfl (pc' := 57) rfl ?_
      refine F_iconst X8 d4_57 (z := (1 : Int32)) (by decide) (pc' := 58) rfl ?_
      refine F_isub X8 d4_58 (z := (1 : Int32)) (by decide) (pc' := 59) rfl ?_
      refine F_istore X8 d4_59 (Ls' := #[.val (.ref o1), .val (.long u2), .second, .val (.int (2 : Int32)), .val (.int (1 : Int32)), .val (.int (1 : Int32)), .val (.int (2 : Int32))]) rfl (pc' := 61) rfl ?_
      refine F_goto X8 d4_61 (by decide) (pc' := 15) (by decide) ?_
      refine F_iloadN X8 d4_15 rfl (pc' := 16) rfl ?_
      refine F_iload X8 d4_16 rfl (pc' := 18) rfl ?_
      refine F_icmp_gt X8 d4_18 (by decide) (pt := 64) (by decide) (pc' := 21) rfl (fun _ => ?_) (fun q => absurd q (by decide))
      refine F_iload X8 d4_64 rfl (pc' := 66) rfl ?_
      refine F_if_lt X8 d4_66 (by decide) (pt := 89) (by decide) (pc' := 69) rfl (fun q => absurd q (by decide)) (fun _ => ?_)
      refine F_lloadN X8 d4_69 rfl (pc' := 70) rfl ?_
      refine F_aloadN X8 d4_70 rfl rfl (pc' := 71) rfl ?_
      refine F_getfield X8 (wd16 hw) F_bounds_o1 d4_71 (pc' := 74) rfl fun T10 X10 => ?_
      refine F_iconst X10 d4_74 (z := (2 : Int32)) (by decide) (pc' := 75) rfl ?_
      refine F_iload X10 d4_75 rfl (pc' := 77) rfl ?_
      refine F_imul X10 d4_77 (z := (2 : Int32)) (by decide) (pc' := 78) rfl ?_
      refine F_iconst X10 d4_78 (z := (1 : Int32)) (by decide) (pc' := 79) rfl ?_
      refine F_iadd X10 d4_79 (z := (3 : Int32)) (by decide) (pc' := 80) rfl ?_
      refine F_laload X10 A_o2 (by decide) rfl d4_80 (pc' := 81) rfl ?_
      refine F_lcmp X10 d4_81 (pc' := 82) rfl ?_
      refine F_lif_gt X10 d4_82 (by decide) (pt := 89) (by decide) (pc' := 85) rfl (fun hc82_11 => ?_) (fun hc82_11 => ?_)
      · refine F_iconst X10 d4_89 (z := (0 : Int32)) (by decide) (pc' := 90) rfl ?_
        refine F_ireturn_boolean (z' := (0 : Int32)) X10 (by decide) d4_90 rfl (by decide) (by decide) ?_
        exact ⟨by simp [ct3, *], rfl⟩
      · refine F_iconst X10 d4_85 (z := (1 : Int32)) (by decide) (pc' := 86) rfl ?_
        refine F_goto X10 d4_86 (by decide) (pc' := 90) (by decide) ?_
        refine F_ireturn_boolean (z' := (1 : Int32)) X10 (by decide) d4_90 rfl (by decide) (by decide) ?_
        exact ⟨by simp [ct3, *], rfl⟩
    · refine F_iload X8 d4_43 rfl (pc' := 45) rfl ?_
      refine F_istore X8 d4_45 (Ls' := #[.val (.ref o1), .val (.long u2), .second, .val (.int (2 : Int32)), .val (.int (2 : Int32)), .val (.int (2 : Int32)), .val (.int (2 : Int32))]) rfl (pc' := 47) rfl ?_
      refine F_iload X8 d4_47 rfl (pc' := 49) rfl ?_
      refine F_iconst X8 d4_49 (z := (1 : Int32)) (by decide) (pc' := 50) rfl ?_
      refine F_iadd X8 d4_50 (z := (3 : Int32)) (by decide) (pc' := 51) rfl ?_
      refine F_istoreN X8 d4_51 (Ls' := #[.val (.ref o1), .val (.long u2), .second, .val (.int (3 : Int32)), .val (.int (2 : Int32)), .val (.int (2 : Int32)), .val (.int (2 : Int32))]) rfl (pc' := 52) rfl ?_
      refine F_goto X8 d4_52 (by decide) (pc' := 61) (by decide) ?_
      refine F_goto X8 d4_61 (by decide) (pc' := 15) (by decide) ?_
      refine F_iloadN X8 d4_15 rfl (pc' := 16) rfl ?_
      refine F_iload X8 d4_16 rfl (pc' := 18) rfl ?_
      refine F_icmp_gt X8 d4_18 (by decide) (pt := 64) (by decide) (pc' := 21) rfl (fun _ => ?_) (fun q => absurd q (by decide))
      refine F_iload X8 d4_64 rfl (pc' := 66) rfl ?_
      refine F_if_lt X8 d4_66 (by decide) (pt := 89) (by decide) (pc' := 69) rfl (fun q => absurd q (by decide)) (fun _ => ?_)
      refine F_lloadN X8 d4_69 rfl (pc' := 70) rfl ?_
      refine F_aloadN X8 d4_70 rfl rfl (pc' := 71) rfl ?_
      refine F_getfield X8 (wd16 hw) F_bounds_o1 d4_71 (pc' := 74) rfl fun T12 X12 => ?_
      refine F_iconst X12 d4_74 (z := (2 : Int32)) (by decide) (pc' := 75) rfl ?_
      refine F_iload X12 d4_75 rfl (pc' := 77) rfl ?_
      refine F_imul X12 d4_77 (z := (4 : Int32)) (by decide) (pc' := 78) rfl ?_
      refine F_iconst X12 d4_78 (z := (1 : Int32)) (by decide) (pc' := 79) rfl ?_
      refine F_iadd X12 d4_79 (z := (5 : Int32)) (by decide) (pc' := 80) rfl ?_
      refine F_laload X12 A_o2 (by decide) rfl d4_80 (pc' := 81) rfl ?_
      refine F_lcmp X12 d4_81 (pc' := 82) rfl ?_
      refine F_lif_gt X12 d4_82 (by decide) (pt := 89) (by decide) (pc' := 85) rfl (fun hc82_13 => ?_) (fun hc82_13 => ?_)
      · refine F_iconst X12 d4_89 (z := (0 : Int32)) (by decide) (pc' := 90) rfl ?_
        refine F_ireturn_boolean (z' := (0 : Int32)) X12 (by decide) d4_90 rfl (by decide) (by decide) ?_
        exact ⟨by simp [ct3, *], rfl⟩
      · refine F_iconst X12 d4_85 (z := (1 : Int32)) (by decide) (pc' := 86) rfl ?_
        refine F_goto X12 d4_86 (by decide) (pc' := 90) (by decide) ?_
        refine F_ireturn_boolean (z' := (1 : Int32)) X12 (by decide) d4_90 rfl (by decide) (by decide) ?_
        exact ⟨by simp [ct3, *], rfl⟩
theorem ef_conC4 (m : MethodId) (x0 : Addr) (x1 : Int64) : entryFrame m #[(.ref x0), (.long x1)] 7 = mkF m 0 #[.val (.ref x0), .val (.long x1), .second, .unset, .unset, .unset, .unset] [] := by first | (simp [entryFrame, mkF, argsToLocals, Value.category]; done) | rfl
set_option maxRecDepth 65536 in
set_option maxHeartbeats 40000000 in
theorem conC4 (l : Launch) (Z : State) (a0 : Array Value) (hw : ∀ d ∈ tables_1, d.before a0 Z = true) (n0 : Nat) (h : Heap) (hn0 : n0 ≤ h.size) (o1 : Addr) (u2 : Int64) (o2 : Addr) (z0 : Int64) (z1 : Int64) (z2 : Int64) (z3 : Int64) (z4 : Int64) (z5 : Int64) (z6 : Int64) (z7 : Int64) (F_bounds_o1 : Fld Z h o1 "org/pulsewire/store/SeqRuns" "bounds" "[J" (.ref o2)) (F_taken_o1 : Fld Z h o1 "org/pulsewire/store/SeqRuns" "taken" "I" (.int (8 : Int32))) (A_o2 : AV Z h o2 .long [(.long z0), (.long z1), (.long z2), (.long z3), (.long z4), (.long z5), (.long z6), (.long z7), (.long (0 : Int64)), (.long (0 : Int64)), (.long (0 : Int64)), (.long (0 : Int64)), (.long (0 : Int64)), (.long (0 : Int64)), (.long (0 : Int64)), (.long (0 : Int64))]) :
    Con l (⟨"org/pulsewire/store/SeqRuns", "contains", "(J)Z"⟩ : MethodName) prog_202_method_3_code 7 (some .boolean) ({ frames := 0, cells := 0, slots := 0, locals := 0 } : Room) 0 0 Z n0 #[(.ref o1), (.long u2)] h (fun v h' => v = some (.int (ct4 z0 z1 z2 z3 z4 z5 z6 z7 u2)) ∧ h = h') := by
  refine Con.body (own := "org/pulsewire/store/SeqRuns") (nm := "contains") rfl rfl (plainFor_of_name pn4) hn0 ?_
  intro p e s m below meth c T0 X0
  rw [ef_conC4]
  refine F_iconst X0 d4_0 (z := (0 : Int32)) (by decide) (pc' := 1) rfl ?_
  refine F_istoreN X0 d4_1 (Ls' := #[.val (.ref o1), .val (.long u2), .second, .val (.int (0 : Int32)), .unset, .unset, .unset]) rfl (pc' := 2) rfl ?_
  refine F_aloadN X0 d4_2 rfl rfl (pc' := 3) rfl ?_
  refine F_getfield X0 (wd23 hw) F_taken_o1 d4_3 (pc' := 6) rfl fun T1 X1 => ?_
  refine F_iconst X1 d4_6 (z := (2 : Int32)) (by decide) (pc' := 7) rfl ?_
  refine F_idiv X1 d4_7 (by decide) (z := (4 : Int32)) (by decide) (pc' := 8) rfl ?_
  refine F_iconst X1 d4_8 (z := (1 : Int32)) (by decide) (pc' := 9) rfl ?_
  refine F_isub X1 d4_9 (z := (3 : Int32)) (by decide) (pc' := 10) rfl ?_
  refine F_istore X1 d4_10 (Ls' := #[.val (.ref o1), .val (.long u2), .second, .val (.int (0 : Int32)), .val (.int (3 : Int32)), .unset, .unset]) rfl (pc' := 12) rfl ?_
  refine F_iconst X1 d4_12 (z := (-1 : Int32)) (by decide) (pc' := 13) rfl ?_
  refine F_istore X1 d4_13 (Ls' := #[.val (.ref o1), .val (.long u2), .second, .val (.int (0 : Int32)), .val (.int (3 : Int32)), .val (.int (-1 : Int32)), .unset]) rfl (pc' := 15) rfl ?_
  refine F_iloadN X1 d4_15 rfl (pc' := 16) rfl ?_
  refine F_iload X1 d4_16 rfl (pc' := 18) rfl ?_
  refine F_icmp_gt X1 d4_18 (by decide) (pt := 64) (by decide) (pc' := 21) rfl (fun q => absurd q (by decide)) (fun _ => ?_)
  refine F_iloadN X1 d4_21 rfl (pc' := 22) rfl ?_
  refine F_iload X1 d4_22 rfl (pc' := 24) rfl ?_
  refine F_iadd X1 d4_24 (z := (3 : Int32)) (by decide) (pc' := 25) rfl ?_
  refine F_iconst X1 d4_25 (z := (1 : Int32)) (by decide) (pc' := 26) rfl ?_
  refine F_iushr X1 d4_26 (z := (1 : Int32)) (by decide) (pc' := 27) rfl ?_
  refine F_istore X1 d4_27 (Ls' := #[.val (.ref o1), .val (.long u2), .second, .val (.int (0 : Int32)), .val (.int (3 : Int32)), .val (.int (-1 : Int32)), .val (.int (1 : Int32))]) rfl (pc' := 29) rfl ?_
  refine F_aloadN X1 d4_29 rfl rfl (pc' := 30) rfl ?_
  refine F_getfield X1 (wd16 hw) F_bounds_o1 d4_30 (pc' := 33) rfl fun T2 X2 => ?_
  refine F_iconst X2 d4_33 (z := (2 : Int32)) (by decide) (pc' := 34) rfl ?_
  refine F_iload X2 d4_34 rfl (pc' := 36) rfl ?_
  refine F_imul X2 d4_36 (z := (2 : Int32)) (by decide) (pc' := 37) rfl ?_
  refine F_laload X2 A_o2 (by decide) rfl d4_37 (pc' := 38) rfl ?_
  refine F_lloadN X2 d4_38 rfl (pc' := 39) rfl ?_
  refine F_lcmp X2 d4_39 (pc' := 40) rfl ?_
  refine F_lif_gt X2 d4_40 (by decide) (pt := 55) (by decide) (pc' := 43) rfl (fun hc40_3 => ?_) (fun hc40_3 => ?_)
  · refine F_iload X2 d4_55 rfl (pc' := 57) rfl ?_
    refine F_iconst X2 d4_57 (z := (1 : Int32)) (by decide) (pc' := 58) rfl ?_
    refine F_isub X2 d4_58 (z := (0 : Int32)) (by decide) (pc' := 59) rfl ?_
    refine F_istore X2 d4_59 (Ls' := #[.val (.ref o1), .val (.long u2), .second, .val (.int (0 : Int32)), .val (.int (0 : Int32)), .val (.int (-1 : Int32)), .val (.int (1 : Int32))]) rfl (pc' := 61) rfl ?_
    refine F_goto X2 d4_61 (by decide) (pc' := 15) (by decide) ?_
    refine F_iloadN X2 d4_15 rfl (pc' := 16) rfl ?_
    refine F_iload X2 d4_16 rfl (pc' := 18) rfl ?_
    refine F_icmp_gt X2 d4_18 (by decide) (pt := 64) (by decide) (pc' := 21) rfl (fun q => absurd q (by decide)) (fun _ => ?_)
    refine F_iloadN X2 d4_21 rfl (pc' := 22) rfl ?_
    refine F_iload X2 d4_22 rfl (pc' := 24) rfl ?_
    refine F_iadd X2 d4_24 (z := (0 : Int32)) (by decide) (pc' := 25) rfl ?_
    refine F_iconst X2 d4_25 (z := (1 : Int32)) (by decide) (pc' := 26) rfl ?_
    refine F_iushr X2 d4_26 (z := (0 : Int32)) (by decide) (pc' := 27) rfl ?_
    refine F_istore X2 d4_27 (Ls' := #[.val (.ref o1), .val (.long u2), .second, .val (.int (0 : Int32)), .val (.int (0 : Int32)), .val (.int (-1 : Int32)), .val (.int (0 : Int32))]) rfl (pc' := 29) rfl ?_
    refine F_aloadN X2 d4_29 rfl rfl (pc' := 30) rfl ?_
    refine F_getfield X2 (wd16 hw) F_bounds_o1 d4_30 (pc' := 33) rfl fun T4 X4 => ?_
    refine F_iconst X4 d4_33 (z := (2 : Int32)) (by decide) (pc' := 34) rfl ?_
    refine F_iload X4 d4_34 rfl (pc' := 36) rfl ?_
    refine F_imul X4 d4_36 (z := (0 : Int32)) (by decide) (pc' := 37) rfl ?_
    refine F_laload X4 A_o2 (by decide) rfl d4_37 (pc' := 38) rfl ?_
    refine F_lloadN X4 d4_38 rfl (pc' := 39) rfl ?_
    refine F_lcmp X4 d4_39 (pc' := 40) rfl ?_
    refine F_lif_gt X4 d4_40 (by decide) (pt := 55) (by decide) (pc' := 43) rfl (fun hc40_5 => ?_) (fun hc40_5 => ?_)
    · refine F_iload X4 d4_55 rfl (pc' := 57) rfl ?_
      refine F_iconst X4 d4_57 (z := (1 : Int32)) (by decide) (pc' := 58) rfl ?_
      refine F_isub X4 d4_58 (z := (-1 : Int32)) (by decide) (pc' := 59) rfl ?_
      refine F_istore X4 d4_59 (Ls' := #[.val (.ref o1), .val (.long u2), .second, .val (.int (0 : Int32)), .val (.int (-1 : Int32)), .val (.int (-1 : Int32)), .val (.int (0 : Int32))]) rfl (pc' := 61) rfl ?_
      refine F_goto X4 d4_61 (by decide) (pc' := 15) (by decide) ?_
      refine F_iloadN X4 d4_15 rfl (pc' := 16) rfl ?_
      refine F_iload X4 d4_16 rfl (pc' := 18) rfl ?_
      refine F_icmp_gt X4 d4_18 (by decide) (pt := 64) (by decide) (pc' := 21) rfl (fun _ => ?_) (fun q => absurd q (by decide))
      refine F_iload X4 d4_64 rfl (pc' := 66) rfl ?_
      refine F_if_lt X4 d4_66 (by decide) (pt := 89) (by decide) (pc' := 69) rfl (fun _ => ?_) (fun q => absurd q (by decide))
      refine F_iconst X4 d4_89 (z := (0 : Int32)) (by decide) (pc' := 90) rfl ?_
      refine F_ireturn_boolean (z' := (0 : Int32)) X4 (by decide) d4_90 rfl (by decide) (by decide) ?_
      exact ⟨by simp [ct4, *], rfl⟩
    · refine F_iload X4 d4_43 rfl (pc' := 45) rfl ?_
      refine F_istore X4 d4_45 (Ls' := #[.val (.ref o1), .val (.long u2), .second, .val (.int (0 : Int32)), .val (.int (0 : Int32)), .val (.int (0 : Int32)), .val (.int (0 : Int32))]) rfl (pc' := 47) rfl ?_
      refine F_iload X4 d4_47 rfl (pc' := 49) rfl ?_
      refine F_iconst X4 d4_49 (z := (1 : Int32)) (by decide) (pc' := 50) rfl ?_
      refine F_iadd X4 d4_50 (z := (1 : Int32)) (by decide) (pc' := 51) rfl ?_
      refine F_istoreN X4 d4_51 (Ls' := #[.val (.ref o1), .val (.long u2), .second, .val (.int (1 : Int32)), .val (.int (0 : Int32)), .val (.int (0 : Int32)), .val (.int (0 : Int32))]) rfl (pc' := 52) rfl ?_
      refine F_goto X4 d4_52 (by decide) (pc' := 61) (by decide) ?_
      refine F_goto X4 d4_61 (by decide) (pc' := 15) (by decide) ?_
      refine F_iloadN X4 d4_15 rfl (pc' := 16) rfl ?_
      refine F_iload X4 d4_16 rfl (pc' := 18) rfl ?_
      refine F_icmp_gt X4 d4_18 (by decide) (pt := 64) (by decide) (pc' := 21) rfl (fun _ => ?_) (fun q => absurd q (by decide))
      refine F_iload X4 d4_64 rfl (pc' := 66) rfl ?_
      refine F_if_lt X4 d4_66 (by decide) (pt := 89) (by decide) (pc' := 69) rfl (fun q => absurd q (by decide)) (fun _ => ?_)
      refine F_lloadN X4 d4_69 rfl (pc' := 70) rfl ?_
      refine F_aloadN X4 d4_70 rfl rfl (pc' := 71) rfl ?_
      refine F_getfield X4 (wd16 hw) F_bounds_o1 d4_71 (pc' := 74) rfl fun T6 X6 => ?_
      refine F_iconst X6 d4_74 (z := (2 : Int32)) (by decide) (pc' := 75) rfl ?_
      refine F_iload X6 d4_75 rfl (pc' := 77) rfl ?_
      refine F_imul X6 d4_77 (z := (0 : Int32)) (by decide) (pc' := 78) rfl ?_
      refine F_iconst X6 d4_78 (z := (1 : Int32)) (by decide) (pc' := 79) rfl ?_
      refine F_iadd X6 d4_79 (z := (1 : Int32)) (by decide) (pc' := 80) rfl ?_
      refine F_laload X6 A_o2 (by decide) rfl d4_80 (pc' := 81) rfl ?_
      refine F_lcmp X6 d4_81 (pc' := 82) rfl ?_
      refine F_lif_gt X6 d4_82 (by decide) (pt := 89) (by decide) (pc' := 85) rfl (fun hc82_7 => ?_) (fun hc82_7 => ?_)
      · refine F_iconst X6 d4_89 (z := (0 : Int32)) (by decide) (pc' := 90) rfl ?_
        refine F_ireturn_boolean (z' := (0 : Int32)) X6 (by decide) d4_90 rfl (by decide) (by decide) ?_
        exact ⟨by simp [ct4, *], rfl⟩
      · refine F_iconst X6 d4_85 (z := (1 : Int32)) (by decide) (pc' := 86) rfl ?_
        refine F_goto X6 d4_86 (by decide) (pc' := 90) (by decide) ?_
        refine F_ireturn_boolean (z' := (1 : Int32)) X6 (by decide) d4_90 rfl (by decide) (by decide) ?_
        exact ⟨by simp [ct4, *], rfl⟩
  · refine F_iload X2 d4_43 rfl (pc' := 45) rfl ?_
    refine F_istore X2 d4_45 (Ls' := #[.val (.ref o1), .val (.long u2), .second, .val (.int (0 : Int32)), .val (.int (3 : Int32)), .val (.int (1 : Int32)), .val (.int (1 : Int32))]) rfl (pc' := 47) rfl ?_
    refine F_iload X2 d4_47 rfl (pc' := 49) rfl ?_
    refine F_iconst X2 d4_49 (z := (1 : Int32)) (by decide) (pc' := 50) rfl ?_
    refine F_iadd X2 d4_50 (z := (2 : Int32)) (by decide) (pc' := 51) rfl ?_
    refine F_istoreN X2 d4_51 (Ls' := #[.val (.ref o1), .val (.long u2), .second, .val (.int (2 : Int32)), .val (.int (3 : Int32)), .val (.int (1 : Int32)), .val (.int (1 : Int32))]) rfl (pc' := 52) rfl ?_
    refine F_goto X2 d4_52 (by decide) (pc' := 61) (by decide) ?_
    refine F_goto X2 d4_61 (by decide) (pc' := 15) (by decide) ?_
    refine F_iloadN X2 d4_15 rfl (pc' := 16) rfl ?_
    refine F_iload X2 d4_16 rfl (pc' := 18) rfl ?_
    refine F_icmp_gt X2 d4_18 (by decide) (pt := 64) (by decide) (pc' := 21) rfl (fun q => absurd q (by decide)) (fun _ => ?_)
    refine F_iloadN X2 d4_21 rfl (pc' := 22) rfl ?_
    refine F_iload X2 d4_22 rfl (pc' := 24) rfl ?_
    refine F_iadd X2 d4_24 (z := (5 : Int32)) (by decide) (pc' := 25) rfl ?_
    refine F_iconst X2 d4_25 (z := (1 : Int32)) (by decide) (pc' := 26) rfl ?_
    refine F_iushr X2 d4_26 (z := (2 : Int32)) (by decide) (pc' := 27) rfl ?_
    refine F_istore X2 d4_27 (Ls' := #[.val (.ref o1), .val (.long u2), .second, .val (.int (2 : Int32)), .val (.int (3 : Int32)), .val (.int (1 : Int32)), .val (.int (2 : Int32))]) rfl (pc' := 29) rfl ?_
    refine F_aloadN X2 d4_29 rfl rfl (pc' := 30) rfl ?_
    refine F_getfield X2 (wd16 hw) F_bounds_o1 d4_30 (pc' := 33) rfl fun T8 X8 => ?_
    refine F_iconst X8 d4_33 (z := (2 : Int32)) (by decide) (pc' := 34) rfl ?_
    refine F_iload X8 d4_34 rfl (pc' := 36) rfl ?_
    refine F_imul X8 d4_36 (z := (4 : Int32)) (by decide) (pc' := 37) rfl ?_
    refine F_laload X8 A_o2 (by decide) rfl d4_37 (pc' := 38) rfl ?_
    refine F_lloadN X8 d4_38 rfl (pc' := 39) rfl ?_
    refine F_lcmp X8 d4_39 (pc' := 40) rfl ?_
    refine F_lif_gt X8 d4_40 (by decide) (pt := 55) (by decide) (pc' := 43) rfl (fun hc40_9 => ?_) (fun hc40_9 => ?_)
    · refine F_iload X8 d4_55 rfl (pc' := 57) rfl ?_
      refine F_iconst X8 d4_57 (z := (1 : Int32)) (by decide) (pc' := 58) rfl ?_
      refine F_isub X8 d4_58 (z := (1 : Int32)) (by decide) (pc' := 59) rfl ?_
      refine F_istore X8 d4_59 (Ls' := #[.val (.ref o1), .val (.long u2), .second, .val (.int (2 : Int32)), .val (.int (1 : Int32)), .val (.int (1 : Int32)), .val (.int (2 : Int32))]) rfl (pc' := 61) rfl ?_
      refine F_goto X8 d4_61 (by decide) (pc' := 15) (by decide) ?_
      refine F_iloadN X8 d4_15 rfl (pc' := 16) rfl ?_
      refine F_iload X8 d4_16 rfl (pc' := 18) rfl ?_
      refine F_icmp_gt X8 d4_18 (by decide) (pt := 64) (by decide) (pc' := 21) rfl (fun _ => ?_) (fun q => absurd q (by decide))
      refine F_iload X8 d4_64 rfl (pc' := 66) rfl ?_
      refine F_if_lt X8 d4_66 (by decide) (pt := 89) (by decide) (pc' := 69) rfl (fun q => absurd q (by decide)) (fun _ => ?_)
      refine F_lloadN X8 d4_69 rfl (pc' := 70) rfl ?_
      refine F_aloadN X8 d4_70 rfl rfl (pc' := 71) rfl ?_
      refine F_getfield X8 (wd16 hw) F_bounds_o1 d4_71 (pc' := 74) rfl fun T10 X10 => ?_
      refine F_iconst X10 d4_74 (z := (2 : Int32)) (by decide) (pc' := 75) rfl ?_
      refine F_iload X10 d4_75 rfl (pc' := 77) rfl ?_
      refine F_imul X10 d4_77 (z := (2 : Int32)) (by decide) (pc' := 78) rfl ?_
      refine F_iconst X10 d4_78 (z := (1 : Int32)) (by decide) (pc' := 79) rfl ?_
      refine F_iadd X10 d4_79 (z := (3 : Int32)) (by decide) (pc' := 80) rfl ?_
      refine F_laload X10 A_o2 (by decide) rfl d4_80 (pc' := 81) rfl ?_
      refine F_lcmp X10 d4_81 (pc' := 82) rfl ?_
      refine F_lif_gt X10 d4_82 (by decide) (pt := 89) (by decide) (pc' := 85) rfl (fun hc82_11 => ?_) (fun hc82_11 => ?_)
      · refine F_iconst X10 d4_89 (z := (0 : Int32)) (by decide) (pc' := 90) rfl ?_
        refine F_ireturn_boolean (z' := (0 : Int32)) X10 (by decide) d4_90 rfl (by decide) (by decide) ?_
        exact ⟨by simp [ct4, *], rfl⟩
      · refine F_iconst X10 d4_85 (z := (1 : Int32)) (by decide) (pc' := 86) rfl ?_
        refine F_goto X10 d4_86 (by decide) (pc' := 90) (by decide) ?_
        refine F_ireturn_boolean (z' := (1 : Int32)) X10 (by decide) d4_90 rfl (by decide) (by decide) ?_
        exact ⟨by simp [ct4, *], rfl⟩
    · refine F_iload X8 d4_43 rfl (pc' := 45) rfl ?_
      refine F_istore X8 d4_45 (Ls' := #[.val (.ref o1), .val (.long u2), .second, .val (.int (2 : Int32)), .val (.int (3 : Int32)), .val (.int (2 : Int32)), .val (.int (2 : Int32))]) rfl (pc' := 47) rfl ?_
      refine F_iload X8 d4_47 rfl (pc' := 49) rfl ?_
      refine F_iconst X8 d4_49 (z := (1 : Int32)) (by decide) (pc' := 50) rfl ?_
      refine F_iadd X8 d4_50 (z := (3 : Int32)) (by decide) (pc' := 51) rfl ?_
      refine F_istoreN X8 d4_51 (Ls' := #[.val (.ref o1), .val (.long u2), .second, .val (.int (3 : Int32)), .val (.int (3 : Int32)), .val (.int (2 : Int32)), .val (.int (2 : Int32))]) rfl (pc' := 52) rfl ?_
      refine F_goto X8 d4_52 (by decide) (pc' := 61) (by decide) ?_
      refine F_goto X8 d4_61 (by decide) (pc' := 15) (by decide) ?_
      refine F_iloadN X8 d4_15 rfl (pc' := 16) rfl ?_
      refine F_iload X8 d4_16 rfl (pc' := 18) rfl ?_
      refine F_icmp_gt X8 d4_18 (by decide) (pt := 64) (by decide) (pc' := 21) rfl (fun q => absurd q (by decide)) (fun _ => ?_)
      refine F_iloadN X8 d4_21 rfl (pc' := 22) rfl ?_
      refine F_iload X8 d4_22 rfl (pc' := 24) rfl ?_
      refine F_iadd X8 d4_24 (z := (6 : Int32)) (by decide) (pc' := 25) rfl ?_
      refine F_iconst X8 d4_25 (z := (1 : Int32)) (by decide) (pc' := 26) rfl ?_
      refine F_iushr X8 d4_26 (z := (3 : Int32)) (by decide) (pc' := 27) rfl ?_
      refine F_istore X8 d4_27 (Ls' := #[.val (.ref o1), .val (.long u2), .second, .val (.int (3 : Int32)), .val (.int (3 : Int32)), .val (.int (2 : Int32)), .val (.int (3 : Int32))]) rfl (pc' := 29) rfl ?_
      refine F_aloadN X8 d4_29 rfl rfl (pc' := 30) rfl ?_
      refine F_getfield X8 (wd16 hw) F_bounds_o1 d4_30 (pc' := 33) rfl fun T12 X12 => ?_
      refine F_iconst X12 d4_33 (z := (2 : Int32)) (by decide) (pc' := 34) rfl ?_
      refine F_iload X12 d4_34 rfl (pc' := 36) rfl ?_
      refine F_imul X12 d4_36 (z := (6 : Int32)) (by decide) (pc' := 37) rfl ?_
      refine F_laload X12 A_o2 (by decide) rfl d4_37 (pc' := 38) rfl ?_
      refine F_lloadN X12 d4_38 rfl (pc' := 39) rfl ?_
      refine F_lcmp X12 d4_39 (pc' := 40) rfl ?_
      refine F_lif_gt X12 d4_40 (by decide) (pt := 55) (by decide) (pc' := 43) rfl (fun hc40_13 => ?_) (fun hc40_13 => ?_)
      · refine F_iload X12 d4_55 rfl (pc' := 57) rfl ?_
        refine F_iconst X12 d4_57 (z := (1 : Int32)) (by decide) (pc' := 58) rfl ?_
        refine F_isub X12 d4_58 (z := (2 : Int32)) (by decide) (pc' := 59) rfl ?_
        refine F_istore X12 d4_59 (Ls' := #[.val (.ref o1), .val (.long u2), .second, .val (.int (3 : Int32)), .val (.int (2 : Int32)), .val (.int (2 : Int32)), .val (.int (3 : Int32))]) rfl (pc' := 61) rfl ?_
        refine F_goto X12 d4_61 (by decide) (pc' := 15) (by decide) ?_
        refine F_iloadN X12 d4_15 rfl (pc' := 16) rfl ?_
        refine F_iload X12 d4_16 rfl (pc' := 18) rfl ?_
        refine F_icmp_gt X12 d4_18 (by decide) (pt := 64) (by decide) (pc' := 21) rfl (fun _ => ?_) (fun q => absurd q (by decide))
        refine F_iload X12 d4_64 rfl (pc' := 66) rfl ?_
        refine F_if_lt X12 d4_66 (by decide) (pt := 89) (by decide) (pc' := 69) rfl (fun q => absurd q (by decide)) (fun _ => ?_)
        refine F_lloadN X12 d4_69 rfl (pc' := 70) rfl ?_
        refine F_aloadN X12 d4_70 rfl rfl (pc' := 71) rfl ?_
        refine F_getfield X12 (wd16 hw) F_bounds_o1 d4_71 (pc' := 74) rfl fun T14 X14 => ?_
        refine F_iconst X14 d4_74 (z := (2 : Int32)) (by decide) (pc' := 75) rfl ?_
        refine F_iload X14 d4_75 rfl (pc' := 77) rfl ?_
        refine F_imul X14 d4_77 (z := (4 : Int32)) (by decide) (pc' := 78) rfl ?_
        refine F_iconst X14 d4_78 (z := (1 : Int32)) (by decide) (pc' := 79) rfl ?_
        refine F_iadd X14 d4_79 (z := (5 : Int32)) (by decide) (pc' := 80) rfl ?_
        refine F_laload X14 A_o2 (by decide) rfl d4_80 (pc' := 81) rfl ?_
        refine F_lcmp X14 d4_81 (pc' := 82) rfl ?_
        refine F_lif_gt X14 d4_82 (by decide) (pt := 89) (by decide) (pc' := 85) rfl (fun hc82_15 => ?_) (fun hc82_15 => ?_)
        · refine F_iconst X14 d4_89 (z := (0 : Int32)) (by decide) (pc' := 90) rfl ?_
          refine F_ireturn_boolean (z' := (0 : Int32)) X14 (by decide) d4_90 rfl (by decide) (by decide) ?_
          exact ⟨by simp [ct4, *], rfl⟩
        · refine F_iconst X14 d4_85 (z := (1 : Int32)) (by decide) (pc' := 86) rfl ?_
          refine F_goto X14 d4_86 (by decide) (pc' := 90) (by decide) ?_
          refine F_ireturn_boolean (z' := (1 : Int32)) X14 (by decide) d4_90 rfl (by decide) (by decide) ?_
          exact ⟨by simp [ct4, *], rfl⟩
      · refine F_iload X12 d4_43 rfl (pc' := 45) rfl ?_
        refine F_istore X12 d4_45 (Ls' := #[.val (.ref o1), .val (.long u2), .second, .val (.int (3 : Int32)), .val (.int (3 : Int32)), .val (.int (3 : Int32)), .val (.int (3 : Int32))]) rfl (pc' := 47) rfl ?_
        refine F_iload X12 d4_47 rfl (pc' := 49) rfl ?_
        refine F_iconst X12 d4_49 (z := (1 : Int32)) (by decide) (pc' := 50) rfl ?_
        refine F_iadd X12 d4_50 (z := (4 : Int32)) (by decide) (pc' := 51) rfl ?_
        refine F_istoreN X12 d4_51 (Ls' := #[.val (.ref o1), .val (.long u2), .second, .val (.int (4 : Int32)), .val (.int (3 : Int32)), .val (.int (3 : Int32)), .val (.int (3 : Int32))]) rfl (pc' := 52) rfl ?_
        refine F_goto X12 d4_52 (by decide) (pc' := 61) (by decide) ?_
        refine F_goto X12 d4_61 (by decide) (pc' := 15) (by decide) ?_
        refine F_iloadN X12 d4_15 rfl (pc' := 16) rfl ?_
        refine F_iload X12 d4_16 rfl (pc' := 18) rfl ?_
        refine F_icmp_gt X12 d4_18 (by decide) (pt := 64) (by decide) (pc' := 21) rfl (fun _ => ?_) (fun q => absurd q (by decide))
        refine F_iload X12 d4_64 rfl (pc' := 66) rfl ?_
        refine F_if_lt X12 d4_66 (by decide) (pt := 89) (by decide) (pc' := 69) rfl (fun q => absurd q (by decide)) (fun _ => ?_)
        refine F_lloadN X12 d4_69 rfl (pc' := 70) rfl ?_
        refine F_aloadN X12 d4_70 rfl rfl (pc' := 71) rfl ?_
        refine F_getfield X12 (wd16 hw) F_bounds_o1 d4_71 (pc' := 74) rfl fun T16 X16 => ?_
        refine F_iconst X16 d4_74 (z := (2 : Int32)) (by decide) (pc' := 75) rfl ?_
        refine F_iload X16 d4_75 rfl (pc' := 77) rfl ?_
        refine F_imul X16 d4_77 (z := (6 : Int32)) (by decide) (pc' := 78) rfl ?_
        refine F_iconst X16 d4_78 (z := (1 : Int32)) (by decide) (pc' := 79) rfl ?_
        refine F_iadd X16 d4_79 (z := (7 : Int32)) (by decide) (pc' := 80) rfl ?_
        refine F_laload X16 A_o2 (by decide) rfl d4_80 (pc' := 81) rfl ?_
        refine F_lcmp X16 d4_81 (pc' := 82) rfl ?_
        refine F_lif_gt X16 d4_82 (by decide) (pt := 89) (by decide) (pc' := 85) rfl (fun hc82_17 => ?_) (fun hc82_17 => ?_)
        · refine F_iconst X16 d4_89 (z := (0 : Int32)) (by decide) (pc' := 90) rfl ?_
          refine F_ireturn_boolean (z' := (0 : Int32)) X16 (by decide) d4_90 rfl (by decide) (by decide) ?_
          exact ⟨by simp [ct4, *], rfl⟩
        · refine F_iconst X16 d4_85 (z := (1 : Int32)) (by decide) (pc' := 86) rfl ?_
          refine F_goto X16 d4_86 (by decide) (pc' := 90) (by decide) ?_
          refine F_ireturn_boolean (z' := (1 : Int32)) X16 (by decide) d4_90 rfl (by decide) (by decide) ?_
          exact ⟨by simp [ct4, *], rfl⟩
theorem pn0 : plainName "org/pulsewire/store/SeqRunsContainsPinLaw" = true := by first | (simp [plainName, overriddenIn]; done) | decide +kernel
theorem ef_con0 (m : MethodId) (x0 : Int64) (x1 : Int32) (x2 : Int64) (x3 : Int32) : entryFrame m #[(.long x0), (.int x1), (.long x2), (.int x3)] maxLocals = mkF m 0 #[.val (.long x0), .second, .val (.int x1), .val (.long x2), .second, .val (.int x3), .unset, .unset, .unset, .unset, .unset, .unset, .unset, .unset, .unset, .unset, .unset, .unset, .unset] [] := by first | (simp [entryFrame, mkF, argsToLocals, Value.category, maxLocals]; done) | rfl
set_option maxRecDepth 65536 in
set_option maxHeartbeats 40000000 in
theorem con0 (l : Launch) (Z : State) (a0 : Array Value) (hw : ∀ d ∈ tables_1, d.before a0 Z = true) (n0 : Nat) (h : Heap) (hn0 : n0 ≤ h.size) (u1 : Int64) (u2 : Int32) (u3 : Int64) (u4 : Int32) :
    Con l x code maxLocals ret room_1 16 128 Z n0 #[(.long u1), (.int u2), (.long u3), (.int u4)] h (fun v h' => v = some (.int (1 : Int32))) := by
  refine Con.body (own := "org/pulsewire/store/SeqRunsContainsPinLaw") (nm := "law") rfl rfl (plainFor_of_name pn0) hn0 ?_
  intro p e s m below meth c T0 X0
  rw [ef_con0]
  refine F_lloadN X0 at_0 rfl (pc' := 1) rfl ?_
  refine F_ldc2Long X0 (wd0 hw) at_1 (pc' := 4) rfl ?_
  refine F_callS X0 (y := (⟨"java/lang/Math", "min", "(JJ)J"⟩ : MethodName)) (stk := []) (wd1 hw) (wd2 hw) (wd3 hw) (wd4 hw) (by decide) (argsL := [(.long u1), (.long (9223372036854775795 : Int64))]) (con_min l Z a0 hw n0 h X0.size u1 (9223372036854775795 : Int64)) (by decide) (W := 0) (Nat.le_of_ble_eq_true rfl) (by decide) (by decide) (by decide) rfl (lenOf pd0 rfl) rfl at_4 (pc' := 7) rfl fun T1 v1 h1 X1 q1 => ?_
  obtain ⟨rfl, rfl⟩ := q1
  replace X1 := X1.more (cells' := 0) (slots' := 0) (by decide) (by decide)
  show Jvm.OwnKit.Ends p e below s n0 16 128 _ T1 (mkF m 7 #[.val (.long u1), .second, .val (.int u2), .val (.long u3), .second, .val (.int u4), .unset, .unset, .unset, .unset, .unset, .unset, .unset, .unset, .unset, .unset, .unset, .unset, .unset] [(.long (lmin u1 (9223372036854775795 : Int64)))])
  generalize hs1 : (lmin u1 (9223372036854775795 : Int64)) = s1
  refine F_lstore X1 at_7 (Ls' := #[.val (.long u1), .second, .val (.int u2), .val (.long u3), .second, .val (.int u4), .val (.long s1), .second, .unset, .unset, .unset, .unset, .unset, .unset, .unset, .unset, .unset, .unset, .unset]) rfl (pc' := 9) rfl ?_
  refine F_lload X1 at_9 rfl (pc' := 11) rfl ?_
  refine F_iloadN X1 at_11 rfl (pc' := 12) rfl ?_
  refine F_iconst X1 at_12 (z := (3 : Int32)) (by decide) (pc' := 13) rfl ?_
  refine F_iand X1 at_13 rfl (pc' := 14) rfl ?_
  refine F_i2l X1 at_14 rfl (pc' := 15) rfl ?_
  refine F_ladd X1 at_15 rfl (pc' := 16) rfl ?_
  refine F_lconst X1 at_16 (z := (1 : Int64)) (by decide) (pc' := 17) rfl ?_
  obtain ⟨s2, hs2⟩ : ∃ z : Int64, (s1 + ((u2 &&& (3 : Int32)).toInt64)) + (1 : Int64) = z := ⟨_, rfl⟩
  refine F_ladd X1 at_17 (z := s2) hs2 (pc' := 18) rfl ?_
  refine F_lstore X1 at_18 (Ls' := #[.val (.long u1), .second, .val (.int u2), .val (.long u3), .second, .val (.int u4), .val (.long s1), .second, .val (.long s2), .second, .unset, .unset, .unset, .unset, .unset, .unset, .unset, .unset, .unset]) rfl (pc' := 20) rfl ?_
  refine F_lload X1 at_20 rfl (pc' := 22) rfl ?_
  refine F_iloadN X1 at_22 rfl (pc' := 23) rfl ?_
  refine F_iconst X1 at_23 (z := (2 : Int32)) (by decide) (pc' := 24) rfl ?_
  refine F_iushr X1 at_24 rfl (pc' := 25) rfl ?_
  refine F_iconst X1 at_25 (z := (3 : Int32)) (by decide) (pc' := 26) rfl ?_
  refine F_iand X1 at_26 rfl (pc' := 27) rfl ?_
  refine F_i2l X1 at_27 rfl (pc' := 28) rfl ?_
  refine F_ladd X1 at_28 rfl (pc' := 29) rfl ?_
  refine F_lconst X1 at_29 (z := (1 : Int64)) (by decide) (pc' := 30) rfl ?_
  obtain ⟨s3, hs3⟩ : ∃ z : Int64, (s2 + ((((u2.toUInt32 >>> ((2 : Int32) &&& 31).toUInt32).toInt32) &&& (3 : Int32)).toInt64)) + (1 : Int64) = z := ⟨_, rfl⟩
  refine F_ladd X1 at_30 (z := s3) hs3 (pc' := 31) rfl ?_
  refine F_lstore X1 at_31 (Ls' := #[.val (.long u1), .second, .val (.int u2), .val (.long u3), .second, .val (.int u4), .val (.long s1), .second, .val (.long s2), .second, .val (.long s3), .second, .unset, .unset, .unset, .unset, .unset, .unset, .unset]) rfl (pc' := 33) rfl ?_
  refine F_lload X1 at_33 rfl (pc' := 35) rfl ?_
  refine F_iloadN X1 at_35 rfl (pc' := 36) rfl ?_
  refine F_iconst X1 at_36 (z := (4 : Int32)) (by decide) (pc' := 37) rfl ?_
  refine F_iushr X1 at_37 rfl (pc' := 38) rfl ?_
  refine F_iconst X1 at_38 (z := (3 : Int32)) (by decide) (pc' := 39) rfl ?_
  refine F_iand X1 at_39 rfl (pc' := 40) rfl ?_
  refine F_i2l X1 at_40 rfl (pc' := 41) rfl ?_
  refine F_ladd X1 at_41 rfl (pc' := 42) rfl ?_
  refine F_lconst X1 at_42 (z := (1 : Int64)) (by decide) (pc' := 43) rfl ?_
  obtain ⟨s4, hs4⟩ : ∃ z : Int64, (s3 + ((((u2.toUInt32 >>> ((4 : Int32) &&& 31).toUInt32).toInt32) &&& (3 : Int32)).toInt64)) + (1 : Int64) = z := ⟨_, rfl⟩
  refine F_ladd X1 at_43 (z := s4) hs4 (pc' := 44) rfl ?_
  refine F_lstore X1 at_44 (Ls' := #[.val (.long u1), .second, .val (.int u2), .val (.long u3), .second, .val (.int u4), .val (.long s1), .second, .val (.long s2), .second, .val (.long s3), .second, .val (.long s4), .second, .unset, .unset, .unset, .unset, .unset]) rfl (pc' := 46) rfl ?_
  refine F_iloadN X1 at_46 rfl (pc' := 47) rfl ?_
  refine F_bipush X1 at_47 (z := (6 : Int32)) (by decide) (pc' := 49) rfl ?_
  refine F_iushr X1 at_49 rfl (pc' := 50) rfl ?_
  refine F_iconst X1 at_50 (z := (5 : Int32)) (by decide) (pc' := 51) rfl ?_
  obtain ⟨kk, hkk⟩ : ∃ z : Int32, ((u2.toUInt32 >>> ((6 : Int32) &&& 31).toUInt32).toInt32) % (5 : Int32) = z := ⟨_, rfl⟩
  refine F_irem X1 at_51 (by decide) (z := kk) hkk (pc' := 52) rfl ?_
  refine F_istore X1 at_52 (Ls' := #[.val (.long u1), .second, .val (.int u2), .val (.long u3), .second, .val (.int u4), .val (.long s1), .second, .val (.long s2), .second, .val (.long s3), .second, .val (.long s4), .second, .val (.int kk), .unset, .unset, .unset, .unset]) rfl (pc' := 54) rfl ?_
  refine F_iload X1 at_54 rfl (pc' := 56) rfl ?_
  refine F_bipush X1 at_56 (z := (32 : Int32)) (by decide) (pc' := 58) rfl ?_
  refine F_iand X1 at_58 rfl (pc' := 59) rfl ?_
  have Jr3 : ∀ (r3 : Int64), r3 = (if (u4 &&& (32 : Int32)) = (0 : Int32) then ((s1 + ((u4 &&& (15 : Int32)).toInt64)) - (2 : Int64)) else u3) → Jvm.OwnKit.Ends p e below s n0 16 128 (fun v h' => v = some (.int (1 : Int32))) T1 (mkF m 83 #[.val (.long u1), .second, .val (.int u2), .val (.long u3), .second, .val (.int u4), .val (.long s1), .second, .val (.long s2), .second, .val (.long s3), .second, .val (.long s4), .second, .val (.int kk), .val (.long r3), .second, .unset, .unset] []) := by
    intro r3 hr3
    have hm1 := own_lmin hs1
    have hm2 := own_add hs2 (by omega)
    have hm3 := own_add hs3 (by omega)
    have hm4 := own_add hs4 (by omega)
    have hd2 := own_dec hm2.1
    have hd3 := own_dec hm3.1
    have hd4 := own_dec hm4.1
    refine F_new X1 (wd6 hw) (wd7 hw) (wd8 hw) (by decide) (by decide) at_83 (pc' := 86) rfl fun T4 h4 b4 X4 Ex4 g4 ge4 E_b4 D4 => ?_
    have F4_bounds_b4 : Fld Z h4 b4 "org/pulsewire/store/SeqRuns" "bounds" "[J" .null := D4 (Or.inl (wd17 hw)) (ty := (.array .long)) (by decide)
    have F4_taken_b4 : Fld Z h4 b4 "org/pulsewire/store/SeqRuns" "taken" "I" (.int (0 : Int32)) := D4 (Or.inl (wd24 hw)) (ty := .int) (by decide)
    replace X4 := X4.more (cells' := 1) (slots' := 2) (by decide) (by decide)
    refine F_dup X4 at_86 rfl (pc' := 87) rfl ?_
    refine F_init X4 (y := (⟨"org/pulsewire/store/SeqRuns", "<init>", "()V"⟩ : MethodName)) (stk := [(.ref b4)]) rfl (wd9 hw) (wd10 hw) (wd8 hw) (wd11 hw) (by decide) (a := b4) (argsL := []) (conI l Z a0 hw n0 h4 X4.size b4 E_b4 F4_bounds_b4 F4_taken_b4 ge4) (by decide) (W := 1) (Nat.le_of_ble_eq_true rfl) (by decide) (by decide) (by decide) rfl (lenOf pd1 rfl) rfl at_87 (pc' := 90) rfl fun T5 v5 h5 X5 q5 => ?_
    obtain ⟨b5_fb, rfl, sz5_fb, Kp5, E5_b4, E5_b5_fb, F5_bounds_b4, F5_taken_b4, A5_b5_fb⟩ := q5
    have ge_b5_fb : n0 ≤ b5_fb := Nat.le_trans X4.size sz5_fb
    have ne_b4_b5_fb : b4 ≠ b5_fb := Nat.ne_of_lt (Nat.lt_of_lt_of_le E_b4.lt sz5_fb)
    have E5k_b4 := E_b4.keep Kp5
    replace X5 := X5.more (cells' := 2) (slots' := 18) (by decide) (by decide)
    show Jvm.OwnKit.Ends p e below s n0 16 128 _ T5 (mkF m 90 #[.val (.long u1), .second, .val (.int u2), .val (.long u3), .second, .val (.int u4), .val (.long s1), .second, .val (.long s2), .second, .val (.long s3), .second, .val (.long s4), .second, .val (.int kk), .val (.long r3), .second, .unset, .unset] [(.ref b4)])
    refine F_astore X5 at_90 rfl (Ls' := #[.val (.long u1), .second, .val (.int u2), .val (.long u3), .second, .val (.int u4), .val (.long s1), .second, .val (.long s2), .second, .val (.long s3), .second, .val (.long s4), .second, .val (.int kk), .val (.long r3), .second, .val (.ref b4), .unset]) rfl (pc' := 92) rfl ?_
    rcases (own_k hkk) with rfl | rfl | rfl | rfl | rfl
    · refine F_iload X5 at_92 rfl (pc' := 94) rfl ?_
      refine F_iconst X5 at_94 (z := (1 : Int32)) (by decide) (pc' := 95) rfl ?_
      refine F_icmp_lt X5 at_95 (by decide) (pt := 105) (by decide) (pc' := 98) rfl (fun _ => ?_) (fun q => absurd q (by decide))
      refine F_iload X5 at_105 rfl (pc' := 107) rfl ?_
      refine F_iconst X5 at_107 (z := (2 : Int32)) (by decide) (pc' := 108) rfl ?_
      refine F_icmp_lt X5 at_108 (by decide) (pt := 118) (by decide) (pc' := 111) rfl (fun _ => ?_) (fun q => absurd q (by decide))
      refine F_iload X5 at_118 rfl (pc' := 120) rfl ?_
      refine F_iconst X5 at_120 (z := (3 : Int32)) (by decide) (pc' := 121) rfl ?_
      refine F_icmp_lt X5 at_121 (by decide) (pt := 131) (by decide) (pc' := 124) rfl (fun _ => ?_) (fun q => absurd q (by decide))
      refine F_iload X5 at_131 rfl (pc' := 133) rfl ?_
      refine F_iconst X5 at_133 (z := (4 : Int32)) (by decide) (pc' := 134) rfl ?_
      refine F_icmp_lt X5 at_134 (by decide) (pt := 144) (by decide) (pc' := 137) rfl (fun _ => ?_) (fun q => absurd q (by decide))
      refine F_iload X5 at_144 rfl (pc' := 146) rfl ?_
      refine F_iconst X5 at_146 (z := (1 : Int32)) (by decide) (pc' := 147) rfl ?_
      refine F_icmp_lt X5 at_147 (by decide) (pt := 158) (by decide) (pc' := 150) rfl (fun _ => ?_) (fun q => absurd q (by decide))
      refine F_iload X5 at_158 rfl (pc' := 160) rfl ?_
      refine F_iconst X5 at_160 (z := (2 : Int32)) (by decide) (pc' := 161) rfl ?_
      refine F_icmp_lt X5 at_161 (by decide) (pt := 172) (by decide) (pc' := 164) rfl (fun _ => ?_) (fun q => absurd q (by decide))
      refine F_iload X5 at_172 rfl (pc' := 174) rfl ?_
      refine F_iconst X5 at_174 (z := (3 : Int32)) (by decide) (pc' := 175) rfl ?_
      refine F_icmp_lt X5 at_175 (by decide) (pt := 186) (by decide) (pc' := 178) rfl (fun _ => ?_) (fun q => absurd q (by decide))
      refine F_iload X5 at_186 rfl (pc' := 188) rfl ?_
      refine F_iconst X5 at_188 (z := (4 : Int32)) (by decide) (pc' := 189) rfl ?_
      refine F_icmp_lt X5 at_189 (by decide) (pt := 204) (by decide) (pc' := 192) rfl (fun _ => ?_) (fun q => absurd q (by decide))
      refine F_iconst X5 at_204 (z := (0 : Int32)) (by decide) (pc' := 205) rfl ?_
      refine F_istore X5 at_205 (Ls' := #[.val (.long u1), .second, .val (.int u2), .val (.long u3), .second, .val (.int u4), .val (.long s1), .second, .val (.long s2), .second, .val (.long s3), .second, .val (.long s4), .second, .val (.int (0 : Int32)), .val (.long r3), .second, .val (.ref b4), .val (.int (0 : Int32))]) rfl (pc' := 207) rfl ?_
      refine F_aload X5 at_207 rfl rfl (pc' := 209) rfl ?_
      refine F_lload X5 at_209 rfl (pc' := 211) rfl ?_
      refine F_callV X5 (y := (⟨"org/pulsewire/store/SeqRuns", "contains", "(J)Z"⟩ : MethodName)) (stk := []) (wd18 hw) (wd19 hw) (wd21 hw) (wd20 hw) (wd8 hw) (wd22 hw) (by decide) (a := b4) E5_b4 (argsL := [(.long r3)]) (conC0 l Z a0 hw n0 h5 X5.size b4 r3 b5_fb F5_bounds_b4 F5_taken_b4 A5_b5_fb) (by decide) (W := 0) (Nat.le_of_ble_eq_true rfl) (by decide) (by decide) (by decide) rfl (lenOf pd2 rfl) rfl at_211 (pc' := 214) rfl fun T6 v6 h6 X6 q6 => ?_
      obtain ⟨rfl, rfl⟩ := q6
      replace X6 := X6.more (cells' := 2) (slots' := 18) (by decide) (by decide)
      show Jvm.OwnKit.Ends p e below s n0 16 128 _ T6 (mkF m 214 #[.val (.long u1), .second, .val (.int u2), .val (.long u3), .second, .val (.int u4), .val (.long s1), .second, .val (.long s2), .second, .val (.long s3), .second, .val (.long s4), .second, .val (.int (0 : Int32)), .val (.long r3), .second, .val (.ref b4), .val (.int (0 : Int32))] [(.int (ct0 r3))])
      refine F_iload X6 at_214 rfl (pc' := 216) rfl ?_
      refine F_icmp_ne X6 at_216 (by decide) (pt := 223) (by decide) (pc' := 219) rfl (fun hc216_7 => ?_) (fun hc216_7 => ?_)
      · refine F_iconst X6 at_223 (z := (0 : Int32)) (by decide) (pc' := 224) rfl ?_
        refine F_ireturn_boolean (z' := (0 : Int32)) X6 (by decide) at_224 rfl (by decide) (by decide) ?_
        exfalso; refine hc216_7 ?_; unfold ct0; simp only [Int64.lt_iff_toInt_lt, ← Int64.toInt_inj] ; repeat' split
        all_goals first | rfl | (exfalso; omega)
      · refine F_iconst X6 at_219 (z := (1 : Int32)) (by decide) (pc' := 220) rfl ?_
        refine F_goto X6 at_220 (by decide) (pc' := 224) (by decide) ?_
        refine F_ireturn_boolean (z' := (1 : Int32)) X6 (by decide) at_224 rfl (by decide) (by decide) ?_
        exact rfl
    · refine F_iload X5 at_92 rfl (pc' := 94) rfl ?_
      refine F_iconst X5 at_94 (z := (1 : Int32)) (by decide) (pc' := 95) rfl ?_
      refine F_icmp_lt X5 at_95 (by decide) (pt := 105) (by decide) (pc' := 98) rfl (fun q => absurd q (by decide)) (fun _ => ?_)
      refine F_aload X5 at_98 rfl rfl (pc' := 100) rfl ?_
      refine F_lload X5 at_100 rfl (pc' := 102) rfl ?_
      refine F_callV X5 (y := (⟨"org/pulsewire/store/SeqRuns", "add", "(J)V"⟩ : MethodName)) (stk := []) (wd25 hw) (wd26 hw) (wd28 hw) (wd27 hw) (wd8 hw) (wd29 hw) (by decide) (a := b4) E5_b4 (argsL := [(.long s1)]) (conN0 l Z a0 hw n0 h5 X5.size b4 s1 b5_fb E5_b4 F5_bounds_b4 F5_taken_b4 A5_b5_fb ge4 ge_b5_fb ne_b4_b5_fb) (by decide) (W := 0) (Nat.le_of_ble_eq_true rfl) (by decide) (by decide) (by decide) rfl (lenOf pd3 rfl) rfl at_102 (pc' := 105) rfl fun T8 v8 h8 X8 q8 => ?_
      obtain ⟨rfl, Kp8, F8_bounds_b4, F8_taken_b4, A8_b5_fb⟩ := q8
      have E8k_b4 := E5_b4.keep Kp8
      have E8k_b5_fb := E5_b5_fb.keep Kp8
      replace X8 := X8.more (cells' := 2) (slots' := 18) (by decide) (by decide)
      show Jvm.OwnKit.Ends p e below s n0 16 128 _ T8 (mkF m 105 #[.val (.long u1), .second, .val (.int u2), .val (.long u3), .second, .val (.int u4), .val (.long s1), .second, .val (.long s2), .second, .val (.long s3), .second, .val (.long s4), .second, .val (.int (1 : Int32)), .val (.long r3), .second, .val (.ref b4), .unset] [])
      refine F_iload X8 at_105 rfl (pc' := 107) rfl ?_
      refine F_iconst X8 at_107 (z := (2 : Int32)) (by decide) (pc' := 108) rfl ?_
      refine F_icmp_lt X8 at_108 (by decide) (pt := 118) (by decide) (pc' := 111) rfl (fun _ => ?_) (fun q => absurd q (by decide))
      refine F_iload X8 at_118 rfl (pc' := 120) rfl ?_
      refine F_iconst X8 at_120 (z := (3 : Int32)) (by decide) (pc' := 121) rfl ?_
      refine F_icmp_lt X8 at_121 (by decide) (pt := 131) (by decide) (pc' := 124) rfl (fun _ => ?_) (fun q => absurd q (by decide))
      refine F_iload X8 at_131 rfl (pc' := 133) rfl ?_
      refine F_iconst X8 at_133 (z := (4 : Int32)) (by decide) (pc' := 134) rfl ?_
      refine F_icmp_lt X8 at_134 (by decide) (pt := 144) (by decide) (pc' := 137) rfl (fun _ => ?_) (fun q => absurd q (by decide))
      refine F_iload X8 at_144 rfl (pc' := 146) rfl ?_
      refine F_iconst X8 at_146 (z := (1 : Int32)) (by decide) (pc' := 147) rfl ?_
      refine F_icmp_lt X8 at_147 (by decide) (pt := 158) (by decide) (pc' := 150) rfl (fun q => absurd q (by decide)) (fun _ => ?_)
      refine F_lload X8 at_150 rfl (pc' := 152) rfl ?_
      refine F_lload X8 at_152 rfl (pc' := 154) rfl ?_
      refine F_lcmp X8 at_154 (pc' := 155) rfl ?_
      refine F_lif_eq X8 at_155 (by decide) (pt := 200) (by decide) (pc' := 158) rfl (fun hc155_9 => ?_) (fun hc155_9 => ?_)
      · refine F_iconst X8 at_200 (z := (1 : Int32)) (by decide) (pc' := 201) rfl ?_
        refine F_goto X8 at_201 (by decide) (pc' := 205) (by decide) ?_
        refine F_istore X8 at_205 (Ls' := #[.val (.long u1), .second, .val (.int u2), .val (.long u3), .second, .val (.int u4), .val (.long s1), .second, .val (.long s2), .second, .val (.long s3), .second, .val (.long s4), .second, .val (.int (1 : Int32)), .val (.long r3), .second, .val (.ref b4), .val (.int (1 : Int32))]) rfl (pc' := 207) rfl ?_
        refine F_aload X8 at_207 rfl rfl (pc' := 209) rfl ?_
        refine F_lload X8 at_209 rfl (pc' := 211) rfl ?_
        refine F_callV X8 (y := (⟨"org/pulsewire/store/SeqRuns", "contains", "(J)Z"⟩ : MethodName)) (stk := []) (wd18 hw) (wd19 hw) (wd21 hw) (wd20 hw) (wd8 hw) (wd22 hw) (by decide) (a := b4) E8k_b4 (argsL := [(.long r3)]) (conC1 l Z a0 hw n0 h8 X8.size b4 r3 b5_fb s1 s1 F8_bounds_b4 F8_taken_b4 A8_b5_fb) (by decide) (W := 0) (Nat.le_of_ble_eq_true rfl) (by decide) (by decide) (by decide) rfl (lenOf pd2 rfl) rfl at_211 (pc' := 214) rfl fun T10 v10 h10 X10 q10 => ?_
        obtain ⟨rfl, rfl⟩ := q10
        replace X10 := X10.more (cells' := 2) (slots' := 18) (by decide) (by decide)
        show Jvm.OwnKit.Ends p e below s n0 16 128 _ T10 (mkF m 214 #[.val (.long u1), .second, .val (.int u2), .val (.long u3), .second, .val (.int u4), .val (.long s1), .second, .val (.long s2), .second, .val (.long s3), .second, .val (.long s4), .second, .val (.int (1 : Int32)), .val (.long r3), .second, .val (.ref b4), .val (.int (1 : Int32))] [(.int (ct1 s1 s1 r3))])
        refine F_iload X10 at_214 rfl (pc' := 216) rfl ?_
        refine F_icmp_ne X10 at_216 (by decide) (pt := 223) (by decide) (pc' := 219) rfl (fun hc216_11 => ?_) (fun hc216_11 => ?_)
        · refine F_iconst X10 at_223 (z := (0 : Int32)) (by decide) (pc' := 224) rfl ?_
          refine F_ireturn_boolean (z' := (0 : Int32)) X10 (by decide) at_224 rfl (by decide) (by decide) ?_
          exfalso; refine hc216_11 ?_; unfold ct1; simp only [Int64.lt_iff_toInt_lt, ← Int64.toInt_inj] at hc155_9 ⊢; repeat' split
          all_goals first | rfl | (exfalso; omega)
        · refine F_iconst X10 at_219 (z := (1 : Int32)) (by decide) (pc' := 220) rfl ?_
          refine F_goto X10 at_220 (by decide) (pc' := 224) (by decide) ?_
          refine F_ireturn_boolean (z' := (1 : Int32)) X10 (by decide) at_224 rfl (by decide) (by decide) ?_
          exact rfl
      · refine F_iload X8 at_158 rfl (pc' := 160) rfl ?_
        refine F_iconst X8 at_160 (z := (2 : Int32)) (by decide) (pc' := 161) rfl ?_
        refine F_icmp_lt X8 at_161 (by decide) (pt := 172) (by decide) (pc' := 164) rfl (fun _ => ?_) (fun q => absurd q (by decide))
        refine F_iload X8 at_172 rfl (pc' := 174) rfl ?_
        refine F_iconst X8 at_174 (z := (3 : Int32)) (by decide) (pc' := 175) rfl ?_
        refine F_icmp_lt X8 at_175 (by decide) (pt := 186) (by decide) (pc' := 178) rfl (fun _ => ?_) (fun q => absurd q (by decide))
        refine F_iload X8 at_186 rfl (pc' := 188) rfl ?_
        refine F_iconst X8 at_188 (z := (4 : Int32)) (by decide) (pc' := 189) rfl ?_
        refine F_icmp_lt X8 at_189 (by decide) (pt := 204) (by decide) (pc' := 192) rfl (fun _ => ?_) (fun q => absurd q (by decide))
        refine F_iconst X8 at_204 (z := (0 : Int32)) (by decide) (pc' := 205) rfl ?_
        refine F_istore X8 at_205 (Ls' := #[.val (.long u1), .second, .val (.int u2), .val (.long u3), .second, .val (.int u4), .val (.long s1), .second, .val (.long s2), .second, .val (.long s3), .second, .val (.long s4), .second, .val (.int (1 : Int32)), .val (.long r3), .second, .val (.ref b4), .val (.int (0 : Int32))]) rfl (pc' := 207) rfl ?_
        refine F_aload X8 at_207 rfl rfl (pc' := 209) rfl ?_
        refine F_lload X8 at_209 rfl (pc' := 211) rfl ?_
        refine F_callV X8 (y := (⟨"org/pulsewire/store/SeqRuns", "contains", "(J)Z"⟩ : MethodName)) (stk := []) (wd18 hw) (wd19 hw) (wd21 hw) (wd20 hw) (wd8 hw) (wd22 hw) (by decide) (a := b4) E8k_b4 (argsL := [(.long r3)]) (conC1 l Z a0 hw n0 h8 X8.size b4 r3 b5_fb s1 s1 F8_bounds_b4 F8_taken_b4 A8_b5_fb) (by decide) (W := 0) (Nat.le_of_ble_eq_true rfl) (by decide) (by decide) (by decide) rfl (lenOf pd2 rfl) rfl at_211 (pc' := 214) rfl fun T12 v12 h12 X12 q12 => ?_
        obtain ⟨rfl, rfl⟩ := q12
        replace X12 := X12.more (cells' := 2) (slots' := 18) (by decide) (by decide)
        show Jvm.OwnKit.Ends p e below s n0 16 128 _ T12 (mkF m 214 #[.val (.long u1), .second, .val (.int u2), .val (.long u3), .second, .val (.int u4), .val (.long s1), .second, .val (.long s2), .second, .val (.long s3), .second, .val (.long s4), .second, .val (.int (1 : Int32)), .val (.long r3), .second, .val (.ref b4), .val (.int (0 : Int32))] [(.int (ct1 s1 s1 r3))])
        refine F_iload X12 at_214 rfl (pc' := 216) rfl ?_
        refine F_icmp_ne X12 at_216 (by decide) (pt := 223) (by decide) (pc' := 219) rfl (fun hc216_13 => ?_) (fun hc216_13 => ?_)
        · refine F_iconst X12 at_223 (z := (0 : Int32)) (by decide) (pc' := 224) rfl ?_
          refine F_ireturn_boolean (z' := (0 : Int32)) X12 (by decide) at_224 rfl (by decide) (by decide) ?_
          exfalso; refine hc216_13 ?_; unfold ct1; simp only [Int64.lt_iff_toInt_lt, ← Int64.toInt_inj] at hc155_9 ⊢; repeat' split
          all_goals first | rfl | (exfalso; omega)
        · refine F_iconst X12 at_219 (z := (1 : Int32)) (by decide) (pc' := 220) rfl ?_
          refine F_goto X12 at_220 (by decide) (pc' := 224) (by decide) ?_
          refine F_ireturn_boolean (z' := (1 : Int32)) X12 (by decide) at_224 rfl (by decide) (by decide) ?_
          exact rfl
    · refine F_iload X5 at_92 rfl (pc' := 94) rfl ?_
      refine F_iconst X5 at_94 (z := (1 : Int32)) (by decide) (pc' := 95) rfl ?_
      refine F_icmp_lt X5 at_95 (by decide) (pt := 105) (by decide) (pc' := 98) rfl (fun q => absurd q (by decide)) (fun _ => ?_)
      refine F_aload X5 at_98 rfl rfl (pc' := 100) rfl ?_
      refine F_lload X5 at_100 rfl (pc' := 102) rfl ?_
      refine F_callV X5 (y := (⟨"org/pulsewire/store/SeqRuns", "add", "(J)V"⟩ : MethodName)) (stk := []) (wd25 hw) (wd26 hw) (wd28 hw) (wd27 hw) (wd8 hw) (wd29 hw) (by decide) (a := b4) E5_b4 (argsL := [(.long s1)]) (conN0 l Z a0 hw n0 h5 X5.size b4 s1 b5_fb E5_b4 F5_bounds_b4 F5_taken_b4 A5_b5_fb ge4 ge_b5_fb ne_b4_b5_fb) (by decide) (W := 0) (Nat.le_of_ble_eq_true rfl) (by decide) (by decide) (by decide) rfl (lenOf pd3 rfl) rfl at_102 (pc' := 105) rfl fun T14 v14 h14 X14 q14 => ?_
      obtain ⟨rfl, Kp14, F14_bounds_b4, F14_taken_b4, A14_b5_fb⟩ := q14
      have E14k_b4 := E5_b4.keep Kp14
      have E14k_b5_fb := E5_b5_fb.keep Kp14
      replace X14 := X14.more (cells' := 2) (slots' := 18) (by decide) (by decide)
      show Jvm.OwnKit.Ends p e below s n0 16 128 _ T14 (mkF m 105 #[.val (.long u1), .second, .val (.int u2), .val (.long u3), .second, .val (.int u4), .val (.long s1), .second, .val (.long s2), .second, .val (.long s3), .second, .val (.long s4), .second, .val (.int (2 : Int32)), .val (.long r3), .second, .val (.ref b4), .unset] [])
      refine F_iload X14 at_105 rfl (pc' := 107) rfl ?_
      refine F_iconst X14 at_107 (z := (2 : Int32)) (by decide) (pc' := 108) rfl ?_
      refine F_icmp_lt X14 at_108 (by decide) (pt := 118) (by decide) (pc' := 111) rfl (fun q => absurd q (by decide)) (fun _ => ?_)
      refine F_aload X14 at_111 rfl rfl (pc' := 113) rfl ?_
      refine F_lload X14 at_113 rfl (pc' := 115) rfl ?_
      by_cases hq15 : s1 = (s2 - (1 : Int64))
      · refine F_callV X14 (y := (⟨"org/pulsewire/store/SeqRuns", "add", "(J)V"⟩ : MethodName)) (stk := []) (wd25 hw) (wd26 hw) (wd28 hw) (wd27 hw) (wd8 hw) (wd29 hw) (by decide) (a := b4) E14k_b4 (argsL := [(.long s2)]) (conX2 l Z a0 hw n0 h14 X14.size b4 s2 b5_fb s1 s1 E14k_b4 F14_bounds_b4 F14_taken_b4 A14_b5_fb ge4 ge_b5_fb ne_b4_b5_fb (by assumption)) (by decide) (W := 0) (Nat.le_of_ble_eq_true rfl) (by decide) (by decide) (by decide) rfl (lenOf pd3 rfl) rfl at_115 (pc' := 118) rfl fun T16 v16 h16 X16 q16 => ?_
        obtain ⟨rfl, Kp16, F16_bounds_b4, F16_taken_b4, A16_b5_fb⟩ := q16
        have E16k_b4 := E14k_b4.keep Kp16
        have E16k_b5_fb := E14k_b5_fb.keep Kp16
        replace X16 := X16.more (cells' := 2) (slots' := 18) (by decide) (by decide)
        show Jvm.OwnKit.Ends p e below s n0 16 128 _ T16 (mkF m 118 #[.val (.long u1), .second, .val (.int u2), .val (.long u3), .second, .val (.int u4), .val (.long s1), .second, .val (.long s2), .second, .val (.long s3), .second, .val (.long s4), .second, .val (.int (2 : Int32)), .val (.long r3), .second, .val (.ref b4), .unset] [])
        refine F_iload X16 at_118 rfl (pc' := 120) rfl ?_
        refine F_iconst X16 at_120 (z := (3 : Int32)) (by decide) (pc' := 121) rfl ?_
        refine F_icmp_lt X16 at_121 (by decide) (pt := 131) (by decide) (pc' := 124) rfl (fun _ => ?_) (fun q => absurd q (by decide))
        refine F_iload X16 at_131 rfl (pc' := 133) rfl ?_
        refine F_iconst X16 at_133 (z := (4 : Int32)) (by decide) (pc' := 134) rfl ?_
        refine F_icmp_lt X16 at_134 (by decide) (pt := 144) (by decide) (pc' := 137) rfl (fun _ => ?_) (fun q => absurd q (by decide))
        refine F_iload X16 at_144 rfl (pc' := 146) rfl ?_
        refine F_iconst X16 at_146 (z := (1 : Int32)) (by decide) (pc' := 147) rfl ?_
        refine F_icmp_lt X16 at_147 (by decide) (pt := 158) (by decide) (pc' := 150) rfl (fun q => absurd q (by decide)) (fun _ => ?_)
        refine F_lload X16 at_150 rfl (pc' := 152) rfl ?_
        refine F_lload X16 at_152 rfl (pc' := 154) rfl ?_
        refine F_lcmp X16 at_154 (pc' := 155) rfl ?_
        refine F_lif_eq X16 at_155 (by decide) (pt := 200) (by decide) (pc' := 158) rfl (fun hc155_17 => ?_) (fun hc155_17 => ?_)
        · refine F_iconst X16 at_200 (z := (1 : Int32)) (by decide) (pc' := 201) rfl ?_
          refine F_goto X16 at_201 (by decide) (pc' := 205) (by decide) ?_
          refine F_istore X16 at_205 (Ls' := #[.val (.long u1), .second, .val (.int u2), .val (.long u3), .second, .val (.int u4), .val (.long s1), .second, .val (.long s2), .second, .val (.long s3), .second, .val (.long s4), .second, .val (.int (2 : Int32)), .val (.long r3), .second, .val (.ref b4), .val (.int (1 : Int32))]) rfl (pc' := 207) rfl ?_
          refine F_aload X16 at_207 rfl rfl (pc' := 209) rfl ?_
          refine F_lload X16 at_209 rfl (pc' := 211) rfl ?_
          refine F_callV X16 (y := (⟨"org/pulsewire/store/SeqRuns", "contains", "(J)Z"⟩ : MethodName)) (stk := []) (wd18 hw) (wd19 hw) (wd21 hw) (wd20 hw) (wd8 hw) (wd22 hw) (by decide) (a := b4) E16k_b4 (argsL := [(.long r3)]) (conC1 l Z a0 hw n0 h16 X16.size b4 r3 b5_fb s1 s2 F16_bounds_b4 F16_taken_b4 A16_b5_fb) (by decide) (W := 0) (Nat.le_of_ble_eq_true rfl) (by decide) (by decide) (by decide) rfl (lenOf pd2 rfl) rfl at_211 (pc' := 214) rfl fun T18 v18 h18 X18 q18 => ?_
          obtain ⟨rfl, rfl⟩ := q18
          replace X18 := X18.more (cells' := 2) (slots' := 18) (by decide) (by decide)
          show Jvm.OwnKit.Ends p e below s n0 16 128 _ T18 (mkF m 214 #[.val (.long u1), .second, .val (.int u2), .val (.long u3), .second, .val (.int u4), .val (.long s1), .second, .val (.long s2), .second, .val (.long s3), .second, .val (.long s4), .second, .val (.int (2 : Int32)), .val (.long r3), .second, .val (.ref b4), .val (.int (1 : Int32))] [(.int (ct1 s1 s2 r3))])
          refine F_iload X18 at_214 rfl (pc' := 216) rfl ?_
          refine F_icmp_ne X18 at_216 (by decide) (pt := 223) (by decide) (pc' := 219) rfl (fun hc216_19 => ?_) (fun hc216_19 => ?_)
          · refine F_iconst X18 at_223 (z := (0 : Int32)) (by decide) (pc' := 224) rfl ?_
            refine F_ireturn_boolean (z' := (0 : Int32)) X18 (by decide) at_224 rfl (by decide) (by decide) ?_
            exfalso; refine hc216_19 ?_; unfold ct1; simp only [Int64.lt_iff_toInt_lt, ← Int64.toInt_inj] at hq15 hc155_17 ⊢; repeat' split
            all_goals first | rfl | (exfalso; omega)
          · refine F_iconst X18 at_219 (z := (1 : Int32)) (by decide) (pc' := 220) rfl ?_
            refine F_goto X18 at_220 (by decide) (pc' := 224) (by decide) ?_
            refine F_ireturn_boolean (z' := (1 : Int32)) X18 (by decide) at_224 rfl (by decide) (by decide) ?_
            exact rfl
        · refine F_iload X16 at_158 rfl (pc' := 160) rfl ?_
          refine F_iconst X16 at_160 (z := (2 : Int32)) (by decide) (pc' := 161) rfl ?_
          refine F_icmp_lt X16 at_161 (by decide) (pt := 172) (by decide) (pc' := 164) rfl (fun q => absurd q (by decide)) (fun _ => ?_)
          refine F_lload X16 at_164 rfl (pc' := 166) rfl ?_
          refine F_lload X16 at_166 rfl (pc' := 168) rfl ?_
          refine F_lcmp X16 at_168 (pc' := 169) rfl ?_
          refine F_lif_eq X16 at_169 (by decide) (pt := 200) (by decide) (pc' := 172) rfl (fun hc169_20 => ?_) (fun hc169_20 => ?_)
          · refine F_iconst X16 at_200 (z := (1 : Int32)) (by decide) (pc' := 201) rfl ?_
            refine F_goto X16 at_201 (by decide) (pc' := 205) (by decide) ?_
            refine F_istore X16 at_205 (Ls' := #[.val (.long u1), .second, .val (.int u2), .val (.long u3), .second, .val (.int u4), .val (.long s1), .second, .val (.long s2), .second, .val (.long s3), .second, .val (.long s4), .second, .val (.int (2 : Int32)), .val (.long r3), .second, .val (.ref b4), .val (.int (1 : Int32))]) rfl (pc' := 207) rfl ?_
            refine F_aload X16 at_207 rfl rfl (pc' := 209) rfl ?_
            refine F_lload X16 at_209 rfl (pc' := 211) rfl ?_
            refine F_callV X16 (y := (⟨"org/pulsewire/store/SeqRuns", "contains", "(J)Z"⟩ : MethodName)) (stk := []) (wd18 hw) (wd19 hw) (wd21 hw) (wd20 hw) (wd8 hw) (wd22 hw) (by decide) (a := b4) E16k_b4 (argsL := [(.long r3)]) (conC1 l Z a0 hw n0 h16 X16.size b4 r3 b5_fb s1 s2 F16_bounds_b4 F16_taken_b4 A16_b5_fb) (by decide) (W := 0) (Nat.le_of_ble_eq_true rfl) (by decide) (by decide) (by decide) rfl (lenOf pd2 rfl) rfl at_211 (pc' := 214) rfl fun T21 v21 h21 X21 q21 => ?_
            obtain ⟨rfl, rfl⟩ := q21
            replace X21 := X21.more (cells' := 2) (slots' := 18) (by decide) (by decide)
            show Jvm.OwnKit.Ends p e below s n0 16 128 _ T21 (mkF m 214 #[.val (.long u1), .second, .val (.int u2), .val (.long u3), .second, .val (.int u4), .val (.long s1), .second, .val (.long s2), .second, .val (.long s3), .second, .val (.long s4), .second, .val (.int (2 : Int32)), .val (.long r3), .second, .val (.ref b4), .val (.int (1 : Int32))] [(.int (ct1 s1 s2 r3))])
            refine F_iload X21 at_214 rfl (pc' := 216) rfl ?_
            refine F_icmp_ne X21 at_216 (by decide) (pt := 223) (by decide) (pc' := 219) rfl (fun hc216_22 => ?_) (fun hc216_22 => ?_)
            · refine F_iconst X21 at_223 (z := (0 : Int32)) (by decide) (pc' := 224) rfl ?_
              refine F_ireturn_boolean (z' := (0 : Int32)) X21 (by decide) at_224 rfl (by decide) (by decide) ?_
              exfalso; refine hc216_22 ?_; unfold ct1; simp only [Int64.lt_iff_toInt_lt, ← Int64.toInt_inj] at hq15 hc155_17 hc169_20 ⊢; repeat' split
              all_goals first | rfl | (exfalso; omega)
            · refine F_iconst X21 at_219 (z := (1 : Int32)) (by decide) (pc' := 220) rfl ?_
              refine F_goto X21 at_220 (by decide) (pc' := 224) (by decide) ?_
              refine F_ireturn_boolean (z' := (1 : Int32)) X21 (by decide) at_224 rfl (by decide) (by decide) ?_
              exact rfl
          · refine F_iload X16 at_172 rfl (pc' := 174) rfl ?_
            refine F_iconst X16 at_174 (z := (3 : Int32)) (by decide) (pc' := 175) rfl ?_
            refine F_icmp_lt X16 at_175 (by decide) (pt := 186) (by decide) (pc' := 178) rfl (fun _ => ?_) (fun q => absurd q (by decide))
            refine F_iload X16 at_186 rfl (pc' := 188) rfl ?_
            refine F_iconst X16 at_188 (z := (4 : Int32)) (by decide) (pc' := 189) rfl ?_
            refine F_icmp_lt X16 at_189 (by decide) (pt := 204) (by decide) (pc' := 192) rfl (fun _ => ?_) (fun q => absurd q (by decide))
            refine F_iconst X16 at_204 (z := (0 : Int32)) (by decide) (pc' := 205) rfl ?_
            refine F_istore X16 at_205 (Ls' := #[.val (.long u1), .second, .val (.int u2), .val (.long u3), .second, .val (.int u4), .val (.long s1), .second, .val (.long s2), .second, .val (.long s3), .second, .val (.long s4), .second, .val (.int (2 : Int32)), .val (.long r3), .second, .val (.ref b4), .val (.int (0 : Int32))]) rfl (pc' := 207) rfl ?_
            refine F_aload X16 at_207 rfl rfl (pc' := 209) rfl ?_
            refine F_lload X16 at_209 rfl (pc' := 211) rfl ?_
            refine F_callV X16 (y := (⟨"org/pulsewire/store/SeqRuns", "contains", "(J)Z"⟩ : MethodName)) (stk := []) (wd18 hw) (wd19 hw) (wd21 hw) (wd20 hw) (wd8 hw) (wd22 hw) (by decide) (a := b4) E16k_b4 (argsL := [(.long r3)]) (conC1 l Z a0 hw n0 h16 X16.size b4 r3 b5_fb s1 s2 F16_bounds_b4 F16_taken_b4 A16_b5_fb) (by decide) (W := 0) (Nat.le_of_ble_eq_true rfl) (by decide) (by decide) (by decide) rfl (lenOf pd2 rfl) rfl at_211 (pc' := 214) rfl fun T23 v23 h23 X23 q23 => ?_
            obtain ⟨rfl, rfl⟩ := q23
            replace X23 := X23.more (cells' := 2) (slots' := 18) (by decide) (by decide)
            show Jvm.OwnKit.Ends p e below s n0 16 128 _ T23 (mkF m 214 #[.val (.long u1), .second, .val (.int u2), .val (.long u3), .second, .val (.int u4), .val (.long s1), .second, .val (.long s2), .second, .val (.long s3), .second, .val (.long s4), .second, .val (.int (2 : Int32)), .val (.long r3), .second, .val (.ref b4), .val (.int (0 : Int32))] [(.int (ct1 s1 s2 r3))])
            refine F_iload X23 at_214 rfl (pc' := 216) rfl ?_
            refine F_icmp_ne X23 at_216 (by decide) (pt := 223) (by decide) (pc' := 219) rfl (fun hc216_24 => ?_) (fun hc216_24 => ?_)
            · refine F_iconst X23 at_223 (z := (0 : Int32)) (by decide) (pc' := 224) rfl ?_
              refine F_ireturn_boolean (z' := (0 : Int32)) X23 (by decide) at_224 rfl (by decide) (by decide) ?_
              exfalso; refine hc216_24 ?_; unfold ct1; simp only [Int64.lt_iff_toInt_lt, ← Int64.toInt_inj] at hq15 hc155_17 hc169_20 ⊢; repeat' split
              all_goals first | rfl | (exfalso; omega)
            · refine F_iconst X23 at_219 (z := (1 : Int32)) (by decide) (pc' := 220) rfl ?_
              refine F_goto X23 at_220 (by decide) (pc' := 224) (by decide) ?_
              refine F_ireturn_boolean (z' := (1 : Int32)) X23 (by decide) at_224 rfl (by decide) (by decide) ?_
              exact rfl
      · refine F_callV X14 (y := (⟨"org/pulsewire/store/SeqRuns", "add", "(J)V"⟩ : MethodName)) (stk := []) (wd25 hw) (wd26 hw) (wd28 hw) (wd27 hw) (wd8 hw) (wd29 hw) (by decide) (a := b4) E14k_b4 (argsL := [(.long s2)]) (conN2 l Z a0 hw n0 h14 X14.size b4 s2 b5_fb s1 s1 E14k_b4 F14_bounds_b4 F14_taken_b4 A14_b5_fb ge4 ge_b5_fb ne_b4_b5_fb (by assumption)) (by decide) (W := 0) (Nat.le_of_ble_eq_true rfl) (by decide) (by decide) (by decide) rfl (lenOf pd3 rfl) rfl at_115 (pc' := 118) rfl fun T25 v25 h25 X25 q25 => ?_
        obtain ⟨rfl, Kp25, F25_bounds_b4, F25_taken_b4, A25_b5_fb⟩ := q25
        have E25k_b4 := E14k_b4.keep Kp25
        have E25k_b5_fb := E14k_b5_fb.keep Kp25
        replace X25 := X25.more (cells' := 2) (slots' := 18) (by decide) (by decide)
        show Jvm.OwnKit.Ends p e below s n0 16 128 _ T25 (mkF m 118 #[.val (.long u1), .second, .val (.int u2), .val (.long u3), .second, .val (.int u4), .val (.long s1), .second, .val (.long s2), .second, .val (.long s3), .second, .val (.long s4), .second, .val (.int (2 : Int32)), .val (.long r3), .second, .val (.ref b4), .unset] [])
        refine F_iload X25 at_118 rfl (pc' := 120) rfl ?_
        refine F_iconst X25 at_120 (z := (3 : Int32)) (by decide) (pc' := 121) rfl ?_
        refine F_icmp_lt X25 at_121 (by decide) (pt := 131) (by decide) (pc' := 124) rfl (fun _ => ?_) (fun q => absurd q (by decide))
        refine F_iload X25 at_131 rfl (pc' := 133) rfl ?_
        refine F_iconst X25 at_133 (z := (4 : Int32)) (by decide) (pc' := 134) rfl ?_
        refine F_icmp_lt X25 at_134 (by decide) (pt := 144) (by decide) (pc' := 137) rfl (fun _ => ?_) (fun q => absurd q (by decide))
        refine F_iload X25 at_144 rfl (pc' := 146) rfl ?_
        refine F_iconst X25 at_146 (z := (1 : Int32)) (by decide) (pc' := 147) rfl ?_
        refine F_icmp_lt X25 at_147 (by decide) (pt := 158) (by decide) (pc' := 150) rfl (fun q => absurd q (by decide)) (fun _ => ?_)
        refine F_lload X25 at_150 rfl (pc' := 152) rfl ?_
        refine F_lload X25 at_152 rfl (pc' := 154) rfl ?_
        refine F_lcmp X25 at_154 (pc' := 155) rfl ?_
        refine F_lif_eq X25 at_155 (by decide) (pt := 200) (by decide) (pc' := 158) rfl (fun hc155_26 => ?_) (fun hc155_26 => ?_)
        · refine F_iconst X25 at_200 (z := (1 : Int32)) (by decide) (pc' := 201) rfl ?_
          refine F_goto X25 at_201 (by decide) (pc' := 205) (by decide) ?_
          refine F_istore X25 at_205 (Ls' := #[.val (.long u1), .second, .val (.int u2), .val (.long u3), .second, .val (.int u4), .val (.long s1), .second, .val (.long s2), .second, .val (.long s3), .second, .val (.long s4), .second, .val (.int (2 : Int32)), .val (.long r3), .second, .val (.ref b4), .val (.int (1 : Int32))]) rfl (pc' := 207) rfl ?_
          refine F_aload X25 at_207 rfl rfl (pc' := 209) rfl ?_
          refine F_lload X25 at_209 rfl (pc' := 211) rfl ?_
          refine F_callV X25 (y := (⟨"org/pulsewire/store/SeqRuns", "contains", "(J)Z"⟩ : MethodName)) (stk := []) (wd18 hw) (wd19 hw) (wd21 hw) (wd20 hw) (wd8 hw) (wd22 hw) (by decide) (a := b4) E25k_b4 (argsL := [(.long r3)]) (conC2 l Z a0 hw n0 h25 X25.size b4 r3 b5_fb s1 s1 s2 s2 F25_bounds_b4 F25_taken_b4 A25_b5_fb) (by decide) (W := 0) (Nat.le_of_ble_eq_true rfl) (by decide) (by decide) (by decide) rfl (lenOf pd2 rfl) rfl at_211 (pc' := 214) rfl fun T27 v27 h27 X27 q27 => ?_
          obtain ⟨rfl, rfl⟩ := q27
          replace X27 := X27.more (cells' := 2) (slots' := 18) (by decide) (by decide)
          show Jvm.OwnKit.Ends p e below s n0 16 128 _ T27 (mkF m 214 #[.val (.long u1), .second, .val (.int u2), .val (.long u3), .second, .val (.int u4), .val (.long s1), .second, .val (.long s2), .second, .val (.long s3), .second, .val (.long s4), .second, .val (.int (2 : Int32)), .val (.long r3), .second, .val (.ref b4), .val (.int (1 : Int32))] [(.int (ct2 s1 s1 s2 s2 r3))])
          refine F_iload X27 at_214 rfl (pc' := 216) rfl ?_
          refine F_icmp_ne X27 at_216 (by decide) (pt := 223) (by decide) (pc' := 219) rfl (fun hc216_28 => ?_) (fun hc216_28 => ?_)
          · refine F_iconst X27 at_223 (z := (0 : Int32)) (by decide) (pc' := 224) rfl ?_
            refine F_ireturn_boolean (z' := (0 : Int32)) X27 (by decide) at_224 rfl (by decide) (by decide) ?_
            exfalso; refine hc216_28 ?_; unfold ct2; simp only [Int64.lt_iff_toInt_lt, ← Int64.toInt_inj] at hq15 hc155_26 ⊢; repeat' split
            all_goals first | rfl | (exfalso; omega)
          · refine F_iconst X27 at_219 (z := (1 : Int32)) (by decide) (pc' := 220) rfl ?_
            refine F_goto X27 at_220 (by decide) (pc' := 224) (by decide) ?_
            refine F_ireturn_boolean (z' := (1 : Int32)) X27 (by decide) at_224 rfl (by decide) (by decide) ?_
            exact rfl
        · refine F_iload X25 at_158 rfl (pc' := 160) rfl ?_
          refine F_iconst X25 at_160 (z := (2 : Int32)) (by decide) (pc' := 161) rfl ?_
          refine F_icmp_lt X25 at_161 (by decide) (pt := 172) (by decide) (pc' := 164) rfl (fun q => absurd q (by decide)) (fun _ => ?_)
          refine F_lload X25 at_164 rfl (pc' := 166) rfl ?_
          refine F_lload X25 at_166 rfl (pc' := 168) rfl ?_
          refine F_lcmp X25 at_168 (pc' := 169) rfl ?_
          refine F_lif_eq X25 at_169 (by decide) (pt := 200) (by decide) (pc' := 172) rfl (fun hc169_29 => ?_) (fun hc169_29 => ?_)
          · refine F_iconst X25 at_200 (z := (1 : Int32)) (by decide) (pc' := 201) rfl ?_
            refine F_goto X25 at_201 (by decide) (pc' := 205) (by decide) ?_
            refine F_istore X25 at_205 (Ls' := #[.val (.long u1), .second, .val (.int u2), .val (.long u3), .second, .val (.int u4), .val (.long s1), .second, .val (.long s2), .second, .val (.long s3), .second, .val (.long s4), .second, .val (.int (2 : Int32)), .val (.long r3), .second, .val (.ref b4), .val (.int (1 : Int32))]) rfl (pc' := 207) rfl ?_
            refine F_aload X25 at_207 rfl rfl (pc' := 209) rfl ?_
            refine F_lload X25 at_209 rfl (pc' := 211) rfl ?_
            refine F_callV X25 (y := (⟨"org/pulsewire/store/SeqRuns", "contains", "(J)Z"⟩ : MethodName)) (stk := []) (wd18 hw) (wd19 hw) (wd21 hw) (wd20 hw) (wd8 hw) (wd22 hw) (by decide) (a := b4) E25k_b4 (argsL := [(.long r3)]) (conC2 l Z a0 hw n0 h25 X25.size b4 r3 b5_fb s1 s1 s2 s2 F25_bounds_b4 F25_taken_b4 A25_b5_fb) (by decide) (W := 0) (Nat.le_of_ble_eq_true rfl) (by decide) (by decide) (by decide) rfl (lenOf pd2 rfl) rfl at_211 (pc' := 214) rfl fun T30 v30 h30 X30 q30 => ?_
            obtain ⟨rfl, rfl⟩ := q30
            replace X30 := X30.more (cells' := 2) (slots' := 18) (by decide) (by decide)
            show Jvm.OwnKit.Ends p e below s n0 16 128 _ T30 (mkF m 214 #[.val (.long u1), .second, .val (.int u2), .val (.long u3), .second, .val (.int u4), .val (.long s1), .second, .val (.long s2), .second, .val (.long s3), .second, .val (.long s4), .second, .val (.int (2 : Int32)), .val (.long r3), .second, .val (.ref b4), .val (.int (1 : Int32))] [(.int (ct2 s1 s1 s2 s2 r3))])
            refine F_iload X30 at_214 rfl (pc' := 216) rfl ?_
            refine F_icmp_ne X30 at_216 (by decide) (pt := 223) (by decide) (pc' := 219) rfl (fun hc216_31 => ?_) (fun hc216_31 => ?_)
            · refine F_iconst X30 at_223 (z := (0 : Int32)) (by decide) (pc' := 224) rfl ?_
              refine F_ireturn_boolean (z' := (0 : Int32)) X30 (by decide) at_224 rfl (by decide) (by decide) ?_
              exfalso; refine hc216_31 ?_; unfold ct2; simp only [Int64.lt_iff_toInt_lt, ← Int64.toInt_inj] at hq15 hc155_26 hc169_29 ⊢; repeat' split
              all_goals first | rfl | (exfalso; omega)
            · refine F_iconst X30 at_219 (z := (1 : Int32)) (by decide) (pc' := 220) rfl ?_
              refine F_goto X30 at_220 (by decide) (pc' := 224) (by decide) ?_
              refine F_ireturn_boolean (z' := (1 : Int32)) X30 (by decide) at_224 rfl (by decide) (by decide) ?_
              exact rfl
          · refine F_iload X25 at_172 rfl (pc' := 174) rfl ?_
            refine F_iconst X25 at_174 (z := (3 : Int32)) (by decide) (pc' := 175) rfl ?_
            refine F_icmp_lt X25 at_175 (by decide) (pt := 186) (by decide) (pc' := 178) rfl (fun _ => ?_) (fun q => absurd q (by decide))
            refine F_iload X25 at_186 rfl (pc' := 188) rfl ?_
            refine F_iconst X25 at_188 (z := (4 : Int32)) (by decide) (pc' := 189) rfl ?_
            refine F_icmp_lt X25 at_189 (by decide) (pt := 204) (by decide) (pc' := 192) rfl (fun _ => ?_) (fun q => absurd q (by decide))
            refine F_iconst X25 at_204 (z := (0 : Int32)) (by decide) (pc' := 205) rfl ?_
            refine F_istore X25 at_205 (Ls' := #[.val (.long u1), .second, .val (.int u2), .val (.long u3), .second, .val (.int u4), .val (.long s1), .second, .val (.long s2), .second, .val (.long s3), .second, .val (.long s4), .second, .val (.int (2 : Int32)), .val (.long r3), .second, .val (.ref b4), .val (.int (0 : Int32))]) rfl (pc' := 207) rfl ?_
            refine F_aload X25 at_207 rfl rfl (pc' := 209) rfl ?_
            refine F_lload X25 at_209 rfl (pc' := 211) rfl ?_
            refine F_callV X25 (y := (⟨"org/pulsewire/store/SeqRuns", "contains", "(J)Z"⟩ : MethodName)) (stk := []) (wd18 hw) (wd19 hw) (wd21 hw) (wd20 hw) (wd8 hw) (wd22 hw) (by decide) (a := b4) E25k_b4 (argsL := [(.long r3)]) (conC2 l Z a0 hw n0 h25 X25.size b4 r3 b5_fb s1 s1 s2 s2 F25_bounds_b4 F25_taken_b4 A25_b5_fb) (by decide) (W := 0) (Nat.le_of_ble_eq_true rfl) (by decide) (by decide) (by decide) rfl (lenOf pd2 rfl) rfl at_211 (pc' := 214) rfl fun T32 v32 h32 X32 q32 => ?_
            obtain ⟨rfl, rfl⟩ := q32
            replace X32 := X32.more (cells' := 2) (slots' := 18) (by decide) (by decide)
            show Jvm.OwnKit.Ends p e below s n0 16 128 _ T32 (mkF m 214 #[.val (.long u1), .second, .val (.int u2), .val (.long u3), .second, .val (.int u4), .val (.long s1), .second, .val (.long s2), .second, .val (.long s3), .second, .val (.long s4), .second, .val (.int (2 : Int32)), .val (.long r3), .second, .val (.ref b4), .val (.int (0 : Int32))] [(.int (ct2 s1 s1 s2 s2 r3))])
            refine F_iload X32 at_214 rfl (pc' := 216) rfl ?_
            refine F_icmp_ne X32 at_216 (by decide) (pt := 223) (by decide) (pc' := 219) rfl (fun hc216_33 => ?_) (fun hc216_33 => ?_)
            · refine F_iconst X32 at_223 (z := (0 : Int32)) (by decide) (pc' := 224) rfl ?_
              refine F_ireturn_boolean (z' := (0 : Int32)) X32 (by decide) at_224 rfl (by decide) (by decide) ?_
              exfalso; refine hc216_33 ?_; unfold ct2; simp only [Int64.lt_iff_toInt_lt, ← Int64.toInt_inj] at hq15 hc155_26 hc169_29 ⊢; repeat' split
              all_goals first | rfl | (exfalso; omega)
            · refine F_iconst X32 at_219 (z := (1 : Int32)) (by decide) (pc' := 220) rfl ?_
              refine F_goto X32 at_220 (by decide) (pc' := 224) (by decide) ?_
              refine F_ireturn_boolean (z' := (1 : Int32)) X32 (by decide) at_224 rfl (by decide) (by decide) ?_
              exact rfl
    · refine F_iload X5 at_92 rfl (pc' := 94) rfl ?_
      refine F_iconst X5 at_94 (z := (1 : Int32)) (by decide) (pc' := 95) rfl ?_
      refine F_icmp_lt X5 at_95 (by decide) (pt := 105) (by decide) (pc' := 98) rfl (fun q => absurd q (by decide)) (fun _ => ?_)
      refine F_aload X5 at_98 rfl rfl (pc' := 100) rfl ?_
      refine F_lload X5 at_100 rfl (pc' := 102) rfl ?_
      refine F_callV X5 (y := (⟨"org/pulsewire/store/SeqRuns", "add", "(J)V"⟩ : MethodName)) (stk := []) (wd25 hw) (wd26 hw) (wd28 hw) (wd27 hw) (wd8 hw) (wd29 hw) (by decide) (a := b4) E5_b4 (argsL := [(.long s1)]) (conN0 l Z a0 hw n0 h5 X5.size b4 s1 b5_fb E5_b4 F5_bounds_b4 F5_taken_b4 A5_b5_fb ge4 ge_b5_fb ne_b4_b5_fb) (by decide) (W := 0) (Nat.le_of_ble_eq_true rfl) (by decide) (by decide) (by decide) rfl (lenOf pd3 rfl) rfl at_102 (pc' := 105) rfl fun T34 v34 h34 X34 q34 => ?_
      obtain ⟨rfl, Kp34, F34_bounds_b4, F34_taken_b4, A34_b5_fb⟩ := q34
      have E34k_b4 := E5_b4.keep Kp34
      have E34k_b5_fb := E5_b5_fb.keep Kp34
      replace X34 := X34.more (cells' := 2) (slots' := 18) (by decide) (by decide)
      show Jvm.OwnKit.Ends p e below s n0 16 128 _ T34 (mkF m 105 #[.val (.long u1), .second, .val (.int u2), .val (.long u3), .second, .val (.int u4), .val (.long s1), .second, .val (.long s2), .second, .val (.long s3), .second, .val (.long s4), .second, .val (.int (3 : Int32)), .val (.long r3), .second, .val (.ref b4), .unset] [])
      refine F_iload X34 at_105 rfl (pc' := 107) rfl ?_
      refine F_iconst X34 at_107 (z := (2 : Int32)) (by decide) (pc' := 108) rfl ?_
      refine F_icmp_lt X34 at_108 (by decide) (pt := 118) (by decide) (pc' := 111) rfl (fun q => absurd q (by decide)) (fun _ => ?_)
      refine F_aload X34 at_111 rfl rfl (pc' := 113) rfl ?_
      refine F_lload X34 at_113 rfl (pc' := 115) rfl ?_
      by_cases hq35 : s1 = (s2 - (1 : Int64))
      · refine F_callV X34 (y := (⟨"org/pulsewire/store/SeqRuns", "add", "(J)V"⟩ : MethodName)) (stk := []) (wd25 hw) (wd26 hw) (wd28 hw) (wd27 hw) (wd8 hw) (wd29 hw) (by decide) (a := b4) E34k_b4 (argsL := [(.long s2)]) (conX2 l Z a0 hw n0 h34 X34.size b4 s2 b5_fb s1 s1 E34k_b4 F34_bounds_b4 F34_taken_b4 A34_b5_fb ge4 ge_b5_fb ne_b4_b5_fb (by assumption)) (by decide) (W := 0) (Nat.le_of_ble_eq_true rfl) (by decide) (by decide) (by decide) rfl (lenOf pd3 rfl) rfl at_115 (pc' := 118) rfl fun T36 v36 h36 X36 q36 => ?_
        obtain ⟨rfl, Kp36, F36_bounds_b4, F36_taken_b4, A36_b5_fb⟩ := q36
        have E36k_b4 := E34k_b4.keep Kp36
        have E36k_b5_fb := E34k_b5_fb.keep Kp36
        replace X36 := X36.more (cells' := 2) (slots' := 18) (by decide) (by decide)
        show Jvm.OwnKit.Ends p e below s n0 16 128 _ T36 (mkF m 118 #[.val (.long u1), .second, .val (.int u2), .val (.long u3), .second, .val (.int u4), .val (.long s1), .second, .val (.long s2), .second, .val (.long s3), .second, .val (.long s4), .second, .val (.int (3 : Int32)), .val (.long r3), .second, .val (.ref b4), .unset] [])
        refine F_iload X36 at_118 rfl (pc' := 120) rfl ?_
        refine F_iconst X36 at_120 (z := (3 : Int32)) (by decide) (pc' := 121) rfl ?_
        refine F_icmp_lt X36 at_121 (by decide) (pt := 131) (by decide) (pc' := 124) rfl (fun q => absurd q (by decide)) (fun _ => ?_)
        refine F_aload X36 at_124 rfl rfl (pc' := 126) rfl ?_
        refine F_lload X36 at_126 rfl (pc' := 128) rfl ?_
        by_cases hq37 : s2 = (s3 - (1 : Int64))
        · refine F_callV X36 (y := (⟨"org/pulsewire/store/SeqRuns", "add", "(J)V"⟩ : MethodName)) (stk := []) (wd25 hw) (wd26 hw) (wd28 hw) (wd27 hw) (wd8 hw) (wd29 hw) (by decide) (a := b4) E36k_b4 (argsL := [(.long s3)]) (conX2 l Z a0 hw n0 h36 X36.size b4 s3 b5_fb s1 s2 E36k_b4 F36_bounds_b4 F36_taken_b4 A36_b5_fb ge4 ge_b5_fb ne_b4_b5_fb (by assumption)) (by decide) (W := 0) (Nat.le_of_ble_eq_true rfl) (by decide) (by decide) (by decide) rfl (lenOf pd3 rfl) rfl at_128 (pc' := 131) rfl fun T38 v38 h38 X38 q38 => ?_
          obtain ⟨rfl, Kp38, F38_bounds_b4, F38_taken_b4, A38_b5_fb⟩ := q38
          have E38k_b4 := E36k_b4.keep Kp38
          have E38k_b5_fb := E36k_b5_fb.keep Kp38
          replace X38 := X38.more (cells' := 2) (slots' := 18) (by decide) (by decide)
          show Jvm.OwnKit.Ends p e below s n0 16 128 _ T38 (mkF m 131 #[.val (.long u1), .second, .val (.int u2), .val (.long u3), .second, .val (.int u4), .val (.long s1), .second, .val (.long s2), .second, .val (.long s3), .second, .val (.long s4), .second, .val (.int (3 : Int32)), .val (.long r3), .second, .val (.ref b4), .unset] [])
          refine F_iload X38 at_131 rfl (pc' := 133) rfl ?_
          refine F_iconst X38 at_133 (z := (4 : Int32)) (by decide) (pc' := 134) rfl ?_
          refine F_icmp_lt X38 at_134 (by decide) (pt := 144) (by decide) (pc' := 137) rfl (fun _ => ?_) (fun q => absurd q (by decide))
          refine F_iload X38 at_144 rfl (pc' := 146) rfl ?_
          refine F_iconst X38 at_146 (z := (1 : Int32)) (by decide) (pc' := 147) rfl ?_
          refine F_icmp_lt X38 at_147 (by decide) (pt := 158) (by decide) (pc' := 150) rfl (fun q => absurd q (by decide)) (fun _ => ?_)
          refine F_lload X38 at_150 rfl (pc' := 152) rfl ?_
          refine F_lload X38 at_152 rfl (pc' := 154) rfl ?_
          refine F_lcmp X38 at_154 (pc' := 155) rfl ?_
          refine F_lif_eq X38 at_155 (by decide) (pt := 200) (by decide) (pc' := 158) rfl (fun hc155_39 => ?_) (fun hc155_39 => ?_)
          · refine F_iconst X38 at_200 (z := (1 : Int32)) (by decide) (pc' := 201) rfl ?_
            refine F_goto X38 at_201 (by decide) (pc' := 205) (by decide) ?_
            refine F_istore X38 at_205 (Ls' := #[.val (.long u1), .second, .val (.int u2), .val (.long u3), .second, .val (.int u4), .val (.long s1), .second, .val (.long s2), .second, .val (.long s3), .second, .val (.long s4), .second, .val (.int (3 : Int32)), .val (.long r3), .second, .val (.ref b4), .val (.int (1 : Int32))]) rfl (pc' := 207) rfl ?_
            refine F_aload X38 at_207 rfl rfl (pc' := 209) rfl ?_
            refine F_lload X38 at_209 rfl (pc' := 211) rfl ?_
            refine F_callV X38 (y := (⟨"org/pulsewire/store/SeqRuns", "contains", "(J)Z"⟩ : MethodName)) (stk := []) (wd18 hw) (wd19 hw) (wd21 hw) (wd20 hw) (wd8 hw) (wd22 hw) (by decide) (a := b4) E38k_b4 (argsL := [(.long r3)]) (conC1 l Z a0 hw n0 h38 X38.size b4 r3 b5_fb s1 s3 F38_bounds_b4 F38_taken_b4 A38_b5_fb) (by decide) (W := 0) (Nat.le_of_ble_eq_true rfl) (by decide) (by decide) (by decide) rfl (lenOf pd2 rfl) rfl at_211 (pc' := 214) rfl fun T40 v40 h40 X40 q40 => ?_
            obtain ⟨rfl, rfl⟩ := q40
            replace X40 := X40.more (cells' := 2) (slots' := 18) (by decide) (by decide)
            show Jvm.OwnKit.Ends p e below s n0 16 128 _ T40 (mkF m 214 #[.val (.long u1), .second, .val (.int u2), .val (.long u3), .second, .val (.int u4), .val (.long s1), .second, .val (.long s2), .second, .val (.long s3), .second, .val (.long s4), .second, .val (.int (3 : Int32)), .val (.long r3), .second, .val (.ref b4), .val (.int (1 : Int32))] [(.int (ct1 s1 s3 r3))])
            refine F_iload X40 at_214 rfl (pc' := 216) rfl ?_
            refine F_icmp_ne X40 at_216 (by decide) (pt := 223) (by decide) (pc' := 219) rfl (fun hc216_41 => ?_) (fun hc216_41 => ?_)
            · refine F_iconst X40 at_223 (z := (0 : Int32)) (by decide) (pc' := 224) rfl ?_
              refine F_ireturn_boolean (z' := (0 : Int32)) X40 (by decide) at_224 rfl (by decide) (by decide) ?_
              exfalso; refine hc216_41 ?_; unfold ct1; simp only [Int64.lt_iff_toInt_lt, ← Int64.toInt_inj] at hq35 hq37 hc155_39 ⊢; repeat' split
              all_goals first | rfl | (exfalso; omega)
            · refine F_iconst X40 at_219 (z := (1 : Int32)) (by decide) (pc' := 220) rfl ?_
              refine F_goto X40 at_220 (by decide) (pc' := 224) (by decide) ?_
              refine F_ireturn_boolean (z' := (1 : Int32)) X40 (by decide) at_224 rfl (by decide) (by decide) ?_
              exact rfl
          · refine F_iload X38 at_158 rfl (pc' := 160) rfl ?_
            refine F_iconst X38 at_160 (z := (2 : Int32)) (by decide) (pc' := 161) rfl ?_
            refine F_icmp_lt X38 at_161 (by decide) (pt := 172) (by decide) (pc' := 164) rfl (fun q => absurd q (by decide)) (fun _ => ?_)
            refine F_lload X38 at_164 rfl (pc' := 166) rfl ?_
            refine F_lload X38 at_166 rfl (pc' := 168) rfl ?_
            refine F_lcmp X38 at_168 (pc' := 169) rfl ?_
            refine F_lif_eq X38 at_169 (by decide) (pt := 200) (by decide) (pc' := 172) rfl (fun hc169_42 => ?_) (fun hc169_42 => ?_)
            · refine F_iconst X38 at_200 (z := (1 : Int32)) (by decide) (pc' := 201) rfl ?_
              refine F_goto X38 at_201 (by decide) (pc' := 205) (by decide) ?_
              refine F_istore X38 at_205 (Ls' := #[.val (.long u1), .second, .val (.int u2), .val (.long u3), .second, .val (.int u4), .val (.long s1), .second, .val (.long s2), .second, .val (.long s3), .second, .val (.long s4), .second, .val (.int (3 : Int32)), .val (.long r3), .second, .val (.ref b4), .val (.int (1 : Int32))]) rfl (pc' := 207) rfl ?_
              refine F_aload X38 at_207 rfl rfl (pc' := 209) rfl ?_
              refine F_lload X38 at_209 rfl (pc' := 211) rfl ?_
              refine F_callV X38 (y := (⟨"org/pulsewire/store/SeqRuns", "contains", "(J)Z"⟩ : MethodName)) (stk := []) (wd18 hw) (wd19 hw) (wd21 hw) (wd20 hw) (wd8 hw) (wd22 hw) (by decide) (a := b4) E38k_b4 (argsL := [(.long r3)]) (conC1 l Z a0 hw n0 h38 X38.size b4 r3 b5_fb s1 s3 F38_bounds_b4 F38_taken_b4 A38_b5_fb) (by decide) (W := 0) (Nat.le_of_ble_eq_true rfl) (by decide) (by decide) (by decide) rfl (lenOf pd2 rfl) rfl at_211 (pc' := 214) rfl fun T43 v43 h43 X43 q43 => ?_
              obtain ⟨rfl, rfl⟩ := q43
              replace X43 := X43.more (cells' := 2) (slots' := 18) (by decide) (by decide)
              show Jvm.OwnKit.Ends p e below s n0 16 128 _ T43 (mkF m 214 #[.val (.long u1), .second, .val (.int u2), .val (.long u3), .second, .val (.int u4), .val (.long s1), .second, .val (.long s2), .second, .val (.long s3), .second, .val (.long s4), .second, .val (.int (3 : Int32)), .val (.long r3), .second, .val (.ref b4), .val (.int (1 : Int32))] [(.int (ct1 s1 s3 r3))])
              refine F_iload X43 at_214 rfl (pc' := 216) rfl ?_
              refine F_icmp_ne X43 at_216 (by decide) (pt := 223) (by decide) (pc' := 219) rfl (fun hc216_44 => ?_) (fun hc216_44 => ?_)
              · refine F_iconst X43 at_223 (z := (0 : Int32)) (by decide) (pc' := 224) rfl ?_
                refine F_ireturn_boolean (z' := (0 : Int32)) X43 (by decide) at_224 rfl (by decide) (by decide) ?_
                exfalso; refine hc216_44 ?_; unfold ct1; simp only [Int64.lt_iff_toInt_lt, ← Int64.toInt_inj] at hq35 hq37 hc155_39 hc169_42 ⊢; repeat' split
                all_goals first | rfl | (exfalso; omega)
              · refine F_iconst X43 at_219 (z := (1 : Int32)) (by decide) (pc' := 220) rfl ?_
                refine F_goto X43 at_220 (by decide) (pc' := 224) (by decide) ?_
                refine F_ireturn_boolean (z' := (1 : Int32)) X43 (by decide) at_224 rfl (by decide) (by decide) ?_
                exact rfl
            · refine F_iload X38 at_172 rfl (pc' := 174) rfl ?_
              refine F_iconst X38 at_174 (z := (3 : Int32)) (by decide) (pc' := 175) rfl ?_
              refine F_icmp_lt X38 at_175 (by decide) (pt := 186) (by decide) (pc' := 178) rfl (fun q => absurd q (by decide)) (fun _ => ?_)
              refine F_lload X38 at_178 rfl (pc' := 180) rfl ?_
              refine F_lload X38 at_180 rfl (pc' := 182) rfl ?_
              refine F_lcmp X38 at_182 (pc' := 183) rfl ?_
              refine F_lif_eq X38 at_183 (by decide) (pt := 200) (by decide) (pc' := 186) rfl (fun hc183_45 => ?_) (fun hc183_45 => ?_)
              · refine F_iconst X38 at_200 (z := (1 : Int32)) (by decide) (pc' := 201) rfl ?_
                refine F_goto X38 at_201 (by decide) (pc' := 205) (by decide) ?_
                refine F_istore X38 at_205 (Ls' := #[.val (.long u1), .second, .val (.int u2), .val (.long u3), .second, .val (.int u4), .val (.long s1), .second, .val (.long s2), .second, .val (.long s3), .second, .val (.long s4), .second, .val (.int (3 : Int32)), .val (.long r3), .second, .val (.ref b4), .val (.int (1 : Int32))]) rfl (pc' := 207) rfl ?_
                refine F_aload X38 at_207 rfl rfl (pc' := 209) rfl ?_
                refine F_lload X38 at_209 rfl (pc' := 211) rfl ?_
                refine F_callV X38 (y := (⟨"org/pulsewire/store/SeqRuns", "contains", "(J)Z"⟩ : MethodName)) (stk := []) (wd18 hw) (wd19 hw) (wd21 hw) (wd20 hw) (wd8 hw) (wd22 hw) (by decide) (a := b4) E38k_b4 (argsL := [(.long r3)]) (conC1 l Z a0 hw n0 h38 X38.size b4 r3 b5_fb s1 s3 F38_bounds_b4 F38_taken_b4 A38_b5_fb) (by decide) (W := 0) (Nat.le_of_ble_eq_true rfl) (by decide) (by decide) (by decide) rfl (lenOf pd2 rfl) rfl at_211 (pc' := 214) rfl fun T46 v46 h46 X46 q46 => ?_
                obtain ⟨rfl, rfl⟩ := q46
                replace X46 := X46.more (cells' := 2) (slots' := 18) (by decide) (by decide)
                show Jvm.OwnKit.Ends p e below s n0 16 128 _ T46 (mkF m 214 #[.val (.long u1), .second, .val (.int u2), .val (.long u3), .second, .val (.int u4), .val (.long s1), .second, .val (.long s2), .second, .val (.long s3), .second, .val (.long s4), .second, .val (.int (3 : Int32)), .val (.long r3), .second, .val (.ref b4), .val (.int (1 : Int32))] [(.int (ct1 s1 s3 r3))])
                refine F_iload X46 at_214 rfl (pc' := 216) rfl ?_
                refine F_icmp_ne X46 at_216 (by decide) (pt := 223) (by decide) (pc' := 219) rfl (fun hc216_47 => ?_) (fun hc216_47 => ?_)
                · refine F_iconst X46 at_223 (z := (0 : Int32)) (by decide) (pc' := 224) rfl ?_
                  refine F_ireturn_boolean (z' := (0 : Int32)) X46 (by decide) at_224 rfl (by decide) (by decide) ?_
                  exfalso; refine hc216_47 ?_; unfold ct1; simp only [Int64.lt_iff_toInt_lt, ← Int64.toInt_inj] at hq35 hq37 hc155_39 hc169_42 hc183_45 ⊢; repeat' split
                  all_goals first | rfl | (exfalso; omega)
                · refine F_iconst X46 at_219 (z := (1 : Int32)) (by decide) (pc' := 220) rfl ?_
                  refine F_goto X46 at_220 (by decide) (pc' := 224) (by decide) ?_
                  refine F_ireturn_boolean (z' := (1 : Int32)) X46 (by decide) at_224 rfl (by decide) (by decide) ?_
                  exact rfl
              · refine F_iload X38 at_186 rfl (pc' := 188) rfl ?_
                refine F_iconst X38 at_188 (z := (4 : Int32)) (by decide) (pc' := 189) rfl ?_
                refine F_icmp_lt X38 at_189 (by decide) (pt := 204) (by decide) (pc' := 192) rfl (fun _ => ?_) (fun q => absurd q (by decide))
                refine F_iconst X38 at_204 (z := (0 : Int32)) (by decide) (pc' := 205) rfl ?_
                refine F_istore X38 at_205 (Ls' := #[.val (.long u1), .second, .val (.int u2), .val (.long u3), .second, .val (.int u4), .val (.long s1), .second, .val (.long s2), .second, .val (.long s3), .second, .val (.long s4), .second, .val (.int (3 : Int32)), .val (.long r3), .second, .val (.ref b4), .val (.int (0 : Int32))]) rfl (pc' := 207) rfl ?_
                refine F_aload X38 at_207 rfl rfl (pc' := 209) rfl ?_
                refine F_lload X38 at_209 rfl (pc' := 211) rfl ?_
                refine F_callV X38 (y := (⟨"org/pulsewire/store/SeqRuns", "contains", "(J)Z"⟩ : MethodName)) (stk := []) (wd18 hw) (wd19 hw) (wd21 hw) (wd20 hw) (wd8 hw) (wd22 hw) (by decide) (a := b4) E38k_b4 (argsL := [(.long r3)]) (conC1 l Z a0 hw n0 h38 X38.size b4 r3 b5_fb s1 s3 F38_bounds_b4 F38_taken_b4 A38_b5_fb) (by decide) (W := 0) (Nat.le_of_ble_eq_true rfl) (by decide) (by decide) (by decide) rfl (lenOf pd2 rfl) rfl at_211 (pc' := 214) rfl fun T48 v48 h48 X48 q48 => ?_
                obtain ⟨rfl, rfl⟩ := q48
                replace X48 := X48.more (cells' := 2) (slots' := 18) (by decide) (by decide)
                show Jvm.OwnKit.Ends p e below s n0 16 128 _ T48 (mkF m 214 #[.val (.long u1), .second, .val (.int u2), .val (.long u3), .second, .val (.int u4), .val (.long s1), .second, .val (.long s2), .second, .val (.long s3), .second, .val (.long s4), .second, .val (.int (3 : Int32)), .val (.long r3), .second, .val (.ref b4), .val (.int (0 : Int32))] [(.int (ct1 s1 s3 r3))])
                refine F_iload X48 at_214 rfl (pc' := 216) rfl ?_
                refine F_icmp_ne X48 at_216 (by decide) (pt := 223) (by decide) (pc' := 219) rfl (fun hc216_49 => ?_) (fun hc216_49 => ?_)
                · refine F_iconst X48 at_223 (z := (0 : Int32)) (by decide) (pc' := 224) rfl ?_
                  refine F_ireturn_boolean (z' := (0 : Int32)) X48 (by decide) at_224 rfl (by decide) (by decide) ?_
                  exfalso; refine hc216_49 ?_; unfold ct1; simp only [Int64.lt_iff_toInt_lt, ← Int64.toInt_inj] at hq35 hq37 hc155_39 hc169_42 hc183_45 ⊢; repeat' split
                  all_goals first | rfl | (exfalso; omega)
                · refine F_iconst X48 at_219 (z := (1 : Int32)) (by decide) (pc' := 220) rfl ?_
                  refine F_goto X48 at_220 (by decide) (pc' := 224) (by decide) ?_
                  refine F_ireturn_boolean (z' := (1 : Int32)) X48 (by decide) at_224 rfl (by decide) (by decide) ?_
                  exact rfl
        · refine F_callV X36 (y := (⟨"org/pulsewire/store/SeqRuns", "add", "(J)V"⟩ : MethodName)) (stk := []) (wd25 hw) (wd26 hw) (wd28 hw) (wd27 hw) (wd8 hw) (wd29 hw) (by decide) (a := b4) E36k_b4 (argsL := [(.long s3)]) (conN2 l Z a0 hw n0 h36 X36.size b4 s3 b5_fb s1 s2 E36k_b4 F36_bounds_b4 F36_taken_b4 A36_b5_fb ge4 ge_b5_fb ne_b4_b5_fb (by assumption)) (by decide) (W := 0) (Nat.le_of_ble_eq_true rfl) (by decide) (by decide) (by decide) rfl (lenOf pd3 rfl) rfl at_128 (pc' := 131) rfl fun T50 v50 h50 X50 q50 => ?_
          obtain ⟨rfl, Kp50, F50_bounds_b4, F50_taken_b4, A50_b5_fb⟩ := q50
          have E50k_b4 := E36k_b4.keep Kp50
          have E50k_b5_fb := E36k_b5_fb.keep Kp50
          replace X50 := X50.more (cells' := 2) (slots' := 18) (by decide) (by decide)
          show Jvm.OwnKit.Ends p e below s n0 16 128 _ T50 (mkF m 131 #[.val (.long u1), .second, .val (.int u2), .val (.long u3), .second, .val (.int u4), .val (.long s1), .second, .val (.long s2), .second, .val (.long s3), .second, .val (.long s4), .second, .val (.int (3 : Int32)), .val (.long r3), .second, .val (.ref b4), .unset] [])
          refine F_iload X50 at_131 rfl (pc' := 133) rfl ?_
          refine F_iconst X50 at_133 (z := (4 : Int32)) (by decide) (pc' := 134) rfl ?_
          refine F_icmp_lt X50 at_134 (by decide) (pt := 144) (by decide) (pc' := 137) rfl (fun _ => ?_) (fun q => absurd q (by decide))
          refine F_iload X50 at_144 rfl (pc' := 146) rfl ?_
          refine F_iconst X50 at_146 (z := (1 : Int32)) (by decide) (pc' := 147) rfl ?_
          refine F_icmp_lt X50 at_147 (by decide) (pt := 158) (by decide) (pc' := 150) rfl (fun q => absurd q (by decide)) (fun _ => ?_)
          refine F_lload X50 at_150 rfl (pc' := 152) rfl ?_
          refine F_lload X50 at_152 rfl (pc' := 154) rfl ?_
          refine F_lcmp X50 at_154 (pc' := 155) rfl ?_
          refine F_lif_eq X50 at_155 (by decide) (pt := 200) (by decide) (pc' := 158) rfl (fun hc155_51 => ?_) (fun hc155_51 => ?_)
          · refine F_iconst X50 at_200 (z := (1 : Int32)) (by decide) (pc' := 201) rfl ?_
            refine F_goto X50 at_201 (by decide) (pc' := 205) (by decide) ?_
            refine F_istore X50 at_205 (Ls' := #[.val (.long u1), .second, .val (.int u2), .val (.long u3), .second, .val (.int u4), .val (.long s1), .second, .val (.long s2), .second, .val (.long s3), .second, .val (.long s4), .second, .val (.int (3 : Int32)), .val (.long r3), .second, .val (.ref b4), .val (.int (1 : Int32))]) rfl (pc' := 207) rfl ?_
            refine F_aload X50 at_207 rfl rfl (pc' := 209) rfl ?_
            refine F_lload X50 at_209 rfl (pc' := 211) rfl ?_
            refine F_callV X50 (y := (⟨"org/pulsewire/store/SeqRuns", "contains", "(J)Z"⟩ : MethodName)) (stk := []) (wd18 hw) (wd19 hw) (wd21 hw) (wd20 hw) (wd8 hw) (wd22 hw) (by decide) (a := b4) E50k_b4 (argsL := [(.long r3)]) (conC2 l Z a0 hw n0 h50 X50.size b4 r3 b5_fb s1 s2 s3 s3 F50_bounds_b4 F50_taken_b4 A50_b5_fb) (by decide) (W := 0) (Nat.le_of_ble_eq_true rfl) (by decide) (by decide) (by decide) rfl (lenOf pd2 rfl) rfl at_211 (pc' := 214) rfl fun T52 v52 h52 X52 q52 => ?_
            obtain ⟨rfl, rfl⟩ := q52
            replace X52 := X52.more (cells' := 2) (slots' := 18) (by decide) (by decide)
            show Jvm.OwnKit.Ends p e below s n0 16 128 _ T52 (mkF m 214 #[.val (.long u1), .second, .val (.int u2), .val (.long u3), .second, .val (.int u4), .val (.long s1), .second, .val (.long s2), .second, .val (.long s3), .second, .val (.long s4), .second, .val (.int (3 : Int32)), .val (.long r3), .second, .val (.ref b4), .val (.int (1 : Int32))] [(.int (ct2 s1 s2 s3 s3 r3))])
            refine F_iload X52 at_214 rfl (pc' := 216) rfl ?_
            refine F_icmp_ne X52 at_216 (by decide) (pt := 223) (by decide) (pc' := 219) rfl (fun hc216_53 => ?_) (fun hc216_53 => ?_)
            · refine F_iconst X52 at_223 (z := (0 : Int32)) (by decide) (pc' := 224) rfl ?_
              refine F_ireturn_boolean (z' := (0 : Int32)) X52 (by decide) at_224 rfl (by decide) (by decide) ?_
              exfalso; refine hc216_53 ?_; unfold ct2; simp only [Int64.lt_iff_toInt_lt, ← Int64.toInt_inj] at hq35 hq37 hc155_51 ⊢; repeat' split
              all_goals first | rfl | (exfalso; omega)
            · refine F_iconst X52 at_219 (z := (1 : Int32)) (by decide) (pc' := 220) rfl ?_
              refine F_goto X52 at_220 (by decide) (pc' := 224) (by decide) ?_
              refine F_ireturn_boolean (z' := (1 : Int32)) X52 (by decide) at_224 rfl (by decide) (by decide) ?_
              exact rfl
          · refine F_iload X50 at_158 rfl (pc' := 160) rfl ?_
            refine F_iconst X50 at_160 (z := (2 : Int32)) (by decide) (pc' := 161) rfl ?_
            refine F_icmp_lt X50 at_161 (by decide) (pt := 172) (by decide) (pc' := 164) rfl (fun q => absurd q (by decide)) (fun _ => ?_)
            refine F_lload X50 at_164 rfl (pc' := 166) rfl ?_
            refine F_lload X50 at_166 rfl (pc' := 168) rfl ?_
            refine F_lcmp X50 at_168 (pc' := 169) rfl ?_
            refine F_lif_eq X50 at_169 (by decide) (pt := 200) (by decide) (pc' := 172) rfl (fun hc169_54 => ?_) (fun hc169_54 => ?_)
            · refine F_iconst X50 at_200 (z := (1 : Int32)) (by decide) (pc' := 201) rfl ?_
              refine F_goto X50 at_201 (by decide) (pc' := 205) (by decide) ?_
              refine F_istore X50 at_205 (Ls' := #[.val (.long u1), .second, .val (.int u2), .val (.long u3), .second, .val (.int u4), .val (.long s1), .second, .val (.long s2), .second, .val (.long s3), .second, .val (.long s4), .second, .val (.int (3 : Int32)), .val (.long r3), .second, .val (.ref b4), .val (.int (1 : Int32))]) rfl (pc' := 207) rfl ?_
              refine F_aload X50 at_207 rfl rfl (pc' := 209) rfl ?_
              refine F_lload X50 at_209 rfl (pc' := 211) rfl ?_
              refine F_callV X50 (y := (⟨"org/pulsewire/store/SeqRuns", "contains", "(J)Z"⟩ : MethodName)) (stk := []) (wd18 hw) (wd19 hw) (wd21 hw) (wd20 hw) (wd8 hw) (wd22 hw) (by decide) (a := b4) E50k_b4 (argsL := [(.long r3)]) (conC2 l Z a0 hw n0 h50 X50.size b4 r3 b5_fb s1 s2 s3 s3 F50_bounds_b4 F50_taken_b4 A50_b5_fb) (by decide) (W := 0) (Nat.le_of_ble_eq_true rfl) (by decide) (by decide) (by decide) rfl (lenOf pd2 rfl) rfl at_211 (pc' := 214) rfl fun T55 v55 h55 X55 q55 => ?_
              obtain ⟨rfl, rfl⟩ := q55
              replace X55 := X55.more (cells' := 2) (slots' := 18) (by decide) (by decide)
              show Jvm.OwnKit.Ends p e below s n0 16 128 _ T55 (mkF m 214 #[.val (.long u1), .second, .val (.int u2), .val (.long u3), .second, .val (.int u4), .val (.long s1), .second, .val (.long s2), .second, .val (.long s3), .second, .val (.long s4), .second, .val (.int (3 : Int32)), .val (.long r3), .second, .val (.ref b4), .val (.int (1 : Int32))] [(.int (ct2 s1 s2 s3 s3 r3))])
              refine F_iload X55 at_214 rfl (pc' := 216) rfl ?_
              refine F_icmp_ne X55 at_216 (by decide) (pt := 223) (by decide) (pc' := 219) rfl (fun hc216_56 => ?_) (fun hc216_56 => ?_)
              · refine F_iconst X55 at_223 (z := (0 : Int32)) (by decide) (pc' := 224) rfl ?_
                refine F_ireturn_boolean (z' := (0 : Int32)) X55 (by decide) at_224 rfl (by decide) (by decide) ?_
                exfalso; refine hc216_56 ?_; unfold ct2; simp only [Int64.lt_iff_toInt_lt, ← Int64.toInt_inj] at hq35 hq37 hc155_51 hc169_54 ⊢; repeat' split
                all_goals first | rfl | (exfalso; omega)
              · refine F_iconst X55 at_219 (z := (1 : Int32)) (by decide) (pc' := 220) rfl ?_
                refine F_goto X55 at_220 (by decide) (pc' := 224) (by decide) ?_
                refine F_ireturn_boolean (z' := (1 : Int32)) X55 (by decide) at_224 rfl (by decide) (by decide) ?_
                exact rfl
            · refine F_iload X50 at_172 rfl (pc' := 174) rfl ?_
              refine F_iconst X50 at_174 (z := (3 : Int32)) (by decide) (pc' := 175) rfl ?_
              refine F_icmp_lt X50 at_175 (by decide) (pt := 186) (by decide) (pc' := 178) rfl (fun q => absurd q (by decide)) (fun _ => ?_)
              refine F_lload X50 at_178 rfl (pc' := 180) rfl ?_
              refine F_lload X50 at_180 rfl (pc' := 182) rfl ?_
              refine F_lcmp X50 at_182 (pc' := 183) rfl ?_
              refine F_lif_eq X50 at_183 (by decide) (pt := 200) (by decide) (pc' := 186) rfl (fun hc183_57 => ?_) (fun hc183_57 => ?_)
              · refine F_iconst X50 at_200 (z := (1 : Int32)) (by decide) (pc' := 201) rfl ?_
                refine F_goto X50 at_201 (by decide) (pc' := 205) (by decide) ?_
                refine F_istore X50 at_205 (Ls' := #[.val (.long u1), .second, .val (.int u2), .val (.long u3), .second, .val (.int u4), .val (.long s1), .second, .val (.long s2), .second, .val (.long s3), .second, .val (.long s4), .second, .val (.int (3 : Int32)), .val (.long r3), .second, .val (.ref b4), .val (.int (1 : Int32))]) rfl (pc' := 207) rfl ?_
                refine F_aload X50 at_207 rfl rfl (pc' := 209) rfl ?_
                refine F_lload X50 at_209 rfl (pc' := 211) rfl ?_
                refine F_callV X50 (y := (⟨"org/pulsewire/store/SeqRuns", "contains", "(J)Z"⟩ : MethodName)) (stk := []) (wd18 hw) (wd19 hw) (wd21 hw) (wd20 hw) (wd8 hw) (wd22 hw) (by decide) (a := b4) E50k_b4 (argsL := [(.long r3)]) (conC2 l Z a0 hw n0 h50 X50.size b4 r3 b5_fb s1 s2 s3 s3 F50_bounds_b4 F50_taken_b4 A50_b5_fb) (by decide) (W := 0) (Nat.le_of_ble_eq_true rfl) (by decide) (by decide) (by decide) rfl (lenOf pd2 rfl) rfl at_211 (pc' := 214) rfl fun T58 v58 h58 X58 q58 => ?_
                obtain ⟨rfl, rfl⟩ := q58
                replace X58 := X58.more (cells' := 2) (slots' := 18) (by decide) (by decide)
                show Jvm.OwnKit.Ends p e below s n0 16 128 _ T58 (mkF m 214 #[.val (.long u1), .second, .val (.int u2), .val (.long u3), .second, .val (.int u4), .val (.long s1), .second, .val (.long s2), .second, .val (.long s3), .second, .val (.long s4), .second, .val (.int (3 : Int32)), .val (.long r3), .second, .val (.ref b4), .val (.int (1 : Int32))] [(.int (ct2 s1 s2 s3 s3 r3))])
                refine F_iload X58 at_214 rfl (pc' := 216) rfl ?_
                refine F_icmp_ne X58 at_216 (by decide) (pt := 223) (by decide) (pc' := 219) rfl (fun hc216_59 => ?_) (fun hc216_59 => ?_)
                · refine F_iconst X58 at_223 (z := (0 : Int32)) (by decide) (pc' := 224) rfl ?_
                  refine F_ireturn_boolean (z' := (0 : Int32)) X58 (by decide) at_224 rfl (by decide) (by decide) ?_
                  exfalso; refine hc216_59 ?_; unfold ct2; simp only [Int64.lt_iff_toInt_lt, ← Int64.toInt_inj] at hq35 hq37 hc155_51 hc169_54 hc183_57 ⊢; repeat' split
                  all_goals first | rfl | (exfalso; omega)
                · refine F_iconst X58 at_219 (z := (1 : Int32)) (by decide) (pc' := 220) rfl ?_
                  refine F_goto X58 at_220 (by decide) (pc' := 224) (by decide) ?_
                  refine F_ireturn_boolean (z' := (1 : Int32)) X58 (by decide) at_224 rfl (by decide) (by decide) ?_
                  exact rfl
              · refine F_iload X50 at_186 rfl (pc' := 188) rfl ?_
                refine F_iconst X50 at_188 (z := (4 : Int32)) (by decide) (pc' := 189) rfl ?_
                refine F_icmp_lt X50 at_189 (by decide) (pt := 204) (by decide) (pc' := 192) rfl (fun _ => ?_) (fun q => absurd q (by decide))
                refine F_iconst X50 at_204 (z := (0 : Int32)) (by decide) (pc' := 205) rfl ?_
                refine F_istore X50 at_205 (Ls' := #[.val (.long u1), .second, .val (.int u2), .val (.long u3), .second, .val (.int u4), .val (.long s1), .second, .val (.long s2), .second, .val (.long s3), .second, .val (.long s4), .second, .val (.int (3 : Int32)), .val (.long r3), .second, .val (.ref b4), .val (.int (0 : Int32))]) rfl (pc' := 207) rfl ?_
                refine F_aload X50 at_207 rfl rfl (pc' := 209) rfl ?_
                refine F_lload X50 at_209 rfl (pc' := 211) rfl ?_
                refine F_callV X50 (y := (⟨"org/pulsewire/store/SeqRuns", "contains", "(J)Z"⟩ : MethodName)) (stk := []) (wd18 hw) (wd19 hw) (wd21 hw) (wd20 hw) (wd8 hw) (wd22 hw) (by decide) (a := b4) E50k_b4 (argsL := [(.long r3)]) (conC2 l Z a0 hw n0 h50 X50.size b4 r3 b5_fb s1 s2 s3 s3 F50_bounds_b4 F50_taken_b4 A50_b5_fb) (by decide) (W := 0) (Nat.le_of_ble_eq_true rfl) (by decide) (by decide) (by decide) rfl (lenOf pd2 rfl) rfl at_211 (pc' := 214) rfl fun T60 v60 h60 X60 q60 => ?_
                obtain ⟨rfl, rfl⟩ := q60
                replace X60 := X60.more (cells' := 2) (slots' := 18) (by decide) (by decide)
                show Jvm.OwnKit.Ends p e below s n0 16 128 _ T60 (mkF m 214 #[.val (.long u1), .second, .val (.int u2), .val (.long u3), .second, .val (.int u4), .val (.long s1), .second, .val (.long s2), .second, .val (.long s3), .second, .val (.long s4), .second, .val (.int (3 : Int32)), .val (.long r3), .second, .val (.ref b4), .val (.int (0 : Int32))] [(.int (ct2 s1 s2 s3 s3 r3))])
                refine F_iload X60 at_214 rfl (pc' := 216) rfl ?_
                refine F_icmp_ne X60 at_216 (by decide) (pt := 223) (by decide) (pc' := 219) rfl (fun hc216_61 => ?_) (fun hc216_61 => ?_)
                · refine F_iconst X60 at_223 (z := (0 : Int32)) (by decide) (pc' := 224) rfl ?_
                  refine F_ireturn_boolean (z' := (0 : Int32)) X60 (by decide) at_224 rfl (by decide) (by decide) ?_
                  exfalso; refine hc216_61 ?_; unfold ct2; simp only [Int64.lt_iff_toInt_lt, ← Int64.toInt_inj] at hq35 hq37 hc155_51 hc169_54 hc183_57 ⊢; repeat' split
                  all_goals first | rfl | (exfalso; omega)
                · refine F_iconst X60 at_219 (z := (1 : Int32)) (by decide) (pc' := 220) rfl ?_
                  refine F_goto X60 at_220 (by decide) (pc' := 224) (by decide) ?_
                  refine F_ireturn_boolean (z' := (1 : Int32)) X60 (by decide) at_224 rfl (by decide) (by decide) ?_
                  exact rfl
      · refine F_callV X34 (y := (⟨"org/pulsewire/store/SeqRuns", "add", "(J)V"⟩ : MethodName)) (stk := []) (wd25 hw) (wd26 hw) (wd28 hw) (wd27 hw) (wd8 hw) (wd29 hw) (by decide) (a := b4) E34k_b4 (argsL := [(.long s2)]) (conN2 l Z a0 hw n0 h34 X34.size b4 s2 b5_fb s1 s1 E34k_b4 F34_bounds_b4 F34_taken_b4 A34_b5_fb ge4 ge_b5_fb ne_b4_b5_fb (by assumption)) (by decide) (W := 0) (Nat.le_of_ble_eq_true rfl) (by decide) (by decide) (by decide) rfl (lenOf pd3 rfl) rfl at_115 (pc' := 118) rfl fun T62 v62 h62 X62 q62 => ?_
        obtain ⟨rfl, Kp62, F62_bounds_b4, F62_taken_b4, A62_b5_fb⟩ := q62
        have E62k_b4 := E34k_b4.keep Kp62
        have E62k_b5_fb := E34k_b5_fb.keep Kp62
        replace X62 := X62.more (cells' := 2) (slots' := 18) (by decide) (by decide)
        show Jvm.OwnKit.Ends p e below s n0 16 128 _ T62 (mkF m 118 #[.val (.long u1), .second, .val (.int u2), .val (.long u3), .second, .val (.int u4), .val (.long s1), .second, .val (.long s2), .second, .val (.long s3), .second, .val (.long s4), .second, .val (.int (3 : Int32)), .val (.long r3), .second, .val (.ref b4), .unset] [])
        refine F_iload X62 at_118 rfl (pc' := 120) rfl ?_
        refine F_iconst X62 at_120 (z := (3 : Int32)) (by decide) (pc' := 121) rfl ?_
        refine F_icmp_lt X62 at_121 (by decide) (pt := 131) (by decide) (pc' := 124) rfl (fun q => absurd q (by decide)) (fun _ => ?_)
        refine F_aload X62 at_124 rfl rfl (pc' := 126) rfl ?_
        refine F_lload X62 at_126 rfl (pc' := 128) rfl ?_
        by_cases hq63 : s2 = (s3 - (1 : Int64))
        · refine F_callV X62 (y := (⟨"org/pulsewire/store/SeqRuns", "add", "(J)V"⟩ : MethodName)) (stk := []) (wd25 hw) (wd26 hw) (wd28 hw) (wd27 hw) (wd8 hw) (wd29 hw) (by decide) (a := b4) E62k_b4 (argsL := [(.long s3)]) (conX4 l Z a0 hw n0 h62 X62.size b4 s3 b5_fb s1 s1 s2 s2 E62k_b4 F62_bounds_b4 F62_taken_b4 A62_b5_fb ge4 ge_b5_fb ne_b4_b5_fb (by assumption)) (by decide) (W := 0) (Nat.le_of_ble_eq_true rfl) (by decide) (by decide) (by decide) rfl (lenOf pd3 rfl) rfl at_128 (pc' := 131) rfl fun T64 v64 h64 X64 q64 => ?_
          obtain ⟨rfl, Kp64, F64_bounds_b4, F64_taken_b4, A64_b5_fb⟩ := q64
          have E64k_b4 := E62k_b4.keep Kp64
          have E64k_b5_fb := E62k_b5_fb.keep Kp64
          replace X64 := X64.more (cells' := 2) (slots' := 18) (by decide) (by decide)
          show Jvm.OwnKit.Ends p e below s n0 16 128 _ T64 (mkF m 131 #[.val (.long u1), .second, .val (.int u2), .val (.long u3), .second, .val (.int u4), .val (.long s1), .second, .val (.long s2), .second, .val (.long s3), .second, .val (.long s4), .second, .val (.int (3 : Int32)), .val (.long r3), .second, .val (.ref b4), .unset] [])
          refine F_iload X64 at_131 rfl (pc' := 133) rfl ?_
          refine F_iconst X64 at_133 (z := (4 : Int32)) (by decide) (pc' := 134) rfl ?_
          refine F_icmp_lt X64 at_134 (by decide) (pt := 144) (by decide) (pc' := 137) rfl (fun _ => ?_) (fun q => absurd q (by decide))
          refine F_iload X64 at_144 rfl (pc' := 146) rfl ?_
          refine F_iconst X64 at_146 (z := (1 : Int32)) (by decide) (pc' := 147) rfl ?_
          refine F_icmp_lt X64 at_147 (by decide) (pt := 158) (by decide) (pc' := 150) rfl (fun q => absurd q (by decide)) (fun _ => ?_)
          refine F_lload X64 at_150 rfl (pc' := 152) rfl ?_
          refine F_lload X64 at_152 rfl (pc' := 154) rfl ?_
          refine F_lcmp X64 at_154 (pc' := 155) rfl ?_
          refine F_lif_eq X64 at_155 (by decide) (pt := 200) (by decide) (pc' := 158) rfl (fun hc155_65 => ?_) (fun hc155_65 => ?_)
          · refine F_iconst X64 at_200 (z := (1 : Int32)) (by decide) (pc' := 201) rfl ?_
            refine F_goto X64 at_201 (by decide) (pc' := 205) (by decide) ?_
            refine F_istore X64 at_205 (Ls' := #[.val (.long u1), .second, .val (.int u2), .val (.long u3), .second, .val (.int u4), .val (.long s1), .second, .val (.long s2), .second, .val (.long s3), .second, .val (.long s4), .second, .val (.int (3 : Int32)), .val (.long r3), .second, .val (.ref b4), .val (.int (1 : Int32))]) rfl (pc' := 207) rfl ?_
            refine F_aload X64 at_207 rfl rfl (pc' := 209) rfl ?_
            refine F_lload X64 at_209 rfl (pc' := 211) rfl ?_
            refine F_callV X64 (y := (⟨"org/pulsewire/store/SeqRuns", "contains", "(J)Z"⟩ : MethodName)) (stk := []) (wd18 hw) (wd19 hw) (wd21 hw) (wd20 hw) (wd8 hw) (wd22 hw) (by decide) (a := b4) E64k_b4 (argsL := [(.long r3)]) (conC2 l Z a0 hw n0 h64 X64.size b4 r3 b5_fb s1 s1 s2 s3 F64_bounds_b4 F64_taken_b4 A64_b5_fb) (by decide) (W := 0) (Nat.le_of_ble_eq_true rfl) (by decide) (by decide) (by decide) rfl (lenOf pd2 rfl) rfl at_211 (pc' := 214) rfl fun T66 v66 h66 X66 q66 => ?_
            obtain ⟨rfl, rfl⟩ := q66
            replace X66 := X66.more (cells' := 2) (slots' := 18) (by decide) (by decide)
            show Jvm.OwnKit.Ends p e below s n0 16 128 _ T66 (mkF m 214 #[.val (.long u1), .second, .val (.int u2), .val (.long u3), .second, .val (.int u4), .val (.long s1), .second, .val (.long s2), .second, .val (.long s3), .second, .val (.long s4), .second, .val (.int (3 : Int32)), .val (.long r3), .second, .val (.ref b4), .val (.int (1 : Int32))] [(.int (ct2 s1 s1 s2 s3 r3))])
            refine F_iload X66 at_214 rfl (pc' := 216) rfl ?_
            refine F_icmp_ne X66 at_216 (by decide) (pt := 223) (by decide) (pc' := 219) rfl (fun hc216_67 => ?_) (fun hc216_67 => ?_)
            · refine F_iconst X66 at_223 (z := (0 : Int32)) (by decide) (pc' := 224) rfl ?_
              refine F_ireturn_boolean (z' := (0 : Int32)) X66 (by decide) at_224 rfl (by decide) (by decide) ?_
              exfalso; refine hc216_67 ?_; unfold ct2; simp only [Int64.lt_iff_toInt_lt, ← Int64.toInt_inj] at hq35 hq63 hc155_65 ⊢; repeat' split
              all_goals first | rfl | (exfalso; omega)
            · refine F_iconst X66 at_219 (z := (1 : Int32)) (by decide) (pc' := 220) rfl ?_
              refine F_goto X66 at_220 (by decide) (pc' := 224) (by decide) ?_
              refine F_ireturn_boolean (z' := (1 : Int32)) X66 (by decide) at_224 rfl (by decide) (by decide) ?_
              exact rfl
          · refine F_iload X64 at_158 rfl (pc' := 160) rfl ?_
            refine F_iconst X64 at_160 (z := (2 : Int32)) (by decide) (pc' := 161) rfl ?_
            refine F_icmp_lt X64 at_161 (by decide) (pt := 172) (by decide) (pc' := 164) rfl (fun q => absurd q (by decide)) (fun _ => ?_)
            refine F_lload X64 at_164 rfl (pc' := 166) rfl ?_
            refine F_lload X64 at_166 rfl (pc' := 168) rfl ?_
            refine F_lcmp X64 at_168 (pc' := 169) rfl ?_
            refine F_lif_eq X64 at_169 (by decide) (pt := 200) (by decide) (pc' := 172) rfl (fun hc169_68 => ?_) (fun hc169_68 => ?_)
            · refine F_iconst X64 at_200 (z := (1 : Int32)) (by decide) (pc' := 201) rfl ?_
              refine F_goto X64 at_201 (by decide) (pc' := 205) (by decide) ?_
              refine F_istore X64 at_205 (Ls' := #[.val (.long u1), .second, .val (.int u2), .val (.long u3), .second, .val (.int u4), .val (.long s1), .second, .val (.long s2), .second, .val (.long s3), .second, .val (.long s4), .second, .val (.int (3 : Int32)), .val (.long r3), .second, .val (.ref b4), .val (.int (1 : Int32))]) rfl (pc' := 207) rfl ?_
              refine F_aload X64 at_207 rfl rfl (pc' := 209) rfl ?_
              refine F_lload X64 at_209 rfl (pc' := 211) rfl ?_
              refine F_callV X64 (y := (⟨"org/pulsewire/store/SeqRuns", "contains", "(J)Z"⟩ : MethodName)) (stk := []) (wd18 hw) (wd19 hw) (wd21 hw) (wd20 hw) (wd8 hw) (wd22 hw) (by decide) (a := b4) E64k_b4 (argsL := [(.long r3)]) (conC2 l Z a0 hw n0 h64 X64.size b4 r3 b5_fb s1 s1 s2 s3 F64_bounds_b4 F64_taken_b4 A64_b5_fb) (by decide) (W := 0) (Nat.le_of_ble_eq_true rfl) (by decide) (by decide) (by decide) rfl (lenOf pd2 rfl) rfl at_211 (pc' := 214) rfl fun T69 v69 h69 X69 q69 => ?_
              obtain ⟨rfl, rfl⟩ := q69
              replace X69 := X69.more (cells' := 2) (slots' := 18) (by decide) (by decide)
              show Jvm.OwnKit.Ends p e below s n0 16 128 _ T69 (mkF m 214 #[.val (.long u1), .second, .val (.int u2), .val (.long u3), .second, .val (.int u4), .val (.long s1), .second, .val (.long s2), .second, .val (.long s3), .second, .val (.long s4), .second, .val (.int (3 : Int32)), .val (.long r3), .second, .val (.ref b4), .val (.int (1 : Int32))] [(.int (ct2 s1 s1 s2 s3 r3))])
              refine F_iload X69 at_214 rfl (pc' := 216) rfl ?_
              refine F_icmp_ne X69 at_216 (by decide) (pt := 223) (by decide) (pc' := 219) rfl (fun hc216_70 => ?_) (fun hc216_70 => ?_)
              · refine F_iconst X69 at_223 (z := (0 : Int32)) (by decide) (pc' := 224) rfl ?_
                refine F_ireturn_boolean (z' := (0 : Int32)) X69 (by decide) at_224 rfl (by decide) (by decide) ?_
                exfalso; refine hc216_70 ?_; unfold ct2; simp only [Int64.lt_iff_toInt_lt, ← Int64.toInt_inj] at hq35 hq63 hc155_65 hc169_68 ⊢; repeat' split
                all_goals first | rfl | (exfalso; omega)
              · refine F_iconst X69 at_219 (z := (1 : Int32)) (by decide) (pc' := 220) rfl ?_
                refine F_goto X69 at_220 (by decide) (pc' := 224) (by decide) ?_
                refine F_ireturn_boolean (z' := (1 : Int32)) X69 (by decide) at_224 rfl (by decide) (by decide) ?_
                exact rfl
            · refine F_iload X64 at_172 rfl (pc' := 174) rfl ?_
              refine F_iconst X64 at_174 (z := (3 : Int32)) (by decide) (pc' := 175) rfl ?_
              refine F_icmp_lt X64 at_175 (by decide) (pt := 186) (by decide) (pc' := 178) rfl (fun q => absurd q (by decide)) (fun _ => ?_)
              refine F_lload X64 at_178 rfl (pc' := 180) rfl ?_
              refine F_lload X64 at_180 rfl (pc' := 182) rfl ?_
              refine F_lcmp X64 at_182 (pc' := 183) rfl ?_
              refine F_lif_eq X64 at_183 (by decide) (pt := 200) (by decide) (pc' := 186) rfl (fun hc183_71 => ?_) (fun hc183_71 => ?_)
              · refine F_iconst X64 at_200 (z := (1 : Int32)) (by decide) (pc' := 201) rfl ?_
                refine F_goto X64 at_201 (by decide) (pc' := 205) (by decide) ?_
                refine F_istore X64 at_205 (Ls' := #[.val (.long u1), .second, .val (.int u2), .val (.long u3), .second, .val (.int u4), .val (.long s1), .second, .val (.long s2), .second, .val (.long s3), .second, .val (.long s4), .second, .val (.int (3 : Int32)), .val (.long r3), .second, .val (.ref b4), .val (.int (1 : Int32))]) rfl (pc' := 207) rfl ?_
                refine F_aload X64 at_207 rfl rfl (pc' := 209) rfl ?_
                refine F_lload X64 at_209 rfl (pc' := 211) rfl ?_
                refine F_callV X64 (y := (⟨"org/pulsewire/store/SeqRuns", "contains", "(J)Z"⟩ : MethodName)) (stk := []) (wd18 hw) (wd19 hw) (wd21 hw) (wd20 hw) (wd8 hw) (wd22 hw) (by decide) (a := b4) E64k_b4 (argsL := [(.long r3)]) (conC2 l Z a0 hw n0 h64 X64.size b4 r3 b5_fb s1 s1 s2 s3 F64_bounds_b4 F64_taken_b4 A64_b5_fb) (by decide) (W := 0) (Nat.le_of_ble_eq_true rfl) (by decide) (by decide) (by decide) rfl (lenOf pd2 rfl) rfl at_211 (pc' := 214) rfl fun T72 v72 h72 X72 q72 => ?_
                obtain ⟨rfl, rfl⟩ := q72
                replace X72 := X72.more (cells' := 2) (slots' := 18) (by decide) (by decide)
                show Jvm.OwnKit.Ends p e below s n0 16 128 _ T72 (mkF m 214 #[.val (.long u1), .second, .val (.int u2), .val (.long u3), .second, .val (.int u4), .val (.long s1), .second, .val (.long s2), .second, .val (.long s3), .second, .val (.long s4), .second, .val (.int (3 : Int32)), .val (.long r3), .second, .val (.ref b4), .val (.int (1 : Int32))] [(.int (ct2 s1 s1 s2 s3 r3))])
                refine F_iload X72 at_214 rfl (pc' := 216) rfl ?_
                refine F_icmp_ne X72 at_216 (by decide) (pt := 223) (by decide) (pc' := 219) rfl (fun hc216_73 => ?_) (fun hc216_73 => ?_)
                · refine F_iconst X72 at_223 (z := (0 : Int32)) (by decide) (pc' := 224) rfl ?_
                  refine F_ireturn_boolean (z' := (0 : Int32)) X72 (by decide) at_224 rfl (by decide) (by decide) ?_
                  exfalso; refine hc216_73 ?_; unfold ct2; simp only [Int64.lt_iff_toInt_lt, ← Int64.toInt_inj] at hq35 hq63 hc155_65 hc169_68 hc183_71 ⊢; repeat' split
                  all_goals first | rfl | (exfalso; omega)
                · refine F_iconst X72 at_219 (z := (1 : Int32)) (by decide) (pc' := 220) rfl ?_
                  refine F_goto X72 at_220 (by decide) (pc' := 224) (by decide) ?_
                  refine F_ireturn_boolean (z' := (1 : Int32)) X72 (by decide) at_224 rfl (by decide) (by decide) ?_
                  exact rfl
              · refine F_iload X64 at_186 rfl (pc' := 188) rfl ?_
                refine F_iconst X64 at_188 (z := (4 : Int32)) (by decide) (pc' := 189) rfl ?_
                refine F_icmp_lt X64 at_189 (by decide) (pt := 204) (by decide) (pc' := 192) rfl (fun _ => ?_) (fun q => absurd q (by decide))
                refine F_iconst X64 at_204 (z := (0 : Int32)) (by decide) (pc' := 205) rfl ?_
                refine F_istore X64 at_205 (Ls' := #[.val (.long u1), .second, .val (.int u2), .val (.long u3), .second, .val (.int u4), .val (.long s1), .second, .val (.long s2), .second, .val (.long s3), .second, .val (.long s4), .second, .val (.int (3 : Int32)), .val (.long r3), .second, .val (.ref b4), .val (.int (0 : Int32))]) rfl (pc' := 207) rfl ?_
                refine F_aload X64 at_207 rfl rfl (pc' := 209) rfl ?_
                refine F_lload X64 at_209 rfl (pc' := 211) rfl ?_
                refine F_callV X64 (y := (⟨"org/pulsewire/store/SeqRuns", "contains", "(J)Z"⟩ : MethodName)) (stk := []) (wd18 hw) (wd19 hw) (wd21 hw) (wd20 hw) (wd8 hw) (wd22 hw) (by decide) (a := b4) E64k_b4 (argsL := [(.long r3)]) (conC2 l Z a0 hw n0 h64 X64.size b4 r3 b5_fb s1 s1 s2 s3 F64_bounds_b4 F64_taken_b4 A64_b5_fb) (by decide) (W := 0) (Nat.le_of_ble_eq_true rfl) (by decide) (by decide) (by decide) rfl (lenOf pd2 rfl) rfl at_211 (pc' := 214) rfl fun T74 v74 h74 X74 q74 => ?_
                obtain ⟨rfl, rfl⟩ := q74
                replace X74 := X74.more (cells' := 2) (slots' := 18) (by decide) (by decide)
                show Jvm.OwnKit.Ends p e below s n0 16 128 _ T74 (mkF m 214 #[.val (.long u1), .second, .val (.int u2), .val (.long u3), .second, .val (.int u4), .val (.long s1), .second, .val (.long s2), .second, .val (.long s3), .second, .val (.long s4), .second, .val (.int (3 : Int32)), .val (.long r3), .second, .val (.ref b4), .val (.int (0 : Int32))] [(.int (ct2 s1 s1 s2 s3 r3))])
                refine F_iload X74 at_214 rfl (pc' := 216) rfl ?_
                refine F_icmp_ne X74 at_216 (by decide) (pt := 223) (by decide) (pc' := 219) rfl (fun hc216_75 => ?_) (fun hc216_75 => ?_)
                · refine F_iconst X74 at_223 (z := (0 : Int32)) (by decide) (pc' := 224) rfl ?_
                  refine F_ireturn_boolean (z' := (0 : Int32)) X74 (by decide) at_224 rfl (by decide) (by decide) ?_
                  exfalso; refine hc216_75 ?_; unfold ct2; simp only [Int64.lt_iff_toInt_lt, ← Int64.toInt_inj] at hq35 hq63 hc155_65 hc169_68 hc183_71 ⊢; repeat' split
                  all_goals first | rfl | (exfalso; omega)
                · refine F_iconst X74 at_219 (z := (1 : Int32)) (by decide) (pc' := 220) rfl ?_
                  refine F_goto X74 at_220 (by decide) (pc' := 224) (by decide) ?_
                  refine F_ireturn_boolean (z' := (1 : Int32)) X74 (by decide) at_224 rfl (by decide) (by decide) ?_
                  exact rfl
        · refine F_callV X62 (y := (⟨"org/pulsewire/store/SeqRuns", "add", "(J)V"⟩ : MethodName)) (stk := []) (wd25 hw) (wd26 hw) (wd28 hw) (wd27 hw) (wd8 hw) (wd29 hw) (by decide) (a := b4) E62k_b4 (argsL := [(.long s3)]) (conN4 l Z a0 hw n0 h62 X62.size b4 s3 b5_fb s1 s1 s2 s2 E62k_b4 F62_bounds_b4 F62_taken_b4 A62_b5_fb ge4 ge_b5_fb ne_b4_b5_fb (by assumption)) (by decide) (W := 0) (Nat.le_of_ble_eq_true rfl) (by decide) (by decide) (by decide) rfl (lenOf pd3 rfl) rfl at_128 (pc' := 131) rfl fun T76 v76 h76 X76 q76 => ?_
          obtain ⟨rfl, Kp76, F76_bounds_b4, F76_taken_b4, A76_b5_fb⟩ := q76
          have E76k_b4 := E62k_b4.keep Kp76
          have E76k_b5_fb := E62k_b5_fb.keep Kp76
          replace X76 := X76.more (cells' := 2) (slots' := 18) (by decide) (by decide)
          show Jvm.OwnKit.Ends p e below s n0 16 128 _ T76 (mkF m 131 #[.val (.long u1), .second, .val (.int u2), .val (.long u3), .second, .val (.int u4), .val (.long s1), .second, .val (.long s2), .second, .val (.long s3), .second, .val (.long s4), .second, .val (.int (3 : Int32)), .val (.long r3), .second, .val (.ref b4), .unset] [])
          refine F_iload X76 at_131 rfl (pc' := 133) rfl ?_
          refine F_iconst X76 at_133 (z := (4 : Int32)) (by decide) (pc' := 134) rfl ?_
          refine F_icmp_lt X76 at_134 (by decide) (pt := 144) (by decide) (pc' := 137) rfl (fun _ => ?_) (fun q => absurd q (by decide))
          refine F_iload X76 at_144 rfl (pc' := 146) rfl ?_
          refine F_iconst X76 at_146 (z := (1 : Int32)) (by decide) (pc' := 147) rfl ?_
          refine F_icmp_lt X76 at_147 (by decide) (pt := 158) (by decide) (pc' := 150) rfl (fun q => absurd q (by decide)) (fun _ => ?_)
          refine F_lload X76 at_150 rfl (pc' := 152) rfl ?_
          refine F_lload X76 at_152 rfl (pc' := 154) rfl ?_
          refine F_lcmp X76 at_154 (pc' := 155) rfl ?_
          refine F_lif_eq X76 at_155 (by decide) (pt := 200) (by decide) (pc' := 158) rfl (fun hc155_77 => ?_) (fun hc155_77 => ?_)
          · refine F_iconst X76 at_200 (z := (1 : Int32)) (by decide) (pc' := 201) rfl ?_
            refine F_goto X76 at_201 (by decide) (pc' := 205) (by decide) ?_
            refine F_istore X76 at_205 (Ls' := #[.val (.long u1), .second, .val (.int u2), .val (.long u3), .second, .val (.int u4), .val (.long s1), .second, .val (.long s2), .second, .val (.long s3), .second, .val (.long s4), .second, .val (.int (3 : Int32)), .val (.long r3), .second, .val (.ref b4), .val (.int (1 : Int32))]) rfl (pc' := 207) rfl ?_
            refine F_aload X76 at_207 rfl rfl (pc' := 209) rfl ?_
            refine F_lload X76 at_209 rfl (pc' := 211) rfl ?_
            refine F_callV X76 (y := (⟨"org/pulsewire/store/SeqRuns", "contains", "(J)Z"⟩ : MethodName)) (stk := []) (wd18 hw) (wd19 hw) (wd21 hw) (wd20 hw) (wd8 hw) (wd22 hw) (by decide) (a := b4) E76k_b4 (argsL := [(.long r3)]) (conC3 l Z a0 hw n0 h76 X76.size b4 r3 b5_fb s1 s1 s2 s2 s3 s3 F76_bounds_b4 F76_taken_b4 A76_b5_fb) (by decide) (W := 0) (Nat.le_of_ble_eq_true rfl) (by decide) (by decide) (by decide) rfl (lenOf pd2 rfl) rfl at_211 (pc' := 214) rfl fun T78 v78 h78 X78 q78 => ?_
            obtain ⟨rfl, rfl⟩ := q78
            replace X78 := X78.more (cells' := 2) (slots' := 18) (by decide) (by decide)
            show Jvm.OwnKit.Ends p e below s n0 16 128 _ T78 (mkF m 214 #[.val (.long u1), .second, .val (.int u2), .val (.long u3), .second, .val (.int u4), .val (.long s1), .second, .val (.long s2), .second, .val (.long s3), .second, .val (.long s4), .second, .val (.int (3 : Int32)), .val (.long r3), .second, .val (.ref b4), .val (.int (1 : Int32))] [(.int (ct3 s1 s1 s2 s2 s3 s3 r3))])
            refine F_iload X78 at_214 rfl (pc' := 216) rfl ?_
            refine F_icmp_ne X78 at_216 (by decide) (pt := 223) (by decide) (pc' := 219) rfl (fun hc216_79 => ?_) (fun hc216_79 => ?_)
            · refine F_iconst X78 at_223 (z := (0 : Int32)) (by decide) (pc' := 224) rfl ?_
              refine F_ireturn_boolean (z' := (0 : Int32)) X78 (by decide) at_224 rfl (by decide) (by decide) ?_
              exfalso; refine hc216_79 ?_; unfold ct3; simp only [Int64.lt_iff_toInt_lt, ← Int64.toInt_inj] at hq35 hq63 hc155_77 ⊢; repeat' split
              all_goals first | rfl | (exfalso; omega)
            · refine F_iconst X78 at_219 (z := (1 : Int32)) (by decide) (pc' := 220) rfl ?_
              refine F_goto X78 at_220 (by decide) (pc' := 224) (by decide) ?_
              refine F_ireturn_boolean (z' := (1 : Int32)) X78 (by decide) at_224 rfl (by decide) (by decide) ?_
              exact rfl
          · refine F_iload X76 at_158 rfl (pc' := 160) rfl ?_
            refine F_iconst X76 at_160 (z := (2 : Int32)) (by decide) (pc' := 161) rfl ?_
            refine F_icmp_lt X76 at_161 (by decide) (pt := 172) (by decide) (pc' := 164) rfl (fun q => absurd q (by decide)) (fun _ => ?_)
            refine F_lload X76 at_164 rfl (pc' := 166) rfl ?_
            refine F_lload X76 at_166 rfl (pc' := 168) rfl ?_
            refine F_lcmp X76 at_168 (pc' := 169) rfl ?_
            refine F_lif_eq X76 at_169 (by decide) (pt := 200) (by decide) (pc' := 172) rfl (fun hc169_80 => ?_) (fun hc169_80 => ?_)
            · refine F_iconst X76 at_200 (z := (1 : Int32)) (by decide) (pc' := 201) rfl ?_
              refine F_goto X76 at_201 (by decide) (pc' := 205) (by decide) ?_
              refine F_istore X76 at_205 (Ls' := #[.val (.long u1), .second, .val (.int u2), .val (.long u3), .second, .val (.int u4), .val (.long s1), .second, .val (.long s2), .second, .val (.long s3), .second, .val (.long s4), .second, .val (.int (3 : Int32)), .val (.long r3), .second, .val (.ref b4), .val (.int (1 : Int32))]) rfl (pc' := 207) rfl ?_
              refine F_aload X76 at_207 rfl rfl (pc' := 209) rfl ?_
              refine F_lload X76 at_209 rfl (pc' := 211) rfl ?_
              refine F_callV X76 (y := (⟨"org/pulsewire/store/SeqRuns", "contains", "(J)Z"⟩ : MethodName)) (stk := []) (wd18 hw) (wd19 hw) (wd21 hw) (wd20 hw) (wd8 hw) (wd22 hw) (by decide) (a := b4) E76k_b4 (argsL := [(.long r3)]) (conC3 l Z a0 hw n0 h76 X76.size b4 r3 b5_fb s1 s1 s2 s2 s3 s3 F76_bounds_b4 F76_taken_b4 A76_b5_fb) (by decide) (W := 0) (Nat.le_of_ble_eq_true rfl) (by decide) (by decide) (by decide) rfl (lenOf pd2 rfl) rfl at_211 (pc' := 214) rfl fun T81 v81 h81 X81 q81 => ?_
              obtain ⟨rfl, rfl⟩ := q81
              replace X81 := X81.more (cells' := 2) (slots' := 18) (by decide) (by decide)
              show Jvm.OwnKit.Ends p e below s n0 16 128 _ T81 (mkF m 214 #[.val (.long u1), .second, .val (.int u2), .val (.long u3), .second, .val (.int u4), .val (.long s1), .second, .val (.long s2), .second, .val (.long s3), .second, .val (.long s4), .second, .val (.int (3 : Int32)), .val (.long r3), .second, .val (.ref b4), .val (.int (1 : Int32))] [(.int (ct3 s1 s1 s2 s2 s3 s3 r3))])
              refine F_iload X81 at_214 rfl (pc' := 216) rfl ?_
              refine F_icmp_ne X81 at_216 (by decide) (pt := 223) (by decide) (pc' := 219) rfl (fun hc216_82 => ?_) (fun hc216_82 => ?_)
              · refine F_iconst X81 at_223 (z := (0 : Int32)) (by decide) (pc' := 224) rfl ?_
                refine F_ireturn_boolean (z' := (0 : Int32)) X81 (by decide) at_224 rfl (by decide) (by decide) ?_
                exfalso; refine hc216_82 ?_; unfold ct3; simp only [Int64.lt_iff_toInt_lt, ← Int64.toInt_inj] at hq35 hq63 hc155_77 hc169_80 ⊢; repeat' split
                all_goals first | rfl | (exfalso; omega)
              · refine F_iconst X81 at_219 (z := (1 : Int32)) (by decide) (pc' := 220) rfl ?_
                refine F_goto X81 at_220 (by decide) (pc' := 224) (by decide) ?_
                refine F_ireturn_boolean (z' := (1 : Int32)) X81 (by decide) at_224 rfl (by decide) (by decide) ?_
                exact rfl
            · refine F_iload X76 at_172 rfl (pc' := 174) rfl ?_
              refine F_iconst X76 at_174 (z := (3 : Int32)) (by decide) (pc' := 175) rfl ?_
              refine F_icmp_lt X76 at_175 (by decide) (pt := 186) (by decide) (pc' := 178) rfl (fun q => absurd q (by decide)) (fun _ => ?_)
              refine F_lload X76 at_178 rfl (pc' := 180) rfl ?_
              refine F_lload X76 at_180 rfl (pc' := 182) rfl ?_
              refine F_lcmp X76 at_182 (pc' := 183) rfl ?_
              refine F_lif_eq X76 at_183 (by decide) (pt := 200) (by decide) (pc' := 186) rfl (fun hc183_83 => ?_) (fun hc183_83 => ?_)
              · refine F_iconst X76 at_200 (z := (1 : Int32)) (by decide) (pc' := 201) rfl ?_
                refine F_goto X76 at_201 (by decide) (pc' := 205) (by decide) ?_
                refine F_istore X76 at_205 (Ls' := #[.val (.long u1), .second, .val (.int u2), .val (.long u3), .second, .val (.int u4), .val (.long s1), .second, .val (.long s2), .second, .val (.long s3), .second, .val (.long s4), .second, .val (.int (3 : Int32)), .val (.long r3), .second, .val (.ref b4), .val (.int (1 : Int32))]) rfl (pc' := 207) rfl ?_
                refine F_aload X76 at_207 rfl rfl (pc' := 209) rfl ?_
                refine F_lload X76 at_209 rfl (pc' := 211) rfl ?_
                refine F_callV X76 (y := (⟨"org/pulsewire/store/SeqRuns", "contains", "(J)Z"⟩ : MethodName)) (stk := []) (wd18 hw) (wd19 hw) (wd21 hw) (wd20 hw) (wd8 hw) (wd22 hw) (by decide) (a := b4) E76k_b4 (argsL := [(.long r3)]) (conC3 l Z a0 hw n0 h76 X76.size b4 r3 b5_fb s1 s1 s2 s2 s3 s3 F76_bounds_b4 F76_taken_b4 A76_b5_fb) (by decide) (W := 0) (Nat.le_of_ble_eq_true rfl) (by decide) (by decide) (by decide) rfl (lenOf pd2 rfl) rfl at_211 (pc' := 214) rfl fun T84 v84 h84 X84 q84 => ?_
                obtain ⟨rfl, rfl⟩ := q84
                replace X84 := X84.more (cells' := 2) (slots' := 18) (by decide) (by decide)
                show Jvm.OwnKit.Ends p e below s n0 16 128 _ T84 (mkF m 214 #[.val (.long u1), .second, .val (.int u2), .val (.long u3), .second, .val (.int u4), .val (.long s1), .second, .val (.long s2), .second, .val (.long s3), .second, .val (.long s4), .second, .val (.int (3 : Int32)), .val (.long r3), .second, .val (.ref b4), .val (.int (1 : Int32))] [(.int (ct3 s1 s1 s2 s2 s3 s3 r3))])
                refine F_iload X84 at_214 rfl (pc' := 216) rfl ?_
                refine F_icmp_ne X84 at_216 (by decide) (pt := 223) (by decide) (pc' := 219) rfl (fun hc216_85 => ?_) (fun hc216_85 => ?_)
                · refine F_iconst X84 at_223 (z := (0 : Int32)) (by decide) (pc' := 224) rfl ?_
                  refine F_ireturn_boolean (z' := (0 : Int32)) X84 (by decide) at_224 rfl (by decide) (by decide) ?_
                  exfalso; refine hc216_85 ?_; unfold ct3; simp only [Int64.lt_iff_toInt_lt, ← Int64.toInt_inj] at hq35 hq63 hc155_77 hc169_80 hc183_83 ⊢; repeat' split
                  all_goals first | rfl | (exfalso; omega)
                · refine F_iconst X84 at_219 (z := (1 : Int32)) (by decide) (pc' := 220) rfl ?_
                  refine F_goto X84 at_220 (by decide) (pc' := 224) (by decide) ?_
                  refine F_ireturn_boolean (z' := (1 : Int32)) X84 (by decide) at_224 rfl (by decide) (by decide) ?_
                  exact rfl
              · refine F_iload X76 at_186 rfl (pc' := 188) rfl ?_
                refine F_iconst X76 at_188 (z := (4 : Int32)) (by decide) (pc' := 189) rfl ?_
                refine F_icmp_lt X76 at_189 (by decide) (pt := 204) (by decide) (pc' := 192) rfl (fun _ => ?_) (fun q => absurd q (by decide))
                refine F_iconst X76 at_204 (z := (0 : Int32)) (by decide) (pc' := 205) rfl ?_
                refine F_istore X76 at_205 (Ls' := #[.val (.long u1), .second, .val (.int u2), .val (.long u3), .second, .val (.int u4), .val (.long s1), .second, .val (.long s2), .second, .val (.long s3), .second, .val (.long s4), .second, .val (.int (3 : Int32)), .val (.long r3), .second, .val (.ref b4), .val (.int (0 : Int32))]) rfl (pc' := 207) rfl ?_
                refine F_aload X76 at_207 rfl rfl (pc' := 209) rfl ?_
                refine F_lload X76 at_209 rfl (pc' := 211) rfl ?_
                refine F_callV X76 (y := (⟨"org/pulsewire/store/SeqRuns", "contains", "(J)Z"⟩ : MethodName)) (stk := []) (wd18 hw) (wd19 hw) (wd21 hw) (wd20 hw) (wd8 hw) (wd22 hw) (by decide) (a := b4) E76k_b4 (argsL := [(.long r3)]) (conC3 l Z a0 hw n0 h76 X76.size b4 r3 b5_fb s1 s1 s2 s2 s3 s3 F76_bounds_b4 F76_taken_b4 A76_b5_fb) (by decide) (W := 0) (Nat.le_of_ble_eq_true rfl) (by decide) (by decide) (by decide) rfl (lenOf pd2 rfl) rfl at_211 (pc' := 214) rfl fun T86 v86 h86 X86 q86 => ?_
                obtain ⟨rfl, rfl⟩ := q86
                replace X86 := X86.more (cells' := 2) (slots' := 18) (by decide) (by decide)
                show Jvm.OwnKit.Ends p e below s n0 16 128 _ T86 (mkF m 214 #[.val (.long u1), .second, .val (.int u2), .val (.long u3), .second, .val (.int u4), .val (.long s1), .second, .val (.long s2), .second, .val (.long s3), .second, .val (.long s4), .second, .val (.int (3 : Int32)), .val (.long r3), .second, .val (.ref b4), .val (.int (0 : Int32))] [(.int (ct3 s1 s1 s2 s2 s3 s3 r3))])
                refine F_iload X86 at_214 rfl (pc' := 216) rfl ?_
                refine F_icmp_ne X86 at_216 (by decide) (pt := 223) (by decide) (pc' := 219) rfl (fun hc216_87 => ?_) (fun hc216_87 => ?_)
                · refine F_iconst X86 at_223 (z := (0 : Int32)) (by decide) (pc' := 224) rfl ?_
                  refine F_ireturn_boolean (z' := (0 : Int32)) X86 (by decide) at_224 rfl (by decide) (by decide) ?_
                  exfalso; refine hc216_87 ?_; unfold ct3; simp only [Int64.lt_iff_toInt_lt, ← Int64.toInt_inj] at hq35 hq63 hc155_77 hc169_80 hc183_83 ⊢; repeat' split
                  all_goals first | rfl | (exfalso; omega)
                · refine F_iconst X86 at_219 (z := (1 : Int32)) (by decide) (pc' := 220) rfl ?_
                  refine F_goto X86 at_220 (by decide) (pc' := 224) (by decide) ?_
                  refine F_ireturn_boolean (z' := (1 : Int32)) X86 (by decide) at_224 rfl (by decide) (by decide) ?_
                  exact rfl
    · refine F_iload X5 at_92 rfl (pc' := 94) rfl ?_
      refine F_iconst X5 at_94 (z := (1 : Int32)) (by decide) (pc' := 95) rfl ?_
      refine F_icmp_lt X5 at_95 (by decide) (pt := 105) (by decide) (pc' := 98) rfl (fun q => absurd q (by decide)) (fun _ => ?_)
      refine F_aload X5 at_98 rfl rfl (pc' := 100) rfl ?_
      refine F_lload X5 at_100 rfl (pc' := 102) rfl ?_
      refine F_callV X5 (y := (⟨"org/pulsewire/store/SeqRuns", "add", "(J)V"⟩ : MethodName)) (stk := []) (wd25 hw) (wd26 hw) (wd28 hw) (wd27 hw) (wd8 hw) (wd29 hw) (by decide) (a := b4) E5_b4 (argsL := [(.long s1)]) (conN0 l Z a0 hw n0 h5 X5.size b4 s1 b5_fb E5_b4 F5_bounds_b4 F5_taken_b4 A5_b5_fb ge4 ge_b5_fb ne_b4_b5_fb) (by decide) (W := 0) (Nat.le_of_ble_eq_true rfl) (by decide) (by decide) (by decide) rfl (lenOf pd3 rfl) rfl at_102 (pc' := 105) rfl fun T88 v88 h88 X88 q88 => ?_
      obtain ⟨rfl, Kp88, F88_bounds_b4, F88_taken_b4, A88_b5_fb⟩ := q88
      have E88k_b4 := E5_b4.keep Kp88
      have E88k_b5_fb := E5_b5_fb.keep Kp88
      replace X88 := X88.more (cells' := 2) (slots' := 18) (by decide) (by decide)
      show Jvm.OwnKit.Ends p e below s n0 16 128 _ T88 (mkF m 105 #[.val (.long u1), .second, .val (.int u2), .val (.long u3), .second, .val (.int u4), .val (.long s1), .second, .val (.long s2), .second, .val (.long s3), .second, .val (.long s4), .second, .val (.int (4 : Int32)), .val (.long r3), .second, .val (.ref b4), .unset] [])
      refine F_iload X88 at_105 rfl (pc' := 107) rfl ?_
      refine F_iconst X88 at_107 (z := (2 : Int32)) (by decide) (pc' := 108) rfl ?_
      refine F_icmp_lt X88 at_108 (by decide) (pt := 118) (by decide) (pc' := 111) rfl (fun q => absurd q (by decide)) (fun _ => ?_)
      refine F_aload X88 at_111 rfl rfl (pc' := 113) rfl ?_
      refine F_lload X88 at_113 rfl (pc' := 115) rfl ?_
      by_cases hq89 : s1 = (s2 - (1 : Int64))
      · refine F_callV X88 (y := (⟨"org/pulsewire/store/SeqRuns", "add", "(J)V"⟩ : MethodName)) (stk := []) (wd25 hw) (wd26 hw) (wd28 hw) (wd27 hw) (wd8 hw) (wd29 hw) (by decide) (a := b4) E88k_b4 (argsL := [(.long s2)]) (conX2 l Z a0 hw n0 h88 X88.size b4 s2 b5_fb s1 s1 E88k_b4 F88_bounds_b4 F88_taken_b4 A88_b5_fb ge4 ge_b5_fb ne_b4_b5_fb (by assumption)) (by decide) (W := 0) (Nat.le_of_ble_eq_true rfl) (by decide) (by decide) (by decide) rfl (lenOf pd3 rfl) rfl at_115 (pc' := 118) rfl fun T90 v90 h90 X90 q90 => ?_
        obtain ⟨rfl, Kp90, F90_bounds_b4, F90_taken_b4, A90_b5_fb⟩ := q90
        have E90k_b4 := E88k_b4.keep Kp90
        have E90k_b5_fb := E88k_b5_fb.keep Kp90
        replace X90 := X90.more (cells' := 2) (slots' := 18) (by decide) (by decide)
        show Jvm.OwnKit.Ends p e below s n0 16 128 _ T90 (mkF m 118 #[.val (.long u1), .second, .val (.int u2), .val (.long u3), .second, .val (.int u4), .val (.long s1), .second, .val (.long s2), .second, .val (.long s3), .second, .val (.long s4), .second, .val (.int (4 : Int32)), .val (.long r3), .second, .val (.ref b4), .unset] [])
        refine F_iload X90 at_118 rfl (pc' := 120) rfl ?_
        refine F_iconst X90 at_120 (z := (3 : Int32)) (by decide) (pc' := 121) rfl ?_
        refine F_icmp_lt X90 at_121 (by decide) (pt := 131) (by decide) (pc' := 124) rfl (fun q => absurd q (by decide)) (fun _ => ?_)
        refine F_aload X90 at_124 rfl rfl (pc' := 126) rfl ?_
        refine F_lload X90 at_126 rfl (pc' := 128) rfl ?_
        by_cases hq91 : s2 = (s3 - (1 : Int64))
        · refine F_callV X90 (y := (⟨"org/pulsewire/store/SeqRuns", "add", "(J)V"⟩ : MethodName)) (stk := []) (wd25 hw) (wd26 hw) (wd28 hw) (wd27 hw) (wd8 hw) (wd29 hw) (by decide) (a := b4) E90k_b4 (argsL := [(.long s3)]) (conX2 l Z a0 hw n0 h90 X90.size b4 s3 b5_fb s1 s2 E90k_b4 F90_bounds_b4 F90_taken_b4 A90_b5_fb ge4 ge_b5_fb ne_b4_b5_fb (by assumption)) (by decide) (W := 0) (Nat.le_of_ble_eq_true rfl) (by decide) (by decide) (by decide) rfl (lenOf pd3 rfl) rfl at_128 (pc' := 131) rfl fun T92 v92 h92 X92 q92 => ?_
          obtain ⟨rfl, Kp92, F92_bounds_b4, F92_taken_b4, A92_b5_fb⟩ := q92
          have E92k_b4 := E90k_b4.keep Kp92
          have E92k_b5_fb := E90k_b5_fb.keep Kp92
          replace X92 := X92.more (cells' := 2) (slots' := 18) (by decide) (by decide)
          show Jvm.OwnKit.Ends p e below s n0 16 128 _ T92 (mkF m 131 #[.val (.long u1), .second, .val (.int u2), .val (.long u3), .second, .val (.int u4), .val (.long s1), .second, .val (.long s2), .second, .val (.long s3), .second, .val (.long s4), .second, .val (.int (4 : Int32)), .val (.long r3), .second, .val (.ref b4), .unset] [])
          refine F_iload X92 at_131 rfl (pc' := 133) rfl ?_
          refine F_iconst X92 at_133 (z := (4 : Int32)) (by decide) (pc' := 134) rfl ?_
          refine F_icmp_lt X92 at_134 (by decide) (pt := 144) (by decide) (pc' := 137) rfl (fun q => absurd q (by decide)) (fun _ => ?_)
          refine F_aload X92 at_137 rfl rfl (pc' := 139) rfl ?_
          refine F_lload X92 at_139 rfl (pc' := 141) rfl ?_
          by_cases hq93 : s3 = (s4 - (1 : Int64))
          · refine F_callV X92 (y := (⟨"org/pulsewire/store/SeqRuns", "add", "(J)V"⟩ : MethodName)) (stk := []) (wd25 hw) (wd26 hw) (wd28 hw) (wd27 hw) (wd8 hw) (wd29 hw) (by decide) (a := b4) E92k_b4 (argsL := [(.long s4)]) (conX2 l Z a0 hw n0 h92 X92.size b4 s4 b5_fb s1 s3 E92k_b4 F92_bounds_b4 F92_taken_b4 A92_b5_fb ge4 ge_b5_fb ne_b4_b5_fb (by assumption)) (by decide) (W := 0) (Nat.le_of_ble_eq_true rfl) (by decide) (by decide) (by decide) rfl (lenOf pd3 rfl) rfl at_141 (pc' := 144) rfl fun T94 v94 h94 X94 q94 => ?_
            obtain ⟨rfl, Kp94, F94_bounds_b4, F94_taken_b4, A94_b5_fb⟩ := q94
            have E94k_b4 := E92k_b4.keep Kp94
            have E94k_b5_fb := E92k_b5_fb.keep Kp94
            replace X94 := X94.more (cells' := 2) (slots' := 18) (by decide) (by decide)
            show Jvm.OwnKit.Ends p e below s n0 16 128 _ T94 (mkF m 144 #[.val (.long u1), .second, .val (.int u2), .val (.long u3), .second, .val (.int u4), .val (.long s1), .second, .val (.long s2), .second, .val (.long s3), .second, .val (.long s4), .second, .val (.int (4 : Int32)), .val (.long r3), .second, .val (.ref b4), .unset] [])
            refine F_iload X94 at_144 rfl (pc' := 146) rfl ?_
            refine F_iconst X94 at_146 (z := (1 : Int32)) (by decide) (pc' := 147) rfl ?_
            refine F_icmp_lt X94 at_147 (by decide) (pt := 158) (by decide) (pc' := 150) rfl (fun q => absurd q (by decide)) (fun _ => ?_)
            refine F_lload X94 at_150 rfl (pc' := 152) rfl ?_
            refine F_lload X94 at_152 rfl (pc' := 154) rfl ?_
            refine F_lcmp X94 at_154 (pc' := 155) rfl ?_
            refine F_lif_eq X94 at_155 (by decide) (pt := 200) (by decide) (pc' := 158) rfl (fun hc155_95 => ?_) (fun hc155_95 => ?_)
            · refine F_iconst X94 at_200 (z := (1 : Int32)) (by decide) (pc' := 201) rfl ?_
              refine F_goto X94 at_201 (by decide) (pc' := 205) (by decide) ?_
              refine F_istore X94 at_205 (Ls' := #[.val (.long u1), .second, .val (.int u2), .val (.long u3), .second, .val (.int u4), .val (.long s1), .second, .val (.long s2), .second, .val (.long s3), .second, .val (.long s4), .second, .val (.int (4 : Int32)), .val (.long r3), .second, .val (.ref b4), .val (.int (1 : Int32))]) rfl (pc' := 207) rfl ?_
              refine F_aload X94 at_207 rfl rfl (pc' := 209) rfl ?_
              refine F_lload X94 at_209 rfl (pc' := 211) rfl ?_
              refine F_callV X94 (y := (⟨"org/pulsewire/store/SeqRuns", "contains", "(J)Z"⟩ : MethodName)) (stk := []) (wd18 hw) (wd19 hw) (wd21 hw) (wd20 hw) (wd8 hw) (wd22 hw) (by decide) (a := b4) E94k_b4 (argsL := [(.long r3)]) (conC1 l Z a0 hw n0 h94 X94.size b4 r3 b5_fb s1 s4 F94_bounds_b4 F94_taken_b4 A94_b5_fb) (by decide) (W := 0) (Nat.le_of_ble_eq_true rfl) (by decide) (by decide) (by decide) rfl (lenOf pd2 rfl) rfl at_211 (pc' := 214) rfl fun T96 v96 h96 X96 q96 => ?_
              obtain ⟨rfl, rfl⟩ := q96
              replace X96 := X96.more (cells' := 2) (slots' := 18) (by decide) (by decide)
              show Jvm.OwnKit.Ends p e below s n0 16 128 _ T96 (mkF m 214 #[.val (.long u1), .second, .val (.int u2), .val (.long u3), .second, .val (.int u4), .val (.long s1), .second, .val (.long s2), .second, .val (.long s3), .second, .val (.long s4), .second, .val (.int (4 : Int32)), .val (.long r3), .second, .val (.ref b4), .val (.int (1 : Int32))] [(.int (ct1 s1 s4 r3))])
              refine F_iload X96 at_214 rfl (pc' := 216) rfl ?_
              refine F_icmp_ne X96 at_216 (by decide) (pt := 223) (by decide) (pc' := 219) rfl (fun hc216_97 => ?_) (fun hc216_97 => ?_)
              · refine F_iconst X96 at_223 (z := (0 : Int32)) (by decide) (pc' := 224) rfl ?_
                refine F_ireturn_boolean (z' := (0 : Int32)) X96 (by decide) at_224 rfl (by decide) (by decide) ?_
                exfalso; refine hc216_97 ?_; unfold ct1; simp only [Int64.lt_iff_toInt_lt, ← Int64.toInt_inj] at hq89 hq91 hq93 hc155_95 ⊢; repeat' split
                all_goals first | rfl | (exfalso; omega)
              · refine F_iconst X96 at_219 (z := (1 : Int32)) (by decide) (pc' := 220) rfl ?_
                refine F_goto X96 at_220 (by decide) (pc' := 224) (by decide) ?_
                refine F_ireturn_boolean (z' := (1 : Int32)) X96 (by decide) at_224 rfl (by decide) (by decide) ?_
                exact rfl
            · refine F_iload X94 at_158 rfl (pc' := 160) rfl ?_
              refine F_iconst X94 at_160 (z := (2 : Int32)) (by decide) (pc' := 161) rfl ?_
              refine F_icmp_lt X94 at_161 (by decide) (pt := 172) (by decide) (pc' := 164) rfl (fun q => absurd q (by decide)) (fun _ => ?_)
              refine F_lload X94 at_164 rfl (pc' := 166) rfl ?_
              refine F_lload X94 at_166 rfl (pc' := 168) rfl ?_
              refine F_lcmp X94 at_168 (pc' := 169) rfl ?_
              refine F_lif_eq X94 at_169 (by decide) (pt := 200) (by decide) (pc' := 172) rfl (fun hc169_98 => ?_) (fun hc169_98 => ?_)
              · refine F_iconst X94 at_200 (z := (1 : Int32)) (by decide) (pc' := 201) rfl ?_
                refine F_goto X94 at_201 (by decide) (pc' := 205) (by decide) ?_
                refine F_istore X94 at_205 (Ls' := #[.val (.long u1), .second, .val (.int u2), .val (.long u3), .second, .val (.int u4), .val (.long s1), .second, .val (.long s2), .second, .val (.long s3), .second, .val (.long s4), .second, .val (.int (4 : Int32)), .val (.long r3), .second, .val (.ref b4), .val (.int (1 : Int32))]) rfl (pc' := 207) rfl ?_
                refine F_aload X94 at_207 rfl rfl (pc' := 209) rfl ?_
                refine F_lload X94 at_209 rfl (pc' := 211) rfl ?_
                refine F_callV X94 (y := (⟨"org/pulsewire/store/SeqRuns", "contains", "(J)Z"⟩ : MethodName)) (stk := []) (wd18 hw) (wd19 hw) (wd21 hw) (wd20 hw) (wd8 hw) (wd22 hw) (by decide) (a := b4) E94k_b4 (argsL := [(.long r3)]) (conC1 l Z a0 hw n0 h94 X94.size b4 r3 b5_fb s1 s4 F94_bounds_b4 F94_taken_b4 A94_b5_fb) (by decide) (W := 0) (Nat.le_of_ble_eq_true rfl) (by decide) (by decide) (by decide) rfl (lenOf pd2 rfl) rfl at_211 (pc' := 214) rfl fun T99 v99 h99 X99 q99 => ?_
                obtain ⟨rfl, rfl⟩ := q99
                replace X99 := X99.more (cells' := 2) (slots' := 18) (by decide) (by decide)
                show Jvm.OwnKit.Ends p e below s n0 16 128 _ T99 (mkF m 214 #[.val (.long u1), .second, .val (.int u2), .val (.long u3), .second, .val (.int u4), .val (.long s1), .second, .val (.long s2), .second, .val (.long s3), .second, .val (.long s4), .second, .val (.int (4 : Int32)), .val (.long r3), .second, .val (.ref b4), .val (.int (1 : Int32))] [(.int (ct1 s1 s4 r3))])
                refine F_iload X99 at_214 rfl (pc' := 216) rfl ?_
                refine F_icmp_ne X99 at_216 (by decide) (pt := 223) (by decide) (pc' := 219) rfl (fun hc216_100 => ?_) (fun hc216_100 => ?_)
                · refine F_iconst X99 at_223 (z := (0 : Int32)) (by decide) (pc' := 224) rfl ?_
                  refine F_ireturn_boolean (z' := (0 : Int32)) X99 (by decide) at_224 rfl (by decide) (by decide) ?_
                  exfalso; refine hc216_100 ?_; unfold ct1; simp only [Int64.lt_iff_toInt_lt, ← Int64.toInt_inj] at hq89 hq91 hq93 hc155_95 hc169_98 ⊢; repeat' split
                  all_goals first | rfl | (exfalso; omega)
                · refine F_iconst X99 at_219 (z := (1 : Int32)) (by decide) (pc' := 220) rfl ?_
                  refine F_goto X99 at_220 (by decide) (pc' := 224) (by decide) ?_
                  refine F_ireturn_boolean (z' := (1 : Int32)) X99 (by decide) at_224 rfl (by decide) (by decide) ?_
                  exact rfl
              · refine F_iload X94 at_172 rfl (pc' := 174) rfl ?_
                refine F_iconst X94 at_174 (z := (3 : Int32)) (by decide) (pc' := 175) rfl ?_
                refine F_icmp_lt X94 at_175 (by decide) (pt := 186) (by decide) (pc' := 178) rfl (fun q => absurd q (by decide)) (fun _ => ?_)
                refine F_lload X94 at_178 rfl (pc' := 180) rfl ?_
                refine F_lload X94 at_180 rfl (pc' := 182) rfl ?_
                refine F_lcmp X94 at_182 (pc' := 183) rfl ?_
                refine F_lif_eq X94 at_183 (by decide) (pt := 200) (by decide) (pc' := 186) rfl (fun hc183_101 => ?_) (fun hc183_101 => ?_)
                · refine F_iconst X94 at_200 (z := (1 : Int32)) (by decide) (pc' := 201) rfl ?_
                  refine F_goto X94 at_201 (by decide) (pc' := 205) (by decide) ?_
                  refine F_istore X94 at_205 (Ls' := #[.val (.long u1), .second, .val (.int u2), .val (.long u3), .second, .val (.int u4), .val (.long s1), .second, .val (.long s2), .second, .val (.long s3), .second, .val (.long s4), .second, .val (.int (4 : Int32)), .val (.long r3), .second, .val (.ref b4), .val (.int (1 : Int32))]) rfl (pc' := 207) rfl ?_
                  refine F_aload X94 at_207 rfl rfl (pc' := 209) rfl ?_
                  refine F_lload X94 at_209 rfl (pc' := 211) rfl ?_
                  refine F_callV X94 (y := (⟨"org/pulsewire/store/SeqRuns", "contains", "(J)Z"⟩ : MethodName)) (stk := []) (wd18 hw) (wd19 hw) (wd21 hw) (wd20 hw) (wd8 hw) (wd22 hw) (by decide) (a := b4) E94k_b4 (argsL := [(.long r3)]) (conC1 l Z a0 hw n0 h94 X94.size b4 r3 b5_fb s1 s4 F94_bounds_b4 F94_taken_b4 A94_b5_fb) (by decide) (W := 0) (Nat.le_of_ble_eq_true rfl) (by decide) (by decide) (by decide) rfl (lenOf pd2 rfl) rfl at_211 (pc' := 214) rfl fun T102 v102 h102 X102 q102 => ?_
                  obtain ⟨rfl, rfl⟩ := q102
                  replace X102 := X102.more (cells' := 2) (slots' := 18) (by decide) (by decide)
                  show Jvm.OwnKit.Ends p e below s n0 16 128 _ T102 (mkF m 214 #[.val (.long u1), .second, .val (.int u2), .val (.long u3), .second, .val (.int u4), .val (.long s1), .second, .val (.long s2), .second, .val (.long s3), .second, .val (.long s4), .second, .val (.int (4 : Int32)), .val (.long r3), .second, .val (.ref b4), .val (.int (1 : Int32))] [(.int (ct1 s1 s4 r3))])
                  refine F_iload X102 at_214 rfl (pc' := 216) rfl ?_
                  refine F_icmp_ne X102 at_216 (by decide) (pt := 223) (by decide) (pc' := 219) rfl (fun hc216_103 => ?_) (fun hc216_103 => ?_)
                  · refine F_iconst X102 at_223 (z := (0 : Int32)) (by decide) (pc' := 224) rfl ?_
                    refine F_ireturn_boolean (z' := (0 : Int32)) X102 (by decide) at_224 rfl (by decide) (by decide) ?_
                    exfalso; refine hc216_103 ?_; unfold ct1; simp only [Int64.lt_iff_toInt_lt, ← Int64.toInt_inj] at hq89 hq91 hq93 hc155_95 hc169_98 hc183_101 ⊢; repeat' split
                    all_goals first | rfl | (exfalso; omega)
                  · refine F_iconst X102 at_219 (z := (1 : Int32)) (by decide) (pc' := 220) rfl ?_
                    refine F_goto X102 at_220 (by decide) (pc' := 224) (by decide) ?_
                    refine F_ireturn_boolean (z' := (1 : Int32)) X102 (by decide) at_224 rfl (by decide) (by decide) ?_
                    exact rfl
                · refine F_iload X94 at_186 rfl (pc' := 188) rfl ?_
                  refine F_iconst X94 at_188 (z := (4 : Int32)) (by decide) (pc' := 189) rfl ?_
                  refine F_icmp_lt X94 at_189 (by decide) (pt := 204) (by decide) (pc' := 192) rfl (fun q => absurd q (by decide)) (fun _ => ?_)
                  refine F_lload X94 at_192 rfl (pc' := 194) rfl ?_
                  refine F_lload X94 at_194 rfl (pc' := 196) rfl ?_
                  refine F_lcmp X94 at_196 (pc' := 197) rfl ?_
                  refine F_lif_ne X94 at_197 (by decide) (pt := 204) (by decide) (pc' := 200) rfl (fun hc197_104 => ?_) (fun hc197_104 => ?_)
                  · refine F_iconst X94 at_204 (z := (0 : Int32)) (by decide) (pc' := 205) rfl ?_
                    refine F_istore X94 at_205 (Ls' := #[.val (.long u1), .second, .val (.int u2), .val (.long u3), .second, .val (.int u4), .val (.long s1), .second, .val (.long s2), .second, .val (.long s3), .second, .val (.long s4), .second, .val (.int (4 : Int32)), .val (.long r3), .second, .val (.ref b4), .val (.int (0 : Int32))]) rfl (pc' := 207) rfl ?_
                    refine F_aload X94 at_207 rfl rfl (pc' := 209) rfl ?_
                    refine F_lload X94 at_209 rfl (pc' := 211) rfl ?_
                    refine F_callV X94 (y := (⟨"org/pulsewire/store/SeqRuns", "contains", "(J)Z"⟩ : MethodName)) (stk := []) (wd18 hw) (wd19 hw) (wd21 hw) (wd20 hw) (wd8 hw) (wd22 hw) (by decide) (a := b4) E94k_b4 (argsL := [(.long r3)]) (conC1 l Z a0 hw n0 h94 X94.size b4 r3 b5_fb s1 s4 F94_bounds_b4 F94_taken_b4 A94_b5_fb) (by decide) (W := 0) (Nat.le_of_ble_eq_true rfl) (by decide) (by decide) (by decide) rfl (lenOf pd2 rfl) rfl at_211 (pc' := 214) rfl fun T105 v105 h105 X105 q105 => ?_
                    obtain ⟨rfl, rfl⟩ := q105
                    replace X105 := X105.more (cells' := 2) (slots' := 18) (by decide) (by decide)
                    show Jvm.OwnKit.Ends p e below s n0 16 128 _ T105 (mkF m 214 #[.val (.long u1), .second, .val (.int u2), .val (.long u3), .second, .val (.int u4), .val (.long s1), .second, .val (.long s2), .second, .val (.long s3), .second, .val (.long s4), .second, .val (.int (4 : Int32)), .val (.long r3), .second, .val (.ref b4), .val (.int (0 : Int32))] [(.int (ct1 s1 s4 r3))])
                    refine F_iload X105 at_214 rfl (pc' := 216) rfl ?_
                    refine F_icmp_ne X105 at_216 (by decide) (pt := 223) (by decide) (pc' := 219) rfl (fun hc216_106 => ?_) (fun hc216_106 => ?_)
                    · refine F_iconst X105 at_223 (z := (0 : Int32)) (by decide) (pc' := 224) rfl ?_
                      refine F_ireturn_boolean (z' := (0 : Int32)) X105 (by decide) at_224 rfl (by decide) (by decide) ?_
                      exfalso; refine hc216_106 ?_; unfold ct1; simp only [Int64.lt_iff_toInt_lt, ← Int64.toInt_inj] at hq89 hq91 hq93 hc155_95 hc169_98 hc183_101 hc197_104 ⊢; repeat' split
                      all_goals first | rfl | (exfalso; omega)
                    · refine F_iconst X105 at_219 (z := (1 : Int32)) (by decide) (pc' := 220) rfl ?_
                      refine F_goto X105 at_220 (by decide) (pc' := 224) (by decide) ?_
                      refine F_ireturn_boolean (z' := (1 : Int32)) X105 (by decide) at_224 rfl (by decide) (by decide) ?_
                      exact rfl
                  · refine F_iconst X94 at_200 (z := (1 : Int32)) (by decide) (pc' := 201) rfl ?_
                    refine F_goto X94 at_201 (by decide) (pc' := 205) (by decide) ?_
                    refine F_istore X94 at_205 (Ls' := #[.val (.long u1), .second, .val (.int u2), .val (.long u3), .second, .val (.int u4), .val (.long s1), .second, .val (.long s2), .second, .val (.long s3), .second, .val (.long s4), .second, .val (.int (4 : Int32)), .val (.long r3), .second, .val (.ref b4), .val (.int (1 : Int32))]) rfl (pc' := 207) rfl ?_
                    refine F_aload X94 at_207 rfl rfl (pc' := 209) rfl ?_
                    refine F_lload X94 at_209 rfl (pc' := 211) rfl ?_
                    refine F_callV X94 (y := (⟨"org/pulsewire/store/SeqRuns", "contains", "(J)Z"⟩ : MethodName)) (stk := []) (wd18 hw) (wd19 hw) (wd21 hw) (wd20 hw) (wd8 hw) (wd22 hw) (by decide) (a := b4) E94k_b4 (argsL := [(.long r3)]) (conC1 l Z a0 hw n0 h94 X94.size b4 r3 b5_fb s1 s4 F94_bounds_b4 F94_taken_b4 A94_b5_fb) (by decide) (W := 0) (Nat.le_of_ble_eq_true rfl) (by decide) (by decide) (by decide) rfl (lenOf pd2 rfl) rfl at_211 (pc' := 214) rfl fun T107 v107 h107 X107 q107 => ?_
                    obtain ⟨rfl, rfl⟩ := q107
                    replace X107 := X107.more (cells' := 2) (slots' := 18) (by decide) (by decide)
                    show Jvm.OwnKit.Ends p e below s n0 16 128 _ T107 (mkF m 214 #[.val (.long u1), .second, .val (.int u2), .val (.long u3), .second, .val (.int u4), .val (.long s1), .second, .val (.long s2), .second, .val (.long s3), .second, .val (.long s4), .second, .val (.int (4 : Int32)), .val (.long r3), .second, .val (.ref b4), .val (.int (1 : Int32))] [(.int (ct1 s1 s4 r3))])
                    refine F_iload X107 at_214 rfl (pc' := 216) rfl ?_
                    refine F_icmp_ne X107 at_216 (by decide) (pt := 223) (by decide) (pc' := 219) rfl (fun hc216_108 => ?_) (fun hc216_108 => ?_)
                    · refine F_iconst X107 at_223 (z := (0 : Int32)) (by decide) (pc' := 224) rfl ?_
                      refine F_ireturn_boolean (z' := (0 : Int32)) X107 (by decide) at_224 rfl (by decide) (by decide) ?_
                      exfalso; refine hc216_108 ?_; unfold ct1; simp only [Int64.lt_iff_toInt_lt, ← Int64.toInt_inj] at hq89 hq91 hq93 hc155_95 hc169_98 hc183_101 hc197_104 ⊢; repeat' split
                      all_goals first | rfl | (exfalso; omega)
                    · refine F_iconst X107 at_219 (z := (1 : Int32)) (by decide) (pc' := 220) rfl ?_
                      refine F_goto X107 at_220 (by decide) (pc' := 224) (by decide) ?_
                      refine F_ireturn_boolean (z' := (1 : Int32)) X107 (by decide) at_224 rfl (by decide) (by decide) ?_
                      exact rfl
          · refine F_callV X92 (y := (⟨"org/pulsewire/store/SeqRuns", "add", "(J)V"⟩ : MethodName)) (stk := []) (wd25 hw) (wd26 hw) (wd28 hw) (wd27 hw) (wd8 hw) (wd29 hw) (by decide) (a := b4) E92k_b4 (argsL := [(.long s4)]) (conN2 l Z a0 hw n0 h92 X92.size b4 s4 b5_fb s1 s3 E92k_b4 F92_bounds_b4 F92_taken_b4 A92_b5_fb ge4 ge_b5_fb ne_b4_b5_fb (by assumption)) (by decide) (W := 0) (Nat.le_of_ble_eq_true rfl) (by decide) (by decide) (by decide) rfl (lenOf pd3 rfl) rfl at_141 (pc' := 144) rfl fun T109 v109 h109 X109 q109 => ?_
            obtain ⟨rfl, Kp109, F109_bounds_b4, F109_taken_b4, A109_b5_fb⟩ := q109
            have E109k_b4 := E92k_b4.keep Kp109
            have E109k_b5_fb := E92k_b5_fb.keep Kp109
            replace X109 := X109.more (cells' := 2) (slots' := 18) (by decide) (by decide)
            show Jvm.OwnKit.Ends p e below s n0 16 128 _ T109 (mkF m 144 #[.val (.long u1), .second, .val (.int u2), .val (.long u3), .second, .val (.int u4), .val (.long s1), .second, .val (.long s2), .second, .val (.long s3), .second, .val (.long s4), .second, .val (.int (4 : Int32)), .val (.long r3), .second, .val (.ref b4), .unset] [])
            refine F_iload X109 at_144 rfl (pc' := 146) rfl ?_
            refine F_iconst X109 at_146 (z := (1 : Int32)) (by decide) (pc' := 147) rfl ?_
            refine F_icmp_lt X109 at_147 (by decide) (pt := 158) (by decide) (pc' := 150) rfl (fun q => absurd q (by decide)) (fun _ => ?_)
            refine F_lload X109 at_150 rfl (pc' := 152) rfl ?_
            refine F_lload X109 at_152 rfl (pc' := 154) rfl ?_
            refine F_lcmp X109 at_154 (pc' := 155) rfl ?_
            refine F_lif_eq X109 at_155 (by decide) (pt := 200) (by decide) (pc' := 158) rfl (fun hc155_110 => ?_) (fun hc155_110 => ?_)
            · refine F_iconst X109 at_200 (z := (1 : Int32)) (by decide) (pc' := 201) rfl ?_
              refine F_goto X109 at_201 (by decide) (pc' := 205) (by decide) ?_
              refine F_istore X109 at_205 (Ls' := #[.val (.long u1), .second, .val (.int u2), .val (.long u3), .second, .val (.int u4), .val (.long s1), .second, .val (.long s2), .second, .val (.long s3), .second, .val (.long s4), .second, .val (.int (4 : Int32)), .val (.long r3), .second, .val (.ref b4), .val (.int (1 : Int32))]) rfl (pc' := 207) rfl ?_
              refine F_aload X109 at_207 rfl rfl (pc' := 209) rfl ?_
              refine F_lload X109 at_209 rfl (pc' := 211) rfl ?_
              refine F_callV X109 (y := (⟨"org/pulsewire/store/SeqRuns", "contains", "(J)Z"⟩ : MethodName)) (stk := []) (wd18 hw) (wd19 hw) (wd21 hw) (wd20 hw) (wd8 hw) (wd22 hw) (by decide) (a := b4) E109k_b4 (argsL := [(.long r3)]) (conC2 l Z a0 hw n0 h109 X109.size b4 r3 b5_fb s1 s3 s4 s4 F109_bounds_b4 F109_taken_b4 A109_b5_fb) (by decide) (W := 0) (Nat.le_of_ble_eq_true rfl) (by decide) (by decide) (by decide) rfl (lenOf pd2 rfl) rfl at_211 (pc' := 214) rfl fun T111 v111 h111 X111 q111 => ?_
              obtain ⟨rfl, rfl⟩ := q111
              replace X111 := X111.more (cells' := 2) (slots' := 18) (by decide) (by decide)
              show Jvm.OwnKit.Ends p e below s n0 16 128 _ T111 (mkF m 214 #[.val (.long u1), .second, .val (.int u2), .val (.long u3), .second, .val (.int u4), .val (.long s1), .second, .val (.long s2), .second, .val (.long s3), .second, .val (.long s4), .second, .val (.int (4 : Int32)), .val (.long r3), .second, .val (.ref b4), .val (.int (1 : Int32))] [(.int (ct2 s1 s3 s4 s4 r3))])
              refine F_iload X111 at_214 rfl (pc' := 216) rfl ?_
              refine F_icmp_ne X111 at_216 (by decide) (pt := 223) (by decide) (pc' := 219) rfl (fun hc216_112 => ?_) (fun hc216_112 => ?_)
              · refine F_iconst X111 at_223 (z := (0 : Int32)) (by decide) (pc' := 224) rfl ?_
                refine F_ireturn_boolean (z' := (0 : Int32)) X111 (by decide) at_224 rfl (by decide) (by decide) ?_
                exfalso; refine hc216_112 ?_; unfold ct2; simp only [Int64.lt_iff_toInt_lt, ← Int64.toInt_inj] at hq89 hq91 hq93 hc155_110 ⊢; repeat' split
                all_goals first | rfl | (exfalso; omega)
              · refine F_iconst X111 at_219 (z := (1 : Int32)) (by decide) (pc' := 220) rfl ?_
                refine F_goto X111 at_220 (by decide) (pc' := 224) (by decide) ?_
                refine F_ireturn_boolean (z' := (1 : Int32)) X111 (by decide) at_224 rfl (by decide) (by decide) ?_
                exact rfl
            · refine F_iload X109 at_158 rfl (pc' := 160) rfl ?_
              refine F_iconst X109 at_160 (z := (2 : Int32)) (by decide) (pc' := 161) rfl ?_
              refine F_icmp_lt X109 at_161 (by decide) (pt := 172) (by decide) (pc' := 164) rfl (fun q => absurd q (by decide)) (fun _ => ?_)
              refine F_lload X109 at_164 rfl (pc' := 166) rfl ?_
              refine F_lload X109 at_166 rfl (pc' := 168) rfl ?_
              refine F_lcmp X109 at_168 (pc' := 169) rfl ?_
              refine F_lif_eq X109 at_169 (by decide) (pt := 200) (by decide) (pc' := 172) rfl (fun hc169_113 => ?_) (fun hc169_113 => ?_)
              · refine F_iconst X109 at_200 (z := (1 : Int32)) (by decide) (pc' := 201) rfl ?_
                refine F_goto X109 at_201 (by decide) (pc' := 205) (by decide) ?_
                refine F_istore X109 at_205 (Ls' := #[.val (.long u1), .second, .val (.int u2), .val (.long u3), .second, .val (.int u4), .val (.long s1), .second, .val (.long s2), .second, .val (.long s3), .second, .val (.long s4), .second, .val (.int (4 : Int32)), .val (.long r3), .second, .val (.ref b4), .val (.int (1 : Int32))]) rfl (pc' := 207) rfl ?_
                refine F_aload X109 at_207 rfl rfl (pc' := 209) rfl ?_
                refine F_lload X109 at_209 rfl (pc' := 211) rfl ?_
                refine F_callV X109 (y := (⟨"org/pulsewire/store/SeqRuns", "contains", "(J)Z"⟩ : MethodName)) (stk := []) (wd18 hw) (wd19 hw) (wd21 hw) (wd20 hw) (wd8 hw) (wd22 hw) (by decide) (a := b4) E109k_b4 (argsL := [(.long r3)]) (conC2 l Z a0 hw n0 h109 X109.size b4 r3 b5_fb s1 s3 s4 s4 F109_bounds_b4 F109_taken_b4 A109_b5_fb) (by decide) (W := 0) (Nat.le_of_ble_eq_true rfl) (by decide) (by decide) (by decide) rfl (lenOf pd2 rfl) rfl at_211 (pc' := 214) rfl fun T114 v114 h114 X114 q114 => ?_
                obtain ⟨rfl, rfl⟩ := q114
                replace X114 := X114.more (cells' := 2) (slots' := 18) (by decide) (by decide)
                show Jvm.OwnKit.Ends p e below s n0 16 128 _ T114 (mkF m 214 #[.val (.long u1), .second, .val (.int u2), .val (.long u3), .second, .val (.int u4), .val (.long s1), .second, .val (.long s2), .second, .val (.long s3), .second, .val (.long s4), .second, .val (.int (4 : Int32)), .val (.long r3), .second, .val (.ref b4), .val (.int (1 : Int32))] [(.int (ct2 s1 s3 s4 s4 r3))])
                refine F_iload X114 at_214 rfl (pc' := 216) rfl ?_
                refine F_icmp_ne X114 at_216 (by decide) (pt := 223) (by decide) (pc' := 219) rfl (fun hc216_115 => ?_) (fun hc216_115 => ?_)
                · refine F_iconst X114 at_223 (z := (0 : Int32)) (by decide) (pc' := 224) rfl ?_
                  refine F_ireturn_boolean (z' := (0 : Int32)) X114 (by decide) at_224 rfl (by decide) (by decide) ?_
                  exfalso; refine hc216_115 ?_; unfold ct2; simp only [Int64.lt_iff_toInt_lt, ← Int64.toInt_inj] at hq89 hq91 hq93 hc155_110 hc169_113 ⊢; repeat' split
                  all_goals first | rfl | (exfalso; omega)
                · refine F_iconst X114 at_219 (z := (1 : Int32)) (by decide) (pc' := 220) rfl ?_
                  refine F_goto X114 at_220 (by decide) (pc' := 224) (by decide) ?_
                  refine F_ireturn_boolean (z' := (1 : Int32)) X114 (by decide) at_224 rfl (by decide) (by decide) ?_
                  exact rfl
              · refine F_iload X109 at_172 rfl (pc' := 174) rfl ?_
                refine F_iconst X109 at_174 (z := (3 : Int32)) (by decide) (pc' := 175) rfl ?_
                refine F_icmp_lt X109 at_175 (by decide) (pt := 186) (by decide) (pc' := 178) rfl (fun q => absurd q (by decide)) (fun _ => ?_)
                refine F_lload X109 at_178 rfl (pc' := 180) rfl ?_
                refine F_lload X109 at_180 rfl (pc' := 182) rfl ?_
                refine F_lcmp X109 at_182 (pc' := 183) rfl ?_
                refine F_lif_eq X109 at_183 (by decide) (pt := 200) (by decide) (pc' := 186) rfl (fun hc183_116 => ?_) (fun hc183_116 => ?_)
                · refine F_iconst X109 at_200 (z := (1 : Int32)) (by decide) (pc' := 201) rfl ?_
                  refine F_goto X109 at_201 (by decide) (pc' := 205) (by decide) ?_
                  refine F_istore X109 at_205 (Ls' := #[.val (.long u1), .second, .val (.int u2), .val (.long u3), .second, .val (.int u4), .val (.long s1), .second, .val (.long s2), .second, .val (.long s3), .second, .val (.long s4), .second, .val (.int (4 : Int32)), .val (.long r3), .second, .val (.ref b4), .val (.int (1 : Int32))]) rfl (pc' := 207) rfl ?_
                  refine F_aload X109 at_207 rfl rfl (pc' := 209) rfl ?_
                  refine F_lload X109 at_209 rfl (pc' := 211) rfl ?_
                  refine F_callV X109 (y := (⟨"org/pulsewire/store/SeqRuns", "contains", "(J)Z"⟩ : MethodName)) (stk := []) (wd18 hw) (wd19 hw) (wd21 hw) (wd20 hw) (wd8 hw) (wd22 hw) (by decide) (a := b4) E109k_b4 (argsL := [(.long r3)]) (conC2 l Z a0 hw n0 h109 X109.size b4 r3 b5_fb s1 s3 s4 s4 F109_bounds_b4 F109_taken_b4 A109_b5_fb) (by decide) (W := 0) (Nat.le_of_ble_eq_true rfl) (by decide) (by decide) (by decide) rfl (lenOf pd2 rfl) rfl at_211 (pc' := 214) rfl fun T117 v117 h117 X117 q117 => ?_
                  obtain ⟨rfl, rfl⟩ := q117
                  replace X117 := X117.more (cells' := 2) (slots' := 18) (by decide) (by decide)
                  show Jvm.OwnKit.Ends p e below s n0 16 128 _ T117 (mkF m 214 #[.val (.long u1), .second, .val (.int u2), .val (.long u3), .second, .val (.int u4), .val (.long s1), .second, .val (.long s2), .second, .val (.long s3), .second, .val (.long s4), .second, .val (.int (4 : Int32)), .val (.long r3), .second, .val (.ref b4), .val (.int (1 : Int32))] [(.int (ct2 s1 s3 s4 s4 r3))])
                  refine F_iload X117 at_214 rfl (pc' := 216) rfl ?_
                  refine F_icmp_ne X117 at_216 (by decide) (pt := 223) (by decide) (pc' := 219) rfl (fun hc216_118 => ?_) (fun hc216_118 => ?_)
                  · refine F_iconst X117 at_223 (z := (0 : Int32)) (by decide) (pc' := 224) rfl ?_
                    refine F_ireturn_boolean (z' := (0 : Int32)) X117 (by decide) at_224 rfl (by decide) (by decide) ?_
                    exfalso; refine hc216_118 ?_; unfold ct2; simp only [Int64.lt_iff_toInt_lt, ← Int64.toInt_inj] at hq89 hq91 hq93 hc155_110 hc169_113 hc183_116 ⊢; repeat' split
                    all_goals first | rfl | (exfalso; omega)
                  · refine F_iconst X117 at_219 (z := (1 : Int32)) (by decide) (pc' := 220) rfl ?_
                    refine F_goto X117 at_220 (by decide) (pc' := 224) (by decide) ?_
                    refine F_ireturn_boolean (z' := (1 : Int32)) X117 (by decide) at_224 rfl (by decide) (by decide) ?_
                    exact rfl
                · refine F_iload X109 at_186 rfl (pc' := 188) rfl ?_
                  refine F_iconst X109 at_188 (z := (4 : Int32)) (by decide) (pc' := 189) rfl ?_
                  refine F_icmp_lt X109 at_189 (by decide) (pt := 204) (by decide) (pc' := 192) rfl (fun q => absurd q (by decide)) (fun _ => ?_)
                  refine F_lload X109 at_192 rfl (pc' := 194) rfl ?_
                  refine F_lload X109 at_194 rfl (pc' := 196) rfl ?_
                  refine F_lcmp X109 at_196 (pc' := 197) rfl ?_
                  refine F_lif_ne X109 at_197 (by decide) (pt := 204) (by decide) (pc' := 200) rfl (fun hc197_119 => ?_) (fun hc197_119 => ?_)
                  · refine F_iconst X109 at_204 (z := (0 : Int32)) (by decide) (pc' := 205) rfl ?_
                    refine F_istore X109 at_205 (Ls' := #[.val (.long u1), .second, .val (.int u2), .val (.long u3), .second, .val (.int u4), .val (.long s1), .second, .val (.long s2), .second, .val (.long s3), .second, .val (.long s4), .second, .val (.int (4 : Int32)), .val (.long r3), .second, .val (.ref b4), .val (.int (0 : Int32))]) rfl (pc' := 207) rfl ?_
                    refine F_aload X109 at_207 rfl rfl (pc' := 209) rfl ?_
                    refine F_lload X109 at_209 rfl (pc' := 211) rfl ?_
                    refine F_callV X109 (y := (⟨"org/pulsewire/store/SeqRuns", "contains", "(J)Z"⟩ : MethodName)) (stk := []) (wd18 hw) (wd19 hw) (wd21 hw) (wd20 hw) (wd8 hw) (wd22 hw) (by decide) (a := b4) E109k_b4 (argsL := [(.long r3)]) (conC2 l Z a0 hw n0 h109 X109.size b4 r3 b5_fb s1 s3 s4 s4 F109_bounds_b4 F109_taken_b4 A109_b5_fb) (by decide) (W := 0) (Nat.le_of_ble_eq_true rfl) (by decide) (by decide) (by decide) rfl (lenOf pd2 rfl) rfl at_211 (pc' := 214) rfl fun T120 v120 h120 X120 q120 => ?_
                    obtain ⟨rfl, rfl⟩ := q120
                    replace X120 := X120.more (cells' := 2) (slots' := 18) (by decide) (by decide)
                    show Jvm.OwnKit.Ends p e below s n0 16 128 _ T120 (mkF m 214 #[.val (.long u1), .second, .val (.int u2), .val (.long u3), .second, .val (.int u4), .val (.long s1), .second, .val (.long s2), .second, .val (.long s3), .second, .val (.long s4), .second, .val (.int (4 : Int32)), .val (.long r3), .second, .val (.ref b4), .val (.int (0 : Int32))] [(.int (ct2 s1 s3 s4 s4 r3))])
                    refine F_iload X120 at_214 rfl (pc' := 216) rfl ?_
                    refine F_icmp_ne X120 at_216 (by decide) (pt := 223) (by decide) (pc' := 219) rfl (fun hc216_121 => ?_) (fun hc216_121 => ?_)
                    · refine F_iconst X120 at_223 (z := (0 : Int32)) (by decide) (pc' := 224) rfl ?_
                      refine F_ireturn_boolean (z' := (0 : Int32)) X120 (by decide) at_224 rfl (by decide) (by decide) ?_
                      exfalso; refine hc216_121 ?_; unfold ct2; simp only [Int64.lt_iff_toInt_lt, ← Int64.toInt_inj] at hq89 hq91 hq93 hc155_110 hc169_113 hc183_116 hc197_119 ⊢; repeat' split
                      all_goals first | rfl | (exfalso; omega)
                    · refine F_iconst X120 at_219 (z := (1 : Int32)) (by decide) (pc' := 220) rfl ?_
                      refine F_goto X120 at_220 (by decide) (pc' := 224) (by decide) ?_
                      refine F_ireturn_boolean (z' := (1 : Int32)) X120 (by decide) at_224 rfl (by decide) (by decide) ?_
                      exact rfl
                  · refine F_iconst X109 at_200 (z := (1 : Int32)) (by decide) (pc' := 201) rfl ?_
                    refine F_goto X109 at_201 (by decide) (pc' := 205) (by decide) ?_
                    refine F_istore X109 at_205 (Ls' := #[.val (.long u1), .second, .val (.int u2), .val (.long u3), .second, .val (.int u4), .val (.long s1), .second, .val (.long s2), .second, .val (.long s3), .second, .val (.long s4), .second, .val (.int (4 : Int32)), .val (.long r3), .second, .val (.ref b4), .val (.int (1 : Int32))]) rfl (pc' := 207) rfl ?_
                    refine F_aload X109 at_207 rfl rfl (pc' := 209) rfl ?_
                    refine F_lload X109 at_209 rfl (pc' := 211) rfl ?_
                    refine F_callV X109 (y := (⟨"org/pulsewire/store/SeqRuns", "contains", "(J)Z"⟩ : MethodName)) (stk := []) (wd18 hw) (wd19 hw) (wd21 hw) (wd20 hw) (wd8 hw) (wd22 hw) (by decide) (a := b4) E109k_b4 (argsL := [(.long r3)]) (conC2 l Z a0 hw n0 h109 X109.size b4 r3 b5_fb s1 s3 s4 s4 F109_bounds_b4 F109_taken_b4 A109_b5_fb) (by decide) (W := 0) (Nat.le_of_ble_eq_true rfl) (by decide) (by decide) (by decide) rfl (lenOf pd2 rfl) rfl at_211 (pc' := 214) rfl fun T122 v122 h122 X122 q122 => ?_
                    obtain ⟨rfl, rfl⟩ := q122
                    replace X122 := X122.more (cells' := 2) (slots' := 18) (by decide) (by decide)
                    show Jvm.OwnKit.Ends p e below s n0 16 128 _ T122 (mkF m 214 #[.val (.long u1), .second, .val (.int u2), .val (.long u3), .second, .val (.int u4), .val (.long s1), .second, .val (.long s2), .second, .val (.long s3), .second, .val (.long s4), .second, .val (.int (4 : Int32)), .val (.long r3), .second, .val (.ref b4), .val (.int (1 : Int32))] [(.int (ct2 s1 s3 s4 s4 r3))])
                    refine F_iload X122 at_214 rfl (pc' := 216) rfl ?_
                    refine F_icmp_ne X122 at_216 (by decide) (pt := 223) (by decide) (pc' := 219) rfl (fun hc216_123 => ?_) (fun hc216_123 => ?_)
                    · refine F_iconst X122 at_223 (z := (0 : Int32)) (by decide) (pc' := 224) rfl ?_
                      refine F_ireturn_boolean (z' := (0 : Int32)) X122 (by decide) at_224 rfl (by decide) (by decide) ?_
                      exfalso; refine hc216_123 ?_; unfold ct2; simp only [Int64.lt_iff_toInt_lt, ← Int64.toInt_inj] at hq89 hq91 hq93 hc155_110 hc169_113 hc183_116 hc197_119 ⊢; repeat' split
                      all_goals first | rfl | (exfalso; omega)
                    · refine F_iconst X122 at_219 (z := (1 : Int32)) (by decide) (pc' := 220) rfl ?_
                      refine F_goto X122 at_220 (by decide) (pc' := 224) (by decide) ?_
                      refine F_ireturn_boolean (z' := (1 : Int32)) X122 (by decide) at_224 rfl (by decide) (by decide) ?_
                      exact rfl
        · refine F_callV X90 (y := (⟨"org/pulsewire/store/SeqRuns", "add", "(J)V"⟩ : MethodName)) (stk := []) (wd25 hw) (wd26 hw) (wd28 hw) (wd27 hw) (wd8 hw) (wd29 hw) (by decide) (a := b4) E90k_b4 (argsL := [(.long s3)]) (conN2 l Z a0 hw n0 h90 X90.size b4 s3 b5_fb s1 s2 E90k_b4 F90_bounds_b4 F90_taken_b4 A90_b5_fb ge4 ge_b5_fb ne_b4_b5_fb (by assumption)) (by decide) (W := 0) (Nat.le_of_ble_eq_true rfl) (by decide) (by decide) (by decide) rfl (lenOf pd3 rfl) rfl at_128 (pc' := 131) rfl fun T124 v124 h124 X124 q124 => ?_
          obtain ⟨rfl, Kp124, F124_bounds_b4, F124_taken_b4, A124_b5_fb⟩ := q124
          have E124k_b4 := E90k_b4.keep Kp124
          have E124k_b5_fb := E90k_b5_fb.keep Kp124
          replace X124 := X124.more (cells' := 2) (slots' := 18) (by decide) (by decide)
          show Jvm.OwnKit.Ends p e below s n0 16 128 _ T124 (mkF m 131 #[.val (.long u1), .second, .val (.int u2), .val (.long u3), .second, .val (.int u4), .val (.long s1), .second, .val (.long s2), .second, .val (.long s3), .second, .val (.long s4), .second, .val (.int (4 : Int32)), .val (.long r3), .second, .val (.ref b4), .unset] [])
          refine F_iload X124 at_131 rfl (pc' := 133) rfl ?_
          refine F_iconst X124 at_133 (z := (4 : Int32)) (by decide) (pc' := 134) rfl ?_
          refine F_icmp_lt X124 at_134 (by decide) (pt := 144) (by decide) (pc' := 137) rfl (fun q => absurd q (by decide)) (fun _ => ?_)
          refine F_aload X124 at_137 rfl rfl (pc' := 139) rfl ?_
          refine F_lload X124 at_139 rfl (pc' := 141) rfl ?_
          by_cases hq125 : s3 = (s4 - (1 : Int64))
          · refine F_callV X124 (y := (⟨"org/pulsewire/store/SeqRuns", "add", "(J)V"⟩ : MethodName)) (stk := []) (wd25 hw) (wd26 hw) (wd28 hw) (wd27 hw) (wd8 hw) (wd29 hw) (by decide) (a := b4) E124k_b4 (argsL := [(.long s4)]) (conX4 l Z a0 hw n0 h124 X124.size b4 s4 b5_fb s1 s2 s3 s3 E124k_b4 F124_bounds_b4 F124_taken_b4 A124_b5_fb ge4 ge_b5_fb ne_b4_b5_fb (by assumption)) (by decide) (W := 0) (Nat.le_of_ble_eq_true rfl) (by decide) (by decide) (by decide) rfl (lenOf pd3 rfl) rfl at_141 (pc' := 144) rfl fun T126 v126 h126 X126 q126 => ?_
            obtain ⟨rfl, Kp126, F126_bounds_b4, F126_taken_b4, A126_b5_fb⟩ := q126
            have E126k_b4 := E124k_b4.keep Kp126
            have E126k_b5_fb := E124k_b5_fb.keep Kp126
            replace X126 := X126.more (cells' := 2) (slots' := 18) (by decide) (by decide)
            show Jvm.OwnKit.Ends p e below s n0 16 128 _ T126 (mkF m 144 #[.val (.long u1), .second, .val (.int u2), .val (.long u3), .second, .val (.int u4), .val (.long s1), .second, .val (.long s2), .second, .val (.long s3), .second, .val (.long s4), .second, .val (.int (4 : Int32)), .val (.long r3), .second, .val (.ref b4), .unset] [])
            refine F_iload X126 at_144 rfl (pc' := 146) rfl ?_
            refine F_iconst X126 at_146 (z := (1 : Int32)) (by decide) (pc' := 147) rfl ?_
            refine F_icmp_lt X126 at_147 (by decide) (pt := 158) (by decide) (pc' := 150) rfl (fun q => absurd q (by decide)) (fun _ => ?_)
            refine F_lload X126 at_150 rfl (pc' := 152) rfl ?_
            refine F_lload X126 at_152 rfl (pc' := 154) rfl ?_
            refine F_lcmp X126 at_154 (pc' := 155) rfl ?_
            refine F_lif_eq X126 at_155 (by decide) (pt := 200) (by decide) (pc' := 158) rfl (fun hc155_127 => ?_) (fun hc155_127 => ?_)
            · refine F_iconst X126 at_200 (z := (1 : Int32)) (by decide) (pc' := 201) rfl ?_
              refine F_goto X126 at_201 (by decide) (pc' := 205) (by decide) ?_
              refine F_istore X126 at_205 (Ls' := #[.val (.long u1), .second, .val (.int u2), .val (.long u3), .second, .val (.int u4), .val (.long s1), .second, .val (.long s2), .second, .val (.long s3), .second, .val (.long s4), .second, .val (.int (4 : Int32)), .val (.long r3), .second, .val (.ref b4), .val (.int (1 : Int32))]) rfl (pc' := 207) rfl ?_
              refine F_aload X126 at_207 rfl rfl (pc' := 209) rfl ?_
              refine F_lload X126 at_209 rfl (pc' := 211) rfl ?_
              refine F_callV X126 (y := (⟨"org/pulsewire/store/SeqRuns", "contains", "(J)Z"⟩ : MethodName)) (stk := []) (wd18 hw) (wd19 hw) (wd21 hw) (wd20 hw) (wd8 hw) (wd22 hw) (by decide) (a := b4) E126k_b4 (argsL := [(.long r3)]) (conC2 l Z a0 hw n0 h126 X126.size b4 r3 b5_fb s1 s2 s3 s4 F126_bounds_b4 F126_taken_b4 A126_b5_fb) (by decide) (W := 0) (Nat.le_of_ble_eq_true rfl) (by decide) (by decide) (by decide) rfl (lenOf pd2 rfl) rfl at_211 (pc' := 214) rfl fun T128 v128 h128 X128 q128 => ?_
              obtain ⟨rfl, rfl⟩ := q128
              replace X128 := X128.more (cells' := 2) (slots' := 18) (by decide) (by decide)
              show Jvm.OwnKit.Ends p e below s n0 16 128 _ T128 (mkF m 214 #[.val (.long u1), .second, .val (.int u2), .val (.long u3), .second, .val (.int u4), .val (.long s1), .second, .val (.long s2), .second, .val (.long s3), .second, .val (.long s4), .second, .val (.int (4 : Int32)), .val (.long r3), .second, .val (.ref b4), .val (.int (1 : Int32))] [(.int (ct2 s1 s2 s3 s4 r3))])
              refine F_iload X128 at_214 rfl (pc' := 216) rfl ?_
              refine F_icmp_ne X128 at_216 (by decide) (pt := 223) (by decide) (pc' := 219) rfl (fun hc216_129 => ?_) (fun hc216_129 => ?_)
              · refine F_iconst X128 at_223 (z := (0 : Int32)) (by decide) (pc' := 224) rfl ?_
                refine F_ireturn_boolean (z' := (0 : Int32)) X128 (by decide) at_224 rfl (by decide) (by decide) ?_
                exfalso; refine hc216_129 ?_; unfold ct2; simp only [Int64.lt_iff_toInt_lt, ← Int64.toInt_inj] at hq89 hq91 hq125 hc155_127 ⊢; repeat' split
                all_goals first | rfl | (exfalso; omega)
              · refine F_iconst X128 at_219 (z := (1 : Int32)) (by decide) (pc' := 220) rfl ?_
                refine F_goto X128 at_220 (by decide) (pc' := 224) (by decide) ?_
                refine F_ireturn_boolean (z' := (1 : Int32)) X128 (by decide) at_224 rfl (by decide) (by decide) ?_
                exact rfl
            · refine F_iload X126 at_158 rfl (pc' := 160) rfl ?_
              refine F_iconst X126 at_160 (z := (2 : Int32)) (by decide) (pc' := 161) rfl ?_
              refine F_icmp_lt X126 at_161 (by decide) (pt := 172) (by decide) (pc' := 164) rfl (fun q => absurd q (by decide)) (fun _ => ?_)
              refine F_lload X126 at_164 rfl (pc' := 166) rfl ?_
              refine F_lload X126 at_166 rfl (pc' := 168) rfl ?_
              refine F_lcmp X126 at_168 (pc' := 169) rfl ?_
              refine F_lif_eq X126 at_169 (by decide) (pt := 200) (by decide) (pc' := 172) rfl (fun hc169_130 => ?_) (fun hc169_130 => ?_)
              · refine F_iconst X126 at_200 (z := (1 : Int32)) (by decide) (pc' := 201) rfl ?_
                refine F_goto X126 at_201 (by decide) (pc' := 205) (by decide) ?_
                refine F_istore X126 at_205 (Ls' := #[.val (.long u1), .second, .val (.int u2), .val (.long u3), .second, .val (.int u4), .val (.long s1), .second, .val (.long s2), .second, .val (.long s3), .second, .val (.long s4), .second, .val (.int (4 : Int32)), .val (.long r3), .second, .val (.ref b4), .val (.int (1 : Int32))]) rfl (pc' := 207) rfl ?_
                refine F_aload X126 at_207 rfl rfl (pc' := 209) rfl ?_
                refine F_lload X126 at_209 rfl (pc' := 211) rfl ?_
                refine F_callV X126 (y := (⟨"org/pulsewire/store/SeqRuns", "contains", "(J)Z"⟩ : MethodName)) (stk := []) (wd18 hw) (wd19 hw) (wd21 hw) (wd20 hw) (wd8 hw) (wd22 hw) (by decide) (a := b4) E126k_b4 (argsL := [(.long r3)]) (conC2 l Z a0 hw n0 h126 X126.size b4 r3 b5_fb s1 s2 s3 s4 F126_bounds_b4 F126_taken_b4 A126_b5_fb) (by decide) (W := 0) (Nat.le_of_ble_eq_true rfl) (by decide) (by decide) (by decide) rfl (lenOf pd2 rfl) rfl at_211 (pc' := 214) rfl fun T131 v131 h131 X131 q131 => ?_
                obtain ⟨rfl, rfl⟩ := q131
                replace X131 := X131.more (cells' := 2) (slots' := 18) (by decide) (by decide)
                show Jvm.OwnKit.Ends p e below s n0 16 128 _ T131 (mkF m 214 #[.val (.long u1), .second, .val (.int u2), .val (.long u3), .second, .val (.int u4), .val (.long s1), .second, .val (.long s2), .second, .val (.long s3), .second, .val (.long s4), .second, .val (.int (4 : Int32)), .val (.long r3), .second, .val (.ref b4), .val (.int (1 : Int32))] [(.int (ct2 s1 s2 s3 s4 r3))])
                refine F_iload X131 at_214 rfl (pc' := 216) rfl ?_
                refine F_icmp_ne X131 at_216 (by decide) (pt := 223) (by decide) (pc' := 219) rfl (fun hc216_132 => ?_) (fun hc216_132 => ?_)
                · refine F_iconst X131 at_223 (z := (0 : Int32)) (by decide) (pc' := 224) rfl ?_
                  refine F_ireturn_boolean (z' := (0 : Int32)) X131 (by decide) at_224 rfl (by decide) (by decide) ?_
                  exfalso; refine hc216_132 ?_; unfold ct2; simp only [Int64.lt_iff_toInt_lt, ← Int64.toInt_inj] at hq89 hq91 hq125 hc155_127 hc169_130 ⊢; repeat' split
                  all_goals first | rfl | (exfalso; omega)
                · refine F_iconst X131 at_219 (z := (1 : Int32)) (by decide) (pc' := 220) rfl ?_
                  refine F_goto X131 at_220 (by decide) (pc' := 224) (by decide) ?_
                  refine F_ireturn_boolean (z' := (1 : Int32)) X131 (by decide) at_224 rfl (by decide) (by decide) ?_
                  exact rfl
              · refine F_iload X126 at_172 rfl (pc' := 174) rfl ?_
                refine F_iconst X126 at_174 (z := (3 : Int32)) (by decide) (pc' := 175) rfl ?_
                refine F_icmp_lt X126 at_175 (by decide) (pt := 186) (by decide) (pc' := 178) rfl (fun q => absurd q (by decide)) (fun _ => ?_)
                refine F_lload X126 at_178 rfl (pc' := 180) rfl ?_
                refine F_lload X126 at_180 rfl (pc' := 182) rfl ?_
                refine F_lcmp X126 at_182 (pc' := 183) rfl ?_
                refine F_lif_eq X126 at_183 (by decide) (pt := 200) (by decide) (pc' := 186) rfl (fun hc183_133 => ?_) (fun hc183_133 => ?_)
                · refine F_iconst X126 at_200 (z := (1 : Int32)) (by decide) (pc' := 201) rfl ?_
                  refine F_goto X126 at_201 (by decide) (pc' := 205) (by decide) ?_
                  refine F_istore X126 at_205 (Ls' := #[.val (.long u1), .second, .val (.int u2), .val (.long u3), .second, .val (.int u4), .val (.long s1), .second, .val (.long s2), .second, .val (.long s3), .second, .val (.long s4), .second, .val (.int (4 : Int32)), .val (.long r3), .second, .val (.ref b4), .val (.int (1 : Int32))]) rfl (pc' := 207) rfl ?_
                  refine F_aload X126 at_207 rfl rfl (pc' := 209) rfl ?_
                  refine F_lload X126 at_209 rfl (pc' := 211) rfl ?_
                  refine F_callV X126 (y := (⟨"org/pulsewire/store/SeqRuns", "contains", "(J)Z"⟩ : MethodName)) (stk := []) (wd18 hw) (wd19 hw) (wd21 hw) (wd20 hw) (wd8 hw) (wd22 hw) (by decide) (a := b4) E126k_b4 (argsL := [(.long r3)]) (conC2 l Z a0 hw n0 h126 X126.size b4 r3 b5_fb s1 s2 s3 s4 F126_bounds_b4 F126_taken_b4 A126_b5_fb) (by decide) (W := 0) (Nat.le_of_ble_eq_true rfl) (by decide) (by decide) (by decide) rfl (lenOf pd2 rfl) rfl at_211 (pc' := 214) rfl fun T134 v134 h134 X134 q134 => ?_
                  obtain ⟨rfl, rfl⟩ := q134
                  replace X134 := X134.more (cells' := 2) (slots' := 18) (by decide) (by decide)
                  show Jvm.OwnKit.Ends p e below s n0 16 128 _ T134 (mkF m 214 #[.val (.long u1), .second, .val (.int u2), .val (.long u3), .second, .val (.int u4), .val (.long s1), .second, .val (.long s2), .second, .val (.long s3), .second, .val (.long s4), .second, .val (.int (4 : Int32)), .val (.long r3), .second, .val (.ref b4), .val (.int (1 : Int32))] [(.int (ct2 s1 s2 s3 s4 r3))])
                  refine F_iload X134 at_214 rfl (pc' := 216) rfl ?_
                  refine F_icmp_ne X134 at_216 (by decide) (pt := 223) (by decide) (pc' := 219) rfl (fun hc216_135 => ?_) (fun hc216_135 => ?_)
                  · refine F_iconst X134 at_223 (z := (0 : Int32)) (by decide) (pc' := 224) rfl ?_
                    refine F_ireturn_boolean (z' := (0 : Int32)) X134 (by decide) at_224 rfl (by decide) (by decide) ?_
                    exfalso; refine hc216_135 ?_; unfold ct2; simp only [Int64.lt_iff_toInt_lt, ← Int64.toInt_inj] at hq89 hq91 hq125 hc155_127 hc169_130 hc183_133 ⊢; repeat' split
                    all_goals first | rfl | (exfalso; omega)
                  · refine F_iconst X134 at_219 (z := (1 : Int32)) (by decide) (pc' := 220) rfl ?_
                    refine F_goto X134 at_220 (by decide) (pc' := 224) (by decide) ?_
                    refine F_ireturn_boolean (z' := (1 : Int32)) X134 (by decide) at_224 rfl (by decide) (by decide) ?_
                    exact rfl
                · refine F_iload X126 at_186 rfl (pc' := 188) rfl ?_
                  refine F_iconst X126 at_188 (z := (4 : Int32)) (by decide) (pc' := 189) rfl ?_
                  refine F_icmp_lt X126 at_189 (by decide) (pt := 204) (by decide) (pc' := 192) rfl (fun q => absurd q (by decide)) (fun _ => ?_)
                  refine F_lload X126 at_192 rfl (pc' := 194) rfl ?_
                  refine F_lload X126 at_194 rfl (pc' := 196) rfl ?_
                  refine F_lcmp X126 at_196 (pc' := 197) rfl ?_
                  refine F_lif_ne X126 at_197 (by decide) (pt := 204) (by decide) (pc' := 200) rfl (fun hc197_136 => ?_) (fun hc197_136 => ?_)
                  · refine F_iconst X126 at_204 (z := (0 : Int32)) (by decide) (pc' := 205) rfl ?_
                    refine F_istore X126 at_205 (Ls' := #[.val (.long u1), .second, .val (.int u2), .val (.long u3), .second, .val (.int u4), .val (.long s1), .second, .val (.long s2), .second, .val (.long s3), .second, .val (.long s4), .second, .val (.int (4 : Int32)), .val (.long r3), .second, .val (.ref b4), .val (.int (0 : Int32))]) rfl (pc' := 207) rfl ?_
                    refine F_aload X126 at_207 rfl rfl (pc' := 209) rfl ?_
                    refine F_lload X126 at_209 rfl (pc' := 211) rfl ?_
                    refine F_callV X126 (y := (⟨"org/pulsewire/store/SeqRuns", "contains", "(J)Z"⟩ : MethodName)) (stk := []) (wd18 hw) (wd19 hw) (wd21 hw) (wd20 hw) (wd8 hw) (wd22 hw) (by decide) (a := b4) E126k_b4 (argsL := [(.long r3)]) (conC2 l Z a0 hw n0 h126 X126.size b4 r3 b5_fb s1 s2 s3 s4 F126_bounds_b4 F126_taken_b4 A126_b5_fb) (by decide) (W := 0) (Nat.le_of_ble_eq_true rfl) (by decide) (by decide) (by decide) rfl (lenOf pd2 rfl) rfl at_211 (pc' := 214) rfl fun T137 v137 h137 X137 q137 => ?_
                    obtain ⟨rfl, rfl⟩ := q137
                    replace X137 := X137.more (cells' := 2) (slots' := 18) (by decide) (by decide)
                    show Jvm.OwnKit.Ends p e below s n0 16 128 _ T137 (mkF m 214 #[.val (.long u1), .second, .val (.int u2), .val (.long u3), .second, .val (.int u4), .val (.long s1), .second, .val (.long s2), .second, .val (.long s3), .second, .val (.long s4), .second, .val (.int (4 : Int32)), .val (.long r3), .second, .val (.ref b4), .val (.int (0 : Int32))] [(.int (ct2 s1 s2 s3 s4 r3))])
                    refine F_iload X137 at_214 rfl (pc' := 216) rfl ?_
                    refine F_icmp_ne X137 at_216 (by decide) (pt := 223) (by decide) (pc' := 219) rfl (fun hc216_138 => ?_) (fun hc216_138 => ?_)
                    · refine F_iconst X137 at_223 (z := (0 : Int32)) (by decide) (pc' := 224) rfl ?_
                      refine F_ireturn_boolean (z' := (0 : Int32)) X137 (by decide) at_224 rfl (by decide) (by decide) ?_
                      exfalso; refine hc216_138 ?_; unfold ct2; simp only [Int64.lt_iff_toInt_lt, ← Int64.toInt_inj] at hq89 hq91 hq125 hc155_127 hc169_130 hc183_133 hc197_136 ⊢; repeat' split
                      all_goals first | rfl | (exfalso; omega)
                    · refine F_iconst X137 at_219 (z := (1 : Int32)) (by decide) (pc' := 220) rfl ?_
                      refine F_goto X137 at_220 (by decide) (pc' := 224) (by decide) ?_
                      refine F_ireturn_boolean (z' := (1 : Int32)) X137 (by decide) at_224 rfl (by decide) (by decide) ?_
                      exact rfl
                  · refine F_iconst X126 at_200 (z := (1 : Int32)) (by decide) (pc' := 201) rfl ?_
                    refine F_goto X126 at_201 (by decide) (pc' := 205) (by decide) ?_
                    refine F_istore X126 at_205 (Ls' := #[.val (.long u1), .second, .val (.int u2), .val (.long u3), .second, .val (.int u4), .val (.long s1), .second, .val (.long s2), .second, .val (.long s3), .second, .val (.long s4), .second, .val (.int (4 : Int32)), .val (.long r3), .second, .val (.ref b4), .val (.int (1 : Int32))]) rfl (pc' := 207) rfl ?_
                    refine F_aload X126 at_207 rfl rfl (pc' := 209) rfl ?_
                    refine F_lload X126 at_209 rfl (pc' := 211) rfl ?_
                    refine F_callV X126 (y := (⟨"org/pulsewire/store/SeqRuns", "contains", "(J)Z"⟩ : MethodName)) (stk := []) (wd18 hw) (wd19 hw) (wd21 hw) (wd20 hw) (wd8 hw) (wd22 hw) (by decide) (a := b4) E126k_b4 (argsL := [(.long r3)]) (conC2 l Z a0 hw n0 h126 X126.size b4 r3 b5_fb s1 s2 s3 s4 F126_bounds_b4 F126_taken_b4 A126_b5_fb) (by decide) (W := 0) (Nat.le_of_ble_eq_true rfl) (by decide) (by decide) (by decide) rfl (lenOf pd2 rfl) rfl at_211 (pc' := 214) rfl fun T139 v139 h139 X139 q139 => ?_
                    obtain ⟨rfl, rfl⟩ := q139
                    replace X139 := X139.more (cells' := 2) (slots' := 18) (by decide) (by decide)
                    show Jvm.OwnKit.Ends p e below s n0 16 128 _ T139 (mkF m 214 #[.val (.long u1), .second, .val (.int u2), .val (.long u3), .second, .val (.int u4), .val (.long s1), .second, .val (.long s2), .second, .val (.long s3), .second, .val (.long s4), .second, .val (.int (4 : Int32)), .val (.long r3), .second, .val (.ref b4), .val (.int (1 : Int32))] [(.int (ct2 s1 s2 s3 s4 r3))])
                    refine F_iload X139 at_214 rfl (pc' := 216) rfl ?_
                    refine F_icmp_ne X139 at_216 (by decide) (pt := 223) (by decide) (pc' := 219) rfl (fun hc216_140 => ?_) (fun hc216_140 => ?_)
                    · refine F_iconst X139 at_223 (z := (0 : Int32)) (by decide) (pc' := 224) rfl ?_
                      refine F_ireturn_boolean (z' := (0 : Int32)) X139 (by decide) at_224 rfl (by decide) (by decide) ?_
                      exfalso; refine hc216_140 ?_; unfold ct2; simp only [Int64.lt_iff_toInt_lt, ← Int64.toInt_inj] at hq89 hq91 hq125 hc155_127 hc169_130 hc183_133 hc197_136 ⊢; repeat' split
                      all_goals first | rfl | (exfalso; omega)
                    · refine F_iconst X139 at_219 (z := (1 : Int32)) (by decide) (pc' := 220) rfl ?_
                      refine F_goto X139 at_220 (by decide) (pc' := 224) (by decide) ?_
                      refine F_ireturn_boolean (z' := (1 : Int32)) X139 (by decide) at_224 rfl (by decide) (by decide) ?_
                      exact rfl
          · refine F_callV X124 (y := (⟨"org/pulsewire/store/SeqRuns", "add", "(J)V"⟩ : MethodName)) (stk := []) (wd25 hw) (wd26 hw) (wd28 hw) (wd27 hw) (wd8 hw) (wd29 hw) (by decide) (a := b4) E124k_b4 (argsL := [(.long s4)]) (conN4 l Z a0 hw n0 h124 X124.size b4 s4 b5_fb s1 s2 s3 s3 E124k_b4 F124_bounds_b4 F124_taken_b4 A124_b5_fb ge4 ge_b5_fb ne_b4_b5_fb (by assumption)) (by decide) (W := 0) (Nat.le_of_ble_eq_true rfl) (by decide) (by decide) (by decide) rfl (lenOf pd3 rfl) rfl at_141 (pc' := 144) rfl fun T141 v141 h141 X141 q141 => ?_
            obtain ⟨rfl, Kp141, F141_bounds_b4, F141_taken_b4, A141_b5_fb⟩ := q141
            have E141k_b4 := E124k_b4.keep Kp141
            have E141k_b5_fb := E124k_b5_fb.keep Kp141
            replace X141 := X141.more (cells' := 2) (slots' := 18) (by decide) (by decide)
            show Jvm.OwnKit.Ends p e below s n0 16 128 _ T141 (mkF m 144 #[.val (.long u1), .second, .val (.int u2), .val (.long u3), .second, .val (.int u4), .val (.long s1), .second, .val (.long s2), .second, .val (.long s3), .second, .val (.long s4), .second, .val (.int (4 : Int32)), .val (.long r3), .second, .val (.ref b4), .unset] [])
            refine F_iload X141 at_144 rfl (pc' := 146) rfl ?_
            refine F_iconst X141 at_146 (z := (1 : Int32)) (by decide) (pc' := 147) rfl ?_
            refine F_icmp_lt X141 at_147 (by decide) (pt := 158) (by decide) (pc' := 150) rfl (fun q => absurd q (by decide)) (fun _ => ?_)
            refine F_lload X141 at_150 rfl (pc' := 152) rfl ?_
            refine F_lload X141 at_152 rfl (pc' := 154) rfl ?_
            refine F_lcmp X141 at_154 (pc' := 155) rfl ?_
            refine F_lif_eq X141 at_155 (by decide) (pt := 200) (by decide) (pc' := 158) rfl (fun hc155_142 => ?_) (fun hc155_142 => ?_)
            · refine F_iconst X141 at_200 (z := (1 : Int32)) (by decide) (pc' := 201) rfl ?_
              refine F_goto X141 at_201 (by decide) (pc' := 205) (by decide) ?_
              refine F_istore X141 at_205 (Ls' := #[.val (.long u1), .second, .val (.int u2), .val (.long u3), .second, .val (.int u4), .val (.long s1), .second, .val (.long s2), .second, .val (.long s3), .second, .val (.long s4), .second, .val (.int (4 : Int32)), .val (.long r3), .second, .val (.ref b4), .val (.int (1 : Int32))]) rfl (pc' := 207) rfl ?_
              refine F_aload X141 at_207 rfl rfl (pc' := 209) rfl ?_
              refine F_lload X141 at_209 rfl (pc' := 211) rfl ?_
              refine F_callV X141 (y := (⟨"org/pulsewire/store/SeqRuns", "contains", "(J)Z"⟩ : MethodName)) (stk := []) (wd18 hw) (wd19 hw) (wd21 hw) (wd20 hw) (wd8 hw) (wd22 hw) (by decide) (a := b4) E141k_b4 (argsL := [(.long r3)]) (conC3 l Z a0 hw n0 h141 X141.size b4 r3 b5_fb s1 s2 s3 s3 s4 s4 F141_bounds_b4 F141_taken_b4 A141_b5_fb) (by decide) (W := 0) (Nat.le_of_ble_eq_true rfl) (by decide) (by decide) (by decide) rfl (lenOf pd2 rfl) rfl at_211 (pc' := 214) rfl fun T143 v143 h143 X143 q143 => ?_
              obtain ⟨rfl, rfl⟩ := q143
              replace X143 := X143.more (cells' := 2) (slots' := 18) (by decide) (by decide)
              show Jvm.OwnKit.Ends p e below s n0 16 128 _ T143 (mkF m 214 #[.val (.long u1), .second, .val (.int u2), .val (.long u3), .second, .val (.int u4), .val (.long s1), .second, .val (.long s2), .second, .val (.long s3), .second, .val (.long s4), .second, .val (.int (4 : Int32)), .val (.long r3), .second, .val (.ref b4), .val (.int (1 : Int32))] [(.int (ct3 s1 s2 s3 s3 s4 s4 r3))])
              refine F_iload X143 at_214 rfl (pc' := 216) rfl ?_
              refine F_icmp_ne X143 at_216 (by decide) (pt := 223) (by decide) (pc' := 219) rfl (fun hc216_144 => ?_) (fun hc216_144 => ?_)
              · refine F_iconst X143 at_223 (z := (0 : Int32)) (by decide) (pc' := 224) rfl ?_
                refine F_ireturn_boolean (z' := (0 : Int32)) X143 (by decide) at_224 rfl (by decide) (by decide) ?_
                exfalso; refine hc216_144 ?_; unfold ct3; simp only [Int64.lt_iff_toInt_lt, ← Int64.toInt_inj] at hq89 hq91 hq125 hc155_142 ⊢; repeat' split
                all_goals first | rfl | (exfalso; omega)
              · refine F_iconst X143 at_219 (z := (1 : Int32)) (by decide) (pc' := 220) rfl ?_
                refine F_goto X143 at_220 (by decide) (pc' := 224) (by decide) ?_
                refine F_ireturn_boolean (z' := (1 : Int32)) X143 (by decide) at_224 rfl (by decide) (by decide) ?_
                exact rfl
            · refine F_iload X141 at_158 rfl (pc' := 160) rfl ?_
              refine F_iconst X141 at_160 (z := (2 : Int32)) (by decide) (pc' := 161) rfl ?_
              refine F_icmp_lt X141 at_161 (by decide) (pt := 172) (by decide) (pc' := 164) rfl (fun q => absurd q (by decide)) (fun _ => ?_)
              refine F_lload X141 at_164 rfl (pc' := 166) rfl ?_
              refine F_lload X141 at_166 rfl (pc' := 168) rfl ?_
              refine F_lcmp X141 at_168 (pc' := 169) rfl ?_
              refine F_lif_eq X141 at_169 (by decide) (pt := 200) (by decide) (pc' := 172) rfl (fun hc169_145 => ?_) (fun hc169_145 => ?_)
              · refine F_iconst X141 at_200 (z := (1 : Int32)) (by decide) (pc' := 201) rfl ?_
                refine F_goto X141 at_201 (by decide) (pc' := 205) (by decide) ?_
                refine F_istore X141 at_205 (Ls' := #[.val (.long u1), .second, .val (.int u2), .val (.long u3), .second, .val (.int u4), .val (.long s1), .second, .val (.long s2), .second, .val (.long s3), .second, .val (.long s4), .second, .val (.int (4 : Int32)), .val (.long r3), .second, .val (.ref b4), .val (.int (1 : Int32))]) rfl (pc' := 207) rfl ?_
                refine F_aload X141 at_207 rfl rfl (pc' := 209) rfl ?_
                refine F_lload X141 at_209 rfl (pc' := 211) rfl ?_
                refine F_callV X141 (y := (⟨"org/pulsewire/store/SeqRuns", "contains", "(J)Z"⟩ : MethodName)) (stk := []) (wd18 hw) (wd19 hw) (wd21 hw) (wd20 hw) (wd8 hw) (wd22 hw) (by decide) (a := b4) E141k_b4 (argsL := [(.long r3)]) (conC3 l Z a0 hw n0 h141 X141.size b4 r3 b5_fb s1 s2 s3 s3 s4 s4 F141_bounds_b4 F141_taken_b4 A141_b5_fb) (by decide) (W := 0) (Nat.le_of_ble_eq_true rfl) (by decide) (by decide) (by decide) rfl (lenOf pd2 rfl) rfl at_211 (pc' := 214) rfl fun T146 v146 h146 X146 q146 => ?_
                obtain ⟨rfl, rfl⟩ := q146
                replace X146 := X146.more (cells' := 2) (slots' := 18) (by decide) (by decide)
                show Jvm.OwnKit.Ends p e below s n0 16 128 _ T146 (mkF m 214 #[.val (.long u1), .second, .val (.int u2), .val (.long u3), .second, .val (.int u4), .val (.long s1), .second, .val (.long s2), .second, .val (.long s3), .second, .val (.long s4), .second, .val (.int (4 : Int32)), .val (.long r3), .second, .val (.ref b4), .val (.int (1 : Int32))] [(.int (ct3 s1 s2 s3 s3 s4 s4 r3))])
                refine F_iload X146 at_214 rfl (pc' := 216) rfl ?_
                refine F_icmp_ne X146 at_216 (by decide) (pt := 223) (by decide) (pc' := 219) rfl (fun hc216_147 => ?_) (fun hc216_147 => ?_)
                · refine F_iconst X146 at_223 (z := (0 : Int32)) (by decide) (pc' := 224) rfl ?_
                  refine F_ireturn_boolean (z' := (0 : Int32)) X146 (by decide) at_224 rfl (by decide) (by decide) ?_
                  exfalso; refine hc216_147 ?_; unfold ct3; simp only [Int64.lt_iff_toInt_lt, ← Int64.toInt_inj] at hq89 hq91 hq125 hc155_142 hc169_145 ⊢; repeat' split
                  all_goals first | rfl | (exfalso; omega)
                · refine F_iconst X146 at_219 (z := (1 : Int32)) (by decide) (pc' := 220) rfl ?_
                  refine F_goto X146 at_220 (by decide) (pc' := 224) (by decide) ?_
                  refine F_ireturn_boolean (z' := (1 : Int32)) X146 (by decide) at_224 rfl (by decide) (by decide) ?_
                  exact rfl
              · refine F_iload X141 at_172 rfl (pc' := 174) rfl ?_
                refine F_iconst X141 at_174 (z := (3 : Int32)) (by decide) (pc' := 175) rfl ?_
                refine F_icmp_lt X141 at_175 (by decide) (pt := 186) (by decide) (pc' := 178) rfl (fun q => absurd q (by decide)) (fun _ => ?_)
                refine F_lload X141 at_178 rfl (pc' := 180) rfl ?_
                refine F_lload X141 at_180 rfl (pc' := 182) rfl ?_
                refine F_lcmp X141 at_182 (pc' := 183) rfl ?_
                refine F_lif_eq X141 at_183 (by decide) (pt := 200) (by decide) (pc' := 186) rfl (fun hc183_148 => ?_) (fun hc183_148 => ?_)
                · refine F_iconst X141 at_200 (z := (1 : Int32)) (by decide) (pc' := 201) rfl ?_
                  refine F_goto X141 at_201 (by decide) (pc' := 205) (by decide) ?_
                  refine F_istore X141 at_205 (Ls' := #[.val (.long u1), .second, .val (.int u2), .val (.long u3), .second, .val (.int u4), .val (.long s1), .second, .val (.long s2), .second, .val (.long s3), .second, .val (.long s4), .second, .val (.int (4 : Int32)), .val (.long r3), .second, .val (.ref b4), .val (.int (1 : Int32))]) rfl (pc' := 207) rfl ?_
                  refine F_aload X141 at_207 rfl rfl (pc' := 209) rfl ?_
                  refine F_lload X141 at_209 rfl (pc' := 211) rfl ?_
                  refine F_callV X141 (y := (⟨"org/pulsewire/store/SeqRuns", "contains", "(J)Z"⟩ : MethodName)) (stk := []) (wd18 hw) (wd19 hw) (wd21 hw) (wd20 hw) (wd8 hw) (wd22 hw) (by decide) (a := b4) E141k_b4 (argsL := [(.long r3)]) (conC3 l Z a0 hw n0 h141 X141.size b4 r3 b5_fb s1 s2 s3 s3 s4 s4 F141_bounds_b4 F141_taken_b4 A141_b5_fb) (by decide) (W := 0) (Nat.le_of_ble_eq_true rfl) (by decide) (by decide) (by decide) rfl (lenOf pd2 rfl) rfl at_211 (pc' := 214) rfl fun T149 v149 h149 X149 q149 => ?_
                  obtain ⟨rfl, rfl⟩ := q149
                  replace X149 := X149.more (cells' := 2) (slots' := 18) (by decide) (by decide)
                  show Jvm.OwnKit.Ends p e below s n0 16 128 _ T149 (mkF m 214 #[.val (.long u1), .second, .val (.int u2), .val (.long u3), .second, .val (.int u4), .val (.long s1), .second, .val (.long s2), .second, .val (.long s3), .second, .val (.long s4), .second, .val (.int (4 : Int32)), .val (.long r3), .second, .val (.ref b4), .val (.int (1 : Int32))] [(.int (ct3 s1 s2 s3 s3 s4 s4 r3))])
                  refine F_iload X149 at_214 rfl (pc' := 216) rfl ?_
                  refine F_icmp_ne X149 at_216 (by decide) (pt := 223) (by decide) (pc' := 219) rfl (fun hc216_150 => ?_) (fun hc216_150 => ?_)
                  · refine F_iconst X149 at_223 (z := (0 : Int32)) (by decide) (pc' := 224) rfl ?_
                    refine F_ireturn_boolean (z' := (0 : Int32)) X149 (by decide) at_224 rfl (by decide) (by decide) ?_
                    exfalso; refine hc216_150 ?_; unfold ct3; simp only [Int64.lt_iff_toInt_lt, ← Int64.toInt_inj] at hq89 hq91 hq125 hc155_142 hc169_145 hc183_148 ⊢; repeat' split
                    all_goals first | rfl | (exfalso; omega)
                  · refine F_iconst X149 at_219 (z := (1 : Int32)) (by decide) (pc' := 220) rfl ?_
                    refine F_goto X149 at_220 (by decide) (pc' := 224) (by decide) ?_
                    refine F_ireturn_boolean (z' := (1 : Int32)) X149 (by decide) at_224 rfl (by decide) (by decide) ?_
                    exact rfl
                · refine F_iload X141 at_186 rfl (pc' := 188) rfl ?_
                  refine F_iconst X141 at_188 (z := (4 : Int32)) (by decide) (pc' := 189) rfl ?_
                  refine F_icmp_lt X141 at_189 (by decide) (pt := 204) (by decide) (pc' := 192) rfl (fun q => absurd q (by decide)) (fun _ => ?_)
                  refine F_lload X141 at_192 rfl (pc' := 194) rfl ?_
                  refine F_lload X141 at_194 rfl (pc' := 196) rfl ?_
                  refine F_lcmp X141 at_196 (pc' := 197) rfl ?_
                  refine F_lif_ne X141 at_197 (by decide) (pt := 204) (by decide) (pc' := 200) rfl (fun hc197_151 => ?_) (fun hc197_151 => ?_)
                  · refine F_iconst X141 at_204 (z := (0 : Int32)) (by decide) (pc' := 205) rfl ?_
                    refine F_istore X141 at_205 (Ls' := #[.val (.long u1), .second, .val (.int u2), .val (.long u3), .second, .val (.int u4), .val (.long s1), .second, .val (.long s2), .second, .val (.long s3), .second, .val (.long s4), .second, .val (.int (4 : Int32)), .val (.long r3), .second, .val (.ref b4), .val (.int (0 : Int32))]) rfl (pc' := 207) rfl ?_
                    refine F_aload X141 at_207 rfl rfl (pc' := 209) rfl ?_
                    refine F_lload X141 at_209 rfl (pc' := 211) rfl ?_
                    refine F_callV X141 (y := (⟨"org/pulsewire/store/SeqRuns", "contains", "(J)Z"⟩ : MethodName)) (stk := []) (wd18 hw) (wd19 hw) (wd21 hw) (wd20 hw) (wd8 hw) (wd22 hw) (by decide) (a := b4) E141k_b4 (argsL := [(.long r3)]) (conC3 l Z a0 hw n0 h141 X141.size b4 r3 b5_fb s1 s2 s3 s3 s4 s4 F141_bounds_b4 F141_taken_b4 A141_b5_fb) (by decide) (W := 0) (Nat.le_of_ble_eq_true rfl) (by decide) (by decide) (by decide) rfl (lenOf pd2 rfl) rfl at_211 (pc' := 214) rfl fun T152 v152 h152 X152 q152 => ?_
                    obtain ⟨rfl, rfl⟩ := q152
                    replace X152 := X152.more (cells' := 2) (slots' := 18) (by decide) (by decide)
                    show Jvm.OwnKit.Ends p e below s n0 16 128 _ T152 (mkF m 214 #[.val (.long u1), .second, .val (.int u2), .val (.long u3), .second, .val (.int u4), .val (.long s1), .second, .val (.long s2), .second, .val (.long s3), .second, .val (.long s4), .second, .val (.int (4 : Int32)), .val (.long r3), .second, .val (.ref b4), .val (.int (0 : Int32))] [(.int (ct3 s1 s2 s3 s3 s4 s4 r3))])
                    refine F_iload X152 at_214 rfl (pc' := 216) rfl ?_
                    refine F_icmp_ne X152 at_216 (by decide) (pt := 223) (by decide) (pc' := 219) rfl (fun hc216_153 => ?_) (fun hc216_153 => ?_)
                    · refine F_iconst X152 at_223 (z := (0 : Int32)) (by decide) (pc' := 224) rfl ?_
                      refine F_ireturn_boolean (z' := (0 : Int32)) X152 (by decide) at_224 rfl (by decide) (by decide) ?_
                      exfalso; refine hc216_153 ?_; unfold ct3; simp only [Int64.lt_iff_toInt_lt, ← Int64.toInt_inj] at hq89 hq91 hq125 hc155_142 hc169_145 hc183_148 hc197_151 ⊢; repeat' split
                      all_goals first | rfl | (exfalso; omega)
                    · refine F_iconst X152 at_219 (z := (1 : Int32)) (by decide) (pc' := 220) rfl ?_
                      refine F_goto X152 at_220 (by decide) (pc' := 224) (by decide) ?_
                      refine F_ireturn_boolean (z' := (1 : Int32)) X152 (by decide) at_224 rfl (by decide) (by decide) ?_
                      exact rfl
                  · refine F_iconst X141 at_200 (z := (1 : Int32)) (by decide) (pc' := 201) rfl ?_
                    refine F_goto X141 at_201 (by decide) (pc' := 205) (by decide) ?_
                    refine F_istore X141 at_205 (Ls' := #[.val (.long u1), .second, .val (.int u2), .val (.long u3), .second, .val (.int u4), .val (.long s1), .second, .val (.long s2), .second, .val (.long s3), .second, .val (.long s4), .second, .val (.int (4 : Int32)), .val (.long r3), .second, .val (.ref b4), .val (.int (1 : Int32))]) rfl (pc' := 207) rfl ?_
                    refine F_aload X141 at_207 rfl rfl (pc' := 209) rfl ?_
                    refine F_lload X141 at_209 rfl (pc' := 211) rfl ?_
                    refine F_callV X141 (y := (⟨"org/pulsewire/store/SeqRuns", "contains", "(J)Z"⟩ : MethodName)) (stk := []) (wd18 hw) (wd19 hw) (wd21 hw) (wd20 hw) (wd8 hw) (wd22 hw) (by decide) (a := b4) E141k_b4 (argsL := [(.long r3)]) (conC3 l Z a0 hw n0 h141 X141.size b4 r3 b5_fb s1 s2 s3 s3 s4 s4 F141_bounds_b4 F141_taken_b4 A141_b5_fb) (by decide) (W := 0) (Nat.le_of_ble_eq_true rfl) (by decide) (by decide) (by decide) rfl (lenOf pd2 rfl) rfl at_211 (pc' := 214) rfl fun T154 v154 h154 X154 q154 => ?_
                    obtain ⟨rfl, rfl⟩ := q154
                    replace X154 := X154.more (cells' := 2) (slots' := 18) (by decide) (by decide)
                    show Jvm.OwnKit.Ends p e below s n0 16 128 _ T154 (mkF m 214 #[.val (.long u1), .second, .val (.int u2), .val (.long u3), .second, .val (.int u4), .val (.long s1), .second, .val (.long s2), .second, .val (.long s3), .second, .val (.long s4), .second, .val (.int (4 : Int32)), .val (.long r3), .second, .val (.ref b4), .val (.int (1 : Int32))] [(.int (ct3 s1 s2 s3 s3 s4 s4 r3))])
                    refine F_iload X154 at_214 rfl (pc' := 216) rfl ?_
                    refine F_icmp_ne X154 at_216 (by decide) (pt := 223) (by decide) (pc' := 219) rfl (fun hc216_155 => ?_) (fun hc216_155 => ?_)
                    · refine F_iconst X154 at_223 (z := (0 : Int32)) (by decide) (pc' := 224) rfl ?_
                      refine F_ireturn_boolean (z' := (0 : Int32)) X154 (by decide) at_224 rfl (by decide) (by decide) ?_
                      exfalso; refine hc216_155 ?_; unfold ct3; simp only [Int64.lt_iff_toInt_lt, ← Int64.toInt_inj] at hq89 hq91 hq125 hc155_142 hc169_145 hc183_148 hc197_151 ⊢; repeat' split
                      all_goals first | rfl | (exfalso; omega)
                    · refine F_iconst X154 at_219 (z := (1 : Int32)) (by decide) (pc' := 220) rfl ?_
                      refine F_goto X154 at_220 (by decide) (pc' := 224) (by decide) ?_
                      refine F_ireturn_boolean (z' := (1 : Int32)) X154 (by decide) at_224 rfl (by decide) (by decide) ?_
                      exact rfl
      · refine F_callV X88 (y := (⟨"org/pulsewire/store/SeqRuns", "add", "(J)V"⟩ : MethodName)) (stk := []) (wd25 hw) (wd26 hw) (wd28 hw) (wd27 hw) (wd8 hw) (wd29 hw) (by decide) (a := b4) E88k_b4 (argsL := [(.long s2)]) (conN2 l Z a0 hw n0 h88 X88.size b4 s2 b5_fb s1 s1 E88k_b4 F88_bounds_b4 F88_taken_b4 A88_b5_fb ge4 ge_b5_fb ne_b4_b5_fb (by assumption)) (by decide) (W := 0) (Nat.le_of_ble_eq_true rfl) (by decide) (by decide) (by decide) rfl (lenOf pd3 rfl) rfl at_115 (pc' := 118) rfl fun T156 v156 h156 X156 q156 => ?_
        obtain ⟨rfl, Kp156, F156_bounds_b4, F156_taken_b4, A156_b5_fb⟩ := q156
        have E156k_b4 := E88k_b4.keep Kp156
        have E156k_b5_fb := E88k_b5_fb.keep Kp156
        replace X156 := X156.more (cells' := 2) (slots' := 18) (by decide) (by decide)
        show Jvm.OwnKit.Ends p e below s n0 16 128 _ T156 (mkF m 118 #[.val (.long u1), .second, .val (.int u2), .val (.long u3), .second, .val (.int u4), .val (.long s1), .second, .val (.long s2), .second, .val (.long s3), .second, .val (.long s4), .second, .val (.int (4 : Int32)), .val (.long r3), .second, .val (.ref b4), .unset] [])
        refine F_iload X156 at_118 rfl (pc' := 120) rfl ?_
        refine F_iconst X156 at_120 (z := (3 : Int32)) (by decide) (pc' := 121) rfl ?_
        refine F_icmp_lt X156 at_121 (by decide) (pt := 131) (by decide) (pc' := 124) rfl (fun q => absurd q (by decide)) (fun _ => ?_)
        refine F_aload X156 at_124 rfl rfl (pc' := 126) rfl ?_
        refine F_lload X156 at_126 rfl (pc' := 128) rfl ?_
        by_cases hq157 : s2 = (s3 - (1 : Int64))
        · refine F_callV X156 (y := (⟨"org/pulsewire/store/SeqRuns", "add", "(J)V"⟩ : MethodName)) (stk := []) (wd25 hw) (wd26 hw) (wd28 hw) (wd27 hw) (wd8 hw) (wd29 hw) (by decide) (a := b4) E156k_b4 (argsL := [(.long s3)]) (conX4 l Z a0 hw n0 h156 X156.size b4 s3 b5_fb s1 s1 s2 s2 E156k_b4 F156_bounds_b4 F156_taken_b4 A156_b5_fb ge4 ge_b5_fb ne_b4_b5_fb (by assumption)) (by decide) (W := 0) (Nat.le_of_ble_eq_true rfl) (by decide) (by decide) (by decide) rfl (lenOf pd3 rfl) rfl at_128 (pc' := 131) rfl fun T158 v158 h158 X158 q158 => ?_
          obtain ⟨rfl, Kp158, F158_bounds_b4, F158_taken_b4, A158_b5_fb⟩ := q158
          have E158k_b4 := E156k_b4.keep Kp158
          have E158k_b5_fb := E156k_b5_fb.keep Kp158
          replace X158 := X158.more (cells' := 2) (slots' := 18) (by decide) (by decide)
          show Jvm.OwnKit.Ends p e below s n0 16 128 _ T158 (mkF m 131 #[.val (.long u1), .second, .val (.int u2), .val (.long u3), .second, .val (.int u4), .val (.long s1), .second, .val (.long s2), .second, .val (.long s3), .second, .val (.long s4), .second, .val (.int (4 : Int32)), .val (.long r3), .second, .val (.ref b4), .unset] [])
          refine F_iload X158 at_131 rfl (pc' := 133) rfl ?_
          refine F_iconst X158 at_133 (z := (4 : Int32)) (by decide) (pc' := 134) rfl ?_
          refine F_icmp_lt X158 at_134 (by decide) (pt := 144) (by decide) (pc' := 137) rfl (fun q => absurd q (by decide)) (fun _ => ?_)
          refine F_aload X158 at_137 rfl rfl (pc' := 139) rfl ?_
          refine F_lload X158 at_139 rfl (pc' := 141) rfl ?_
          by_cases hq159 : s3 = (s4 - (1 : Int64))
          · refine F_callV X158 (y := (⟨"org/pulsewire/store/SeqRuns", "add", "(J)V"⟩ : MethodName)) (stk := []) (wd25 hw) (wd26 hw) (wd28 hw) (wd27 hw) (wd8 hw) (wd29 hw) (by decide) (a := b4) E158k_b4 (argsL := [(.long s4)]) (conX4 l Z a0 hw n0 h158 X158.size b4 s4 b5_fb s1 s1 s2 s3 E158k_b4 F158_bounds_b4 F158_taken_b4 A158_b5_fb ge4 ge_b5_fb ne_b4_b5_fb (by assumption)) (by decide) (W := 0) (Nat.le_of_ble_eq_true rfl) (by decide) (by decide) (by decide) rfl (lenOf pd3 rfl) rfl at_141 (pc' := 144) rfl fun T160 v160 h160 X160 q160 => ?_
            obtain ⟨rfl, Kp160, F160_bounds_b4, F160_taken_b4, A160_b5_fb⟩ := q160
            have E160k_b4 := E158k_b4.keep Kp160
            have E160k_b5_fb := E158k_b5_fb.keep Kp160
            replace X160 := X160.more (cells' := 2) (slots' := 18) (by decide) (by decide)
            show Jvm.OwnKit.Ends p e below s n0 16 128 _ T160 (mkF m 144 #[.val (.long u1), .second, .val (.int u2), .val (.long u3), .second, .val (.int u4), .val (.long s1), .second, .val (.long s2), .second, .val (.long s3), .second, .val (.long s4), .second, .val (.int (4 : Int32)), .val (.long r3), .second, .val (.ref b4), .unset] [])
            refine F_iload X160 at_144 rfl (pc' := 146) rfl ?_
            refine F_iconst X160 at_146 (z := (1 : Int32)) (by decide) (pc' := 147) rfl ?_
            refine F_icmp_lt X160 at_147 (by decide) (pt := 158) (by decide) (pc' := 150) rfl (fun q => absurd q (by decide)) (fun _ => ?_)
            refine F_lload X160 at_150 rfl (pc' := 152) rfl ?_
            refine F_lload X160 at_152 rfl (pc' := 154) rfl ?_
            refine F_lcmp X160 at_154 (pc' := 155) rfl ?_
            refine F_lif_eq X160 at_155 (by decide) (pt := 200) (by decide) (pc' := 158) rfl (fun hc155_161 => ?_) (fun hc155_161 => ?_)
            · refine F_iconst X160 at_200 (z := (1 : Int32)) (by decide) (pc' := 201) rfl ?_
              refine F_goto X160 at_201 (by decide) (pc' := 205) (by decide) ?_
              refine F_istore X160 at_205 (Ls' := #[.val (.long u1), .second, .val (.int u2), .val (.long u3), .second, .val (.int u4), .val (.long s1), .second, .val (.long s2), .second, .val (.long s3), .second, .val (.long s4), .second, .val (.int (4 : Int32)), .val (.long r3), .second, .val (.ref b4), .val (.int (1 : Int32))]) rfl (pc' := 207) rfl ?_
              refine F_aload X160 at_207 rfl rfl (pc' := 209) rfl ?_
              refine F_lload X160 at_209 rfl (pc' := 211) rfl ?_
              refine F_callV X160 (y := (⟨"org/pulsewire/store/SeqRuns", "contains", "(J)Z"⟩ : MethodName)) (stk := []) (wd18 hw) (wd19 hw) (wd21 hw) (wd20 hw) (wd8 hw) (wd22 hw) (by decide) (a := b4) E160k_b4 (argsL := [(.long r3)]) (conC2 l Z a0 hw n0 h160 X160.size b4 r3 b5_fb s1 s1 s2 s4 F160_bounds_b4 F160_taken_b4 A160_b5_fb) (by decide) (W := 0) (Nat.le_of_ble_eq_true rfl) (by decide) (by decide) (by decide) rfl (lenOf pd2 rfl) rfl at_211 (pc' := 214) rfl fun T162 v162 h162 X162 q162 => ?_
              obtain ⟨rfl, rfl⟩ := q162
              replace X162 := X162.more (cells' := 2) (slots' := 18) (by decide) (by decide)
              show Jvm.OwnKit.Ends p e below s n0 16 128 _ T162 (mkF m 214 #[.val (.long u1), .second, .val (.int u2), .val (.long u3), .second, .val (.int u4), .val (.long s1), .second, .val (.long s2), .second, .val (.long s3), .second, .val (.long s4), .second, .val (.int (4 : Int32)), .val (.long r3), .second, .val (.ref b4), .val (.int (1 : Int32))] [(.int (ct2 s1 s1 s2 s4 r3))])
              refine F_iload X162 at_214 rfl (pc' := 216) rfl ?_
              refine F_icmp_ne X162 at_216 (by decide) (pt := 223) (by decide) (pc' := 219) rfl (fun hc216_163 => ?_) (fun hc216_163 => ?_)
              · refine F_iconst X162 at_223 (z := (0 : Int32)) (by decide) (pc' := 224) rfl ?_
                refine F_ireturn_boolean (z' := (0 : Int32)) X162 (by decide) at_224 rfl (by decide) (by decide) ?_
                exfalso; refine hc216_163 ?_; unfold ct2; simp only [Int64.lt_iff_toInt_lt, ← Int64.toInt_inj] at hq89 hq157 hq159 hc155_161 ⊢; repeat' split
                all_goals first | rfl | (exfalso; omega)
              · refine F_iconst X162 at_219 (z := (1 : Int32)) (by decide) (pc' := 220) rfl ?_
                refine F_goto X162 at_220 (by decide) (pc' := 224) (by decide) ?_
                refine F_ireturn_boolean (z' := (1 : Int32)) X162 (by decide) at_224 rfl (by decide) (by decide) ?_
                exact rfl
            · refine F_iload X160 at_158 rfl (pc' := 160) rfl ?_
              refine F_iconst X160 at_160 (z := (2 : Int32)) (by decide) (pc' := 161) rfl ?_
              refine F_icmp_lt X160 at_161 (by decide) (pt := 172) (by decide) (pc' := 164) rfl (fun q => absurd q (by decide)) (fun _ => ?_)
              refine F_lload X160 at_164 rfl (pc' := 166) rfl ?_
              refine F_lload X160 at_166 rfl (pc' := 168) rfl ?_
              refine F_lcmp X160 at_168 (pc' := 169) rfl ?_
              refine F_lif_eq X160 at_169 (by decide) (pt := 200) (by decide) (pc' := 172) rfl (fun hc169_164 => ?_) (fun hc169_164 => ?_)
              · refine F_iconst X160 at_200 (z := (1 : Int32)) (by decide) (pc' := 201) rfl ?_
                refine F_goto X160 at_201 (by decide) (pc' := 205) (by decide) ?_
                refine F_istore X160 at_205 (Ls' := #[.val (.long u1), .second, .val (.int u2), .val (.long u3), .second, .val (.int u4), .val (.long s1), .second, .val (.long s2), .second, .val (.long s3), .second, .val (.long s4), .second, .val (.int (4 : Int32)), .val (.long r3), .second, .val (.ref b4), .val (.int (1 : Int32))]) rfl (pc' := 207) rfl ?_
                refine F_aload X160 at_207 rfl rfl (pc' := 209) rfl ?_
                refine F_lload X160 at_209 rfl (pc' := 211) rfl ?_
                refine F_callV X160 (y := (⟨"org/pulsewire/store/SeqRuns", "contains", "(J)Z"⟩ : MethodName)) (stk := []) (wd18 hw) (wd19 hw) (wd21 hw) (wd20 hw) (wd8 hw) (wd22 hw) (by decide) (a := b4) E160k_b4 (argsL := [(.long r3)]) (conC2 l Z a0 hw n0 h160 X160.size b4 r3 b5_fb s1 s1 s2 s4 F160_bounds_b4 F160_taken_b4 A160_b5_fb) (by decide) (W := 0) (Nat.le_of_ble_eq_true rfl) (by decide) (by decide) (by decide) rfl (lenOf pd2 rfl) rfl at_211 (pc' := 214) rfl fun T165 v165 h165 X165 q165 => ?_
                obtain ⟨rfl, rfl⟩ := q165
                replace X165 := X165.more (cells' := 2) (slots' := 18) (by decide) (by decide)
                show Jvm.OwnKit.Ends p e below s n0 16 128 _ T165 (mkF m 214 #[.val (.long u1), .second, .val (.int u2), .val (.long u3), .second, .val (.int u4), .val (.long s1), .second, .val (.long s2), .second, .val (.long s3), .second, .val (.long s4), .second, .val (.int (4 : Int32)), .val (.long r3), .second, .val (.ref b4), .val (.int (1 : Int32))] [(.int (ct2 s1 s1 s2 s4 r3))])
                refine F_iload X165 at_214 rfl (pc' := 216) rfl ?_
                refine F_icmp_ne X165 at_216 (by decide) (pt := 223) (by decide) (pc' := 219) rfl (fun hc216_166 => ?_) (fun hc216_166 => ?_)
                · refine F_iconst X165 at_223 (z := (0 : Int32)) (by decide) (pc' := 224) rfl ?_
                  refine F_ireturn_boolean (z' := (0 : Int32)) X165 (by decide) at_224 rfl (by decide) (by decide) ?_
                  exfalso; refine hc216_166 ?_; unfold ct2; simp only [Int64.lt_iff_toInt_lt, ← Int64.toInt_inj] at hq89 hq157 hq159 hc155_161 hc169_164 ⊢; repeat' split
                  all_goals first | rfl | (exfalso; omega)
                · refine F_iconst X165 at_219 (z := (1 : Int32)) (by decide) (pc' := 220) rfl ?_
                  refine F_goto X165 at_220 (by decide) (pc' := 224) (by decide) ?_
                  refine F_ireturn_boolean (z' := (1 : Int32)) X165 (by decide) at_224 rfl (by decide) (by decide) ?_
                  exact rfl
              · refine F_iload X160 at_172 rfl (pc' := 174) rfl ?_
                refine F_iconst X160 at_174 (z := (3 : Int32)) (by decide) (pc' := 175) rfl ?_
                refine F_icmp_lt X160 at_175 (by decide) (pt := 186) (by decide) (pc' := 178) rfl (fun q => absurd q (by decide)) (fun _ => ?_)
                refine F_lload X160 at_178 rfl (pc' := 180) rfl ?_
                refine F_lload X160 at_180 rfl (pc' := 182) rfl ?_
                refine F_lcmp X160 at_182 (pc' := 183) rfl ?_
                refine F_lif_eq X160 at_183 (by decide) (pt := 200) (by decide) (pc' := 186) rfl (fun hc183_167 => ?_) (fun hc183_167 => ?_)
                · refine F_iconst X160 at_200 (z := (1 : Int32)) (by decide) (pc' := 201) rfl ?_
                  refine F_goto X160 at_201 (by decide) (pc' := 205) (by decide) ?_
                  refine F_istore X160 at_205 (Ls' := #[.val (.long u1), .second, .val (.int u2), .val (.long u3), .second, .val (.int u4), .val (.long s1), .second, .val (.long s2), .second, .val (.long s3), .second, .val (.long s4), .second, .val (.int (4 : Int32)), .val (.long r3), .second, .val (.ref b4), .val (.int (1 : Int32))]) rfl (pc' := 207) rfl ?_
                  refine F_aload X160 at_207 rfl rfl (pc' := 209) rfl ?_
                  refine F_lload X160 at_209 rfl (pc' := 211) rfl ?_
                  refine F_callV X160 (y := (⟨"org/pulsewire/store/SeqRuns", "contains", "(J)Z"⟩ : MethodName)) (stk := []) (wd18 hw) (wd19 hw) (wd21 hw) (wd20 hw) (wd8 hw) (wd22 hw) (by decide) (a := b4) E160k_b4 (argsL := [(.long r3)]) (conC2 l Z a0 hw n0 h160 X160.size b4 r3 b5_fb s1 s1 s2 s4 F160_bounds_b4 F160_taken_b4 A160_b5_fb) (by decide) (W := 0) (Nat.le_of_ble_eq_true rfl) (by decide) (by decide) (by decide) rfl (lenOf pd2 rfl) rfl at_211 (pc' := 214) rfl fun T168 v168 h168 X168 q168 => ?_
                  obtain ⟨rfl, rfl⟩ := q168
                  replace X168 := X168.more (cells' := 2) (slots' := 18) (by decide) (by decide)
                  show Jvm.OwnKit.Ends p e below s n0 16 128 _ T168 (mkF m 214 #[.val (.long u1), .second, .val (.int u2), .val (.long u3), .second, .val (.int u4), .val (.long s1), .second, .val (.long s2), .second, .val (.long s3), .second, .val (.long s4), .second, .val (.int (4 : Int32)), .val (.long r3), .second, .val (.ref b4), .val (.int (1 : Int32))] [(.int (ct2 s1 s1 s2 s4 r3))])
                  refine F_iload X168 at_214 rfl (pc' := 216) rfl ?_
                  refine F_icmp_ne X168 at_216 (by decide) (pt := 223) (by decide) (pc' := 219) rfl (fun hc216_169 => ?_) (fun hc216_169 => ?_)
                  · refine F_iconst X168 at_223 (z := (0 : Int32)) (by decide) (pc' := 224) rfl ?_
                    refine F_ireturn_boolean (z' := (0 : Int32)) X168 (by decide) at_224 rfl (by decide) (by decide) ?_
                    exfalso; refine hc216_169 ?_; unfold ct2; simp only [Int64.lt_iff_toInt_lt, ← Int64.toInt_inj] at hq89 hq157 hq159 hc155_161 hc169_164 hc183_167 ⊢; repeat' split
                    all_goals first | rfl | (exfalso; omega)
                  · refine F_iconst X168 at_219 (z := (1 : Int32)) (by decide) (pc' := 220) rfl ?_
                    refine F_goto X168 at_220 (by decide) (pc' := 224) (by decide) ?_
                    refine F_ireturn_boolean (z' := (1 : Int32)) X168 (by decide) at_224 rfl (by decide) (by decide) ?_
                    exact rfl
                · refine F_iload X160 at_186 rfl (pc' := 188) rfl ?_
                  refine F_iconst X160 at_188 (z := (4 : Int32)) (by decide) (pc' := 189) rfl ?_
                  refine F_icmp_lt X160 at_189 (by decide) (pt := 204) (by decide) (pc' := 192) rfl (fun q => absurd q (by decide)) (fun _ => ?_)
                  refine F_lload X160 at_192 rfl (pc' := 194) rfl ?_
                  refine F_lload X160 at_194 rfl (pc' := 196) rfl ?_
                  refine F_lcmp X160 at_196 (pc' := 197) rfl ?_
                  refine F_lif_ne X160 at_197 (by decide) (pt := 204) (by decide) (pc' := 200) rfl (fun hc197_170 => ?_) (fun hc197_170 => ?_)
                  · refine F_iconst X160 at_204 (z := (0 : Int32)) (by decide) (pc' := 205) rfl ?_
                    refine F_istore X160 at_205 (Ls' := #[.val (.long u1), .second, .val (.int u2), .val (.long u3), .second, .val (.int u4), .val (.long s1), .second, .val (.long s2), .second, .val (.long s3), .second, .val (.long s4), .second, .val (.int (4 : Int32)), .val (.long r3), .second, .val (.ref b4), .val (.int (0 : Int32))]) rfl (pc' := 207) rfl ?_
                    refine F_aload X160 at_207 rfl rfl (pc' := 209) rfl ?_
                    refine F_lload X160 at_209 rfl (pc' := 211) rfl ?_
                    refine F_callV X160 (y := (⟨"org/pulsewire/store/SeqRuns", "contains", "(J)Z"⟩ : MethodName)) (stk := []) (wd18 hw) (wd19 hw) (wd21 hw) (wd20 hw) (wd8 hw) (wd22 hw) (by decide) (a := b4) E160k_b4 (argsL := [(.long r3)]) (conC2 l Z a0 hw n0 h160 X160.size b4 r3 b5_fb s1 s1 s2 s4 F160_bounds_b4 F160_taken_b4 A160_b5_fb) (by decide) (W := 0) (Nat.le_of_ble_eq_true rfl) (by decide) (by decide) (by decide) rfl (lenOf pd2 rfl) rfl at_211 (pc' := 214) rfl fun T171 v171 h171 X171 q171 => ?_
                    obtain ⟨rfl, rfl⟩ := q171
                    replace X171 := X171.more (cells' := 2) (slots' := 18) (by decide) (by decide)
                    show Jvm.OwnKit.Ends p e below s n0 16 128 _ T171 (mkF m 214 #[.val (.long u1), .second, .val (.int u2), .val (.long u3), .second, .val (.int u4), .val (.long s1), .second, .val (.long s2), .second, .val (.long s3), .second, .val (.long s4), .second, .val (.int (4 : Int32)), .val (.long r3), .second, .val (.ref b4), .val (.int (0 : Int32))] [(.int (ct2 s1 s1 s2 s4 r3))])
                    refine F_iload X171 at_214 rfl (pc' := 216) rfl ?_
                    refine F_icmp_ne X171 at_216 (by decide) (pt := 223) (by decide) (pc' := 219) rfl (fun hc216_172 => ?_) (fun hc216_172 => ?_)
                    · refine F_iconst X171 at_223 (z := (0 : Int32)) (by decide) (pc' := 224) rfl ?_
                      refine F_ireturn_boolean (z' := (0 : Int32)) X171 (by decide) at_224 rfl (by decide) (by decide) ?_
                      exfalso; refine hc216_172 ?_; unfold ct2; simp only [Int64.lt_iff_toInt_lt, ← Int64.toInt_inj] at hq89 hq157 hq159 hc155_161 hc169_164 hc183_167 hc197_170 ⊢; repeat' split
                      all_goals first | rfl | (exfalso; omega)
                    · refine F_iconst X171 at_219 (z := (1 : Int32)) (by decide) (pc' := 220) rfl ?_
                      refine F_goto X171 at_220 (by decide) (pc' := 224) (by decide) ?_
                      refine F_ireturn_boolean (z' := (1 : Int32)) X171 (by decide) at_224 rfl (by decide) (by decide) ?_
                      exact rfl
                  · refine F_iconst X160 at_200 (z := (1 : Int32)) (by decide) (pc' := 201) rfl ?_
                    refine F_goto X160 at_201 (by decide) (pc' := 205) (by decide) ?_
                    refine F_istore X160 at_205 (Ls' := #[.val (.long u1), .second, .val (.int u2), .val (.long u3), .second, .val (.int u4), .val (.long s1), .second, .val (.long s2), .second, .val (.long s3), .second, .val (.long s4), .second, .val (.int (4 : Int32)), .val (.long r3), .second, .val (.ref b4), .val (.int (1 : Int32))]) rfl (pc' := 207) rfl ?_
                    refine F_aload X160 at_207 rfl rfl (pc' := 209) rfl ?_
                    refine F_lload X160 at_209 rfl (pc' := 211) rfl ?_
                    refine F_callV X160 (y := (⟨"org/pulsewire/store/SeqRuns", "contains", "(J)Z"⟩ : MethodName)) (stk := []) (wd18 hw) (wd19 hw) (wd21 hw) (wd20 hw) (wd8 hw) (wd22 hw) (by decide) (a := b4) E160k_b4 (argsL := [(.long r3)]) (conC2 l Z a0 hw n0 h160 X160.size b4 r3 b5_fb s1 s1 s2 s4 F160_bounds_b4 F160_taken_b4 A160_b5_fb) (by decide) (W := 0) (Nat.le_of_ble_eq_true rfl) (by decide) (by decide) (by decide) rfl (lenOf pd2 rfl) rfl at_211 (pc' := 214) rfl fun T173 v173 h173 X173 q173 => ?_
                    obtain ⟨rfl, rfl⟩ := q173
                    replace X173 := X173.more (cells' := 2) (slots' := 18) (by decide) (by decide)
                    show Jvm.OwnKit.Ends p e below s n0 16 128 _ T173 (mkF m 214 #[.val (.long u1), .second, .val (.int u2), .val (.long u3), .second, .val (.int u4), .val (.long s1), .second, .val (.long s2), .second, .val (.long s3), .second, .val (.long s4), .second, .val (.int (4 : Int32)), .val (.long r3), .second, .val (.ref b4), .val (.int (1 : Int32))] [(.int (ct2 s1 s1 s2 s4 r3))])
                    refine F_iload X173 at_214 rfl (pc' := 216) rfl ?_
                    refine F_icmp_ne X173 at_216 (by decide) (pt := 223) (by decide) (pc' := 219) rfl (fun hc216_174 => ?_) (fun hc216_174 => ?_)
                    · refine F_iconst X173 at_223 (z := (0 : Int32)) (by decide) (pc' := 224) rfl ?_
                      refine F_ireturn_boolean (z' := (0 : Int32)) X173 (by decide) at_224 rfl (by decide) (by decide) ?_
                      exfalso; refine hc216_174 ?_; unfold ct2; simp only [Int64.lt_iff_toInt_lt, ← Int64.toInt_inj] at hq89 hq157 hq159 hc155_161 hc169_164 hc183_167 hc197_170 ⊢; repeat' split
                      all_goals first | rfl | (exfalso; omega)
                    · refine F_iconst X173 at_219 (z := (1 : Int32)) (by decide) (pc' := 220) rfl ?_
                      refine F_goto X173 at_220 (by decide) (pc' := 224) (by decide) ?_
                      refine F_ireturn_boolean (z' := (1 : Int32)) X173 (by decide) at_224 rfl (by decide) (by decide) ?_
                      exact rfl
          · refine F_callV X158 (y := (⟨"org/pulsewire/store/SeqRuns", "add", "(J)V"⟩ : MethodName)) (stk := []) (wd25 hw) (wd26 hw) (wd28 hw) (wd27 hw) (wd8 hw) (wd29 hw) (by decide) (a := b4) E158k_b4 (argsL := [(.long s4)]) (conN4 l Z a0 hw n0 h158 X158.size b4 s4 b5_fb s1 s1 s2 s3 E158k_b4 F158_bounds_b4 F158_taken_b4 A158_b5_fb ge4 ge_b5_fb ne_b4_b5_fb (by assumption)) (by decide) (W := 0) (Nat.le_of_ble_eq_true rfl) (by decide) (by decide) (by decide) rfl (lenOf pd3 rfl) rfl at_141 (pc' := 144) rfl fun T175 v175 h175 X175 q175 => ?_
            obtain ⟨rfl, Kp175, F175_bounds_b4, F175_taken_b4, A175_b5_fb⟩ := q175
            have E175k_b4 := E158k_b4.keep Kp175
            have E175k_b5_fb := E158k_b5_fb.keep Kp175
            replace X175 := X175.more (cells' := 2) (slots' := 18) (by decide) (by decide)
            show Jvm.OwnKit.Ends p e below s n0 16 128 _ T175 (mkF m 144 #[.val (.long u1), .second, .val (.int u2), .val (.long u3), .second, .val (.int u4), .val (.long s1), .second, .val (.long s2), .second, .val (.long s3), .second, .val (.long s4), .second, .val (.int (4 : Int32)), .val (.long r3), .second, .val (.ref b4), .unset] [])
            refine F_iload X175 at_144 rfl (pc' := 146) rfl ?_
            refine F_iconst X175 at_146 (z := (1 : Int32)) (by decide) (pc' := 147) rfl ?_
            refine F_icmp_lt X175 at_147 (by decide) (pt := 158) (by decide) (pc' := 150) rfl (fun q => absurd q (by decide)) (fun _ => ?_)
            refine F_lload X175 at_150 rfl (pc' := 152) rfl ?_
            refine F_lload X175 at_152 rfl (pc' := 154) rfl ?_
            refine F_lcmp X175 at_154 (pc' := 155) rfl ?_
            refine F_lif_eq X175 at_155 (by decide) (pt := 200) (by decide) (pc' := 158) rfl (fun hc155_176 => ?_) (fun hc155_176 => ?_)
            · refine F_iconst X175 at_200 (z := (1 : Int32)) (by decide) (pc' := 201) rfl ?_
              refine F_goto X175 at_201 (by decide) (pc' := 205) (by decide) ?_
              refine F_istore X175 at_205 (Ls' := #[.val (.long u1), .second, .val (.int u2), .val (.long u3), .second, .val (.int u4), .val (.long s1), .second, .val (.long s2), .second, .val (.long s3), .second, .val (.long s4), .second, .val (.int (4 : Int32)), .val (.long r3), .second, .val (.ref b4), .val (.int (1 : Int32))]) rfl (pc' := 207) rfl ?_
              refine F_aload X175 at_207 rfl rfl (pc' := 209) rfl ?_
              refine F_lload X175 at_209 rfl (pc' := 211) rfl ?_
              refine F_callV X175 (y := (⟨"org/pulsewire/store/SeqRuns", "contains", "(J)Z"⟩ : MethodName)) (stk := []) (wd18 hw) (wd19 hw) (wd21 hw) (wd20 hw) (wd8 hw) (wd22 hw) (by decide) (a := b4) E175k_b4 (argsL := [(.long r3)]) (conC3 l Z a0 hw n0 h175 X175.size b4 r3 b5_fb s1 s1 s2 s3 s4 s4 F175_bounds_b4 F175_taken_b4 A175_b5_fb) (by decide) (W := 0) (Nat.le_of_ble_eq_true rfl) (by decide) (by decide) (by decide) rfl (lenOf pd2 rfl) rfl at_211 (pc' := 214) rfl fun T177 v177 h177 X177 q177 => ?_
              obtain ⟨rfl, rfl⟩ := q177
              replace X177 := X177.more (cells' := 2) (slots' := 18) (by decide) (by decide)
              show Jvm.OwnKit.Ends p e below s n0 16 128 _ T177 (mkF m 214 #[.val (.long u1), .second, .val (.int u2), .val (.long u3), .second, .val (.int u4), .val (.long s1), .second, .val (.long s2), .second, .val (.long s3), .second, .val (.long s4), .second, .val (.int (4 : Int32)), .val (.long r3), .second, .val (.ref b4), .val (.int (1 : Int32))] [(.int (ct3 s1 s1 s2 s3 s4 s4 r3))])
              refine F_iload X177 at_214 rfl (pc' := 216) rfl ?_
              refine F_icmp_ne X177 at_216 (by decide) (pt := 223) (by decide) (pc' := 219) rfl (fun hc216_178 => ?_) (fun hc216_178 => ?_)
              · refine F_iconst X177 at_223 (z := (0 : Int32)) (by decide) (pc' := 224) rfl ?_
                refine F_ireturn_boolean (z' := (0 : Int32)) X177 (by decide) at_224 rfl (by decide) (by decide) ?_
                exfalso; refine hc216_178 ?_; unfold ct3; simp only [Int64.lt_iff_toInt_lt, ← Int64.toInt_inj] at hq89 hq157 hq159 hc155_176 ⊢; repeat' split
                all_goals first | rfl | (exfalso; omega)
              · refine F_iconst X177 at_219 (z := (1 : Int32)) (by decide) (pc' := 220) rfl ?_
                refine F_goto X177 at_220 (by decide) (pc' := 224) (by decide) ?_
                refine F_ireturn_boolean (z' := (1 : Int32)) X177 (by decide) at_224 rfl (by decide) (by decide) ?_
                exact rfl
            · refine F_iload X175 at_158 rfl (pc' := 160) rfl ?_
              refine F_iconst X175 at_160 (z := (2 : Int32)) (by decide) (pc' := 161) rfl ?_
              refine F_icmp_lt X175 at_161 (by decide) (pt := 172) (by decide) (pc' := 164) rfl (fun q => absurd q (by decide)) (fun _ => ?_)
              refine F_lload X175 at_164 rfl (pc' := 166) rfl ?_
              refine F_lload X175 at_166 rfl (pc' := 168) rfl ?_
              refine F_lcmp X175 at_168 (pc' := 169) rfl ?_
              refine F_lif_eq X175 at_169 (by decide) (pt := 200) (by decide) (pc' := 172) rfl (fun hc169_179 => ?_) (fun hc169_179 => ?_)
              · refine F_iconst X175 at_200 (z := (1 : Int32)) (by decide) (pc' := 201) rfl ?_
                refine F_goto X175 at_201 (by decide) (pc' := 205) (by decide) ?_
                refine F_istore X175 at_205 (Ls' := #[.val (.long u1), .second, .val (.int u2), .val (.long u3), .second, .val (.int u4), .val (.long s1), .second, .val (.long s2), .second, .val (.long s3), .second, .val (.long s4), .second, .val (.int (4 : Int32)), .val (.long r3), .second, .val (.ref b4), .val (.int (1 : Int32))]) rfl (pc' := 207) rfl ?_
                refine F_aload X175 at_207 rfl rfl (pc' := 209) rfl ?_
                refine F_lload X175 at_209 rfl (pc' := 211) rfl ?_
                refine F_callV X175 (y := (⟨"org/pulsewire/store/SeqRuns", "contains", "(J)Z"⟩ : MethodName)) (stk := []) (wd18 hw) (wd19 hw) (wd21 hw) (wd20 hw) (wd8 hw) (wd22 hw) (by decide) (a := b4) E175k_b4 (argsL := [(.long r3)]) (conC3 l Z a0 hw n0 h175 X175.size b4 r3 b5_fb s1 s1 s2 s3 s4 s4 F175_bounds_b4 F175_taken_b4 A175_b5_fb) (by decide) (W := 0) (Nat.le_of_ble_eq_true rfl) (by decide) (by decide) (by decide) rfl (lenOf pd2 rfl) rfl at_211 (pc' := 214) rfl fun T180 v180 h180 X180 q180 => ?_
                obtain ⟨rfl, rfl⟩ := q180
                replace X180 := X180.more (cells' := 2) (slots' := 18) (by decide) (by decide)
                show Jvm.OwnKit.Ends p e below s n0 16 128 _ T180 (mkF m 214 #[.val (.long u1), .second, .val (.int u2), .val (.long u3), .second, .val (.int u4), .val (.long s1), .second, .val (.long s2), .second, .val (.long s3), .second, .val (.long s4), .second, .val (.int (4 : Int32)), .val (.long r3), .second, .val (.ref b4), .val (.int (1 : Int32))] [(.int (ct3 s1 s1 s2 s3 s4 s4 r3))])
                refine F_iload X180 at_214 rfl (pc' := 216) rfl ?_
                refine F_icmp_ne X180 at_216 (by decide) (pt := 223) (by decide) (pc' := 219) rfl (fun hc216_181 => ?_) (fun hc216_181 => ?_)
                · refine F_iconst X180 at_223 (z := (0 : Int32)) (by decide) (pc' := 224) rfl ?_
                  refine F_ireturn_boolean (z' := (0 : Int32)) X180 (by decide) at_224 rfl (by decide) (by decide) ?_
                  exfalso; refine hc216_181 ?_; unfold ct3; simp only [Int64.lt_iff_toInt_lt, ← Int64.toInt_inj] at hq89 hq157 hq159 hc155_176 hc169_179 ⊢; repeat' split
                  all_goals first | rfl | (exfalso; omega)
                · refine F_iconst X180 at_219 (z := (1 : Int32)) (by decide) (pc' := 220) rfl ?_
                  refine F_goto X180 at_220 (by decide) (pc' := 224) (by decide) ?_
                  refine F_ireturn_boolean (z' := (1 : Int32)) X180 (by decide) at_224 rfl (by decide) (by decide) ?_
                  exact rfl
              · refine F_iload X175 at_172 rfl (pc' := 174) rfl ?_
                refine F_iconst X175 at_174 (z := (3 : Int32)) (by decide) (pc' := 175) rfl ?_
                refine F_icmp_lt X175 at_175 (by decide) (pt := 186) (by decide) (pc' := 178) rfl (fun q => absurd q (by decide)) (fun _ => ?_)
                refine F_lload X175 at_178 rfl (pc' := 180) rfl ?_
                refine F_lload X175 at_180 rfl (pc' := 182) rfl ?_
                refine F_lcmp X175 at_182 (pc' := 183) rfl ?_
                refine F_lif_eq X175 at_183 (by decide) (pt := 200) (by decide) (pc' := 186) rfl (fun hc183_182 => ?_) (fun hc183_182 => ?_)
                · refine F_iconst X175 at_200 (z := (1 : Int32)) (by decide) (pc' := 201) rfl ?_
                  refine F_goto X175 at_201 (by decide) (pc' := 205) (by decide) ?_
                  refine F_istore X175 at_205 (Ls' := #[.val (.long u1), .second, .val (.int u2), .val (.long u3), .second, .val (.int u4), .val (.long s1), .second, .val (.long s2), .second, .val (.long s3), .second, .val (.long s4), .second, .val (.int (4 : Int32)), .val (.long r3), .second, .val (.ref b4), .val (.int (1 : Int32))]) rfl (pc' := 207) rfl ?_
                  refine F_aload X175 at_207 rfl rfl (pc' := 209) rfl ?_
                  refine F_lload X175 at_209 rfl (pc' := 211) rfl ?_
                  refine F_callV X175 (y := (⟨"org/pulsewire/store/SeqRuns", "contains", "(J)Z"⟩ : MethodName)) (stk := []) (wd18 hw) (wd19 hw) (wd21 hw) (wd20 hw) (wd8 hw) (wd22 hw) (by decide) (a := b4) E175k_b4 (argsL := [(.long r3)]) (conC3 l Z a0 hw n0 h175 X175.size b4 r3 b5_fb s1 s1 s2 s3 s4 s4 F175_bounds_b4 F175_taken_b4 A175_b5_fb) (by decide) (W := 0) (Nat.le_of_ble_eq_true rfl) (by decide) (by decide) (by decide) rfl (lenOf pd2 rfl) rfl at_211 (pc' := 214) rfl fun T183 v183 h183 X183 q183 => ?_
                  obtain ⟨rfl, rfl⟩ := q183
                  replace X183 := X183.more (cells' := 2) (slots' := 18) (by decide) (by decide)
                  show Jvm.OwnKit.Ends p e below s n0 16 128 _ T183 (mkF m 214 #[.val (.long u1), .second, .val (.int u2), .val (.long u3), .second, .val (.int u4), .val (.long s1), .second, .val (.long s2), .second, .val (.long s3), .second, .val (.long s4), .second, .val (.int (4 : Int32)), .val (.long r3), .second, .val (.ref b4), .val (.int (1 : Int32))] [(.int (ct3 s1 s1 s2 s3 s4 s4 r3))])
                  refine F_iload X183 at_214 rfl (pc' := 216) rfl ?_
                  refine F_icmp_ne X183 at_216 (by decide) (pt := 223) (by decide) (pc' := 219) rfl (fun hc216_184 => ?_) (fun hc216_184 => ?_)
                  · refine F_iconst X183 at_223 (z := (0 : Int32)) (by decide) (pc' := 224) rfl ?_
                    refine F_ireturn_boolean (z' := (0 : Int32)) X183 (by decide) at_224 rfl (by decide) (by decide) ?_
                    exfalso; refine hc216_184 ?_; unfold ct3; simp only [Int64.lt_iff_toInt_lt, ← Int64.toInt_inj] at hq89 hq157 hq159 hc155_176 hc169_179 hc183_182 ⊢; repeat' split
                    all_goals first | rfl | (exfalso; omega)
                  · refine F_iconst X183 at_219 (z := (1 : Int32)) (by decide) (pc' := 220) rfl ?_
                    refine F_goto X183 at_220 (by decide) (pc' := 224) (by decide) ?_
                    refine F_ireturn_boolean (z' := (1 : Int32)) X183 (by decide) at_224 rfl (by decide) (by decide) ?_
                    exact rfl
                · refine F_iload X175 at_186 rfl (pc' := 188) rfl ?_
                  refine F_iconst X175 at_188 (z := (4 : Int32)) (by decide) (pc' := 189) rfl ?_
                  refine F_icmp_lt X175 at_189 (by decide) (pt := 204) (by decide) (pc' := 192) rfl (fun q => absurd q (by decide)) (fun _ => ?_)
                  refine F_lload X175 at_192 rfl (pc' := 194) rfl ?_
                  refine F_lload X175 at_194 rfl (pc' := 196) rfl ?_
                  refine F_lcmp X175 at_196 (pc' := 197) rfl ?_
                  refine F_lif_ne X175 at_197 (by decide) (pt := 204) (by decide) (pc' := 200) rfl (fun hc197_185 => ?_) (fun hc197_185 => ?_)
                  · refine F_iconst X175 at_204 (z := (0 : Int32)) (by decide) (pc' := 205) rfl ?_
                    refine F_istore X175 at_205 (Ls' := #[.val (.long u1), .second, .val (.int u2), .val (.long u3), .second, .val (.int u4), .val (.long s1), .second, .val (.long s2), .second, .val (.long s3), .second, .val (.long s4), .second, .val (.int (4 : Int32)), .val (.long r3), .second, .val (.ref b4), .val (.int (0 : Int32))]) rfl (pc' := 207) rfl ?_
                    refine F_aload X175 at_207 rfl rfl (pc' := 209) rfl ?_
                    refine F_lload X175 at_209 rfl (pc' := 211) rfl ?_
                    refine F_callV X175 (y := (⟨"org/pulsewire/store/SeqRuns", "contains", "(J)Z"⟩ : MethodName)) (stk := []) (wd18 hw) (wd19 hw) (wd21 hw) (wd20 hw) (wd8 hw) (wd22 hw) (by decide) (a := b4) E175k_b4 (argsL := [(.long r3)]) (conC3 l Z a0 hw n0 h175 X175.size b4 r3 b5_fb s1 s1 s2 s3 s4 s4 F175_bounds_b4 F175_taken_b4 A175_b5_fb) (by decide) (W := 0) (Nat.le_of_ble_eq_true rfl) (by decide) (by decide) (by decide) rfl (lenOf pd2 rfl) rfl at_211 (pc' := 214) rfl fun T186 v186 h186 X186 q186 => ?_
                    obtain ⟨rfl, rfl⟩ := q186
                    replace X186 := X186.more (cells' := 2) (slots' := 18) (by decide) (by decide)
                    show Jvm.OwnKit.Ends p e below s n0 16 128 _ T186 (mkF m 214 #[.val (.long u1), .second, .val (.int u2), .val (.long u3), .second, .val (.int u4), .val (.long s1), .second, .val (.long s2), .second, .val (.long s3), .second, .val (.long s4), .second, .val (.int (4 : Int32)), .val (.long r3), .second, .val (.ref b4), .val (.int (0 : Int32))] [(.int (ct3 s1 s1 s2 s3 s4 s4 r3))])
                    refine F_iload X186 at_214 rfl (pc' := 216) rfl ?_
                    refine F_icmp_ne X186 at_216 (by decide) (pt := 223) (by decide) (pc' := 219) rfl (fun hc216_187 => ?_) (fun hc216_187 => ?_)
                    · refine F_iconst X186 at_223 (z := (0 : Int32)) (by decide) (pc' := 224) rfl ?_
                      refine F_ireturn_boolean (z' := (0 : Int32)) X186 (by decide) at_224 rfl (by decide) (by decide) ?_
                      exfalso; refine hc216_187 ?_; unfold ct3; simp only [Int64.lt_iff_toInt_lt, ← Int64.toInt_inj] at hq89 hq157 hq159 hc155_176 hc169_179 hc183_182 hc197_185 ⊢; repeat' split
                      all_goals first | rfl | (exfalso; omega)
                    · refine F_iconst X186 at_219 (z := (1 : Int32)) (by decide) (pc' := 220) rfl ?_
                      refine F_goto X186 at_220 (by decide) (pc' := 224) (by decide) ?_
                      refine F_ireturn_boolean (z' := (1 : Int32)) X186 (by decide) at_224 rfl (by decide) (by decide) ?_
                      exact rfl
                  · refine F_iconst X175 at_200 (z := (1 : Int32)) (by decide) (pc' := 201) rfl ?_
                    refine F_goto X175 at_201 (by decide) (pc' := 205) (by decide) ?_
                    refine F_istore X175 at_205 (Ls' := #[.val (.long u1), .second, .val (.int u2), .val (.long u3), .second, .val (.int u4), .val (.long s1), .second, .val (.long s2), .second, .val (.long s3), .second, .val (.long s4), .second, .val (.int (4 : Int32)), .val (.long r3), .second, .val (.ref b4), .val (.int (1 : Int32))]) rfl (pc' := 207) rfl ?_
                    refine F_aload X175 at_207 rfl rfl (pc' := 209) rfl ?_
                    refine F_lload X175 at_209 rfl (pc' := 211) rfl ?_
                    refine F_callV X175 (y := (⟨"org/pulsewire/store/SeqRuns", "contains", "(J)Z"⟩ : MethodName)) (stk := []) (wd18 hw) (wd19 hw) (wd21 hw) (wd20 hw) (wd8 hw) (wd22 hw) (by decide) (a := b4) E175k_b4 (argsL := [(.long r3)]) (conC3 l Z a0 hw n0 h175 X175.size b4 r3 b5_fb s1 s1 s2 s3 s4 s4 F175_bounds_b4 F175_taken_b4 A175_b5_fb) (by decide) (W := 0) (Nat.le_of_ble_eq_true rfl) (by decide) (by decide) (by decide) rfl (lenOf pd2 rfl) rfl at_211 (pc' := 214) rfl fun T188 v188 h188 X188 q188 => ?_
                    obtain ⟨rfl, rfl⟩ := q188
                    replace X188 := X188.more (cells' := 2) (slots' := 18) (by decide) (by decide)
                    show Jvm.OwnKit.Ends p e below s n0 16 128 _ T188 (mkF m 214 #[.val (.long u1), .second, .val (.int u2), .val (.long u3), .second, .val (.int u4), .val (.long s1), .second, .val (.long s2), .second, .val (.long s3), .second, .val (.long s4), .second, .val (.int (4 : Int32)), .val (.long r3), .second, .val (.ref b4), .val (.int (1 : Int32))] [(.int (ct3 s1 s1 s2 s3 s4 s4 r3))])
                    refine F_iload X188 at_214 rfl (pc' := 216) rfl ?_
                    refine F_icmp_ne X188 at_216 (by decide) (pt := 223) (by decide) (pc' := 219) rfl (fun hc216_189 => ?_) (fun hc216_189 => ?_)
                    · refine F_iconst X188 at_223 (z := (0 : Int32)) (by decide) (pc' := 224) rfl ?_
                      refine F_ireturn_boolean (z' := (0 : Int32)) X188 (by decide) at_224 rfl (by decide) (by decide) ?_
                      exfalso; refine hc216_189 ?_; unfold ct3; simp only [Int64.lt_iff_toInt_lt, ← Int64.toInt_inj] at hq89 hq157 hq159 hc155_176 hc169_179 hc183_182 hc197_185 ⊢; repeat' split
                      all_goals first | rfl | (exfalso; omega)
                    · refine F_iconst X188 at_219 (z := (1 : Int32)) (by decide) (pc' := 220) rfl ?_
                      refine F_goto X188 at_220 (by decide) (pc' := 224) (by decide) ?_
                      refine F_ireturn_boolean (z' := (1 : Int32)) X188 (by decide) at_224 rfl (by decide) (by decide) ?_
                      exact rfl
        · refine F_callV X156 (y := (⟨"org/pulsewire/store/SeqRuns", "add", "(J)V"⟩ : MethodName)) (stk := []) (wd25 hw) (wd26 hw) (wd28 hw) (wd27 hw) (wd8 hw) (wd29 hw) (by decide) (a := b4) E156k_b4 (argsL := [(.long s3)]) (conN4 l Z a0 hw n0 h156 X156.size b4 s3 b5_fb s1 s1 s2 s2 E156k_b4 F156_bounds_b4 F156_taken_b4 A156_b5_fb ge4 ge_b5_fb ne_b4_b5_fb (by assumption)) (by decide) (W := 0) (Nat.le_of_ble_eq_true rfl) (by decide) (by decide) (by decide) rfl (lenOf pd3 rfl) rfl at_128 (pc' := 131) rfl fun T190 v190 h190 X190 q190 => ?_
          obtain ⟨rfl, Kp190, F190_bounds_b4, F190_taken_b4, A190_b5_fb⟩ := q190
          have E190k_b4 := E156k_b4.keep Kp190
          have E190k_b5_fb := E156k_b5_fb.keep Kp190
          replace X190 := X190.more (cells' := 2) (slots' := 18) (by decide) (by decide)
          show Jvm.OwnKit.Ends p e below s n0 16 128 _ T190 (mkF m 131 #[.val (.long u1), .second, .val (.int u2), .val (.long u3), .second, .val (.int u4), .val (.long s1), .second, .val (.long s2), .second, .val (.long s3), .second, .val (.long s4), .second, .val (.int (4 : Int32)), .val (.long r3), .second, .val (.ref b4), .unset] [])
          refine F_iload X190 at_131 rfl (pc' := 133) rfl ?_
          refine F_iconst X190 at_133 (z := (4 : Int32)) (by decide) (pc' := 134) rfl ?_
          refine F_icmp_lt X190 at_134 (by decide) (pt := 144) (by decide) (pc' := 137) rfl (fun q => absurd q (by decide)) (fun _ => ?_)
          refine F_aload X190 at_137 rfl rfl (pc' := 139) rfl ?_
          refine F_lload X190 at_139 rfl (pc' := 141) rfl ?_
          by_cases hq191 : s3 = (s4 - (1 : Int64))
          · refine F_callV X190 (y := (⟨"org/pulsewire/store/SeqRuns", "add", "(J)V"⟩ : MethodName)) (stk := []) (wd25 hw) (wd26 hw) (wd28 hw) (wd27 hw) (wd8 hw) (wd29 hw) (by decide) (a := b4) E190k_b4 (argsL := [(.long s4)]) (conX6 l Z a0 hw n0 h190 X190.size b4 s4 b5_fb s1 s1 s2 s2 s3 s3 E190k_b4 F190_bounds_b4 F190_taken_b4 A190_b5_fb ge4 ge_b5_fb ne_b4_b5_fb (by assumption)) (by decide) (W := 0) (Nat.le_of_ble_eq_true rfl) (by decide) (by decide) (by decide) rfl (lenOf pd3 rfl) rfl at_141 (pc' := 144) rfl fun T192 v192 h192 X192 q192 => ?_
            obtain ⟨rfl, Kp192, F192_bounds_b4, F192_taken_b4, A192_b5_fb⟩ := q192
            have E192k_b4 := E190k_b4.keep Kp192
            have E192k_b5_fb := E190k_b5_fb.keep Kp192
            replace X192 := X192.more (cells' := 2) (slots' := 18) (by decide) (by decide)
            show Jvm.OwnKit.Ends p e below s n0 16 128 _ T192 (mkF m 144 #[.val (.long u1), .second, .val (.int u2), .val (.long u3), .second, .val (.int u4), .val (.long s1), .second, .val (.long s2), .second, .val (.long s3), .second, .val (.long s4), .second, .val (.int (4 : Int32)), .val (.long r3), .second, .val (.ref b4), .unset] [])
            refine F_iload X192 at_144 rfl (pc' := 146) rfl ?_
            refine F_iconst X192 at_146 (z := (1 : Int32)) (by decide) (pc' := 147) rfl ?_
            refine F_icmp_lt X192 at_147 (by decide) (pt := 158) (by decide) (pc' := 150) rfl (fun q => absurd q (by decide)) (fun _ => ?_)
            refine F_lload X192 at_150 rfl (pc' := 152) rfl ?_
            refine F_lload X192 at_152 rfl (pc' := 154) rfl ?_
            refine F_lcmp X192 at_154 (pc' := 155) rfl ?_
            refine F_lif_eq X192 at_155 (by decide) (pt := 200) (by decide) (pc' := 158) rfl (fun hc155_193 => ?_) (fun hc155_193 => ?_)
            · refine F_iconst X192 at_200 (z := (1 : Int32)) (by decide) (pc' := 201) rfl ?_
              refine F_goto X192 at_201 (by decide) (pc' := 205) (by decide) ?_
              refine F_istore X192 at_205 (Ls' := #[.val (.long u1), .second, .val (.int u2), .val (.long u3), .second, .val (.int u4), .val (.long s1), .second, .val (.long s2), .second, .val (.long s3), .second, .val (.long s4), .second, .val (.int (4 : Int32)), .val (.long r3), .second, .val (.ref b4), .val (.int (1 : Int32))]) rfl (pc' := 207) rfl ?_
              refine F_aload X192 at_207 rfl rfl (pc' := 209) rfl ?_
              refine F_lload X192 at_209 rfl (pc' := 211) rfl ?_
              refine F_callV X192 (y := (⟨"org/pulsewire/store/SeqRuns", "contains", "(J)Z"⟩ : MethodName)) (stk := []) (wd18 hw) (wd19 hw) (wd21 hw) (wd20 hw) (wd8 hw) (wd22 hw) (by decide) (a := b4) E192k_b4 (argsL := [(.long r3)]) (conC3 l Z a0 hw n0 h192 X192.size b4 r3 b5_fb s1 s1 s2 s2 s3 s4 F192_bounds_b4 F192_taken_b4 A192_b5_fb) (by decide) (W := 0) (Nat.le_of_ble_eq_true rfl) (by decide) (by decide) (by decide) rfl (lenOf pd2 rfl) rfl at_211 (pc' := 214) rfl fun T194 v194 h194 X194 q194 => ?_
              obtain ⟨rfl, rfl⟩ := q194
              replace X194 := X194.more (cells' := 2) (slots' := 18) (by decide) (by decide)
              show Jvm.OwnKit.Ends p e below s n0 16 128 _ T194 (mkF m 214 #[.val (.long u1), .second, .val (.int u2), .val (.long u3), .second, .val (.int u4), .val (.long s1), .second, .val (.long s2), .second, .val (.long s3), .second, .val (.long s4), .second, .val (.int (4 : Int32)), .val (.long r3), .second, .val (.ref b4), .val (.int (1 : Int32))] [(.int (ct3 s1 s1 s2 s2 s3 s4 r3))])
              refine F_iload X194 at_214 rfl (pc' := 216) rfl ?_
              refine F_icmp_ne X194 at_216 (by decide) (pt := 223) (by decide) (pc' := 219) rfl (fun hc216_195 => ?_) (fun hc216_195 => ?_)
              · refine F_iconst X194 at_223 (z := (0 : Int32)) (by decide) (pc' := 224) rfl ?_
                refine F_ireturn_boolean (z' := (0 : Int32)) X194 (by decide) at_224 rfl (by decide) (by decide) ?_
                exfalso; refine hc216_195 ?_; unfold ct3; simp only [Int64.lt_iff_toInt_lt, ← Int64.toInt_inj] at hq89 hq157 hq191 hc155_193 ⊢; repeat' split
                all_goals first | rfl | (exfalso; omega)
              · refine F_iconst X194 at_219 (z := (1 : Int32)) (by decide) (pc' := 220) rfl ?_
                refine F_goto X194 at_220 (by decide) (pc' := 224) (by decide) ?_
                refine F_ireturn_boolean (z' := (1 : Int32)) X194 (by decide) at_224 rfl (by decide) (by decide) ?_
                exact rfl
            · refine F_iload X192 at_158 rfl (pc' := 160) rfl ?_
              refine F_iconst X192 at_160 (z := (2 : Int32)) (by decide) (pc' := 161) rfl ?_
              refine F_icmp_lt X192 at_161 (by decide) (pt := 172) (by decide) (pc' := 164) rfl (fun q => absurd q (by decide)) (fun _ => ?_)
              refine F_lload X192 at_164 rfl (pc' := 166) rfl ?_
              refine F_lload X192 at_166 rfl (pc' := 168) rfl ?_
              refine F_lcmp X192 at_168 (pc' := 169) rfl ?_
              refine F_lif_eq X192 at_169 (by decide) (pt := 200) (by decide) (pc' := 172) rfl (fun hc169_196 => ?_) (fun hc169_196 => ?_)
              · refine F_iconst X192 at_200 (z := (1 : Int32)) (by decide) (pc' := 201) rfl ?_
                refine F_goto X192 at_201 (by decide) (pc' := 205) (by decide) ?_
                refine F_istore X192 at_205 (Ls' := #[.val (.long u1), .second, .val (.int u2), .val (.long u3), .second, .val (.int u4), .val (.long s1), .second, .val (.long s2), .second, .val (.long s3), .second, .val (.long s4), .second, .val (.int (4 : Int32)), .val (.long r3), .second, .val (.ref b4), .val (.int (1 : Int32))]) rfl (pc' := 207) rfl ?_
                refine F_aload X192 at_207 rfl rfl (pc' := 209) rfl ?_
                refine F_lload X192 at_209 rfl (pc' := 211) rfl ?_
                refine F_callV X192 (y := (⟨"org/pulsewire/store/SeqRuns", "contains", "(J)Z"⟩ : MethodName)) (stk := []) (wd18 hw) (wd19 hw) (wd21 hw) (wd20 hw) (wd8 hw) (wd22 hw) (by decide) (a := b4) E192k_b4 (argsL := [(.long r3)]) (conC3 l Z a0 hw n0 h192 X192.size b4 r3 b5_fb s1 s1 s2 s2 s3 s4 F192_bounds_b4 F192_taken_b4 A192_b5_fb) (by decide) (W := 0) (Nat.le_of_ble_eq_true rfl) (by decide) (by decide) (by decide) rfl (lenOf pd2 rfl) rfl at_211 (pc' := 214) rfl fun T197 v197 h197 X197 q197 => ?_
                obtain ⟨rfl, rfl⟩ := q197
                replace X197 := X197.more (cells' := 2) (slots' := 18) (by decide) (by decide)
                show Jvm.OwnKit.Ends p e below s n0 16 128 _ T197 (mkF m 214 #[.val (.long u1), .second, .val (.int u2), .val (.long u3), .second, .val (.int u4), .val (.long s1), .second, .val (.long s2), .second, .val (.long s3), .second, .val (.long s4), .second, .val (.int (4 : Int32)), .val (.long r3), .second, .val (.ref b4), .val (.int (1 : Int32))] [(.int (ct3 s1 s1 s2 s2 s3 s4 r3))])
                refine F_iload X197 at_214 rfl (pc' := 216) rfl ?_
                refine F_icmp_ne X197 at_216 (by decide) (pt := 223) (by decide) (pc' := 219) rfl (fun hc216_198 => ?_) (fun hc216_198 => ?_)
                · refine F_iconst X197 at_223 (z := (0 : Int32)) (by decide) (pc' := 224) rfl ?_
                  refine F_ireturn_boolean (z' := (0 : Int32)) X197 (by decide) at_224 rfl (by decide) (by decide) ?_
                  exfalso; refine hc216_198 ?_; unfold ct3; simp only [Int64.lt_iff_toInt_lt, ← Int64.toInt_inj] at hq89 hq157 hq191 hc155_193 hc169_196 ⊢; repeat' split
                  all_goals first | rfl | (exfalso; omega)
                · refine F_iconst X197 at_219 (z := (1 : Int32)) (by decide) (pc' := 220) rfl ?_
                  refine F_goto X197 at_220 (by decide) (pc' := 224) (by decide) ?_
                  refine F_ireturn_boolean (z' := (1 : Int32)) X197 (by decide) at_224 rfl (by decide) (by decide) ?_
                  exact rfl
              · refine F_iload X192 at_172 rfl (pc' := 174) rfl ?_
                refine F_iconst X192 at_174 (z := (3 : Int32)) (by decide) (pc' := 175) rfl ?_
                refine F_icmp_lt X192 at_175 (by decide) (pt := 186) (by decide) (pc' := 178) rfl (fun q => absurd q (by decide)) (fun _ => ?_)
                refine F_lload X192 at_178 rfl (pc' := 180) rfl ?_
                refine F_lload X192 at_180 rfl (pc' := 182) rfl ?_
                refine F_lcmp X192 at_182 (pc' := 183) rfl ?_
                refine F_lif_eq X192 at_183 (by decide) (pt := 200) (by decide) (pc' := 186) rfl (fun hc183_199 => ?_) (fun hc183_199 => ?_)
                · refine F_iconst X192 at_200 (z := (1 : Int32)) (by decide) (pc' := 201) rfl ?_
                  refine F_goto X192 at_201 (by decide) (pc' := 205) (by decide) ?_
                  refine F_istore X192 at_205 (Ls' := #[.val (.long u1), .second, .val (.int u2), .val (.long u3), .second, .val (.int u4), .val (.long s1), .second, .val (.long s2), .second, .val (.long s3), .second, .val (.long s4), .second, .val (.int (4 : Int32)), .val (.long r3), .second, .val (.ref b4), .val (.int (1 : Int32))]) rfl (pc' := 207) rfl ?_
                  refine F_aload X192 at_207 rfl rfl (pc' := 209) rfl ?_
                  refine F_lload X192 at_209 rfl (pc' := 211) rfl ?_
                  refine F_callV X192 (y := (⟨"org/pulsewire/store/SeqRuns", "contains", "(J)Z"⟩ : MethodName)) (stk := []) (wd18 hw) (wd19 hw) (wd21 hw) (wd20 hw) (wd8 hw) (wd22 hw) (by decide) (a := b4) E192k_b4 (argsL := [(.long r3)]) (conC3 l Z a0 hw n0 h192 X192.size b4 r3 b5_fb s1 s1 s2 s2 s3 s4 F192_bounds_b4 F192_taken_b4 A192_b5_fb) (by decide) (W := 0) (Nat.le_of_ble_eq_true rfl) (by decide) (by decide) (by decide) rfl (lenOf pd2 rfl) rfl at_211 (pc' := 214) rfl fun T200 v200 h200 X200 q200 => ?_
                  obtain ⟨rfl, rfl⟩ := q200
                  replace X200 := X200.more (cells' := 2) (slots' := 18) (by decide) (by decide)
                  show Jvm.OwnKit.Ends p e below s n0 16 128 _ T200 (mkF m 214 #[.val (.long u1), .second, .val (.int u2), .val (.long u3), .second, .val (.int u4), .val (.long s1), .second, .val (.long s2), .second, .val (.long s3), .second, .val (.long s4), .second, .val (.int (4 : Int32)), .val (.long r3), .second, .val (.ref b4), .val (.int (1 : Int32))] [(.int (ct3 s1 s1 s2 s2 s3 s4 r3))])
                  refine F_iload X200 at_214 rfl (pc' := 216) rfl ?_
                  refine F_icmp_ne X200 at_216 (by decide) (pt := 223) (by decide) (pc' := 219) rfl (fun hc216_201 => ?_) (fun hc216_201 => ?_)
                  · refine F_iconst X200 at_223 (z := (0 : Int32)) (by decide) (pc' := 224) rfl ?_
                    refine F_ireturn_boolean (z' := (0 : Int32)) X200 (by decide) at_224 rfl (by decide) (by decide) ?_
                    exfalso; refine hc216_201 ?_; unfold ct3; simp only [Int64.lt_iff_toInt_lt, ← Int64.toInt_inj] at hq89 hq157 hq191 hc155_193 hc169_196 hc183_199 ⊢; repeat' split
                    all_goals first | rfl | (exfalso; omega)
                  · refine F_iconst X200 at_219 (z := (1 : Int32)) (by decide) (pc' := 220) rfl ?_
                    refine F_goto X200 at_220 (by decide) (pc' := 224) (by decide) ?_
                    refine F_ireturn_boolean (z' := (1 : Int32)) X200 (by decide) at_224 rfl (by decide) (by decide) ?_
                    exact rfl
                · refine F_iload X192 at_186 rfl (pc' := 188) rfl ?_
                  refine F_iconst X192 at_188 (z := (4 : Int32)) (by decide) (pc' := 189) rfl ?_
                  refine F_icmp_lt X192 at_189 (by decide) (pt := 204) (by decide) (pc' := 192) rfl (fun q => absurd q (by decide)) (fun _ => ?_)
                  refine F_lload X192 at_192 rfl (pc' := 194) rfl ?_
                  refine F_lload X192 at_194 rfl (pc' := 196) rfl ?_
                  refine F_lcmp X192 at_196 (pc' := 197) rfl ?_
                  refine F_lif_ne X192 at_197 (by decide) (pt := 204) (by decide) (pc' := 200) rfl (fun hc197_202 => ?_) (fun hc197_202 => ?_)
                  · refine F_iconst X192 at_204 (z := (0 : Int32)) (by decide) (pc' := 205) rfl ?_
                    refine F_istore X192 at_205 (Ls' := #[.val (.long u1), .second, .val (.int u2), .val (.long u3), .second, .val (.int u4), .val (.long s1), .second, .val (.long s2), .second, .val (.long s3), .second, .val (.long s4), .second, .val (.int (4 : Int32)), .val (.long r3), .second, .val (.ref b4), .val (.int (0 : Int32))]) rfl (pc' := 207) rfl ?_
                    refine F_aload X192 at_207 rfl rfl (pc' := 209) rfl ?_
                    refine F_lload X192 at_209 rfl (pc' := 211) rfl ?_
                    refine F_callV X192 (y := (⟨"org/pulsewire/store/SeqRuns", "contains", "(J)Z"⟩ : MethodName)) (stk := []) (wd18 hw) (wd19 hw) (wd21 hw) (wd20 hw) (wd8 hw) (wd22 hw) (by decide) (a := b4) E192k_b4 (argsL := [(.long r3)]) (conC3 l Z a0 hw n0 h192 X192.size b4 r3 b5_fb s1 s1 s2 s2 s3 s4 F192_bounds_b4 F192_taken_b4 A192_b5_fb) (by decide) (W := 0) (Nat.le_of_ble_eq_true rfl) (by decide) (by decide) (by decide) rfl (lenOf pd2 rfl) rfl at_211 (pc' := 214) rfl fun T203 v203 h203 X203 q203 => ?_
                    obtain ⟨rfl, rfl⟩ := q203
                    replace X203 := X203.more (cells' := 2) (slots' := 18) (by decide) (by decide)
                    show Jvm.OwnKit.Ends p e below s n0 16 128 _ T203 (mkF m 214 #[.val (.long u1), .second, .val (.int u2), .val (.long u3), .second, .val (.int u4), .val (.long s1), .second, .val (.long s2), .second, .val (.long s3), .second, .val (.long s4), .second, .val (.int (4 : Int32)), .val (.long r3), .second, .val (.ref b4), .val (.int (0 : Int32))] [(.int (ct3 s1 s1 s2 s2 s3 s4 r3))])
                    refine F_iload X203 at_214 rfl (pc' := 216) rfl ?_
                    refine F_icmp_ne X203 at_216 (by decide) (pt := 223) (by decide) (pc' := 219) rfl (fun hc216_204 => ?_) (fun hc216_204 => ?_)
                    · refine F_iconst X203 at_223 (z := (0 : Int32)) (by decide) (pc' := 224) rfl ?_
                      refine F_ireturn_boolean (z' := (0 : Int32)) X203 (by decide) at_224 rfl (by decide) (by decide) ?_
                      exfalso; refine hc216_204 ?_; unfold ct3; simp only [Int64.lt_iff_toInt_lt, ← Int64.toInt_inj] at hq89 hq157 hq191 hc155_193 hc169_196 hc183_199 hc197_202 ⊢; repeat' split
                      all_goals first | rfl | (exfalso; omega)
                    · refine F_iconst X203 at_219 (z := (1 : Int32)) (by decide) (pc' := 220) rfl ?_
                      refine F_goto X203 at_220 (by decide) (pc' := 224) (by decide) ?_
                      refine F_ireturn_boolean (z' := (1 : Int32)) X203 (by decide) at_224 rfl (by decide) (by decide) ?_
                      exact rfl
                  · refine F_iconst X192 at_200 (z := (1 : Int32)) (by decide) (pc' := 201) rfl ?_
                    refine F_goto X192 at_201 (by decide) (pc' := 205) (by decide) ?_
                    refine F_istore X192 at_205 (Ls' := #[.val (.long u1), .second, .val (.int u2), .val (.long u3), .second, .val (.int u4), .val (.long s1), .second, .val (.long s2), .second, .val (.long s3), .second, .val (.long s4), .second, .val (.int (4 : Int32)), .val (.long r3), .second, .val (.ref b4), .val (.int (1 : Int32))]) rfl (pc' := 207) rfl ?_
                    refine F_aload X192 at_207 rfl rfl (pc' := 209) rfl ?_
                    refine F_lload X192 at_209 rfl (pc' := 211) rfl ?_
                    refine F_callV X192 (y := (⟨"org/pulsewire/store/SeqRuns", "contains", "(J)Z"⟩ : MethodName)) (stk := []) (wd18 hw) (wd19 hw) (wd21 hw) (wd20 hw) (wd8 hw) (wd22 hw) (by decide) (a := b4) E192k_b4 (argsL := [(.long r3)]) (conC3 l Z a0 hw n0 h192 X192.size b4 r3 b5_fb s1 s1 s2 s2 s3 s4 F192_bounds_b4 F192_taken_b4 A192_b5_fb) (by decide) (W := 0) (Nat.le_of_ble_eq_true rfl) (by decide) (by decide) (by decide) rfl (lenOf pd2 rfl) rfl at_211 (pc' := 214) rfl fun T205 v205 h205 X205 q205 => ?_
                    obtain ⟨rfl, rfl⟩ := q205
                    replace X205 := X205.more (cells' := 2) (slots' := 18) (by decide) (by decide)
                    show Jvm.OwnKit.Ends p e below s n0 16 128 _ T205 (mkF m 214 #[.val (.long u1), .second, .val (.int u2), .val (.long u3), .second, .val (.int u4), .val (.long s1), .second, .val (.long s2), .second, .val (.long s3), .second, .val (.long s4), .second, .val (.int (4 : Int32)), .val (.long r3), .second, .val (.ref b4), .val (.int (1 : Int32))] [(.int (ct3 s1 s1 s2 s2 s3 s4 r3))])
                    refine F_iload X205 at_214 rfl (pc' := 216) rfl ?_
                    refine F_icmp_ne X205 at_216 (by decide) (pt := 223) (by decide) (pc' := 219) rfl (fun hc216_206 => ?_) (fun hc216_206 => ?_)
                    · refine F_iconst X205 at_223 (z := (0 : Int32)) (by decide) (pc' := 224) rfl ?_
                      refine F_ireturn_boolean (z' := (0 : Int32)) X205 (by decide) at_224 rfl (by decide) (by decide) ?_
                      exfalso; refine hc216_206 ?_; unfold ct3; simp only [Int64.lt_iff_toInt_lt, ← Int64.toInt_inj] at hq89 hq157 hq191 hc155_193 hc169_196 hc183_199 hc197_202 ⊢; repeat' split
                      all_goals first | rfl | (exfalso; omega)
                    · refine F_iconst X205 at_219 (z := (1 : Int32)) (by decide) (pc' := 220) rfl ?_
                      refine F_goto X205 at_220 (by decide) (pc' := 224) (by decide) ?_
                      refine F_ireturn_boolean (z' := (1 : Int32)) X205 (by decide) at_224 rfl (by decide) (by decide) ?_
                      exact rfl
          · refine F_callV X190 (y := (⟨"org/pulsewire/store/SeqRuns", "add", "(J)V"⟩ : MethodName)) (stk := []) (wd25 hw) (wd26 hw) (wd28 hw) (wd27 hw) (wd8 hw) (wd29 hw) (by decide) (a := b4) E190k_b4 (argsL := [(.long s4)]) (conN6 l Z a0 hw n0 h190 X190.size b4 s4 b5_fb s1 s1 s2 s2 s3 s3 E190k_b4 F190_bounds_b4 F190_taken_b4 A190_b5_fb ge4 ge_b5_fb ne_b4_b5_fb (by assumption)) (by decide) (W := 0) (Nat.le_of_ble_eq_true rfl) (by decide) (by decide) (by decide) rfl (lenOf pd3 rfl) rfl at_141 (pc' := 144) rfl fun T207 v207 h207 X207 q207 => ?_
            obtain ⟨rfl, Kp207, F207_bounds_b4, F207_taken_b4, A207_b5_fb⟩ := q207
            have E207k_b4 := E190k_b4.keep Kp207
            have E207k_b5_fb := E190k_b5_fb.keep Kp207
            replace X207 := X207.more (cells' := 2) (slots' := 18) (by decide) (by decide)
            show Jvm.OwnKit.Ends p e below s n0 16 128 _ T207 (mkF m 144 #[.val (.long u1), .second, .val (.int u2), .val (.long u3), .second, .val (.int u4), .val (.long s1), .second, .val (.long s2), .second, .val (.long s3), .second, .val (.long s4), .second, .val (.int (4 : Int32)), .val (.long r3), .second, .val (.ref b4), .unset] [])
            refine F_iload X207 at_144 rfl (pc' := 146) rfl ?_
            refine F_iconst X207 at_146 (z := (1 : Int32)) (by decide) (pc' := 147) rfl ?_
            refine F_icmp_lt X207 at_147 (by decide) (pt := 158) (by decide) (pc' := 150) rfl (fun q => absurd q (by decide)) (fun _ => ?_)
            refine F_lload X207 at_150 rfl (pc' := 152) rfl ?_
            refine F_lload X207 at_152 rfl (pc' := 154) rfl ?_
            refine F_lcmp X207 at_154 (pc' := 155) rfl ?_
            refine F_lif_eq X207 at_155 (by decide) (pt := 200) (by decide) (pc' := 158) rfl (fun hc155_208 => ?_) (fun hc155_208 => ?_)
            · refine F_iconst X207 at_200 (z := (1 : Int32)) (by decide) (pc' := 201) rfl ?_
              refine F_goto X207 at_201 (by decide) (pc' := 205) (by decide) ?_
              refine F_istore X207 at_205 (Ls' := #[.val (.long u1), .second, .val (.int u2), .val (.long u3), .second, .val (.int u4), .val (.long s1), .second, .val (.long s2), .second, .val (.long s3), .second, .val (.long s4), .second, .val (.int (4 : Int32)), .val (.long r3), .second, .val (.ref b4), .val (.int (1 : Int32))]) rfl (pc' := 207) rfl ?_
              refine F_aload X207 at_207 rfl rfl (pc' := 209) rfl ?_
              refine F_lload X207 at_209 rfl (pc' := 211) rfl ?_
              refine F_callV X207 (y := (⟨"org/pulsewire/store/SeqRuns", "contains", "(J)Z"⟩ : MethodName)) (stk := []) (wd18 hw) (wd19 hw) (wd21 hw) (wd20 hw) (wd8 hw) (wd22 hw) (by decide) (a := b4) E207k_b4 (argsL := [(.long r3)]) (conC4 l Z a0 hw n0 h207 X207.size b4 r3 b5_fb s1 s1 s2 s2 s3 s3 s4 s4 F207_bounds_b4 F207_taken_b4 A207_b5_fb) (by decide) (W := 0) (Nat.le_of_ble_eq_true rfl) (by decide) (by decide) (by decide) rfl (lenOf pd2 rfl) rfl at_211 (pc' := 214) rfl fun T209 v209 h209 X209 q209 => ?_
              obtain ⟨rfl, rfl⟩ := q209
              replace X209 := X209.more (cells' := 2) (slots' := 18) (by decide) (by decide)
              show Jvm.OwnKit.Ends p e below s n0 16 128 _ T209 (mkF m 214 #[.val (.long u1), .second, .val (.int u2), .val (.long u3), .second, .val (.int u4), .val (.long s1), .second, .val (.long s2), .second, .val (.long s3), .second, .val (.long s4), .second, .val (.int (4 : Int32)), .val (.long r3), .second, .val (.ref b4), .val (.int (1 : Int32))] [(.int (ct4 s1 s1 s2 s2 s3 s3 s4 s4 r3))])
              refine F_iload X209 at_214 rfl (pc' := 216) rfl ?_
              refine F_icmp_ne X209 at_216 (by decide) (pt := 223) (by decide) (pc' := 219) rfl (fun hc216_210 => ?_) (fun hc216_210 => ?_)
              · refine F_iconst X209 at_223 (z := (0 : Int32)) (by decide) (pc' := 224) rfl ?_
                refine F_ireturn_boolean (z' := (0 : Int32)) X209 (by decide) at_224 rfl (by decide) (by decide) ?_
                exfalso; refine hc216_210 ?_; unfold ct4; simp only [Int64.lt_iff_toInt_lt, ← Int64.toInt_inj] at hq89 hq157 hq191 hc155_208 ⊢; repeat' split
                all_goals first | rfl | (exfalso; omega)
              · refine F_iconst X209 at_219 (z := (1 : Int32)) (by decide) (pc' := 220) rfl ?_
                refine F_goto X209 at_220 (by decide) (pc' := 224) (by decide) ?_
                refine F_ireturn_boolean (z' := (1 : Int32)) X209 (by decide) at_224 rfl (by decide) (by decide) ?_
                exact rfl
            · refine F_iload X207 at_158 rfl (pc' := 160) rfl ?_
              refine F_iconst X207 at_160 (z := (2 : Int32)) (by decide) (pc' := 161) rfl ?_
              refine F_icmp_lt X207 at_161 (by decide) (pt := 172) (by decide) (pc' := 164) rfl (fun q => absurd q (by decide)) (fun _ => ?_)
              refine F_lload X207 at_164 rfl (pc' := 166) rfl ?_
              refine F_lload X207 at_166 rfl (pc' := 168) rfl ?_
              refine F_lcmp X207 at_168 (pc' := 169) rfl ?_
              refine F_lif_eq X207 at_169 (by decide) (pt := 200) (by decide) (pc' := 172) rfl (fun hc169_211 => ?_) (fun hc169_211 => ?_)
              · refine F_iconst X207 at_200 (z := (1 : Int32)) (by decide) (pc' := 201) rfl ?_
                refine F_goto X207 at_201 (by decide) (pc' := 205) (by decide) ?_
                refine F_istore X207 at_205 (Ls' := #[.val (.long u1), .second, .val (.int u2), .val (.long u3), .second, .val (.int u4), .val (.long s1), .second, .val (.long s2), .second, .val (.long s3), .second, .val (.long s4), .second, .val (.int (4 : Int32)), .val (.long r3), .second, .val (.ref b4), .val (.int (1 : Int32))]) rfl (pc' := 207) rfl ?_
                refine F_aload X207 at_207 rfl rfl (pc' := 209) rfl ?_
                refine F_lload X207 at_209 rfl (pc' := 211) rfl ?_
                refine F_callV X207 (y := (⟨"org/pulsewire/store/SeqRuns", "contains", "(J)Z"⟩ : MethodName)) (stk := []) (wd18 hw) (wd19 hw) (wd21 hw) (wd20 hw) (wd8 hw) (wd22 hw) (by decide) (a := b4) E207k_b4 (argsL := [(.long r3)]) (conC4 l Z a0 hw n0 h207 X207.size b4 r3 b5_fb s1 s1 s2 s2 s3 s3 s4 s4 F207_bounds_b4 F207_taken_b4 A207_b5_fb) (by decide) (W := 0) (Nat.le_of_ble_eq_true rfl) (by decide) (by decide) (by decide) rfl (lenOf pd2 rfl) rfl at_211 (pc' := 214) rfl fun T212 v212 h212 X212 q212 => ?_
                obtain ⟨rfl, rfl⟩ := q212
                replace X212 := X212.more (cells' := 2) (slots' := 18) (by decide) (by decide)
                show Jvm.OwnKit.Ends p e below s n0 16 128 _ T212 (mkF m 214 #[.val (.long u1), .second, .val (.int u2), .val (.long u3), .second, .val (.int u4), .val (.long s1), .second, .val (.long s2), .second, .val (.long s3), .second, .val (.long s4), .second, .val (.int (4 : Int32)), .val (.long r3), .second, .val (.ref b4), .val (.int (1 : Int32))] [(.int (ct4 s1 s1 s2 s2 s3 s3 s4 s4 r3))])
                refine F_iload X212 at_214 rfl (pc' := 216) rfl ?_
                refine F_icmp_ne X212 at_216 (by decide) (pt := 223) (by decide) (pc' := 219) rfl (fun hc216_213 => ?_) (fun hc216_213 => ?_)
                · refine F_iconst X212 at_223 (z := (0 : Int32)) (by decide) (pc' := 224) rfl ?_
                  refine F_ireturn_boolean (z' := (0 : Int32)) X212 (by decide) at_224 rfl (by decide) (by decide) ?_
                  exfalso; refine hc216_213 ?_; unfold ct4; simp only [Int64.lt_iff_toInt_lt, ← Int64.toInt_inj] at hq89 hq157 hq191 hc155_208 hc169_211 ⊢; repeat' split
                  all_goals first | rfl | (exfalso; omega)
                · refine F_iconst X212 at_219 (z := (1 : Int32)) (by decide) (pc' := 220) rfl ?_
                  refine F_goto X212 at_220 (by decide) (pc' := 224) (by decide) ?_
                  refine F_ireturn_boolean (z' := (1 : Int32)) X212 (by decide) at_224 rfl (by decide) (by decide) ?_
                  exact rfl
              · refine F_iload X207 at_172 rfl (pc' := 174) rfl ?_
                refine F_iconst X207 at_174 (z := (3 : Int32)) (by decide) (pc' := 175) rfl ?_
                refine F_icmp_lt X207 at_175 (by decide) (pt := 186) (by decide) (pc' := 178) rfl (fun q => absurd q (by decide)) (fun _ => ?_)
                refine F_lload X207 at_178 rfl (pc' := 180) rfl ?_
                refine F_lload X207 at_180 rfl (pc' := 182) rfl ?_
                refine F_lcmp X207 at_182 (pc' := 183) rfl ?_
                refine F_lif_eq X207 at_183 (by decide) (pt := 200) (by decide) (pc' := 186) rfl (fun hc183_214 => ?_) (fun hc183_214 => ?_)
                · refine F_iconst X207 at_200 (z := (1 : Int32)) (by decide) (pc' := 201) rfl ?_
                  refine F_goto X207 at_201 (by decide) (pc' := 205) (by decide) ?_
                  refine F_istore X207 at_205 (Ls' := #[.val (.long u1), .second, .val (.int u2), .val (.long u3), .second, .val (.int u4), .val (.long s1), .second, .val (.long s2), .second, .val (.long s3), .second, .val (.long s4), .second, .val (.int (4 : Int32)), .val (.long r3), .second, .val (.ref b4), .val (.int (1 : Int32))]) rfl (pc' := 207) rfl ?_
                  refine F_aload X207 at_207 rfl rfl (pc' := 209) rfl ?_
                  refine F_lload X207 at_209 rfl (pc' := 211) rfl ?_
                  refine F_callV X207 (y := (⟨"org/pulsewire/store/SeqRuns", "contains", "(J)Z"⟩ : MethodName)) (stk := []) (wd18 hw) (wd19 hw) (wd21 hw) (wd20 hw) (wd8 hw) (wd22 hw) (by decide) (a := b4) E207k_b4 (argsL := [(.long r3)]) (conC4 l Z a0 hw n0 h207 X207.size b4 r3 b5_fb s1 s1 s2 s2 s3 s3 s4 s4 F207_bounds_b4 F207_taken_b4 A207_b5_fb) (by decide) (W := 0) (Nat.le_of_ble_eq_true rfl) (by decide) (by decide) (by decide) rfl (lenOf pd2 rfl) rfl at_211 (pc' := 214) rfl fun T215 v215 h215 X215 q215 => ?_
                  obtain ⟨rfl, rfl⟩ := q215
                  replace X215 := X215.more (cells' := 2) (slots' := 18) (by decide) (by decide)
                  show Jvm.OwnKit.Ends p e below s n0 16 128 _ T215 (mkF m 214 #[.val (.long u1), .second, .val (.int u2), .val (.long u3), .second, .val (.int u4), .val (.long s1), .second, .val (.long s2), .second, .val (.long s3), .second, .val (.long s4), .second, .val (.int (4 : Int32)), .val (.long r3), .second, .val (.ref b4), .val (.int (1 : Int32))] [(.int (ct4 s1 s1 s2 s2 s3 s3 s4 s4 r3))])
                  refine F_iload X215 at_214 rfl (pc' := 216) rfl ?_
                  refine F_icmp_ne X215 at_216 (by decide) (pt := 223) (by decide) (pc' := 219) rfl (fun hc216_216 => ?_) (fun hc216_216 => ?_)
                  · refine F_iconst X215 at_223 (z := (0 : Int32)) (by decide) (pc' := 224) rfl ?_
                    refine F_ireturn_boolean (z' := (0 : Int32)) X215 (by decide) at_224 rfl (by decide) (by decide) ?_
                    exfalso; refine hc216_216 ?_; unfold ct4; simp only [Int64.lt_iff_toInt_lt, ← Int64.toInt_inj] at hq89 hq157 hq191 hc155_208 hc169_211 hc183_214 ⊢; repeat' split
                    all_goals first | rfl | (exfalso; omega)
                  · refine F_iconst X215 at_219 (z := (1 : Int32)) (by decide) (pc' := 220) rfl ?_
                    refine F_goto X215 at_220 (by decide) (pc' := 224) (by decide) ?_
                    refine F_ireturn_boolean (z' := (1 : Int32)) X215 (by decide) at_224 rfl (by decide) (by decide) ?_
                    exact rfl
                · refine F_iload X207 at_186 rfl (pc' := 188) rfl ?_
                  refine F_iconst X207 at_188 (z := (4 : Int32)) (by decide) (pc' := 189) rfl ?_
                  refine F_icmp_lt X207 at_189 (by decide) (pt := 204) (by decide) (pc' := 192) rfl (fun q => absurd q (by decide)) (fun _ => ?_)
                  refine F_lload X207 at_192 rfl (pc' := 194) rfl ?_
                  refine F_lload X207 at_194 rfl (pc' := 196) rfl ?_
                  refine F_lcmp X207 at_196 (pc' := 197) rfl ?_
                  refine F_lif_ne X207 at_197 (by decide) (pt := 204) (by decide) (pc' := 200) rfl (fun hc197_217 => ?_) (fun hc197_217 => ?_)
                  · refine F_iconst X207 at_204 (z := (0 : Int32)) (by decide) (pc' := 205) rfl ?_
                    refine F_istore X207 at_205 (Ls' := #[.val (.long u1), .second, .val (.int u2), .val (.long u3), .second, .val (.int u4), .val (.long s1), .second, .val (.long s2), .second, .val (.long s3), .second, .val (.long s4), .second, .val (.int (4 : Int32)), .val (.long r3), .second, .val (.ref b4), .val (.int (0 : Int32))]) rfl (pc' := 207) rfl ?_
                    refine F_aload X207 at_207 rfl rfl (pc' := 209) rfl ?_
                    refine F_lload X207 at_209 rfl (pc' := 211) rfl ?_
                    refine F_callV X207 (y := (⟨"org/pulsewire/store/SeqRuns", "contains", "(J)Z"⟩ : MethodName)) (stk := []) (wd18 hw) (wd19 hw) (wd21 hw) (wd20 hw) (wd8 hw) (wd22 hw) (by decide) (a := b4) E207k_b4 (argsL := [(.long r3)]) (conC4 l Z a0 hw n0 h207 X207.size b4 r3 b5_fb s1 s1 s2 s2 s3 s3 s4 s4 F207_bounds_b4 F207_taken_b4 A207_b5_fb) (by decide) (W := 0) (Nat.le_of_ble_eq_true rfl) (by decide) (by decide) (by decide) rfl (lenOf pd2 rfl) rfl at_211 (pc' := 214) rfl fun T218 v218 h218 X218 q218 => ?_
                    obtain ⟨rfl, rfl⟩ := q218
                    replace X218 := X218.more (cells' := 2) (slots' := 18) (by decide) (by decide)
                    show Jvm.OwnKit.Ends p e below s n0 16 128 _ T218 (mkF m 214 #[.val (.long u1), .second, .val (.int u2), .val (.long u3), .second, .val (.int u4), .val (.long s1), .second, .val (.long s2), .second, .val (.long s3), .second, .val (.long s4), .second, .val (.int (4 : Int32)), .val (.long r3), .second, .val (.ref b4), .val (.int (0 : Int32))] [(.int (ct4 s1 s1 s2 s2 s3 s3 s4 s4 r3))])
                    refine F_iload X218 at_214 rfl (pc' := 216) rfl ?_
                    refine F_icmp_ne X218 at_216 (by decide) (pt := 223) (by decide) (pc' := 219) rfl (fun hc216_219 => ?_) (fun hc216_219 => ?_)
                    · refine F_iconst X218 at_223 (z := (0 : Int32)) (by decide) (pc' := 224) rfl ?_
                      refine F_ireturn_boolean (z' := (0 : Int32)) X218 (by decide) at_224 rfl (by decide) (by decide) ?_
                      exfalso; refine hc216_219 ?_; unfold ct4; simp only [Int64.lt_iff_toInt_lt, ← Int64.toInt_inj] at hq89 hq157 hq191 hc155_208 hc169_211 hc183_214 hc197_217 ⊢; repeat' split
                      all_goals first | rfl | (exfalso; omega)
                    · refine F_iconst X218 at_219 (z := (1 : Int32)) (by decide) (pc' := 220) rfl ?_
                      refine F_goto X218 at_220 (by decide) (pc' := 224) (by decide) ?_
                      refine F_ireturn_boolean (z' := (1 : Int32)) X218 (by decide) at_224 rfl (by decide) (by decide) ?_
                      exact rfl
                  · refine F_iconst X207 at_200 (z := (1 : Int32)) (by decide) (pc' := 201) rfl ?_
                    refine F_goto X207 at_201 (by decide) (pc' := 205) (by decide) ?_
                    refine F_istore X207 at_205 (Ls' := #[.val (.long u1), .second, .val (.int u2), .val (.long u3), .second, .val (.int u4), .val (.long s1), .second, .val (.long s2), .second, .val (.long s3), .second, .val (.long s4), .second, .val (.int (4 : Int32)), .val (.long r3), .second, .val (.ref b4), .val (.int (1 : Int32))]) rfl (pc' := 207) rfl ?_
                    refine F_aload X207 at_207 rfl rfl (pc' := 209) rfl ?_
                    refine F_lload X207 at_209 rfl (pc' := 211) rfl ?_
                    refine F_callV X207 (y := (⟨"org/pulsewire/store/SeqRuns", "contains", "(J)Z"⟩ : MethodName)) (stk := []) (wd18 hw) (wd19 hw) (wd21 hw) (wd20 hw) (wd8 hw) (wd22 hw) (by decide) (a := b4) E207k_b4 (argsL := [(.long r3)]) (conC4 l Z a0 hw n0 h207 X207.size b4 r3 b5_fb s1 s1 s2 s2 s3 s3 s4 s4 F207_bounds_b4 F207_taken_b4 A207_b5_fb) (by decide) (W := 0) (Nat.le_of_ble_eq_true rfl) (by decide) (by decide) (by decide) rfl (lenOf pd2 rfl) rfl at_211 (pc' := 214) rfl fun T220 v220 h220 X220 q220 => ?_
                    obtain ⟨rfl, rfl⟩ := q220
                    replace X220 := X220.more (cells' := 2) (slots' := 18) (by decide) (by decide)
                    show Jvm.OwnKit.Ends p e below s n0 16 128 _ T220 (mkF m 214 #[.val (.long u1), .second, .val (.int u2), .val (.long u3), .second, .val (.int u4), .val (.long s1), .second, .val (.long s2), .second, .val (.long s3), .second, .val (.long s4), .second, .val (.int (4 : Int32)), .val (.long r3), .second, .val (.ref b4), .val (.int (1 : Int32))] [(.int (ct4 s1 s1 s2 s2 s3 s3 s4 s4 r3))])
                    refine F_iload X220 at_214 rfl (pc' := 216) rfl ?_
                    refine F_icmp_ne X220 at_216 (by decide) (pt := 223) (by decide) (pc' := 219) rfl (fun hc216_221 => ?_) (fun hc216_221 => ?_)
                    · refine F_iconst X220 at_223 (z := (0 : Int32)) (by decide) (pc' := 224) rfl ?_
                      refine F_ireturn_boolean (z' := (0 : Int32)) X220 (by decide) at_224 rfl (by decide) (by decide) ?_
                      exfalso; refine hc216_221 ?_; unfold ct4; simp only [Int64.lt_iff_toInt_lt, ← Int64.toInt_inj] at hq89 hq157 hq191 hc155_208 hc169_211 hc183_214 hc197_217 ⊢; repeat' split
                      all_goals first | rfl | (exfalso; omega)
                    · refine F_iconst X220 at_219 (z := (1 : Int32)) (by decide) (pc' := 220) rfl ?_
                      refine F_goto X220 at_220 (by decide) (pc' := 224) (by decide) ?_
                      refine F_ireturn_boolean (z' := (1 : Int32)) X220 (by decide) at_224 rfl (by decide) (by decide) ?_
                      exact rfl
  refine F_if_eq X1 at_59 (by decide) (pt := 68) (by decide) (pc' := 62) rfl (fun hc59_2 => ?_) (fun hc59_2 => ?_)
  · refine F_lload X1 at_68 rfl (pc' := 70) rfl ?_
    refine F_iload X1 at_70 rfl (pc' := 72) rfl ?_
    refine F_bipush X1 at_72 (z := (15 : Int32)) (by decide) (pc' := 74) rfl ?_
    refine F_iand X1 at_74 rfl (pc' := 75) rfl ?_
    refine F_i2l X1 at_75 rfl (pc' := 76) rfl ?_
    refine F_ladd X1 at_76 rfl (pc' := 77) rfl ?_
    refine F_ldc2Long X1 (wd5 hw) at_77 (pc' := 80) rfl ?_
    refine F_lsub X1 at_80 rfl (pc' := 81) rfl ?_
    refine F_lstore X1 at_81 (Ls' := #[.val (.long u1), .second, .val (.int u2), .val (.long u3), .second, .val (.int u4), .val (.long s1), .second, .val (.long s2), .second, .val (.long s3), .second, .val (.long s4), .second, .val (.int kk), .val (.long ((s1 + ((u4 &&& (15 : Int32)).toInt64)) - (2 : Int64))), .second, .unset, .unset]) rfl (pc' := 83) rfl ?_
    exact Jr3 _ (if_pos hc59_2).symm
  · refine F_lloadN X1 at_62 rfl (pc' := 63) rfl ?_
    refine F_lstore X1 at_63 (Ls' := #[.val (.long u1), .second, .val (.int u2), .val (.long u3), .second, .val (.int u4), .val (.long s1), .second, .val (.long s2), .second, .val (.long s3), .second, .val (.long s4), .second, .val (.int kk), .val (.long u3), .second, .unset, .unset]) rfl (pc' := 65) rfl ?_
    refine F_goto X1 at_65 (by decide) (pc' := 83) (by decide) ?_
    exact Jr3 _ (if_neg hc59_2).symm
set_option maxRecDepth 65536 in
set_option maxHeartbeats 40000000 in
theorem comes_1 {Post : Tables → Env → Array Value → State → Outcome → State → Prop} (hpost : ∀ tb e args s v u, (limb_1_1.after args s (.returned v) u = true ∧ limb_1_2.after args s (.returned v) u = true ∧ True) → FrameEnd s (.returned v) u (Jvm.fieldLocs frame_1_writes args s ++ Jvm.arrayLocs frame_1_arrays args s ++ Jvm.staticLocs frame_1_statics s) 16 128 → Post tb e args s (.returned v) u) :
    ArmFor flags0 classFile x code maxLocals ret World_1 tables_1 room_1 Calls_1 rest_1 Pre_1 Post := by
  intro l hfl _ _ p e ha hc hk s m args below hf hA hF happ hP
  obtain ⟨hcalls, hrest, hpre⟩ := hP
  obtain ⟨-, -, -, hnamed, -, -, -, hat⟩ := (Spec.applies_iff hf).mp happ
  obtain ⟨hg, hn⟩ := and_e (Cond.before_iff.mp (show (Jvm.Cond.and given_1 narrow_1).before args s = true from hpre))
  obtain ⟨g0, r0⟩ := and_e hg
  obtain ⟨v0, r1⟩ := and_e r0
  obtain ⟨v1, r2⟩ := and_e r1
  obtain ⟨v2, r3⟩ := and_e r2
  obtain ⟨w0, w1, w2, w3, rfl⟩ : ∃ w0 w1 w2 w3 : Value, args = #[w0, w1, w2, w3] := by
    have hs : args.size = 4 := by simpa [Cond.value, given_1] using g0
    obtain ⟨L⟩ := args
    match L, hs with
    | [w0, w1, w2, w3], _ => exact ⟨w0, w1, w2, w3, rfl⟩
  have hw := fun d (hd : d ∈ tables_1) => atoms_spec (ws := Jvm.Cond.code x code maxLocals ret :: tables_1) hat d (List.mem_cons_of_mem _ hd)
  obtain ⟨i0, ei0⟩ := isL_v v0
  obtain rfl : w0 = (.long i0) := Option.some.inj ei0
  obtain ⟨i1, ei1⟩ := is_v v1
  obtain rfl : w1 = (.int i1) := Option.some.inj ei1
  obtain ⟨i2, ei2⟩ := isL_v v2
  obtain rfl : w2 = (.long i2) := Option.some.inj ei2
  obtain ⟨i3, ei3⟩ := is_v r3
  obtain rfl : w3 = (.int i3) := Option.some.inj ei3
  obtain ⟨n, o, h1, h2, h3, _, L, rfl, ⟨rfl, N⟩, hq⟩ := con0 l s _ hw s.heap.size s.heap (Nat.le_refl _) i0 i1 i2 i3 tables_1 p e ha hc hk s m _ below hf ((Spec.applies_iff_loose hf).mp happ).1 ⟨rfl, State.Warmed39.refl s, rfl⟩ trivial
  refine ⟨n, _, h1, h2, h3, hpost _ _ _ _ _ _ ⟨Cond.after_iff.mpr rfl, Cond.after_iff.mpr (eq_i res_at (Term.int_eval (1)) rfl), trivial⟩ ⟨hq.1, hq.2.1, (hq.2.2.sift fun y hy => Or.inr (N y hy)).mono (by decide) (by decide)⟩⟩
theorem main_1_1 : Claimed_1_1 := comes_1 fun _ _ _ _ _ _ h hF => ⟨h.1, hF⟩
theorem main_1_2 : Claimed_1_2 := comes_1 fun _ _ _ _ _ _ h hF => ⟨h.2.1, hF⟩
end Jvm.Pilot.@@N@@
namespace Jvm.Pilot.@@N@@
open Jvm Jvm.ClassFile Sem Op Lib Jvm.Free Jvm.Stand Jvm.Pilot.@@N@@.Jvm.D
/-! MADE BY PROGRAM (witnessworld.py) out of the Statement's table words and the real class files: 12 classes; the members and pool entries that the words name. The judged class is class 1, her method 1. -/
namespace start1
open Jvm.ClassFile
def u (s : String) : CpInfo := .utf8 (stringToUtf16 s)
/-- a pool by its gaps: so many unusable entries, then the entry; so many at the end -/
def gap : Nat → List CpInfo → List CpInfo
  | 0, r => r
  | n + 1, r => .unusable :: gap n r
def poolList (es : List (Nat × CpInfo)) (last : Nat) : List CpInfo := es.foldr (fun e r => gap e.1 (e.2 :: r)) (gap last [])
def pool (es : List (Nat × CpInfo)) (last : Nat) : Array CpInfo := ⟨poolList es last⟩
def fileOf (pool : Array CpInfo) (this : Nat) (attrs : Array Attribute := #[]) (ms : Array MethodInfo := #[]) (fl : Nat := 33) (sup : Nat := 0) (ifs : Array Nat := #[]) (fds : Array FieldInfo := #[]) : ClassFile where
  minorVersion := 0
  majorVersion := 65
  constantPool := pool
  accessFlags := fl
  thisClass := this
  superClass := sup
  interfaces := ifs
  fields := fds
  methods := ms
  attributes := attrs
def plain (name : String) (sup : Option ClassId) : Class where
  name := name
  kind := .ordinary
  loader := none
  accessFlags := 33
  super := sup
  interfaces := #[]
  cf := none
  fields := #[]
  methods := #[]
  instanceTypes := #[]
  staticTypes := #[]
  resolved := #[]
  callSites := []
  init := .initialized
  statics := none
  mirror := none

def pool0 : Array CpInfo := pool [(5, u "<init>"), (0, u "()V"), (1, .class_ 10), (1, u "java/lang/Object")] 113

def k0c0 : Code := { maxStack := 0, maxLocals := 1, code := object_method_1_code, exceptionTable := #[], attributes := #[] }
def k0m0 : Method := { name := "<init>", desc := "()V", sig := { parameters := [], returnType := none }, accessFlags := 1, code := some k0c0 }
/-- java/lang/Object -/
def k0 : Class := { plain "java/lang/Object" none with
  accessFlags := 33
  interfaces := #[]
  cf := some (fileOf pool0 8 #[] #[{ accessFlags := 1, nameIndex := 5, descriptorIndex := 6, attributes := #[] }] 33 0 #[] #[])
  fields := #[]
  methods := #[k0m0]
  instanceTypes := #[]
  staticTypes := #[]
  resolved := Array.replicate 124 none
  statics := none }

def pool1 : Array CpInfo := pool [(2, .class_ 4), (0, .nameAndType 5 6), (0, u "java/lang/Object"), (0, u "<init>"), (0, u "()V"), (2, .long 9223372036854775795), (1, .methodref 12 13), (0, .class_ 14), (0, .nameAndType 15 16), (0, u "java/lang/Math"), (0, u "min"), (0, u "(JJ)J"), (0, .long 2), (1, .class_ 20), (0, u "org/pulsewire/store/SeqRuns"), (0, .methodref 19 3), (0, .methodref 19 23), (0, .nameAndType 24 25), (0, u "add"), (0, u "(J)V"), (0, .methodref 19 27), (0, .nameAndType 28 29), (0, u "contains"), (0, u "(J)Z"), (0, .class_ 31), (0, u "org/pulsewire/store/SeqRunsContainsPinLaw"), (2, u "law"), (0, u "(JIJI)Z")] 3

def k1m0 : Method := { name := "<init>", desc := "()V", sig := { parameters := [], returnType := none }, accessFlags := 1, code := none }
def k1c1 : Code := { maxStack := 4, maxLocals := 19, code := code, exceptionTable := #[], attributes := #[] }
def k1m1 : Method := { name := "law", desc := "(JIJI)Z", sig := { parameters := [.long, .int, .long, .int], returnType := some .boolean }, accessFlags := 9, code := some k1c1 }
/-- org/pulsewire/store/SeqRunsContainsPinLaw -/
def k1 : Class := { plain "org/pulsewire/store/SeqRunsContainsPinLaw" (some 0) with
  accessFlags := 49
  interfaces := #[]
  cf := some (fileOf pool1 30 #[] #[{ accessFlags := 1, nameIndex := 5, descriptorIndex := 6, attributes := #[] }, { accessFlags := 9, nameIndex := 34, descriptorIndex := 35, attributes := #[] }] 49 2 #[] #[])
  fields := #[]
  methods := #[k1m0, k1m1]
  instanceTypes := #[]
  staticTypes := #[]
  resolved := Array.replicate 39 none
  statics := none }

def pool2 : Array CpInfo := pool [(1, .class_ 2), (0, u "java/lang/Math"), (1, .class_ 6), (1, u "java/lang/Object"), (0, u "<init>"), (0, u "()V"), (89, .class_ 100), (1, u "java/lang/Math$RandomNumberGeneratorHolder"), (20, u "(JJ)J"), (50, u "negativeZeroFloatBits"), (0, u "J"), (2, u "negativeZeroDoubleBits"), (24, u "min"), (43, u "$assertionsDisabled"), (0, u "Z"), (91, u "twoToTheDoubleScaleDown"), (0, u "D"), (4, u "twoToTheDoubleScaleUp"), (9, u "E"), (3, u "PI"), (2, u "TAU"), (2, u "DEGREES_TO_RADIANS"), (0, u "RADIANS_TO_DEGREES")] 94

def k2m0 : Method := { name := "<init>", desc := "()V", sig := { parameters := [], returnType := none }, accessFlags := 2, code := none }
def k2c1 : Code := { maxStack := 4, maxLocals := 4, code := jdk_29_method_70_code, exceptionTable := #[], attributes := #[] }
def k2m1 : Method := { name := "min", desc := "(JJ)J", sig := { parameters := [.long, .long], returnType := some .long }, accessFlags := 9, code := some k2c1 }
/-- java/lang/Math -/
def k2 : Class := { plain "java/lang/Math" (some 0) with
  accessFlags := 49
  interfaces := #[]
  cf := some (fileOf pool2 1 #[.nestMembers #[98]] #[{ accessFlags := 2, nameIndex := 7, descriptorIndex := 8, attributes := #[] }, { accessFlags := 9, nameIndex := 201, descriptorIndex := 121, attributes := #[] }] 49 4 #[] #[{ accessFlags := 25, nameIndex := 354, descriptorIndex := 339, attributes := #[] }, { accessFlags := 25, nameIndex := 358, descriptorIndex := 339, attributes := #[] }, { accessFlags := 25, nameIndex := 361, descriptorIndex := 339, attributes := #[] }, { accessFlags := 26, nameIndex := 364, descriptorIndex := 339, attributes := #[] }, { accessFlags := 26, nameIndex := 365, descriptorIndex := 339, attributes := #[] }, { accessFlags := 26, nameIndex := 172, descriptorIndex := 173, attributes := #[] }, { accessFlags := 26, nameIndex := 176, descriptorIndex := 173, attributes := #[] }, { accessFlags := 8, nameIndex := 344, descriptorIndex := 339, attributes := #[] }, { accessFlags := 8, nameIndex := 338, descriptorIndex := 339, attributes := #[] }, { accessFlags := 4120, nameIndex := 245, descriptorIndex := 246, attributes := #[] }])
  fields := #[{ name := "E", type := .double, accessFlags := 25, slot := 0, constantValue := 0 }, { name := "PI", type := .double, accessFlags := 25, slot := 1, constantValue := 0 }, { name := "TAU", type := .double, accessFlags := 25, slot := 2, constantValue := 0 }, { name := "DEGREES_TO_RADIANS", type := .double, accessFlags := 26, slot := 3, constantValue := 0 }, { name := "RADIANS_TO_DEGREES", type := .double, accessFlags := 26, slot := 4, constantValue := 0 }, { name := "negativeZeroFloatBits", type := .long, accessFlags := 26, slot := 5, constantValue := 0 }, { name := "negativeZeroDoubleBits", type := .long, accessFlags := 26, slot := 6, constantValue := 0 }, { name := "twoToTheDoubleScaleUp", type := .double, accessFlags := 8, slot := 7, constantValue := 0 }, { name := "twoToTheDoubleScaleDown", type := .double, accessFlags := 8, slot := 8, constantValue := 0 }, { name := "$assertionsDisabled", type := .boolean, accessFlags := 4120, slot := 9, constantValue := 0 }]
  methods := #[k2m0, k2m1]
  instanceTypes := #[]
  staticTypes := #[.double, .double, .double, .double, .double, .long, .long, .double, .double, .boolean]
  resolved := Array.replicate 460 none
  statics := none }

def pool3 : Array CpInfo := pool [(1, .methodref 2 3), (0, .class_ 4), (0, .nameAndType 5 6), (0, u "java/lang/Object"), (0, u "<init>"), (0, u "()V"), (0, .fieldref 8 9), (0, .class_ 10), (0, .nameAndType 11 12), (0, u "org/pulsewire/store/SeqRuns"), (0, u "bounds"), (0, u "[J"), (0, .fieldref 8 14), (0, .nameAndType 15 16), (0, u "taken"), (0, u "I"), (8, u "add"), (0, u "(J)V"), (1, u "contains"), (0, u "(J)Z")] 2

def k3c0 : Code := { maxStack := 2, maxLocals := 1, code := prog_202_method_1_code, exceptionTable := #[], attributes := #[] }
def k3m0 : Method := { name := "<init>", desc := "()V", sig := { parameters := [], returnType := none }, accessFlags := 0, code := some k3c0 }
def k3c1 : Code := { maxStack := 6, maxLocals := 3, code := prog_202_method_2_code, exceptionTable := #[], attributes := #[] }
def k3m1 : Method := { name := "add", desc := "(J)V", sig := { parameters := [.long], returnType := none }, accessFlags := 0, code := some k3c1 }
def k3c2 : Code := { maxStack := 5, maxLocals := 7, code := prog_202_method_3_code, exceptionTable := #[], attributes := #[] }
def k3m2 : Method := { name := "contains", desc := "(J)Z", sig := { parameters := [.long], returnType := some .boolean }, accessFlags := 0, code := some k3c2 }
/-- org/pulsewire/store/SeqRuns -/
def k3 : Class := { plain "org/pulsewire/store/SeqRuns" (some 0) with
  accessFlags := 48
  interfaces := #[]
  cf := some (fileOf pool3 8 #[] #[{ accessFlags := 0, nameIndex := 5, descriptorIndex := 6, attributes := #[] }, { accessFlags := 0, nameIndex := 25, descriptorIndex := 26, attributes := #[] }, { accessFlags := 0, nameIndex := 28, descriptorIndex := 29, attributes := #[] }] 48 2 #[] #[{ accessFlags := 2, nameIndex := 11, descriptorIndex := 12, attributes := #[] }, { accessFlags := 2, nameIndex := 15, descriptorIndex := 16, attributes := #[] }])
  fields := #[{ name := "bounds", type := (.array .long), accessFlags := 2, slot := 0, constantValue := 0 }, { name := "taken", type := .int, accessFlags := 2, slot := 1, constantValue := 0 }]
  methods := #[k3m0, k3m1, k3m2]
  instanceTypes := #[(.array .long), .int]
  staticTypes := #[]
  resolved := Array.replicate 32 none
  statics := none }

def pool4 : Array CpInfo := pool [(1, u "java/lang/Cloneable"), (0, .class_ 1), (0, u "java/lang/Object"), (0, .class_ 3)] 3

/-- java/lang/Cloneable -/
def k4 : Class := { plain "java/lang/Cloneable" (some 0) with
  accessFlags := 1537
  interfaces := #[]
  cf := some (fileOf pool4 2 #[] #[] 1537 4 #[] #[])
  fields := #[]
  methods := #[]
  instanceTypes := #[]
  staticTypes := #[]
  resolved := Array.replicate 8 none
  statics := none }

def pool5 : Array CpInfo := pool [(1, u "java/io/Serializable"), (0, .class_ 1), (0, u "java/lang/Object"), (0, .class_ 3)] 3

/-- java/io/Serializable -/
def k5 : Class := { plain "java/io/Serializable" (some 0) with
  accessFlags := 1537
  interfaces := #[]
  cf := some (fileOf pool5 2 #[] #[] 1537 4 #[] #[])
  fields := #[]
  methods := #[]
  instanceTypes := #[]
  staticTypes := #[]
  resolved := Array.replicate 8 none
  statics := none }

/-- the primitive byte -/
def k6 : Class := { plain "byte" none with kind := .primitive 'B', accessFlags := 0x411 }
/-- [B -/
def k7 : Class := { plain "[B" (some 0) with kind := .array 6 .byte, interfaces := #[4, 5], accessFlags := 1041 }

/-- the primitive int -/
def k8 : Class := { plain "int" none with kind := .primitive 'I', accessFlags := 0x411 }
/-- [I -/
def k9 : Class := { plain "[I" (some 0) with kind := .array 8 .int, interfaces := #[4, 5], accessFlags := 1041 }

/-- the primitive long -/
def k10 : Class := { plain "long" none with kind := .primitive 'J', accessFlags := 0x411 }
/-- [J -/
def k11 : Class := { plain "[J" (some 0) with kind := .array 10 .long, interfaces := #[4, 5], accessFlags := 1041 }

def heap : Heap := #[]
def classes : Array Class := #[k0, k1, k2, k3, k4, k5, k6, k7, k8, k9, k10, k11]
def interned : List (Array UInt16 × Addr) := []
def slotsUsed : Nat := 0
def theMethod : MethodId := ⟨1, 1⟩
def args0 : Array Value := #[.long 1, .int 2, .long 3, .int 4]
def aboutOver (below : List Frame) : State where
  vm := { classes := classes, interned := interned.toArray }
  heap := heap
  slotsUsed := slotsUsed
  threads := #[{ frames := .invoking theMethod args0 :: below }]
def below0 : List Frame := [.native { method := ⟨0, 0⟩, args := #[] }]
def about1 : State := aboutOver below0
def p0 : Program := .bare "" "" ""
def e0 : Env := launch0.env 0 0 0
theorem w_frames : about1.frames = Frame.invoking theMethod args0 :: below0 := rfl
set_option maxRecDepth 65536 in
theorem w_args : argsFit about1.vm theMethod args0 = true := by decide +kernel
set_option maxRecDepth 65536 in
theorem w_heap : heapFits about1 = true := by decide +kernel
set_option maxRecDepth 65536 in
theorem w_runnable : about1.curStatus? = some .runnable := by decide +kernel
set_option maxRecDepth 65536 in
theorem w_alone : about1.alone = true := by decide +kernel
set_option maxRecDepth 65536 in
theorem w_named : about1.methodNamed? x = some theMethod := by decide +kernel
set_option maxRecDepth 65536 in
theorem w_hears : about1.hears theMethod below0 = true := by decide +kernel
set_option maxRecDepth 65536 in
theorem w_ripe : about1.ripe theMethod args0 below0 = true := by decide +kernel
theorem w_running : about1.status = .running := rfl
set_option maxRecDepth 65536 in
theorem w_room : about1.hasRoom e0.platform room_1 = true :=
  launch0.hasRoom_least _ room_1 (by decide +kernel) (by decide +kernel) (by decide +kernel) (by decide +kernel) (by decide +kernel) (by decide +kernel)
theorem allAtoms_all (ts : List Jvm.Cond) (a : Array Jvm.Value) (st : Jvm.State) : (allAtoms ts).before a st = ts.all (fun c => c.before a st) := by
  induction ts with
  | nil => rfl
  | cons c t ih =>
    show (Jvm.Cond.and c (allAtoms t)).before a st = _
    rw [Jvm.Cond.before_and, ih, List.all_cons]
def words1 : List Jvm.Cond := Jvm.Cond.code x code maxLocals ret :: tables_1
/-- a 'code' word, met by the world's own term for the bytes: nothing is compared byte by byte -/
theorem code_word {y : MethodName} {bytes : ByteArray} {mx : Nat} {rt : Option FieldType} {a : Array Value} {s : State} {m : MethodId} {meth : Method} {c : Code} (h1 : s.methodNamed? y = some m) (h2 : s.vm.method? m = some meth) (h3 : meth.code = some c) (h4 : c.code = bytes)
    (h5 : (c.maxLocals == mx && c.exceptionTable.isEmpty && decide (c.maxStack ≤ mostOperands) && decide (meth.sig.returnType = rt) && !meth.locks && decide (parseMethodDescriptor y.desc = some meth.sig)) = true) : (Jvm.Cond.code y bytes mx rt).before a s = true := by
  simp only [Bool.and_eq_true, beq_iff_eq, Bool.not_eq_true', decide_eq_true_eq] at h5
  obtain ⟨⟨⟨⟨⟨g1, g2⟩, g3⟩, g4⟩, g5⟩, g6⟩ := h5
  simp [Cond.before, Cond.holds, Cond.value, h1, h2, h3, h4, g1, g2, g3, g4, g5, g6]
def isCode : Jvm.Cond → Bool
  | .code _ _ _ _ => true
  | _ => false
theorem all_split {L : List Jvm.Cond} {P : Jvm.Cond → Bool} (h1 : L.all (fun c => isCode c || P c) = true) (h2 : ∀ c ∈ L.filter isCode, P c = true) : L.all P = true := by
  refine List.all_eq_true.mpr fun c hc => ?_
  have h := List.all_eq_true.mp h1 c hc
  rcases Bool.eq_false_or_eq_true (isCode c) with hi | hi
  · exact h2 c (List.mem_filter.mpr ⟨hc, hi⟩)
  · simpa [hi] using h
set_option maxRecDepth 65536 in
theorem w_c0 : (Jvm.Cond.code x code maxLocals ret).before args0 about1 = true := code_word (m := ⟨1, 1⟩) (meth := k1m1) (c := k1c1) (by decide +kernel) rfl rfl rfl (by decide +kernel)
set_option maxRecDepth 65536 in
theorem w_c1 : (Jvm.Cond.code ({ cls := "java/lang/Math", name := "min", desc := "(JJ)J" } : Jvm.MethodName) jdk_29_method_70_code (4 : Nat) (Option.some Jvm.ClassFile.FieldType.long)).before args0 about1 = true := code_word (m := ⟨2, 1⟩) (meth := k2m1) (c := k2c1) (by decide +kernel) rfl rfl rfl (by decide +kernel)
set_option maxRecDepth 65536 in
theorem w_c2 : (Jvm.Cond.code ({ cls := "org/pulsewire/store/SeqRuns", name := "<init>", desc := "()V" } : Jvm.MethodName) prog_202_method_1_code (1 : Nat) (Option.none : Option Jvm.ClassFile.FieldType)).before args0 about1 = true := code_word (m := ⟨3, 0⟩) (meth := k3m0) (c := k3c0) (by decide +kernel) rfl rfl rfl (by decide +kernel)
set_option maxRecDepth 65536 in
theorem w_c3 : (Jvm.Cond.code ({ cls := "java/lang/Object", name := "<init>", desc := "()V" } : Jvm.MethodName) object_method_1_code (1 : Nat) (Option.none : Option Jvm.ClassFile.FieldType)).before args0 about1 = true := code_word (m := ⟨0, 0⟩) (meth := k0m0) (c := k0c0) (by decide +kernel) rfl rfl rfl (by decide +kernel)
set_option maxRecDepth 65536 in
theorem w_c4 : (Jvm.Cond.code ({ cls := "org/pulsewire/store/SeqRuns", name := "contains", desc := "(J)Z" } : Jvm.MethodName) prog_202_method_3_code (7 : Nat) (Option.some Jvm.ClassFile.FieldType.boolean)).before args0 about1 = true := code_word (m := ⟨3, 2⟩) (meth := k3m2) (c := k3c2) (by decide +kernel) rfl rfl rfl (by decide +kernel)
set_option maxRecDepth 65536 in
theorem w_c5 : (Jvm.Cond.code ({ cls := "org/pulsewire/store/SeqRuns", name := "add", desc := "(J)V" } : Jvm.MethodName) prog_202_method_2_code (3 : Nat) (Option.none : Option Jvm.ClassFile.FieldType)).before args0 about1 = true := code_word (m := ⟨3, 1⟩) (meth := k3m1) (c := k3c1) (by decide +kernel) rfl rfl rfl (by decide +kernel)
def codes1 : List Jvm.Cond := [Jvm.Cond.code x code maxLocals ret, Jvm.Cond.code ({ cls := "java/lang/Math", name := "min", desc := "(JJ)J" } : Jvm.MethodName) jdk_29_method_70_code (4 : Nat) (Option.some Jvm.ClassFile.FieldType.long), Jvm.Cond.code ({ cls := "org/pulsewire/store/SeqRuns", name := "<init>", desc := "()V" } : Jvm.MethodName) prog_202_method_1_code (1 : Nat) (Option.none : Option Jvm.ClassFile.FieldType), Jvm.Cond.code ({ cls := "java/lang/Object", name := "<init>", desc := "()V" } : Jvm.MethodName) object_method_1_code (1 : Nat) (Option.none : Option Jvm.ClassFile.FieldType), Jvm.Cond.code ({ cls := "org/pulsewire/store/SeqRuns", name := "contains", desc := "(J)Z" } : Jvm.MethodName) prog_202_method_3_code (7 : Nat) (Option.some Jvm.ClassFile.FieldType.boolean), Jvm.Cond.code ({ cls := "org/pulsewire/store/SeqRuns", name := "add", desc := "(J)V" } : Jvm.MethodName) prog_202_method_2_code (3 : Nat) (Option.none : Option Jvm.ClassFile.FieldType)]
set_option maxRecDepth 65536 in
theorem codes_eq : words1.filter isCode = codes1 := rfl
theorem w_codes : ∀ c ∈ words1.filter isCode, c.before args0 about1 = true := by
  rw [codes_eq]
  intro c hc
  simp only [codes1, List.mem_cons, List.not_mem_nil, or_false] at hc
  rcases hc with rfl | rfl | rfl | rfl | rfl | rfl
  · exact w_c0
  · exact w_c1
  · exact w_c2
  · exact w_c3
  · exact w_c4
  · exact w_c5
set_option maxRecDepth 65536 in
theorem w_t1 : (words1.take 24).all (fun c => isCode c || c.before args0 about1) = true := by decide +kernel
set_option maxRecDepth 65536 in
theorem w_t2 : (words1.drop 24).all (fun c => isCode c || c.before args0 about1) = true := by decide +kernel
theorem w_tables : (allAtoms (Jvm.Cond.code x code maxLocals ret :: tables_1)).before args0 about1 = true := by
  rw [allAtoms_all]
  show words1.all (fun c => c.before args0 about1) = true
  refine all_split ?_ w_codes
  rw [← List.take_append_drop 24 words1, List.all_append, w_t1, w_t2]
  rfl
set_option maxRecDepth 65536 in
theorem w_case : (Jvm.Cond.and given_1 narrow_1).before args0 about1 = true := by decide +kernel
theorem w_applies : (headSpec (Jvm.Cond.code x code maxLocals ret :: tables_1) room_1).applies x e0.platform about1 = true :=
  (Spec.applies_iff w_frames).mpr ⟨w_running, w_runnable, w_alone, w_named, w_hears, w_ripe, w_room, w_tables⟩
theorem atStart : AtStart classFile x code maxLocals ret World_1 tables_1 room_1 Calls_1 rest_1 Pre_1 launch0 p0 e0 about1 theMethod args0 below0 :=
  ⟨lists_1, trivial, launch0.admits_env _ _ _, launch0.least_env, fairChoices_fair.cas, fairChoices_fair.clock, w_frames, w_args, w_heap, w_applies, trivial, trivial, w_case⟩
end start1
theorem witness_1 : WitnessClaimed_1 := ⟨start1.p0, start1.e0, start1.about1, start1.theMethod, start1.args0, start1.below0, start1.atStart⟩
end Jvm.Pilot.@@N@@

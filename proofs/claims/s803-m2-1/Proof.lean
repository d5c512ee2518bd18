import JvmDerived
import JvmDerived.Pilot.@@N@@Statement
import JvmDerived.Pilot.@@N@@Code
set_option linter.unusedVariables false
set_option linter.unusedSimpArgs false
@@BLOCK:NumsL.lean.txt@@

namespace Jvm.OwnKit
open Sem ClassFile Op Lib Jvm.Stand Jvm.Free Jvm.LawKit Jvm.RoadKit
/-- where the run of one body stands: the heap h, cells and slots used at the most; nothing below n0 was written -/
def St (p : Program) (l : Launch) (e : Env) (R : Room) (s : State) (m : MethodId) (args : Array Value) (below : List Frame) (meth : Method) (c : Code) (Z : State) (code : ByteArray) (own : String) (ret : Option FieldType) (ml : Nat) (nm : String) (n0 : Nat) (T : State) (h : Heap) (cells slots : Nat) : Prop :=
  ∃ locs, Stand p l e R s m args below meth c T locs cells slots ∧ p.tables.exec = Jvm.exec ∧ Z.Warmed39 s.vm ∧ c.code = code ∧ s.vm.findClass own = some m.cls ∧ meth.sig.returnType = ret ∧ c.maxLocals = ml ∧ meth.name = nm ∧ meth.locks = false ∧ T.heap = h ∧ Fr n0 locs ∧ n0 ≤ s.heap.size
/-- the run from T with the top frame f ends, and returns as Q says -/
def Ends (p : Program) (e : Env) (below : List Frame) (s : State) (n0 C S : Nat) (Q : Option Value → Heap → Prop) (T : State) (f : JFrame) : Prop :=
  ∃ s₂ o, Steps p.tables e below (T.setTop f) s₂ ∧ s₂.status = .running ∧ Ended s₂ below o ∧ ∃ v L, o = .returned v ∧ (Q v s₂.heap ∧ Fr n0 L) ∧ FrameEnd s o s₂ L C S
/-- the contract of a body: called with 'as' at the heap h it returns as Q says -/
def Con (l : Launch) (y : MethodName) (bytes : ByteArray) (maxL : Nat) (ret : Option FieldType) (rm : Room) (C S : Nat) (Z : State) (n0 : Nat) (as : Array Value) (h : Heap) (Q : Option Value → Heap → Prop) : Prop :=
  ∀ ws, MetFree l y (head1 (Cond.code y bytes maxL ret :: ws) rm) (fun a U => a = as ∧ Z.Warmed39 U.vm ∧ U.heap = h) (fun _ _ _ _ _ => True) (fun _ U o U' => ∃ v L, o = .returned v ∧ (Q v U'.heap ∧ Fr n0 L) ∧ FrameEnd U o U' L C S)
theorem Ends.by {p : Program} {e : Env} {below : List Frame} {s : State} {n0 C S : Nat} {Q : Option Value → Heap → Prop} {T T' : State} {f f' : JFrame} (st : ∀ target, Steps p.tables e below (T'.setTop f') target → Steps p.tables e below (T.setTop f) target) (k : Ends p e below s n0 C S Q T' f') : Ends p e below s n0 C S Q T f := by
  obtain ⟨s₂, o, h1, r⟩ := k
  exact ⟨s₂, o, st _ h1, r⟩
theorem Con.body {l : Launch} {y : MethodName} {bytes : ByteArray} {maxL : Nat} {ret : Option FieldType} {rm : Room} {C S : Nat} {Z : State} {n0 : Nat} {as : Array Value} {h : Heap} {Q : Option Value → Heap → Prop} {own nm : String} (ho : y.cls = own) (hnm0 : y.name = nm) (hpl : plainFor y = true) (hn : n0 ≤ h.size)
    (B : ∀ (p : Program) (e : Env) (s : State) (m : MethodId) (below : List Frame) (meth : Method) (c : Code) (T : State), St p l e rm s m as below meth c Z bytes own ret maxL nm n0 T h 0 0 → Ends p e below s n0 C S Q T (entryFrame m as maxL)) : Con l y bytes maxL ret rm C S Z n0 as h Q := by
  subst ho hnm0
  intro ws
  refine MetFree.of_bodySF hpl hisR ?_
  intro p e s m args below meth c s₁ Bd hml0 hP hK
  obtain ⟨rfl, hZ, hh⟩ := hP
  have hnm := (name_of_methodNamed Bd.named Bd.method).1
  exact B p e s m below meth c s₁ ⟨[], Stand.of_body Bd, Bd.exec, hZ, Bd.bytes, findClass_of_methodNamed Bd.named, Bd.returns, hml0, hnm, Bd.notSynchronized, by rw [← hh, Bd.state]; rfl, Fr.nil n0, hh ▸ hn⟩

/-! plain facts on numbers -/
theorem own_len32 {n : Nat} (h : n < 2147483648) : n.toInt32.toNatClampNeg = n := by
  have e1 : (n.toInt32).toInt = n := len_toInt (by omega)
  simp only [Int32.toNatClampNeg, e1]; omega
theorem own_ofNat {n : Nat} (h : n < 2147483648) : (Int32.ofNat n).toInt = n := Int32.toInt_ofNat_of_lt (by omega)
theorem own_natOf {x : Int32} (h : 0 ≤ x.toInt) : x = Int32.ofNat x.toInt.toNat := by
  have r := rng32 x
  apply Int32.toInt_inj.mp
  rw [own_ofNat (by omega)]; omega
theorem own_maskN (x m : Int32) (k : Nat) (hk : k < 32) (hm : m.toBitVec.toNat = 2 ^ k - 1) : ∃ n : Nat, n < 2 ^ k ∧ (x &&& m) = Int32.ofNat n := by
  have e := Jvm.Kit.i32_mask x m (k := k) hk hm
  have p : (0 : Int) < 2 ^ k := Int.pow_pos (by decide)
  have a := Int.emod_nonneg x.toInt (Int.ne_of_gt p)
  have b := Int.emod_lt_of_pos x.toInt p
  refine ⟨(x &&& m).toInt.toNat, ?_, own_natOf (by omega)⟩
  rw [e]
  have c : ((x.toInt % 2 ^ k).toNat : Int) < ((2 ^ k : Nat) : Int) := by rw [Int.toNat_of_nonneg a]; simpa using b
  exact_mod_cast c
theorem own_rem (x m : Int32) (q : Nat) (hm : m.toInt = q) (h1 : 0 < q) : ∃ n : Nat, n < q ∧ (x &&& 2147483647) % m = Int32.ofNat n := by
  have e := Jvm.Kit.i32_mask x 2147483647 (k := 31) (by decide) (by decide)
  have p : 0 ≤ (x &&& 2147483647).toInt := by omega
  have e2 := Jvm.Kit.i32_rem_nonneg (y := m) p
  have hp : (0 : Int) < m.toInt := by omega
  have a := Int.emod_nonneg (x &&& 2147483647).toInt (Int.ne_of_gt hp)
  have b := Int.emod_lt_of_pos (x &&& 2147483647).toInt hp
  exact ⟨((x &&& 2147483647) % m).toInt.toNat, by omega, own_natOf (by omega)⟩
theorem own_m3 {x z : Int32} (h : x &&& (3 : Int32) = z) : z = 0 ∨ z = 1 ∨ z = 2 ∨ z = 3 := by
  obtain ⟨n, hn, e⟩ := own_maskN x 3 2 (by decide) (by decide)
  rw [← h, e]
  have : ∀ i : Fin 4, Int32.ofNat i = 0 ∨ Int32.ofNat i = 1 ∨ Int32.ofNat i = 2 ∨ Int32.ofNat i = 3 := by decide +kernel
  exact this ⟨n, hn⟩
theorem own_m1 {x z : Int32} (h : x &&& (1 : Int32) = z) : z = 0 ∨ z = 1 := by
  obtain ⟨n, hn, e⟩ := own_maskN x 1 1 (by decide) (by decide)
  rw [← h, e]
  have : ∀ i : Fin 2, Int32.ofNat i = 0 ∨ Int32.ofNat i = 1 := by decide +kernel
  exact this ⟨n, hn⟩
section Laws
variable {p : Program} {l : Launch} {e : Env} {R : Room} {s : State} {m : MethodId} {args : Array Value} {below : List Frame} {meth : Method} {c : Code} {Z : State} {code : ByteArray} {own : String} {ret : Option FieldType} {ml : Nat} {nm : String} {n0 : Nat} {T : State} {h : Heap} {cells slots : Nat} {C S : Nat} {Q : Option Value → Heap → Prop} {pc pc' : Nat} {Ls : Array Slot} {stk : List Value}
theorem St.more (X : St p l e R s m args below meth c Z code own ret ml nm n0 T h cells slots) {cells' slots' : Nat} (h1 : cells ≤ cells') (h2 : slots ≤ slots') : St p l e R s m args below meth c Z code own ret ml nm n0 T h cells' slots' := by
  obtain ⟨locs, Y, r⟩ := X
  exact ⟨locs, Y.more h1 h2, r⟩
theorem St.size (X : St p l e R s m args below meth c Z code own ret ml nm n0 T h cells slots) : n0 ≤ h.size := by
  obtain ⟨locs, Y, hx, hZ, hc, ho, hr, hm, hn, hk, rfl, hF, h0⟩ := X
  exact Nat.le_trans h0 (Y.same.2.1 : s.heap.size ≤ T.heap.size)

theorem F_iloadN (X : St p l e R s m args below meth c Z code own ret ml nm n0 T h cells slots) {k : Fin 4} {v : Int32} (hd : decode code pc = .ok (.iload_n k, 1)) (hl : Ls[k.val]? = some (.val (.int v))) (hp : pc + 1 = pc') (k : Ends p e below s n0 C S Q T (mkF m pc' Ls (.int v :: stk))) : Ends p e below s n0 C S Q T (mkF m pc Ls stk) := by
  obtain ⟨locs, Y, hx, hZ, hc, ho, hr, hm, hn, hk, hh, hF, h0⟩ := X
  subst hp
  exact k.by fun _ kt => XS.iloadN Y.here hx rfl (hb hc hd) hl kt
theorem F_iload (X : St p l e R s m args below meth c Z code own ret ml nm n0 T h cells slots) {k : Nat} {v : Int32} (hd : decode code pc = .ok (.iload k, 2)) (hl : Ls[k]? = some (.val (.int v))) (hp : pc + 2 = pc') (k : Ends p e below s n0 C S Q T (mkF m pc' Ls (.int v :: stk))) : Ends p e below s n0 C S Q T (mkF m pc Ls stk) := by
  obtain ⟨locs, Y, hx, hZ, hc, ho, hr, hm, hn, hk, hh, hF, h0⟩ := X
  subst hp
  exact k.by fun _ kt => XS.iload Y.here hx rfl (hb hc hd) hl kt
theorem F_istoreN (X : St p l e R s m args below meth c Z code own ret ml nm n0 T h cells slots) {k : Fin 4} {v : Int32} {Ls' : Array Slot} (hd : decode code pc = .ok (.istore_n k, 1)) (hl : storeLocals Ls k.val (.int v) = some Ls') (hp : pc + 1 = pc') (k : Ends p e below s n0 C S Q T (mkF m pc' Ls' stk)) : Ends p e below s n0 C S Q T (mkF m pc Ls (.int v :: stk)) := by
  obtain ⟨locs, Y, hx, hZ, hc, ho, hr, hm, hn, hk, hh, hF, h0⟩ := X
  subst hp
  exact k.by fun _ kt => XS.istoreN Y.here hx rfl (hb hc hd) rfl hl kt
theorem F_istore (X : St p l e R s m args below meth c Z code own ret ml nm n0 T h cells slots) {k : Nat} {v : Int32} {Ls' : Array Slot} (hd : decode code pc = .ok (.istore k, 2)) (hl : storeLocals Ls k (.int v) = some Ls') (hp : pc + 2 = pc') (k : Ends p e below s n0 C S Q T (mkF m pc' Ls' stk)) : Ends p e below s n0 C S Q T (mkF m pc Ls (.int v :: stk)) := by
  obtain ⟨locs, Y, hx, hZ, hc, ho, hr, hm, hn, hk, hh, hF, h0⟩ := X
  subst hp
  exact k.by fun _ kt => XS.istore Y.here hx rfl (hb hc hd) rfl hl kt
theorem F_lloadN (X : St p l e R s m args below meth c Z code own ret ml nm n0 T h cells slots) {k : Fin 4} {v : Int64} (hd : decode code pc = .ok (.lload_n k, 1)) (hl : Ls[k.val]? = some (.val (.long v))) (hp : pc + 1 = pc') (k : Ends p e below s n0 C S Q T (mkF m pc' Ls (.long v :: stk))) : Ends p e below s n0 C S Q T (mkF m pc Ls stk) := by
  obtain ⟨locs, Y, hx, hZ, hc, ho, hr, hm, hn, hk, hh, hF, h0⟩ := X
  subst hp
  exact k.by fun _ kt => XS.lloadN Y.here hx rfl (hb hc hd) hl kt
theorem F_lload (X : St p l e R s m args below meth c Z code own ret ml nm n0 T h cells slots) {k : Nat} {v : Int64} (hd : decode code pc = .ok (.lload k, 2)) (hl : Ls[k]? = some (.val (.long v))) (hp : pc + 2 = pc') (k : Ends p e below s n0 C S Q T (mkF m pc' Ls (.long v :: stk))) : Ends p e below s n0 C S Q T (mkF m pc Ls stk) := by
  obtain ⟨locs, Y, hx, hZ, hc, ho, hr, hm, hn, hk, hh, hF, h0⟩ := X
  subst hp
  exact k.by fun _ kt => XS.lload Y.here hx rfl (hb hc hd) hl kt
theorem F_lstoreN (X : St p l e R s m args below meth c Z code own ret ml nm n0 T h cells slots) {k : Fin 4} {v : Int64} {Ls' : Array Slot} (hd : decode code pc = .ok (.lstore_n k, 1)) (hl : storeLocals Ls k.val (.long v) = some Ls') (hp : pc + 1 = pc') (k : Ends p e below s n0 C S Q T (mkF m pc' Ls' stk)) : Ends p e below s n0 C S Q T (mkF m pc Ls (.long v :: stk)) := by
  obtain ⟨locs, Y, hx, hZ, hc, ho, hr, hm, hn, hk, hh, hF, h0⟩ := X
  subst hp
  exact k.by fun _ kt => XS.lstoreN Y.here hx rfl (hb hc hd) rfl hl kt
theorem F_lstore (X : St p l e R s m args below meth c Z code own ret ml nm n0 T h cells slots) {k : Nat} {v : Int64} {Ls' : Array Slot} (hd : decode code pc = .ok (.lstore k, 2)) (hl : storeLocals Ls k (.long v) = some Ls') (hp : pc + 2 = pc') (k : Ends p e below s n0 C S Q T (mkF m pc' Ls' stk)) : Ends p e below s n0 C S Q T (mkF m pc Ls (.long v :: stk)) := by
  obtain ⟨locs, Y, hx, hZ, hc, ho, hr, hm, hn, hk, hh, hF, h0⟩ := X
  subst hp
  exact k.by fun _ kt => XS.lstore Y.here hx rfl (hb hc hd) rfl hl kt
theorem F_aloadN (X : St p l e R s m args below meth c Z code own ret ml nm n0 T h cells slots) {k : Fin 4} {v : Value} (hd : decode code pc = .ok (.aload_n k, 1)) (hl : Ls[k.val]? = some (.val v)) (hv : v.isRef = true) (hp : pc + 1 = pc') (k : Ends p e below s n0 C S Q T (mkF m pc' Ls (v :: stk))) : Ends p e below s n0 C S Q T (mkF m pc Ls stk) := by
  obtain ⟨locs, Y, hx, hZ, hc, ho, hr, hm, hn, hk, hh, hF, h0⟩ := X
  subst hp
  exact k.by fun _ kt => XS.aloadN Y.here hx rfl (hb hc hd) hl hv kt
theorem F_aload (X : St p l e R s m args below meth c Z code own ret ml nm n0 T h cells slots) {k : Nat} {v : Value} (hd : decode code pc = .ok (.aload k, 2)) (hl : Ls[k]? = some (.val v)) (hv : v.isRef = true) (hp : pc + 2 = pc') (k : Ends p e below s n0 C S Q T (mkF m pc' Ls (v :: stk))) : Ends p e below s n0 C S Q T (mkF m pc Ls stk) := by
  obtain ⟨locs, Y, hx, hZ, hc, ho, hr, hm, hn, hk, hh, hF, h0⟩ := X
  subst hp
  exact k.by fun _ kt => XS.aload Y.here hx rfl (hb hc hd) hl hv kt
theorem F_astoreN (X : St p l e R s m args below meth c Z code own ret ml nm n0 T h cells slots) {k : Fin 4} {v : Value} {Ls' : Array Slot} (hd : decode code pc = .ok (.astore_n k, 1)) (hv : v.isRef = true) (hl : storeLocals Ls k.val v = some Ls') (hp : pc + 1 = pc') (k : Ends p e below s n0 C S Q T (mkF m pc' Ls' stk)) : Ends p e below s n0 C S Q T (mkF m pc Ls (v :: stk)) := by
  obtain ⟨locs, Y, hx, hZ, hc, ho, hr, hm, hn, hk, hh, hF, h0⟩ := X
  subst hp
  exact k.by fun _ kt => XS.astoreN Y.here hx rfl (hb hc hd) rfl hv hl kt
theorem F_astore (X : St p l e R s m args below meth c Z code own ret ml nm n0 T h cells slots) {k : Nat} {v : Value} {Ls' : Array Slot} (hd : decode code pc = .ok (.astore k, 2)) (hv : v.isRef = true) (hl : storeLocals Ls k v = some Ls') (hp : pc + 2 = pc') (k : Ends p e below s n0 C S Q T (mkF m pc' Ls' stk)) : Ends p e below s n0 C S Q T (mkF m pc Ls (v :: stk)) := by
  obtain ⟨locs, Y, hx, hZ, hc, ho, hr, hm, hn, hk, hh, hF, h0⟩ := X
  subst hp
  exact k.by fun _ kt => XS.astore Y.here hx rfl (hb hc hd) rfl hv hl kt
theorem F_iconst (X : St p l e R s m args below meth c Z code own ret ml nm n0 T h cells slots) {i : Int} {z : Int32} (hd : decode code pc = .ok (.iconst i, 1)) (hz : Int32.ofInt i = z) (hp : pc + 1 = pc') (k : Ends p e below s n0 C S Q T (mkF m pc' Ls (.int z :: stk))) : Ends p e below s n0 C S Q T (mkF m pc Ls stk) := by
  obtain ⟨locs, Y, hx, hZ, hc, ho, hr, hm, hn, hk, hh, hF, h0⟩ := X
  subst hp
  exact k.by fun _ kt => XS.iconst Y.here hx rfl (hb hc hd) (hz ▸ kt)
theorem F_bipush (X : St p l e R s m args below meth c Z code own ret ml nm n0 T h cells slots) {i : Int} {z : Int32} (hd : decode code pc = .ok (.bipush i, 2)) (hz : (Int8.ofInt i).toInt32 = z) (hp : pc + 2 = pc') (k : Ends p e below s n0 C S Q T (mkF m pc' Ls (.int z :: stk))) : Ends p e below s n0 C S Q T (mkF m pc Ls stk) := by
  obtain ⟨locs, Y, hx, hZ, hc, ho, hr, hm, hn, hk, hh, hF, h0⟩ := X
  subst hp
  exact k.by fun _ kt => XS.bipush Y.here hx rfl (hb hc hd) (hz ▸ kt)
theorem F_sipush (X : St p l e R s m args below meth c Z code own ret ml nm n0 T h cells slots) {i : Int} {z : Int32} (hd : decode code pc = .ok (.sipush i, 3)) (hz : (Int16.ofInt i).toInt32 = z) (hp : pc + 3 = pc') (k : Ends p e below s n0 C S Q T (mkF m pc' Ls (.int z :: stk))) : Ends p e below s n0 C S Q T (mkF m pc Ls stk) := by
  obtain ⟨locs, Y, hx, hZ, hc, ho, hr, hm, hn, hk, hh, hF, h0⟩ := X
  subst hp
  exact k.by fun _ kt => XS.sipush Y.here hx rfl (hb hc hd) (hz ▸ kt)
theorem F_lconst (X : St p l e R s m args below meth c Z code own ret ml nm n0 T h cells slots) {i : Fin 2} {z : Int64} (hd : decode code pc = .ok (.lconst i, 1)) (hz : Int64.ofNat i = z) (hp : pc + 1 = pc') (k : Ends p e below s n0 C S Q T (mkF m pc' Ls (.long z :: stk))) : Ends p e below s n0 C S Q T (mkF m pc Ls stk) := by
  obtain ⟨locs, Y, hx, hZ, hc, ho, hr, hm, hn, hk, hh, hF, h0⟩ := X
  subst hp
  exact k.by fun _ kt => XS.lconst Y.here hx rfl (hb hc hd) (hz ▸ kt)
theorem F_aconst_null (X : St p l e R s m args below meth c Z code own ret ml nm n0 T h cells slots)  (hd : decode code pc = .ok (.aconst_null, 1)) (hp : pc + 1 = pc') (k : Ends p e below s n0 C S Q T (mkF m pc' Ls (.null :: stk))) : Ends p e below s n0 C S Q T (mkF m pc Ls stk) := by
  obtain ⟨locs, Y, hx, hZ, hc, ho, hr, hm, hn, hk, hh, hF, h0⟩ := X
  subst hp
  exact k.by fun _ kt => XS.aconstNull Y.here hx rfl (hb hc hd) kt
theorem F_iadd (X : St p l e R s m args below meth c Z code own ret ml nm n0 T h cells slots) {x y z : Int32} (hd : decode code pc = .ok (.iadd, 1)) (hz : x + y = z) (hp : pc + 1 = pc') (k : Ends p e below s n0 C S Q T (mkF m pc' Ls (.int z :: stk))) : Ends p e below s n0 C S Q T (mkF m pc Ls (.int y :: .int x :: stk)) := by
  obtain ⟨locs, Y, hx, hZ, hc, ho, hr, hm, hn, hk, hh, hF, h0⟩ := X
  subst hp
  exact k.by fun _ kt => XS.iadd Y.here hx rfl (hb hc hd) rfl (hz ▸ kt)
theorem F_isub (X : St p l e R s m args below meth c Z code own ret ml nm n0 T h cells slots) {x y z : Int32} (hd : decode code pc = .ok (.isub, 1)) (hz : x - y = z) (hp : pc + 1 = pc') (k : Ends p e below s n0 C S Q T (mkF m pc' Ls (.int z :: stk))) : Ends p e below s n0 C S Q T (mkF m pc Ls (.int y :: .int x :: stk)) := by
  obtain ⟨locs, Y, hx, hZ, hc, ho, hr, hm, hn, hk, hh, hF, h0⟩ := X
  subst hp
  exact k.by fun _ kt => XS.isub Y.here hx rfl (hb hc hd) rfl (hz ▸ kt)
theorem F_imul (X : St p l e R s m args below meth c Z code own ret ml nm n0 T h cells slots) {x y z : Int32} (hd : decode code pc = .ok (.imul, 1)) (hz : x * y = z) (hp : pc + 1 = pc') (k : Ends p e below s n0 C S Q T (mkF m pc' Ls (.int z :: stk))) : Ends p e below s n0 C S Q T (mkF m pc Ls (.int y :: .int x :: stk)) := by
  obtain ⟨locs, Y, hx, hZ, hc, ho, hr, hm, hn, hk, hh, hF, h0⟩ := X
  subst hp
  exact k.by fun _ kt => XS.imul Y.here hx rfl (hb hc hd) rfl (hz ▸ kt)
theorem F_iand (X : St p l e R s m args below meth c Z code own ret ml nm n0 T h cells slots) {x y z : Int32} (hd : decode code pc = .ok (.iand, 1)) (hz : x &&& y = z) (hp : pc + 1 = pc') (k : Ends p e below s n0 C S Q T (mkF m pc' Ls (.int z :: stk))) : Ends p e below s n0 C S Q T (mkF m pc Ls (.int y :: .int x :: stk)) := by
  obtain ⟨locs, Y, hx, hZ, hc, ho, hr, hm, hn, hk, hh, hF, h0⟩ := X
  subst hp
  exact k.by fun _ kt => XS.iand Y.here hx rfl (hb hc hd) rfl (hz ▸ kt)
theorem F_ior (X : St p l e R s m args below meth c Z code own ret ml nm n0 T h cells slots) {x y z : Int32} (hd : decode code pc = .ok (.ior, 1)) (hz : x ||| y = z) (hp : pc + 1 = pc') (k : Ends p e below s n0 C S Q T (mkF m pc' Ls (.int z :: stk))) : Ends p e below s n0 C S Q T (mkF m pc Ls (.int y :: .int x :: stk)) := by
  obtain ⟨locs, Y, hx, hZ, hc, ho, hr, hm, hn, hk, hh, hF, h0⟩ := X
  subst hp
  exact k.by fun _ kt => XS.ior Y.here hx rfl (hb hc hd) rfl (hz ▸ kt)
theorem F_ixor (X : St p l e R s m args below meth c Z code own ret ml nm n0 T h cells slots) {x y z : Int32} (hd : decode code pc = .ok (.ixor, 1)) (hz : x ^^^ y = z) (hp : pc + 1 = pc') (k : Ends p e below s n0 C S Q T (mkF m pc' Ls (.int z :: stk))) : Ends p e below s n0 C S Q T (mkF m pc Ls (.int y :: .int x :: stk)) := by
  obtain ⟨locs, Y, hx, hZ, hc, ho, hr, hm, hn, hk, hh, hF, h0⟩ := X
  subst hp
  exact k.by fun _ kt => XS.ixor Y.here hx rfl (hb hc hd) rfl (hz ▸ kt)
theorem F_ishl (X : St p l e R s m args below meth c Z code own ret ml nm n0 T h cells slots) {x y z : Int32} (hd : decode code pc = .ok (.ishl, 1)) (hz : x <<< (y &&& 31) = z) (hp : pc + 1 = pc') (k : Ends p e below s n0 C S Q T (mkF m pc' Ls (.int z :: stk))) : Ends p e below s n0 C S Q T (mkF m pc Ls (.int y :: .int x :: stk)) := by
  obtain ⟨locs, Y, hx, hZ, hc, ho, hr, hm, hn, hk, hh, hF, h0⟩ := X
  subst hp
  exact k.by fun _ kt => XS.ishl Y.here hx rfl (hb hc hd) rfl (hz ▸ kt)
theorem F_ishr (X : St p l e R s m args below meth c Z code own ret ml nm n0 T h cells slots) {x y z : Int32} (hd : decode code pc = .ok (.ishr, 1)) (hz : x >>> (y &&& 31) = z) (hp : pc + 1 = pc') (k : Ends p e below s n0 C S Q T (mkF m pc' Ls (.int z :: stk))) : Ends p e below s n0 C S Q T (mkF m pc Ls (.int y :: .int x :: stk)) := by
  obtain ⟨locs, Y, hx, hZ, hc, ho, hr, hm, hn, hk, hh, hF, h0⟩ := X
  subst hp
  exact k.by fun _ kt => XS.ishr Y.here hx rfl (hb hc hd) rfl (hz ▸ kt)
theorem F_iushr (X : St p l e R s m args below meth c Z code own ret ml nm n0 T h cells slots) {x y z : Int32} (hd : decode code pc = .ok (.iushr, 1)) (hz : (x.toUInt32 >>> (y &&& 31).toUInt32).toInt32 = z) (hp : pc + 1 = pc') (k : Ends p e below s n0 C S Q T (mkF m pc' Ls (.int z :: stk))) : Ends p e below s n0 C S Q T (mkF m pc Ls (.int y :: .int x :: stk)) := by
  obtain ⟨locs, Y, hx, hZ, hc, ho, hr, hm, hn, hk, hh, hF, h0⟩ := X
  subst hp
  exact k.by fun _ kt => XS.iushr Y.here hx rfl (hb hc hd) rfl (hz ▸ kt)
theorem F_idiv (X : St p l e R s m args below meth c Z code own ret ml nm n0 T h cells slots) {x y z : Int32} (hd : decode code pc = .ok (.idiv, 1)) (hy : y ≠ 0) (hz : x / y = z) (hp : pc + 1 = pc') (k : Ends p e below s n0 C S Q T (mkF m pc' Ls (.int z :: stk))) : Ends p e below s n0 C S Q T (mkF m pc Ls (.int y :: .int x :: stk)) := by
  obtain ⟨locs, Y, hx, hZ, hc, ho, hr, hm, hn, hk, hh, hF, h0⟩ := X
  subst hp
  exact k.by fun _ kt => XS.idiv Y.here hx rfl (hb hc hd) rfl hy (hz ▸ kt)
theorem F_irem (X : St p l e R s m args below meth c Z code own ret ml nm n0 T h cells slots) {x y z : Int32} (hd : decode code pc = .ok (.irem, 1)) (hy : y ≠ 0) (hz : x % y = z) (hp : pc + 1 = pc') (k : Ends p e below s n0 C S Q T (mkF m pc' Ls (.int z :: stk))) : Ends p e below s n0 C S Q T (mkF m pc Ls (.int y :: .int x :: stk)) := by
  obtain ⟨locs, Y, hx, hZ, hc, ho, hr, hm, hn, hk, hh, hF, h0⟩ := X
  subst hp
  exact k.by fun _ kt => iremM Y hx rfl (hb hc hd) rfl hy (hz ▸ kt)
theorem F_ineg (X : St p l e R s m args below meth c Z code own ret ml nm n0 T h cells slots) {x z : Int32} (hd : decode code pc = .ok (.ineg, 1)) (hz : -x = z) (hp : pc + 1 = pc') (k : Ends p e below s n0 C S Q T (mkF m pc' Ls (.int z :: stk))) : Ends p e below s n0 C S Q T (mkF m pc Ls (.int x :: stk)) := by
  obtain ⟨locs, Y, hx, hZ, hc, ho, hr, hm, hn, hk, hh, hF, h0⟩ := X
  subst hp
  exact k.by fun _ kt => XS.ineg Y.here hx rfl (hb hc hd) rfl (hz ▸ kt)
theorem F_ladd (X : St p l e R s m args below meth c Z code own ret ml nm n0 T h cells slots) {x y z : Int64} (hd : decode code pc = .ok (.ladd, 1)) (hz : x + y = z) (hp : pc + 1 = pc') (k : Ends p e below s n0 C S Q T (mkF m pc' Ls (.long z :: stk))) : Ends p e below s n0 C S Q T (mkF m pc Ls (.long y :: .long x :: stk)) := by
  obtain ⟨locs, Y, hx, hZ, hc, ho, hr, hm, hn, hk, hh, hF, h0⟩ := X
  subst hp
  exact k.by fun _ kt => XS.ladd Y.here hx rfl (hb hc hd) rfl (hz ▸ kt)
theorem F_lsub (X : St p l e R s m args below meth c Z code own ret ml nm n0 T h cells slots) {x y z : Int64} (hd : decode code pc = .ok (.lsub, 1)) (hz : x - y = z) (hp : pc + 1 = pc') (k : Ends p e below s n0 C S Q T (mkF m pc' Ls (.long z :: stk))) : Ends p e below s n0 C S Q T (mkF m pc Ls (.long y :: .long x :: stk)) := by
  obtain ⟨locs, Y, hx, hZ, hc, ho, hr, hm, hn, hk, hh, hF, h0⟩ := X
  subst hp
  exact k.by fun _ kt => XS.lsub Y.here hx rfl (hb hc hd) rfl (hz ▸ kt)
theorem F_lmul (X : St p l e R s m args below meth c Z code own ret ml nm n0 T h cells slots) {x y z : Int64} (hd : decode code pc = .ok (.lmul, 1)) (hz : x * y = z) (hp : pc + 1 = pc') (k : Ends p e below s n0 C S Q T (mkF m pc' Ls (.long z :: stk))) : Ends p e below s n0 C S Q T (mkF m pc Ls (.long y :: .long x :: stk)) := by
  obtain ⟨locs, Y, hx, hZ, hc, ho, hr, hm, hn, hk, hh, hF, h0⟩ := X
  subst hp
  exact k.by fun _ kt => XS.lmul Y.here hx rfl (hb hc hd) rfl (hz ▸ kt)
theorem F_land (X : St p l e R s m args below meth c Z code own ret ml nm n0 T h cells slots) {x y z : Int64} (hd : decode code pc = .ok (.land, 1)) (hz : x &&& y = z) (hp : pc + 1 = pc') (k : Ends p e below s n0 C S Q T (mkF m pc' Ls (.long z :: stk))) : Ends p e below s n0 C S Q T (mkF m pc Ls (.long y :: .long x :: stk)) := by
  obtain ⟨locs, Y, hx, hZ, hc, ho, hr, hm, hn, hk, hh, hF, h0⟩ := X
  subst hp
  exact k.by fun _ kt => XS.land Y.here hx rfl (hb hc hd) rfl (hz ▸ kt)
theorem F_lor (X : St p l e R s m args below meth c Z code own ret ml nm n0 T h cells slots) {x y z : Int64} (hd : decode code pc = .ok (.lor, 1)) (hz : x ||| y = z) (hp : pc + 1 = pc') (k : Ends p e below s n0 C S Q T (mkF m pc' Ls (.long z :: stk))) : Ends p e below s n0 C S Q T (mkF m pc Ls (.long y :: .long x :: stk)) := by
  obtain ⟨locs, Y, hx, hZ, hc, ho, hr, hm, hn, hk, hh, hF, h0⟩ := X
  subst hp
  exact k.by fun _ kt => XS.lor Y.here hx rfl (hb hc hd) rfl (hz ▸ kt)
theorem F_lxor (X : St p l e R s m args below meth c Z code own ret ml nm n0 T h cells slots) {x y z : Int64} (hd : decode code pc = .ok (.lxor, 1)) (hz : x ^^^ y = z) (hp : pc + 1 = pc') (k : Ends p e below s n0 C S Q T (mkF m pc' Ls (.long z :: stk))) : Ends p e below s n0 C S Q T (mkF m pc Ls (.long y :: .long x :: stk)) := by
  obtain ⟨locs, Y, hx, hZ, hc, ho, hr, hm, hn, hk, hh, hF, h0⟩ := X
  subst hp
  exact k.by fun _ kt => XS.lxor Y.here hx rfl (hb hc hd) rfl (hz ▸ kt)
theorem F_lshl (X : St p l e R s m args below meth c Z code own ret ml nm n0 T h cells slots) {x z : Int64} {y : Int32} (hd : decode code pc = .ok (.lshl, 1)) (hz : x <<< (y &&& 0x3f).toInt64 = z) (hp : pc + 1 = pc') (k : Ends p e below s n0 C S Q T (mkF m pc' Ls (.long z :: stk))) : Ends p e below s n0 C S Q T (mkF m pc Ls (.int y :: .long x :: stk)) := by
  obtain ⟨locs, Y, hx, hZ, hc, ho, hr, hm, hn, hk, hh, hF, h0⟩ := X
  subst hp
  exact k.by fun _ kt => XS.lshl Y.here hx rfl (hb hc hd) rfl (hz ▸ kt)
theorem F_lshr (X : St p l e R s m args below meth c Z code own ret ml nm n0 T h cells slots) {x z : Int64} {y : Int32} (hd : decode code pc = .ok (.lshr, 1)) (hz : x >>> (y &&& 0x3f).toInt64 = z) (hp : pc + 1 = pc') (k : Ends p e below s n0 C S Q T (mkF m pc' Ls (.long z :: stk))) : Ends p e below s n0 C S Q T (mkF m pc Ls (.int y :: .long x :: stk)) := by
  obtain ⟨locs, Y, hx, hZ, hc, ho, hr, hm, hn, hk, hh, hF, h0⟩ := X
  subst hp
  exact k.by fun _ kt => XS.lshr Y.here hx rfl (hb hc hd) rfl (hz ▸ kt)
theorem F_lushr (X : St p l e R s m args below meth c Z code own ret ml nm n0 T h cells slots) {x z : Int64} {y : Int32} (hd : decode code pc = .ok (.lushr, 1)) (hz : (x.toUInt64 >>> (y &&& 0x3f).toInt64.toUInt64).toInt64 = z) (hp : pc + 1 = pc') (k : Ends p e below s n0 C S Q T (mkF m pc' Ls (.long z :: stk))) : Ends p e below s n0 C S Q T (mkF m pc Ls (.int y :: .long x :: stk)) := by
  obtain ⟨locs, Y, hx, hZ, hc, ho, hr, hm, hn, hk, hh, hF, h0⟩ := X
  subst hp
  exact k.by fun _ kt => XS.lushr Y.here hx rfl (hb hc hd) rfl (hz ▸ kt)
theorem F_ldiv (X : St p l e R s m args below meth c Z code own ret ml nm n0 T h cells slots) {x y z : Int64} (hd : decode code pc = .ok (.ldiv, 1)) (hy : y ≠ 0) (hz : x / y = z) (hp : pc + 1 = pc') (k : Ends p e below s n0 C S Q T (mkF m pc' Ls (.long z :: stk))) : Ends p e below s n0 C S Q T (mkF m pc Ls (.long y :: .long x :: stk)) := by
  obtain ⟨locs, Y, hx, hZ, hc, ho, hr, hm, hn, hk, hh, hF, h0⟩ := X
  subst hp
  exact k.by fun _ kt => XS.ldiv Y.here hx rfl (hb hc hd) rfl hy (hz ▸ kt)
theorem F_lrem (X : St p l e R s m args below meth c Z code own ret ml nm n0 T h cells slots) {x y z : Int64} (hd : decode code pc = .ok (.lrem, 1)) (hy : y ≠ 0) (hz : x - (x / y) * y = z) (hp : pc + 1 = pc') (k : Ends p e below s n0 C S Q T (mkF m pc' Ls (.long z :: stk))) : Ends p e below s n0 C S Q T (mkF m pc Ls (.long y :: .long x :: stk)) := by
  obtain ⟨locs, Y, hx, hZ, hc, ho, hr, hm, hn, hk, hh, hF, h0⟩ := X
  subst hp
  exact k.by fun _ kt => XS.lrem Y.here hx rfl (hb hc hd) rfl hy (hz ▸ kt)
theorem F_i2l (X : St p l e R s m args below meth c Z code own ret ml nm n0 T h cells slots) {x : Int32} {z : Int64} (hd : decode code pc = .ok (.i2l, 1)) (hz : x.toInt64 = z) (hp : pc + 1 = pc') (k : Ends p e below s n0 C S Q T (mkF m pc' Ls (.long z :: stk))) : Ends p e below s n0 C S Q T (mkF m pc Ls (.int x :: stk)) := by
  obtain ⟨locs, Y, hx, hZ, hc, ho, hr, hm, hn, hk, hh, hF, h0⟩ := X
  subst hp
  exact k.by fun _ kt => XS.i2l Y.here hx rfl (hb hc hd) rfl (hz ▸ kt)
theorem F_l2i (X : St p l e R s m args below meth c Z code own ret ml nm n0 T h cells slots) {x : Int64} {z : Int32} (hd : decode code pc = .ok (.l2i, 1)) (hz : x.toInt32 = z) (hp : pc + 1 = pc') (k : Ends p e below s n0 C S Q T (mkF m pc' Ls (.int z :: stk))) : Ends p e below s n0 C S Q T (mkF m pc Ls (.long x :: stk)) := by
  obtain ⟨locs, Y, hx, hZ, hc, ho, hr, hm, hn, hk, hh, hF, h0⟩ := X
  subst hp
  exact k.by fun _ kt => XS.l2i Y.here hx rfl (hb hc hd) rfl (hz ▸ kt)
theorem F_i2b (X : St p l e R s m args below meth c Z code own ret ml nm n0 T h cells slots) {x : Int32} {z : Int32} (hd : decode code pc = .ok (.i2b, 1)) (hz : x.toInt8.toInt32 = z) (hp : pc + 1 = pc') (k : Ends p e below s n0 C S Q T (mkF m pc' Ls (.int z :: stk))) : Ends p e below s n0 C S Q T (mkF m pc Ls (.int x :: stk)) := by
  obtain ⟨locs, Y, hx, hZ, hc, ho, hr, hm, hn, hk, hh, hF, h0⟩ := X
  subst hp
  exact k.by fun _ kt => XS.i2b Y.here hx rfl (hb hc hd) rfl (hz ▸ kt)
theorem F_i2c (X : St p l e R s m args below meth c Z code own ret ml nm n0 T h cells slots) {x : Int32} {z : Int32} (hd : decode code pc = .ok (.i2c, 1)) (hz : x.toUInt32.toUInt16.toUInt32.toInt32 = z) (hp : pc + 1 = pc') (k : Ends p e below s n0 C S Q T (mkF m pc' Ls (.int z :: stk))) : Ends p e below s n0 C S Q T (mkF m pc Ls (.int x :: stk)) := by
  obtain ⟨locs, Y, hx, hZ, hc, ho, hr, hm, hn, hk, hh, hF, h0⟩ := X
  subst hp
  exact k.by fun _ kt => XS.i2c Y.here hx rfl (hb hc hd) rfl (hz ▸ kt)
theorem F_i2s (X : St p l e R s m args below meth c Z code own ret ml nm n0 T h cells slots) {x : Int32} {z : Int32} (hd : decode code pc = .ok (.i2s, 1)) (hz : x.toInt16.toInt32 = z) (hp : pc + 1 = pc') (k : Ends p e below s n0 C S Q T (mkF m pc' Ls (.int z :: stk))) : Ends p e below s n0 C S Q T (mkF m pc Ls (.int x :: stk)) := by
  obtain ⟨locs, Y, hx, hZ, hc, ho, hr, hm, hn, hk, hh, hF, h0⟩ := X
  subst hp
  exact k.by fun _ kt => XS.i2s Y.here hx rfl (hb hc hd) rfl (hz ▸ kt)
theorem F_iinc (X : St p l e R s m args below meth c Z code own ret ml nm n0 T h cells slots) {k : Nat} {i : Int} {v : Int32} {Ls' : Array Slot} (hd : decode code pc = .ok (.iinc k i, 3)) (hl : Ls[k]? = some (.val (.int v))) (hl' : storeLocals Ls k (.int (v + Int32.ofInt i)) = some Ls') (hp : pc + 3 = pc') (k : Ends p e below s n0 C S Q T (mkF m pc' Ls' stk)) : Ends p e below s n0 C S Q T (mkF m pc Ls stk) := by
  obtain ⟨locs, Y, hx, hZ, hc, ho, hr, hm, hn, hk, hh, hF, h0⟩ := X
  subst hp
  exact k.by fun _ kt => XS.iinc Y.here hx rfl (hb hc hd) hl hl' kt
theorem F_dup (X : St p l e R s m args below meth c Z code own ret ml nm n0 T h cells slots) {v : Value} (hd : decode code pc = .ok (.dup, 1)) (hv : v.category = 1) (hp : pc + 1 = pc') (k : Ends p e below s n0 C S Q T (mkF m pc' Ls (v :: v :: stk))) : Ends p e below s n0 C S Q T (mkF m pc Ls (v :: stk)) := by
  obtain ⟨locs, Y, hx, hZ, hc, ho, hr, hm, hn, hk, hh, hF, h0⟩ := X
  subst hp
  exact k.by fun _ kt => XS.dup Y.here hx rfl (hb hc hd) rfl hv kt
theorem F_dup_x1 (X : St p l e R s m args below meth c Z code own ret ml nm n0 T h cells slots) {v w : Value} (hd : decode code pc = .ok (.dup_x1, 1)) (hv : v.category = 1) (hw : w.category = 1) (hp : pc + 1 = pc') (k : Ends p e below s n0 C S Q T (mkF m pc' Ls (v :: w :: v :: stk))) : Ends p e below s n0 C S Q T (mkF m pc Ls (v :: w :: stk)) := by
  obtain ⟨locs, Y, hx, hZ, hc, ho, hr, hm, hn, hk, hh, hF, h0⟩ := X
  subst hp
  exact k.by fun _ kt => XS.dupX1 Y.here hx rfl (hb hc hd) rfl hv hw kt
theorem F_dup2 (X : St p l e R s m args below meth c Z code own ret ml nm n0 T h cells slots) {v w : Value} (hd : decode code pc = .ok (.dup2, 1)) (hv : v.category = 1) (hw : w.category = 1) (hp : pc + 1 = pc') (k : Ends p e below s n0 C S Q T (mkF m pc' Ls (v :: w :: v :: w :: stk))) : Ends p e below s n0 C S Q T (mkF m pc Ls (v :: w :: stk)) := by
  obtain ⟨locs, Y, hx, hZ, hc, ho, hr, hm, hn, hk, hh, hF, h0⟩ := X
  subst hp
  exact k.by fun _ kt => XT.dup2 Y.here hx rfl (hb hc hd) rfl hv hw kt
theorem F_pop (X : St p l e R s m args below meth c Z code own ret ml nm n0 T h cells slots) {v : Value} (hd : decode code pc = .ok (.pop, 1)) (hv : v.category = 1) (hp : pc + 1 = pc') (k : Ends p e below s n0 C S Q T (mkF m pc' Ls stk)) : Ends p e below s n0 C S Q T (mkF m pc Ls (v :: stk)) := by
  obtain ⟨locs, Y, hx, hZ, hc, ho, hr, hm, hn, hk, hh, hF, h0⟩ := X
  subst hp
  exact k.by fun _ kt => XS.pop Y.here hx rfl (hb hc hd) rfl hv kt
theorem F_lcmp (X : St p l e R s m args below meth c Z code own ret ml nm n0 T h cells slots) {x y : Int64} (hd : decode code pc = .ok (.lcmp, 1)) (hp : pc + 1 = pc') (k : Ends p e below s n0 C S Q T (mkF m pc' Ls (.int (lcmpW x y) :: stk))) : Ends p e below s n0 C S Q T (mkF m pc Ls (.long y :: .long x :: stk)) := by
  obtain ⟨locs, Y, hx, hZ, hc, ho, hr, hm, hn, hk, hh, hF, h0⟩ := X
  subst hp
  exact k.by fun _ kt => XS.lcmp Y.here hx rfl (hb hc hd) rfl kt
theorem F_goto (X : St p l e R s m args below meth c Z code own ret ml nm n0 T h cells slots) {o : Int} (hd : decode code pc = .ok (.goto o, 3)) (hof : 0 ≤ (pc : Int) + o) (hp : ((pc : Int) + o).toNat = pc') (k : Ends p e below s n0 C S Q T (mkF m pc' Ls stk)) : Ends p e below s n0 C S Q T (mkF m pc Ls stk) := by
  obtain ⟨locs, Y, hx, hZ, hc, ho, hr, hm, hn, hk, hh, hF, h0⟩ := X
  exact k.by fun _ kt => XS.goto Y.here hx rfl rfl (hb hc hd) hof hp kt
theorem F_icmp_lt (X : St p l e R s m args below meth c Z code own ret ml nm n0 T h cells slots) {x y : Int32} {o : Int} {pt : Nat} (hd : decode code pc = .ok (.if_icmp .lt o, 3)) (hof : 0 ≤ (pc : Int) + o) (hp : ((pc : Int) + o).toNat = pt) (hq : pc + 3 = pc') (kt : (x < y) → Ends p e below s n0 C S Q T (mkF m pt Ls stk)) (kf : ¬ (x < y) → Ends p e below s n0 C S Q T (mkF m pc' Ls stk)) : Ends p e below s n0 C S Q T (mkF m pc Ls (.int y :: .int x :: stk)) := by
  obtain ⟨locs, Y, hx, hZ, hc, ho, hr, hm, hn, hk, hh, hF, h0⟩ := X
  subst hq
  by_cases q : x < y
  · exact (kt q).by fun _ z => XS.icmpYes Y.here hx rfl rfl (hb hc hd) rfl (tlt q).1 hof hp z
  · exact (kf q).by fun _ z => XS.icmpNo Y.here hx rfl (hb hc hd) rfl (flt q).1 z
theorem F_if_lt (X : St p l e R s m args below meth c Z code own ret ml nm n0 T h cells slots) {x : Int32} {o : Int} {pt : Nat} (hd : decode code pc = .ok (.ifCond .lt o, 3)) (hof : 0 ≤ (pc : Int) + o) (hp : ((pc : Int) + o).toNat = pt) (hq : pc + 3 = pc') (kt : (x < 0) → Ends p e below s n0 C S Q T (mkF m pt Ls stk)) (kf : ¬ (x < 0) → Ends p e below s n0 C S Q T (mkF m pc' Ls stk)) : Ends p e below s n0 C S Q T (mkF m pc Ls (.int x :: stk)) := by
  obtain ⟨locs, Y, hx, hZ, hc, ho, hr, hm, hn, hk, hh, hF, h0⟩ := X
  subst hq
  by_cases q : x < 0
  · exact (kt q).by fun _ z => XS.ifYes Y.here hx rfl rfl (hb hc hd) rfl ((if0 _ _).trans (tlt q).1) hof hp z
  · exact (kf q).by fun _ z => XS.ifNo Y.here hx rfl (hb hc hd) rfl ((if0 _ _).trans (flt q).1) z
theorem F_lif_lt (X : St p l e R s m args below meth c Z code own ret ml nm n0 T h cells slots) {x y : Int64} {o : Int} {pt : Nat} (hd : decode code pc = .ok (.ifCond .lt o, 3)) (hof : 0 ≤ (pc : Int) + o) (hp : ((pc : Int) + o).toNat = pt) (hq : pc + 3 = pc') (kt : (x < y) → Ends p e below s n0 C S Q T (mkF m pt Ls stk)) (kf : ¬ (x < y) → Ends p e below s n0 C S Q T (mkF m pc' Ls stk)) : Ends p e below s n0 C S Q T (mkF m pc Ls (.int (lcmpW x y) :: stk)) := by
  obtain ⟨locs, Y, hx, hZ, hc, ho, hr, hm, hn, hk, hh, hF, h0⟩ := X
  subst hq
  by_cases q : x < y
  · exact (kt q).by fun _ z => XS.ifYes Y.here hx rfl rfl (hb hc hd) rfl ((if0 _ _).trans (tlt ((lw_lt _ _).mpr q)).1) hof hp z
  · exact (kf q).by fun _ z => XS.ifNo Y.here hx rfl (hb hc hd) rfl ((if0 _ _).trans (flt (fun z => q ((lw_lt _ _).mp z))).1) z
theorem F_icmp_ge (X : St p l e R s m args below meth c Z code own ret ml nm n0 T h cells slots) {x y : Int32} {o : Int} {pt : Nat} (hd : decode code pc = .ok (.if_icmp .ge o, 3)) (hof : 0 ≤ (pc : Int) + o) (hp : ((pc : Int) + o).toNat = pt) (hq : pc + 3 = pc') (kt : ¬ (x < y) → Ends p e below s n0 C S Q T (mkF m pt Ls stk)) (kf : (x < y) → Ends p e below s n0 C S Q T (mkF m pc' Ls stk)) : Ends p e below s n0 C S Q T (mkF m pc Ls (.int y :: .int x :: stk)) := by
  obtain ⟨locs, Y, hx, hZ, hc, ho, hr, hm, hn, hk, hh, hF, h0⟩ := X
  subst hq
  by_cases q : x < y
  · exact (kf q).by fun _ z => XS.icmpNo Y.here hx rfl (hb hc hd) rfl (tlt q).2.1 z
  · exact (kt q).by fun _ z => XS.icmpYes Y.here hx rfl rfl (hb hc hd) rfl (flt q).2.1 hof hp z
theorem F_if_ge (X : St p l e R s m args below meth c Z code own ret ml nm n0 T h cells slots) {x : Int32} {o : Int} {pt : Nat} (hd : decode code pc = .ok (.ifCond .ge o, 3)) (hof : 0 ≤ (pc : Int) + o) (hp : ((pc : Int) + o).toNat = pt) (hq : pc + 3 = pc') (kt : ¬ (x < 0) → Ends p e below s n0 C S Q T (mkF m pt Ls stk)) (kf : (x < 0) → Ends p e below s n0 C S Q T (mkF m pc' Ls stk)) : Ends p e below s n0 C S Q T (mkF m pc Ls (.int x :: stk)) := by
  obtain ⟨locs, Y, hx, hZ, hc, ho, hr, hm, hn, hk, hh, hF, h0⟩ := X
  subst hq
  by_cases q : x < 0
  · exact (kf q).by fun _ z => XS.ifNo Y.here hx rfl (hb hc hd) rfl ((if0 _ _).trans (tlt q).2.1) z
  · exact (kt q).by fun _ z => XS.ifYes Y.here hx rfl rfl (hb hc hd) rfl ((if0 _ _).trans (flt q).2.1) hof hp z
theorem F_lif_ge (X : St p l e R s m args below meth c Z code own ret ml nm n0 T h cells slots) {x y : Int64} {o : Int} {pt : Nat} (hd : decode code pc = .ok (.ifCond .ge o, 3)) (hof : 0 ≤ (pc : Int) + o) (hp : ((pc : Int) + o).toNat = pt) (hq : pc + 3 = pc') (kt : ¬ (x < y) → Ends p e below s n0 C S Q T (mkF m pt Ls stk)) (kf : (x < y) → Ends p e below s n0 C S Q T (mkF m pc' Ls stk)) : Ends p e below s n0 C S Q T (mkF m pc Ls (.int (lcmpW x y) :: stk)) := by
  obtain ⟨locs, Y, hx, hZ, hc, ho, hr, hm, hn, hk, hh, hF, h0⟩ := X
  subst hq
  by_cases q : x < y
  · exact (kf q).by fun _ z => XS.ifNo Y.here hx rfl (hb hc hd) rfl ((if0 _ _).trans (tlt ((lw_lt _ _).mpr q)).2.1) z
  · exact (kt q).by fun _ z => XS.ifYes Y.here hx rfl rfl (hb hc hd) rfl ((if0 _ _).trans (flt (fun z => q ((lw_lt _ _).mp z))).2.1) hof hp z
theorem F_icmp_gt (X : St p l e R s m args below meth c Z code own ret ml nm n0 T h cells slots) {x y : Int32} {o : Int} {pt : Nat} (hd : decode code pc = .ok (.if_icmp .gt o, 3)) (hof : 0 ≤ (pc : Int) + o) (hp : ((pc : Int) + o).toNat = pt) (hq : pc + 3 = pc') (kt : (y < x) → Ends p e below s n0 C S Q T (mkF m pt Ls stk)) (kf : ¬ (y < x) → Ends p e below s n0 C S Q T (mkF m pc' Ls stk)) : Ends p e below s n0 C S Q T (mkF m pc Ls (.int y :: .int x :: stk)) := by
  obtain ⟨locs, Y, hx, hZ, hc, ho, hr, hm, hn, hk, hh, hF, h0⟩ := X
  subst hq
  by_cases q : y < x
  · exact (kt q).by fun _ z => XS.icmpYes Y.here hx rfl rfl (hb hc hd) rfl (tlt q).2.2.1 hof hp z
  · exact (kf q).by fun _ z => XS.icmpNo Y.here hx rfl (hb hc hd) rfl (flt q).2.2.1 z
theorem F_if_gt (X : St p l e R s m args below meth c Z code own ret ml nm n0 T h cells slots) {x : Int32} {o : Int} {pt : Nat} (hd : decode code pc = .ok (.ifCond .gt o, 3)) (hof : 0 ≤ (pc : Int) + o) (hp : ((pc : Int) + o).toNat = pt) (hq : pc + 3 = pc') (kt : (0 < x) → Ends p e below s n0 C S Q T (mkF m pt Ls stk)) (kf : ¬ (0 < x) → Ends p e below s n0 C S Q T (mkF m pc' Ls stk)) : Ends p e below s n0 C S Q T (mkF m pc Ls (.int x :: stk)) := by
  obtain ⟨locs, Y, hx, hZ, hc, ho, hr, hm, hn, hk, hh, hF, h0⟩ := X
  subst hq
  by_cases q : 0 < x
  · exact (kt q).by fun _ z => XS.ifYes Y.here hx rfl rfl (hb hc hd) rfl ((if0 _ _).trans (tlt q).2.2.1) hof hp z
  · exact (kf q).by fun _ z => XS.ifNo Y.here hx rfl (hb hc hd) rfl ((if0 _ _).trans (flt q).2.2.1) z
theorem F_lif_gt (X : St p l e R s m args below meth c Z code own ret ml nm n0 T h cells slots) {x y : Int64} {o : Int} {pt : Nat} (hd : decode code pc = .ok (.ifCond .gt o, 3)) (hof : 0 ≤ (pc : Int) + o) (hp : ((pc : Int) + o).toNat = pt) (hq : pc + 3 = pc') (kt : (y < x) → Ends p e below s n0 C S Q T (mkF m pt Ls stk)) (kf : ¬ (y < x) → Ends p e below s n0 C S Q T (mkF m pc' Ls stk)) : Ends p e below s n0 C S Q T (mkF m pc Ls (.int (lcmpW x y) :: stk)) := by
  obtain ⟨locs, Y, hx, hZ, hc, ho, hr, hm, hn, hk, hh, hF, h0⟩ := X
  subst hq
  by_cases q : y < x
  · exact (kt q).by fun _ z => XS.ifYes Y.here hx rfl rfl (hb hc hd) rfl ((if0 _ _).trans (tlt ((lw_gt _ _).mpr q)).2.2.1) hof hp z
  · exact (kf q).by fun _ z => XS.ifNo Y.here hx rfl (hb hc hd) rfl ((if0 _ _).trans (flt (fun z => q ((lw_gt _ _).mp z))).2.2.1) z
theorem F_icmp_le (X : St p l e R s m args below meth c Z code own ret ml nm n0 T h cells slots) {x y : Int32} {o : Int} {pt : Nat} (hd : decode code pc = .ok (.if_icmp .le o, 3)) (hof : 0 ≤ (pc : Int) + o) (hp : ((pc : Int) + o).toNat = pt) (hq : pc + 3 = pc') (kt : ¬ (y < x) → Ends p e below s n0 C S Q T (mkF m pt Ls stk)) (kf : (y < x) → Ends p e below s n0 C S Q T (mkF m pc' Ls stk)) : Ends p e below s n0 C S Q T (mkF m pc Ls (.int y :: .int x :: stk)) := by
  obtain ⟨locs, Y, hx, hZ, hc, ho, hr, hm, hn, hk, hh, hF, h0⟩ := X
  subst hq
  by_cases q : y < x
  · exact (kf q).by fun _ z => XS.icmpNo Y.here hx rfl (hb hc hd) rfl (tlt q).2.2.2 z
  · exact (kt q).by fun _ z => XS.icmpYes Y.here hx rfl rfl (hb hc hd) rfl (flt q).2.2.2 hof hp z
theorem F_if_le (X : St p l e R s m args below meth c Z code own ret ml nm n0 T h cells slots) {x : Int32} {o : Int} {pt : Nat} (hd : decode code pc = .ok (.ifCond .le o, 3)) (hof : 0 ≤ (pc : Int) + o) (hp : ((pc : Int) + o).toNat = pt) (hq : pc + 3 = pc') (kt : ¬ (0 < x) → Ends p e below s n0 C S Q T (mkF m pt Ls stk)) (kf : (0 < x) → Ends p e below s n0 C S Q T (mkF m pc' Ls stk)) : Ends p e below s n0 C S Q T (mkF m pc Ls (.int x :: stk)) := by
  obtain ⟨locs, Y, hx, hZ, hc, ho, hr, hm, hn, hk, hh, hF, h0⟩ := X
  subst hq
  by_cases q : 0 < x
  · exact (kf q).by fun _ z => XS.ifNo Y.here hx rfl (hb hc hd) rfl ((if0 _ _).trans (tlt q).2.2.2) z
  · exact (kt q).by fun _ z => XS.ifYes Y.here hx rfl rfl (hb hc hd) rfl ((if0 _ _).trans (flt q).2.2.2) hof hp z
theorem F_lif_le (X : St p l e R s m args below meth c Z code own ret ml nm n0 T h cells slots) {x y : Int64} {o : Int} {pt : Nat} (hd : decode code pc = .ok (.ifCond .le o, 3)) (hof : 0 ≤ (pc : Int) + o) (hp : ((pc : Int) + o).toNat = pt) (hq : pc + 3 = pc') (kt : ¬ (y < x) → Ends p e below s n0 C S Q T (mkF m pt Ls stk)) (kf : (y < x) → Ends p e below s n0 C S Q T (mkF m pc' Ls stk)) : Ends p e below s n0 C S Q T (mkF m pc Ls (.int (lcmpW x y) :: stk)) := by
  obtain ⟨locs, Y, hx, hZ, hc, ho, hr, hm, hn, hk, hh, hF, h0⟩ := X
  subst hq
  by_cases q : y < x
  · exact (kf q).by fun _ z => XS.ifNo Y.here hx rfl (hb hc hd) rfl ((if0 _ _).trans (tlt ((lw_gt _ _).mpr q)).2.2.2) z
  · exact (kt q).by fun _ z => XS.ifYes Y.here hx rfl rfl (hb hc hd) rfl ((if0 _ _).trans (flt (fun z => q ((lw_gt _ _).mp z))).2.2.2) hof hp z
theorem F_icmp_eq (X : St p l e R s m args below meth c Z code own ret ml nm n0 T h cells slots) {x y : Int32} {o : Int} {pt : Nat} (hd : decode code pc = .ok (.if_icmp .eq o, 3)) (hof : 0 ≤ (pc : Int) + o) (hp : ((pc : Int) + o).toNat = pt) (hq : pc + 3 = pc') (kt : (x = y) → Ends p e below s n0 C S Q T (mkF m pt Ls stk)) (kf : ¬ (x = y) → Ends p e below s n0 C S Q T (mkF m pc' Ls stk)) : Ends p e below s n0 C S Q T (mkF m pc Ls (.int y :: .int x :: stk)) := by
  obtain ⟨locs, Y, hx, hZ, hc, ho, hr, hm, hn, hk, hh, hF, h0⟩ := X
  subst hq
  by_cases q : x = y
  · exact (kt q).by fun _ z => XS.icmpYes Y.here hx rfl rfl (hb hc hd) rfl (teq q).1 hof hp z
  · exact (kf q).by fun _ z => XS.icmpNo Y.here hx rfl (hb hc hd) rfl (feq q).1 z
theorem F_if_eq (X : St p l e R s m args below meth c Z code own ret ml nm n0 T h cells slots) {x : Int32} {o : Int} {pt : Nat} (hd : decode code pc = .ok (.ifCond .eq o, 3)) (hof : 0 ≤ (pc : Int) + o) (hp : ((pc : Int) + o).toNat = pt) (hq : pc + 3 = pc') (kt : (x = 0) → Ends p e below s n0 C S Q T (mkF m pt Ls stk)) (kf : ¬ (x = 0) → Ends p e below s n0 C S Q T (mkF m pc' Ls stk)) : Ends p e below s n0 C S Q T (mkF m pc Ls (.int x :: stk)) := by
  obtain ⟨locs, Y, hx, hZ, hc, ho, hr, hm, hn, hk, hh, hF, h0⟩ := X
  subst hq
  by_cases q : x = 0
  · exact (kt q).by fun _ z => XS.ifYes Y.here hx rfl rfl (hb hc hd) rfl ((if0 _ _).trans (teq q).1) hof hp z
  · exact (kf q).by fun _ z => XS.ifNo Y.here hx rfl (hb hc hd) rfl ((if0 _ _).trans (feq q).1) z
theorem F_lif_eq (X : St p l e R s m args below meth c Z code own ret ml nm n0 T h cells slots) {x y : Int64} {o : Int} {pt : Nat} (hd : decode code pc = .ok (.ifCond .eq o, 3)) (hof : 0 ≤ (pc : Int) + o) (hp : ((pc : Int) + o).toNat = pt) (hq : pc + 3 = pc') (kt : (x = y) → Ends p e below s n0 C S Q T (mkF m pt Ls stk)) (kf : ¬ (x = y) → Ends p e below s n0 C S Q T (mkF m pc' Ls stk)) : Ends p e below s n0 C S Q T (mkF m pc Ls (.int (lcmpW x y) :: stk)) := by
  obtain ⟨locs, Y, hx, hZ, hc, ho, hr, hm, hn, hk, hh, hF, h0⟩ := X
  subst hq
  by_cases q : x = y
  · exact (kt q).by fun _ z => XS.ifYes Y.here hx rfl rfl (hb hc hd) rfl ((if0 _ _).trans (teq ((lw_eq _ _).mpr q)).1) hof hp z
  · exact (kf q).by fun _ z => XS.ifNo Y.here hx rfl (hb hc hd) rfl ((if0 _ _).trans (feq (fun z => q ((lw_eq _ _).mp z))).1) z
theorem F_icmp_ne (X : St p l e R s m args below meth c Z code own ret ml nm n0 T h cells slots) {x y : Int32} {o : Int} {pt : Nat} (hd : decode code pc = .ok (.if_icmp .ne o, 3)) (hof : 0 ≤ (pc : Int) + o) (hp : ((pc : Int) + o).toNat = pt) (hq : pc + 3 = pc') (kt : ¬ (x = y) → Ends p e below s n0 C S Q T (mkF m pt Ls stk)) (kf : (x = y) → Ends p e below s n0 C S Q T (mkF m pc' Ls stk)) : Ends p e below s n0 C S Q T (mkF m pc Ls (.int y :: .int x :: stk)) := by
  obtain ⟨locs, Y, hx, hZ, hc, ho, hr, hm, hn, hk, hh, hF, h0⟩ := X
  subst hq
  by_cases q : x = y
  · exact (kf q).by fun _ z => XS.icmpNo Y.here hx rfl (hb hc hd) rfl (teq q).2 z
  · exact (kt q).by fun _ z => XS.icmpYes Y.here hx rfl rfl (hb hc hd) rfl (feq q).2 hof hp z
theorem F_if_ne (X : St p l e R s m args below meth c Z code own ret ml nm n0 T h cells slots) {x : Int32} {o : Int} {pt : Nat} (hd : decode code pc = .ok (.ifCond .ne o, 3)) (hof : 0 ≤ (pc : Int) + o) (hp : ((pc : Int) + o).toNat = pt) (hq : pc + 3 = pc') (kt : ¬ (x = 0) → Ends p e below s n0 C S Q T (mkF m pt Ls stk)) (kf : (x = 0) → Ends p e below s n0 C S Q T (mkF m pc' Ls stk)) : Ends p e below s n0 C S Q T (mkF m pc Ls (.int x :: stk)) := by
  obtain ⟨locs, Y, hx, hZ, hc, ho, hr, hm, hn, hk, hh, hF, h0⟩ := X
  subst hq
  by_cases q : x = 0
  · exact (kf q).by fun _ z => XS.ifNo Y.here hx rfl (hb hc hd) rfl ((if0 _ _).trans (teq q).2) z
  · exact (kt q).by fun _ z => XS.ifYes Y.here hx rfl rfl (hb hc hd) rfl ((if0 _ _).trans (feq q).2) hof hp z
theorem F_lif_ne (X : St p l e R s m args below meth c Z code own ret ml nm n0 T h cells slots) {x y : Int64} {o : Int} {pt : Nat} (hd : decode code pc = .ok (.ifCond .ne o, 3)) (hof : 0 ≤ (pc : Int) + o) (hp : ((pc : Int) + o).toNat = pt) (hq : pc + 3 = pc') (kt : ¬ (x = y) → Ends p e below s n0 C S Q T (mkF m pt Ls stk)) (kf : (x = y) → Ends p e below s n0 C S Q T (mkF m pc' Ls stk)) : Ends p e below s n0 C S Q T (mkF m pc Ls (.int (lcmpW x y) :: stk)) := by
  obtain ⟨locs, Y, hx, hZ, hc, ho, hr, hm, hn, hk, hh, hF, h0⟩ := X
  subst hq
  by_cases q : x = y
  · exact (kf q).by fun _ z => XS.ifNo Y.here hx rfl (hb hc hd) rfl ((if0 _ _).trans (teq ((lw_eq _ _).mpr q)).2) z
  · exact (kt q).by fun _ z => XS.ifYes Y.here hx rfl rfl (hb hc hd) rfl ((if0 _ _).trans (feq (fun z => q ((lw_eq _ _).mp z))).2) hof hp z
theorem F_ifnull_null (X : St p l e R s m args below meth c Z code own ret ml nm n0 T h cells slots) {o : Int} {pt : Nat} (hd : decode code pc = .ok (.ifnull o, 3)) (hof : 0 ≤ (pc : Int) + o) (hp : ((pc : Int) + o).toNat = pt) (k : Ends p e below s n0 C S Q T (mkF m pt Ls stk)) : Ends p e below s n0 C S Q T (mkF m pc Ls (.null :: stk)) := by
  obtain ⟨locs, Y, hx, hZ, hc, ho, hr, hm, hn, hk, hh, hF, h0⟩ := X
  exact k.by fun _ z => XS.ifnullYes Y.here hx rfl rfl (hb hc hd) rfl hof hp z
theorem F_ifnull_ref (X : St p l e R s m args below meth c Z code own ret ml nm n0 T h cells slots) {a : Addr} {o : Int} (hd : decode code pc = .ok (.ifnull o, 3)) (hq : pc + 3 = pc') (k : Ends p e below s n0 C S Q T (mkF m pc' Ls stk)) : Ends p e below s n0 C S Q T (mkF m pc Ls (.ref a :: stk)) := by
  obtain ⟨locs, Y, hx, hZ, hc, ho, hr, hm, hn, hk, hh, hF, h0⟩ := X
  subst hq
  exact k.by fun _ z => XS.ifnullNo Y.here hx rfl (hb hc hd) rfl z
theorem F_ifnonnull_null (X : St p l e R s m args below meth c Z code own ret ml nm n0 T h cells slots) {o : Int} (hd : decode code pc = .ok (.ifnonnull o, 3)) (hq : pc + 3 = pc') (k : Ends p e below s n0 C S Q T (mkF m pc' Ls stk)) : Ends p e below s n0 C S Q T (mkF m pc Ls (.null :: stk)) := by
  obtain ⟨locs, Y, hx, hZ, hc, ho, hr, hm, hn, hk, hh, hF, h0⟩ := X
  subst hq
  exact k.by fun _ z => XS.ifnonnullNo Y.here hx rfl (hb hc hd) rfl z
theorem F_ifnonnull_ref (X : St p l e R s m args below meth c Z code own ret ml nm n0 T h cells slots) {a : Addr} {o : Int} {pt : Nat} (hd : decode code pc = .ok (.ifnonnull o, 3)) (hof : 0 ≤ (pc : Int) + o) (hp : ((pc : Int) + o).toNat = pt) (k : Ends p e below s n0 C S Q T (mkF m pt Ls stk)) : Ends p e below s n0 C S Q T (mkF m pc Ls (.ref a :: stk)) := by
  obtain ⟨locs, Y, hx, hZ, hc, ho, hr, hm, hn, hk, hh, hF, h0⟩ := X
  exact k.by fun _ z => XS.ifnonnullYes Y.here hx rfl rfl (hb hc hd) rfl hof hp z
theorem F_acmp (X : St p l e R s m args below meth c Z code own ret ml nm n0 T h cells slots) {cd : ACond} {v w : Value} {o : Int} {same : Bool} (hd : decode code pc = .ok (.if_acmp cd o, 3)) (h1 : v.isRef = true) (h2 : w.isRef = true) (hq : decide (v = w) = same) (hof : 0 ≤ (pc : Int) + o) (hp : pc' = if acV cd same = true then ((pc : Int) + o).toNat else pc + 3) (k : Ends p e below s n0 C S Q T (mkF m pc' Ls stk)) : Ends p e below s n0 C S Q T (mkF m pc Ls (w :: v :: stk)) := by
  obtain ⟨locs, Y, hx, hZ, hc, ho, hr, hm, hn, hk, hh, hF, h0⟩ := X
  exact k.by fun _ z => Jvm.RoadKit.acmp Y hx rfl h1 h2 rfl (hb hc hd) rfl hq hof hp z
variable {a0 : Array Value}
theorem F_ldcInt (X : St p l e R s m args below meth c Z code own ret ml nm n0 T h cells slots) {idx : Nat} {v : Int32} (w : (Cond.constant own idx v).before a0 Z = true) (hd : decode code pc = .ok (.ldc idx, 2)) (hp : pc + 2 = pc') (k : Ends p e below s n0 C S Q T (mkF m pc' Ls (.int v :: stk))) : Ends p e below s n0 C S Q T (mkF m pc Ls stk) := by
  obtain ⟨locs, Y, hx, hZ, hc, ho, hr, hm, hn, hk, hh, hF, h0⟩ := X
  subst hp
  exact k.by (Y.ldcInt hx ho (mvT hZ w) (g := mkF m pc Ls stk) rfl (hb hc hd))
theorem F_ldcwInt (X : St p l e R s m args below meth c Z code own ret ml nm n0 T h cells slots) {idx : Nat} {v : Int32} (w : (Cond.constant own idx v).before a0 Z = true) (hd : decode code pc = .ok (.ldc_w idx, 3)) (hp : pc + 3 = pc') (k : Ends p e below s n0 C S Q T (mkF m pc' Ls (.int v :: stk))) : Ends p e below s n0 C S Q T (mkF m pc Ls stk) := by
  obtain ⟨locs, Y, hx, hZ, hc, ho, hr, hm, hn, hk, hh, hF, h0⟩ := X
  subst hp
  exact k.by (Y.ldcwInt hx ho (mvT hZ w) (g := mkF m pc Ls stk) rfl (hb hc hd))
theorem F_ldc2Long (X : St p l e R s m args below meth c Z code own ret ml nm n0 T h cells slots) {idx : Nat} {v : Int64} (w : (Cond.constantLong own idx v).before a0 Z = true) (hd : decode code pc = .ok (.ldc2_w idx, 3)) (hp : pc + 3 = pc') (k : Ends p e below s n0 C S Q T (mkF m pc' Ls (.long v :: stk))) : Ends p e below s n0 C S Q T (mkF m pc Ls stk) := by
  obtain ⟨locs, Y, hx, hZ, hc, ho, hr, hm, hn, hk, hh, hF, h0⟩ := X
  subst hp
  exact k.by (Y.ldc2Long hx ho (mvT hZ w) (g := mkF m pc Ls stk) rfl (hb hc hd))
theorem F_ldc2Double (X : St p l e R s m args below meth c Z code own ret ml nm n0 T h cells slots) {idx : Nat} {v : UInt64} (w : (Cond.constantDouble own idx v).before a0 Z = true) (hd : decode code pc = .ok (.ldc2_w idx, 3)) (hp : pc + 3 = pc') (k : Ends p e below s n0 C S Q T (mkF m pc' Ls (.double v :: stk))) : Ends p e below s n0 C S Q T (mkF m pc Ls stk) := by
  obtain ⟨locs, Y, hx, hZ, hc, ho, hr, hm, hn, hk, hh, hF, h0⟩ := X
  subst hp
  exact k.by (Y.ldc2DoubleC hx ho (mvT hZ w) (g := mkF m pc Ls stk) rfl (hb hc hd))
theorem F_ireturn (X : St p l e R s m args below meth c Z code own ret ml nm n0 T h cells slots) {z : Int32} (hd : decode code pc = .ok (.ireturn, 1)) (hret : ret = some .int) (hC : cells ≤ C) (hS : slots ≤ S) (hQ : Q (some (.int z)) h) : Ends p e below s n0 C S Q T (mkF m pc Ls (.int z :: stk)) := by
  obtain ⟨locs, Y, hx, hZ, hc, ho, hr, hm, hn, hk, hh, hF, h0⟩ := X
  obtain ⟨fs, hl, hrun, hend, hW, hsame⟩ := Y.leave (v := some (.int z)) (fun z => by rw [hr, hret] at z; cases z) hk
  refine ⟨_, _, retOut Y hx (hr.trans hret) rfl (Or.inl ⟨rfl, Or.inl rfl, _, rfl⟩) (hb hc hd) hl, hrun, hend, _, _, rfl, ⟨?_, hF⟩, ⟨_, rfl⟩, hW, hsame.mono hC hS⟩
  show Q _ T.heap
  rw [hh]; exact hQ
theorem F_ireturn_boolean (X : St p l e R s m args below meth c Z code own ret ml nm n0 T h cells slots) {z z' : Int32} (hz : nar .boolean z = z') (hd : decode code pc = .ok (.ireturn, 1)) (hret : ret = some .boolean) (hC : cells ≤ C) (hS : slots ≤ S) (hQ : Q (some (.int z')) h) : Ends p e below s n0 C S Q T (mkF m pc Ls (.int z :: stk)) := by
  obtain ⟨locs, Y, hx, hZ, hc, ho, hr, hm, hn, hk, hh, hF, h0⟩ := X
  obtain ⟨fs, hl, hrun, hend, hW, hsame⟩ := Y.leave (v := some (.int z')) (fun z => by rw [hr, hret] at z; cases z) hk
  refine ⟨_, _, retN Y hx (t := .boolean) (hr.trans hret) (by simp) (hb hc hd) (hz ▸ hl), hrun, hend, _, _, rfl, ⟨?_, hF⟩, ⟨_, rfl⟩, hW, hsame.mono hC hS⟩
  show Q _ T.heap
  rw [hh]; exact hQ
theorem F_ireturn_byte (X : St p l e R s m args below meth c Z code own ret ml nm n0 T h cells slots) {z z' : Int32} (hz : nar .byte z = z') (hd : decode code pc = .ok (.ireturn, 1)) (hret : ret = some .byte) (hC : cells ≤ C) (hS : slots ≤ S) (hQ : Q (some (.int z')) h) : Ends p e below s n0 C S Q T (mkF m pc Ls (.int z :: stk)) := by
  obtain ⟨locs, Y, hx, hZ, hc, ho, hr, hm, hn, hk, hh, hF, h0⟩ := X
  obtain ⟨fs, hl, hrun, hend, hW, hsame⟩ := Y.leave (v := some (.int z')) (fun z => by rw [hr, hret] at z; cases z) hk
  refine ⟨_, _, retN Y hx (t := .byte) (hr.trans hret) (by simp) (hb hc hd) (hz ▸ hl), hrun, hend, _, _, rfl, ⟨?_, hF⟩, ⟨_, rfl⟩, hW, hsame.mono hC hS⟩
  show Q _ T.heap
  rw [hh]; exact hQ
theorem F_ireturn_char (X : St p l e R s m args below meth c Z code own ret ml nm n0 T h cells slots) {z z' : Int32} (hz : nar .char z = z') (hd : decode code pc = .ok (.ireturn, 1)) (hret : ret = some .char) (hC : cells ≤ C) (hS : slots ≤ S) (hQ : Q (some (.int z')) h) : Ends p e below s n0 C S Q T (mkF m pc Ls (.int z :: stk)) := by
  obtain ⟨locs, Y, hx, hZ, hc, ho, hr, hm, hn, hk, hh, hF, h0⟩ := X
  obtain ⟨fs, hl, hrun, hend, hW, hsame⟩ := Y.leave (v := some (.int z')) (fun z => by rw [hr, hret] at z; cases z) hk
  refine ⟨_, _, retN Y hx (t := .char) (hr.trans hret) (by simp) (hb hc hd) (hz ▸ hl), hrun, hend, _, _, rfl, ⟨?_, hF⟩, ⟨_, rfl⟩, hW, hsame.mono hC hS⟩
  show Q _ T.heap
  rw [hh]; exact hQ
theorem F_ireturn_short (X : St p l e R s m args below meth c Z code own ret ml nm n0 T h cells slots) {z z' : Int32} (hz : nar .short z = z') (hd : decode code pc = .ok (.ireturn, 1)) (hret : ret = some .short) (hC : cells ≤ C) (hS : slots ≤ S) (hQ : Q (some (.int z')) h) : Ends p e below s n0 C S Q T (mkF m pc Ls (.int z :: stk)) := by
  obtain ⟨locs, Y, hx, hZ, hc, ho, hr, hm, hn, hk, hh, hF, h0⟩ := X
  obtain ⟨fs, hl, hrun, hend, hW, hsame⟩ := Y.leave (v := some (.int z')) (fun z => by rw [hr, hret] at z; cases z) hk
  refine ⟨_, _, retN Y hx (t := .short) (hr.trans hret) (by simp) (hb hc hd) (hz ▸ hl), hrun, hend, _, _, rfl, ⟨?_, hF⟩, ⟨_, rfl⟩, hW, hsame.mono hC hS⟩
  show Q _ T.heap
  rw [hh]; exact hQ
theorem F_return (X : St p l e R s m args below meth c Z code own ret ml nm n0 T h cells slots)  (hd : decode code pc = .ok (.return_, 1)) (hret : ret = none) (hC : cells ≤ C) (hS : slots ≤ S) (hQ : Q (none) h) : Ends p e below s n0 C S Q T (mkF m pc Ls ([])) := by
  obtain ⟨locs, Y, hx, hZ, hc, ho, hr, hm, hn, hk, hh, hF, h0⟩ := X
  obtain ⟨fs, hl, hrun, hend, hW, hsame⟩ := Y.leave (v := none) (fun _ => rfl) hk
  refine ⟨_, _, Y.returnOut hx (hr.trans hret) (hb hc hd) hl, hrun, hend, _, _, rfl, ⟨?_, hF⟩, ⟨_, rfl⟩, hW, hsame.mono hC hS⟩
  show Q _ T.heap
  rw [hh]; exact hQ
theorem F_lreturn (X : St p l e R s m args below meth c Z code own ret ml nm n0 T h cells slots) {z : Int64} (hd : decode code pc = .ok (.lreturn, 1)) (hret : ret = some .long) (hC : cells ≤ C) (hS : slots ≤ S) (hQ : Q (some (.long z)) h) : Ends p e below s n0 C S Q T (mkF m pc Ls ([.long z])) := by
  obtain ⟨locs, Y, hx, hZ, hc, ho, hr, hm, hn, hk, hh, hF, h0⟩ := X
  obtain ⟨fs, hl, hrun, hend, hW, hsame⟩ := Y.leave (v := some (.long z)) (fun z => by rw [hr, hret] at z; cases z) hk
  refine ⟨_, _, Y.lreturnOut hx (hr.trans hret) (hb hc hd) hl, hrun, hend, _, _, rfl, ⟨?_, hF⟩, ⟨_, rfl⟩, hW, hsame.mono hC hS⟩
  show Q _ T.heap
  rw [hh]; exact hQ
theorem F_areturn (X : St p l e R s m args below meth c Z code own ret ml nm n0 T h cells slots) {v : Value} {t : FieldType} (ht : t.isReference = true) (hv : v.isRef = true) (hn' : narrow t v = v) (hd : decode code pc = .ok (.areturn, 1)) (hret : ret = some t) (hC : cells ≤ C) (hS : slots ≤ S) (hQ : Q (some v) h) : Ends p e below s n0 C S Q T (mkF m pc Ls (v :: stk)) := by
  obtain ⟨locs, Y, hx, hZ, hc, ho, hr, hm, hn, hk, hh, hF, h0⟩ := X
  obtain ⟨fs, hl, hrun, hend, hW, hsame⟩ := Y.leave (v := some v) (fun z => by rw [hr, hret] at z; cases z) hk
  refine ⟨_, _, retOut Y hx (hr.trans hret) hn' (Or.inr (Or.inr (Or.inr (Or.inr ⟨rfl, ht, hv⟩)))) (hb hc hd) hl, hrun, hend, _, _, rfl, ⟨?_, hF⟩, ⟨_, rfl⟩, hW, hsame.mono hC hS⟩
  show Q _ T.heap
  rw [hh]; exact hQ
theorem F_callS (X : St p l e R s m args below meth c Z code own ret ml nm n0 T h cells slots) {y : MethodName} {bytes : ByteArray} {maxL : Nat} {rt : Option FieldType} {rm : Room} {Q' : Option Value → Heap → Prop} {idx : Nat} (w1 : (Cond.methodLink own idx y).before a0 Z = true) (w2 : (Cond.static y).before a0 Z = true) (w3 : (Cond.initialized y.cls).before a0 Z = true) (w4 : (Cond.code y bytes maxL rt).before a0 Z = true) (hy : y.cls ≠ "java/lang/invoke/MethodHandle" ∧ y.cls ≠ "java/lang/invoke/VarHandle")
    {argsL : List Value} (K : Con l y bytes maxL rt rm rm.cells rm.slots Z n0 argsL.toArray h Q') (r1 : rm.frames + 1 ≤ R.frames) {W : Nat} (hW : (stk.map fun v => v.category).sum ≤ W) (r2 : W + (maxL + 11) + rm.locals ≤ R.locals) (r3 : cells + rm.cells ≤ R.cells) (r4 : slots + rm.slots ≤ R.slots) (hls : Ls.size = ml) (hlen : ∀ sig, parseMethodDescriptor y.desc = some sig → argsL.length = sig.parameters.length) {stk0 : List Value} (hst : stk0 = argsL.reverse ++ stk) (hd : decode code pc = .ok (.invokestatic idx, 3)) (hp : pc + 3 = pc')
    (k : ∀ (T' : State) (v : Option Value) (h' : Heap), St p l e R s m args below meth c Z code own ret ml nm n0 T' h' (cells + rm.cells) (slots + rm.slots) → Q' v h' → Ends p e below s n0 C S Q T' (mkF m pc' Ls (v.toList ++ stk))) : Ends p e below s n0 C S Q T (mkF m pc Ls stk0) := by
  obtain ⟨locs, Y, hx, hZ, hc, ho, hr, hm, hn, hk, hh, hF, h0⟩ := X
  subst hp hst
  obtain ⟨v, vm1, ⟨T', L', k', n'⟩, -, Y', ⟨L, q1, q2, q3, q4⟩, st⟩ := Jvm.LawKit.callS Y hx (y := y) ho (mvT hZ w1) (mvT hZ w2) (mvT hZ w3) (mvT hZ w4) hy (backOf (W := W) (Q := fun v h' L => Q' v h' ∧ Fr n0 L) (K []) hZ w4 w3 r1 r2) (g := mkF m pc Ls (argsL.reverse ++ stk)) rfl (by rw [hm]; exact hls) (argsL := argsL) (rest := stk) hlen rfl (by show 2 * 0 + _ ≤ _; omega) (hb hc hd) (fun _ _ => ⟨rfl, hh, r3, r4⟩)
  dsimp only [Pt.U, Pt.locs, Pt.cells, Pt.slots] at Y' q2 q3 q4 st q1
  subst q2 q3 q4
  obtain ⟨q1, q5⟩ := q1
  exact (k T' v T'.heap ⟨_, Y', hx, hZ, hc, ho, hr, hm, hn, hk, rfl, Fr.app hF q5, h0⟩ q1).by st
theorem F_init (X : St p l e R s m args below meth c Z code own ret ml nm n0 T h cells slots) {y : MethodName} {bytes : ByteArray} {maxL : Nat} {rm : Room} {Q' : Option Value → Heap → Prop} {idx : Nat} (hy1 : y.name = "<init>") (w1 : (Cond.methodLink own idx y).before a0 Z = true) (w2 : (Cond.instanceMethod y).before a0 Z = true) (w3 : (Cond.initialized y.cls).before a0 Z = true) (w4 : (Cond.code y bytes maxL none).before a0 Z = true) (hy : y.cls ≠ "java/lang/invoke/MethodHandle" ∧ y.cls ≠ "java/lang/invoke/VarHandle")
    {a : Addr} {argsL : List Value} (K : Con l y bytes maxL none rm rm.cells rm.slots Z n0 (.ref a :: argsL).toArray h Q') (r1 : rm.frames + 1 ≤ R.frames) {W : Nat} (hW : (stk.map fun v => v.category).sum ≤ W) (r2 : W + (maxL + 11) + rm.locals ≤ R.locals) (r3 : cells + rm.cells ≤ R.cells) (r4 : slots + rm.slots ≤ R.slots) (hls : Ls.size = ml) (hlen : ∀ sig, parseMethodDescriptor y.desc = some sig → argsL.length = sig.parameters.length) {stk0 : List Value} (hst : stk0 = argsL.reverse ++ .ref a :: stk) (hd : decode code pc = .ok (.invokespecial idx, 3)) (hp : pc + 3 = pc')
    (k : ∀ (T' : State) (v : Option Value) (h' : Heap), St p l e R s m args below meth c Z code own ret ml nm n0 T' h' (cells + rm.cells) (slots + rm.slots) → Q' v h' → Ends p e below s n0 C S Q T' (mkF m pc' Ls (v.toList ++ stk))) : Ends p e below s n0 C S Q T (mkF m pc Ls stk0) := by
  obtain ⟨locs, Y, hx, hZ, hc, ho, hr, hm, hn, hk, hh, hF, h0⟩ := X
  subst hp hst
  obtain ⟨v, vm1, ⟨T', L', k', n'⟩, -, Y', ⟨L, q1, q2, q3, q4⟩, st⟩ := Y.specialBack hx (y := y) hy1 ho (mvT hZ w1) (mvT hZ w2) (mvT hZ w4) hy (backOf (W := W) (Q := fun v h' L => Q' v h' ∧ Fr n0 L) (K []) hZ w4 w3 r1 r2) (g := mkF m pc Ls (argsL.reverse ++ .ref a :: stk)) rfl (by rw [hm]; exact hls) (Steps.refl _) (a := a) (argsL := argsL) (rest := stk) hlen rfl (by show 2 * 0 + _ ≤ _; omega) (hb hc hd) (fun _ _ => ⟨rfl, hh, r3, r4⟩)
  dsimp only [Pt.U, Pt.locs, Pt.cells, Pt.slots] at Y' q2 q3 q4 st q1
  subst q2 q3 q4
  obtain ⟨q1, q5⟩ := q1
  exact (k T' v T'.heap ⟨_, Y', hx, hZ, hc, ho, hr, hm, hn, hk, rfl, Fr.app hF q5, h0⟩ q1).by fun _ z => st.trans z
theorem F_callV (X : St p l e R s m args below meth c Z code own ret ml nm n0 T h cells slots) {y : MethodName} {bytes : ByteArray} {maxL : Nat} {rt : Option FieldType} {rm : Room} {Q' : Option Value → Heap → Prop} {idx : Nat} (w1 : (Cond.methodLink own idx y).before a0 Z = true) (w5 : (Cond.declares y).before a0 Z = true) (w6 : (Cond.selects y.cls y y).before a0 Z = true) (w2 : (Cond.instanceMethod y).before a0 Z = true) (w3 : (Cond.initialized y.cls).before a0 Z = true) (w4 : (Cond.code y bytes maxL rt).before a0 Z = true) (hy : y.cls ≠ "java/lang/invoke/MethodHandle" ∧ y.cls ≠ "java/lang/invoke/VarHandle")
    {a : Addr} (E : Exa Z h a y.cls) {argsL : List Value} (K : Con l y bytes maxL rt rm rm.cells rm.slots Z n0 (.ref a :: argsL).toArray h Q') (r1 : rm.frames + 1 ≤ R.frames) {W : Nat} (hW : (stk.map fun v => v.category).sum ≤ W) (r2 : W + (maxL + 11) + rm.locals ≤ R.locals) (r3 : cells + rm.cells ≤ R.cells) (r4 : slots + rm.slots ≤ R.slots) (hls : Ls.size = ml) (hlen : ∀ sig, parseMethodDescriptor y.desc = some sig → argsL.length = sig.parameters.length) {stk0 : List Value} (hst : stk0 = argsL.reverse ++ .ref a :: stk) (hd : decode code pc = .ok (.invokevirtual idx, 3)) (hp : pc + 3 = pc')
    (k : ∀ (T' : State) (v : Option Value) (h' : Heap), St p l e R s m args below meth c Z code own ret ml nm n0 T' h' (cells + rm.cells) (slots + rm.slots) → Q' v h' → Ends p e below s n0 C S Q T' (mkF m pc' Ls (v.toList ++ stk))) : Ends p e below s n0 C S Q T (mkF m pc Ls stk0) := by
  obtain ⟨locs, Y, hx, hZ, hc, ho, hr, hm, hn, hk, hh, hF, h0⟩ := X
  subst hp hst
  obtain ⟨cq, kq, qa, qb, qc⟩ := isOf hZ hh E
  obtain ⟨v, vm1, ⟨T', L', k', n'⟩, -, Y', ⟨L, q1, q2, q3, q4⟩, st⟩ := Y.virtualBack hx (y := y) (z := y) ho (mvT hZ w1) (mvT hZ w5) (notFace_of_selects (args := #[]) (mvT hZ w6)) (mvT hZ w6) (mvT hZ w2) hy (backOf (W := W) (Q := fun v h' L => Q' v h' ∧ Fr n0 L) (K []) hZ w4 w3 r1 r2) qa qc (g := mkF m pc Ls (argsL.reverse ++ .ref a :: stk)) rfl (by rw [hm]; exact hls) (Steps.refl _) (argsL := argsL) (rest := stk) hlen rfl (by show 2 * 0 + _ ≤ _; omega) (hb hc hd) (fun _ _ => ⟨rfl, hh, r3, r4⟩)
  dsimp only [Pt.U, Pt.locs, Pt.cells, Pt.slots] at Y' q2 q3 q4 st q1
  subst q2 q3 q4
  obtain ⟨q1, q5⟩ := q1
  exact (k T' v T'.heap ⟨_, Y', hx, hZ, hc, ho, hr, hm, hn, hk, rfl, Fr.app hF q5, h0⟩ q1).by fun _ z => st.trans z
theorem F_callP (X : St p l e R s m args below meth c Z code own ret ml nm n0 T h cells slots) {y : MethodName} {bytes : ByteArray} {maxL : Nat} {rt : Option FieldType} {rm : Room} {Q' : Option Value → Heap → Prop} {idx : Nat} {kk : Nat} (w1 : (Cond.methodLink own idx y).before a0 Z = true) (wp : (Cond.privateMethod y).before a0 Z = true) (wi : (Cond.instantiable y.cls kk).before a0 Z = true) (w2 : (Cond.instanceMethod y).before a0 Z = true) (w3 : (Cond.initialized y.cls).before a0 Z = true) (w4 : (Cond.code y bytes maxL rt).before a0 Z = true) (hy : y.cls ≠ "java/lang/invoke/MethodHandle" ∧ y.cls ≠ "java/lang/invoke/VarHandle")
    {a : Addr} (E : Exa Z h a y.cls) {argsL : List Value} (K : Con l y bytes maxL rt rm rm.cells rm.slots Z n0 (.ref a :: argsL).toArray h Q') (r1 : rm.frames + 1 ≤ R.frames) {W : Nat} (hW : (stk.map fun v => v.category).sum ≤ W) (r2 : W + (maxL + 11) + rm.locals ≤ R.locals) (r3 : cells + rm.cells ≤ R.cells) (r4 : slots + rm.slots ≤ R.slots) (hls : Ls.size = ml) (hlen : ∀ sig, parseMethodDescriptor y.desc = some sig → argsL.length = sig.parameters.length) {stk0 : List Value} (hst : stk0 = argsL.reverse ++ .ref a :: stk) (hd : decode code pc = .ok (.invokevirtual idx, 3)) (hp : pc + 3 = pc')
    (k : ∀ (T' : State) (v : Option Value) (h' : Heap), St p l e R s m args below meth c Z code own ret ml nm n0 T' h' (cells + rm.cells) (slots + rm.slots) → Q' v h' → Ends p e below s n0 C S Q T' (mkF m pc' Ls (v.toList ++ stk))) : Ends p e below s n0 C S Q T (mkF m pc Ls stk0) := by
  obtain ⟨locs, Y, hx, hZ, hc, ho, hr, hm, hn, hk, hh, hF, h0⟩ := X
  subst hp hst
  obtain ⟨cq, q, q'⟩ := E.cell
  have wi' : (Cond.instantiable y.cls kk).before args s = true := mvT hZ wi
  obtain ⟨c1, k1, i1, i2, -, i4, -⟩ := Cond.instantiable_spec wi'
  have hpr := Cond.privateMethod_at (mvP hZ wp (args := #[]))
  have hsel : (Cond.selects y.cls y y).before args s = true := selects_self_of_private i1 i2 (by simp at i4; exact i4.1) hpr (mvT hZ w2) hy
  obtain ⟨v, vm1, ⟨T', L', k', n'⟩, -, Y', ⟨L, q1, q2, q3, q4⟩, st⟩ := Y.privateBack hx (y := y) ho (mvT hZ w1) (mvT hZ w2) hsel hpr (mvT hZ w4) hy (backOf (W := W) (Q := fun v h' L => Q' v h' ∧ Fr n0 L) (K []) hZ w4 w3 r1 r2) (g := mkF m pc Ls (argsL.reverse ++ .ref a :: stk)) rfl (by rw [hm]; exact hls) (Steps.refl _) (a := a) (by rw [hh]; exact q) q' (argsL := argsL) (rest := stk) hlen rfl (by show 2 * 0 + _ ≤ _; omega) (hb hc hd) (fun _ _ => ⟨rfl, hh, r3, r4⟩)
  dsimp only [Pt.U, Pt.locs, Pt.cells, Pt.slots] at Y' q2 q3 q4 st q1
  subst q2 q3 q4
  obtain ⟨q1, q5⟩ := q1
  exact (k T' v T'.heap ⟨_, Y', hx, hZ, hc, ho, hr, hm, hn, hk, rfl, Fr.app hF q5, h0⟩ q1).by fun _ z => st.trans z
theorem F_objInit (X : St p l e R s m args below meth c Z code own ret ml nm n0 T h cells slots) {idx : Nat} {a : Addr} (w1 : (Cond.methodLink own idx Lib.objectInit).before a0 Z = true) (w2 : (Cond.instanceMethod Lib.objectInit).before a0 Z = true) (w3 : (Cond.code Lib.objectInit ⟨#[0xb1]⟩ 1 none).before a0 Z = true) (r1 : 1 ≤ R.frames) {W : Nat} (hW : (stk.map fun v => v.category).sum ≤ W) (r2 : W + 12 ≤ R.locals) (hls : Ls.size = ml) (hd : decode code pc = .ok (.invokespecial idx, 3)) (hp : pc + 3 = pc')
    (k : ∀ T' : State, St p l e R s m args below meth c Z code own ret ml nm n0 T' h cells slots → Ends p e below s n0 C S Q T' (mkF m pc' Ls stk)) : Ends p e below s n0 C S Q T (mkF m pc Ls (.ref a :: stk)) := by
  obtain ⟨locs, Y, hx, hZ, hc, ho, hr, hm, hn, hk, hh, hF, h0⟩ := X
  subst hp
  obtain ⟨T', Y', e', st⟩ := initO Y hx hZ ho w1 w2 w3 hh (g := mkF m pc Ls (.ref a :: stk)) rfl (by rw [hm]; exact hls) rfl (hb hc hd) r1 (W := W) (by show 2 * 0 + _ ≤ _; omega) r2
  exact (k T' ⟨_, Y', hx, hZ, hc, ho, hr, hm, hn, hk, e', hF, h0⟩).by st
theorem F_new (X : St p l e R s m args below meth c Z code own ret ml nm n0 T h cells slots) {idx n : Nat} {K : String} (w : (Cond.classLink own idx K).before a0 Z = true) (wi : (Cond.instantiable K n).before a0 Z = true) (wz : (Cond.initialized K).before a0 Z = true) (r3 : cells + 1 ≤ R.cells) (r4 : slots + n ≤ R.slots) (hd : decode code pc = .ok (.new idx, 3)) (hp : pc + 3 = pc')
    (k : ∀ (T' : State) (h' : Heap) (a : Addr), St p l e R s m args below meth c Z code own ret ml nm n0 T' h' (cells + 1) (slots + n) → Ext h h' → a = h.size → n0 ≤ a → Exa Z h' a K → (∀ {O nm d : String} {ty : FieldType}, Laid Z a0 K O nm d → parseFieldDescriptor d = some ty → Fld Z h' a O nm d (defaultValue ty)) → Ends p e below s n0 C S Q T' (mkF m pc' Ls (.ref a :: stk))) : Ends p e below s n0 C S Q T (mkF m pc Ls stk) := by
  have hsz := X.size
  obtain ⟨locs, Y, hx, hZ, hc, ho, hr, hm, hn, hk, hh, hF, h0⟩ := X
  subst hp
  obtain ⟨T', h', Y', e', E, A, D, -, st⟩ := newO Y hx hZ ho w wi wz hh (g := mkF m pc Ls stk) rfl (hb hc hd) r3 r4
  exact (k T' h' _ ⟨_, Y', hx, hZ, hc, ho, hr, hm, hn, hk, e', hF, h0⟩ E rfl hsz A D).by st
theorem F_getfield (X : St p l e R s m args below meth c Z code own ret ml nm n0 T h cells slots) {idx : Nat} {K f d : String} {a : Addr} {v : Value} (w : (Cond.fieldLink own idx K f d).before a0 Z = true) (F : Fld Z h a K f d v) (hd : decode code pc = .ok (.getfield idx, 3)) (hp : pc + 3 = pc')
    (k : ∀ T' : State, St p l e R s m args below meth c Z code own ret ml nm n0 T' h cells slots → Ends p e below s n0 C S Q T' (mkF m pc' Ls (v :: stk))) : Ends p e below s n0 C S Q T (mkF m pc Ls (.ref a :: stk)) := by
  obtain ⟨locs, Y, hx, hZ, hc, ho, hr, hm, hn, hk, hh, hF, h0⟩ := X
  subst hp
  obtain ⟨T', Y', e', st⟩ := getF Y hx hZ ho (host := "") (Or.inl w) Via.refl hh F (g := mkF m pc Ls (.ref a :: stk)) rfl rfl (hb hc hd)
  exact (k T' ⟨_, Y', hx, hZ, hc, ho, hr, hm, hn, hk, e', hF, h0⟩).by st
theorem F_putfield (X : St p l e R s m args below meth c Z code own ret ml nm n0 T h cells slots) {idx kk : Nat} {K f d : String} {a : Addr} {v old : Value} {ty : FieldType} (w : (Cond.fieldLink own idx K f d).before a0 Z = true) (F : Fld Z h a K f d old) (E : Exa Z h a K) (L : (Cond.lays K K f d).before a0 Z = true ∨ ((Cond.laysFinal K K f d).before a0 Z = true ∧ own = K ∧ nm = "<init>")) (wi : (Cond.instantiable K kk).before a0 Z = true) (hty : parseFieldDescriptor d = some ty) (hnr : narrow ty v = v) (hft : fits ty v = true) (ge : n0 ≤ a) (hd : decode code pc = .ok (.putfield idx, 3)) (hp : pc + 3 = pc')
    (k : ∀ (T' : State) (h' : Heap), St p l e R s m args below meth c Z code own ret ml nm n0 T' h' cells slots → Wr h h' a (Jvm.RoadKit.slotOf Z K f d) v → Ends p e below s n0 C S Q T' (mkF m pc' Ls stk)) : Ends p e below s n0 C S Q T (mkF m pc Ls (v :: .ref a :: stk)) := by
  obtain ⟨locs, Y, hx, hZ, hc, ho, hr, hm, hn, hk, hh, hF, h0⟩ := X
  subst hp
  obtain ⟨T', h', Y', e', W, st⟩ := putF Y hx hZ ho (host := "") (Or.inl w) Via.refl hh F E (L.imp id fun q => ⟨q.1, q.2.1, hn.trans q.2.2⟩) wi hty hnr hft (g := mkF m pc Ls (v :: .ref a :: stk)) rfl rfl (hb hc hd)
  exact (k T' h' ⟨_, Y', hx, hZ, hc, ho, hr, hm, hn, hk, e', Fr.snoc Y' hF ge, h0⟩ W).by st
theorem F_putfieldN (X : St p l e R s m args below meth c Z code own ret ml nm n0 T h cells slots) {idx kk : Nat} {K f d : String} {a : Addr} {v v' old : Value} {ty : FieldType} (w : (Cond.fieldLink own idx K f d).before a0 Z = true) (F : Fld Z h a K f d old) (E : Exa Z h a K) (L : (Cond.lays K K f d).before a0 Z = true ∨ ((Cond.laysFinal K K f d).before a0 Z = true ∧ own = K ∧ nm = "<init>")) (wi : (Cond.instantiable K kk).before a0 Z = true) (hty : parseFieldDescriptor d = some ty) (hnr : narrow ty v = v') (hft : fits ty v' = true) (ge : n0 ≤ a) (hd : decode code pc = .ok (.putfield idx, 3)) (hp : pc + 3 = pc')
    (k : ∀ (T' : State) (h' : Heap), St p l e R s m args below meth c Z code own ret ml nm n0 T' h' cells slots → Wr h h' a (Jvm.RoadKit.slotOf Z K f d) v' → Ends p e below s n0 C S Q T' (mkF m pc' Ls stk)) : Ends p e below s n0 C S Q T (mkF m pc Ls (v :: .ref a :: stk)) := by
  obtain ⟨locs, Y, hx, hZ, hc, ho, hr, hm, hn, hk, hh, hF, h0⟩ := X
  subst hp
  obtain ⟨T', h', Y', e', W, st⟩ := putFN Y hx hZ ho w Via.refl hh F E (L.imp id fun q => ⟨q.1, q.2.1, hn.trans q.2.2⟩) wi hty hnr hft (g := mkF m pc Ls (v :: .ref a :: stk)) rfl rfl (hb hc hd)
  exact (k T' h' ⟨_, Y', hx, hZ, hc, ho, hr, hm, hn, hk, e', Fr.snoc Y' hF ge, h0⟩ W).by st
/-- the array at a, of the component kind ty, holds just the values vs -/
def AV (Z : State) (h : Heap) (a : Addr) (ty : FieldType) (vs : List Value) : Prop := ∃ cl : Cell, Arr Z h a cl ty ∧ cl.slots.toList = vs ∧ vs.length < 2147483648 ∧ ∀ v ∈ vs, fits ty v = true
theorem AV.lt {a : Addr} {ty : FieldType} {vs : List Value} (A : AV Z h a ty vs) : a < h.size := by obtain ⟨cl, A, -⟩ := A; exact A.lt
theorem AV.ext {h' : Heap} {a : Addr} {ty : FieldType} {vs : List Value} (A : AV Z h a ty vs) (E : Ext h h') : AV Z h' a ty vs := by obtain ⟨cl, A, r⟩ := A; exact ⟨cl, A.ext E, r⟩
theorem AV.other {h' : Heap} {a b : Addr} {sl : Nat} {v : Value} {ty : FieldType} {vs : List Value} (A : AV Z h a ty vs) (W : Wr h h' b sl v) (q : a ≠ b) : AV Z h' a ty vs := by obtain ⟨cl, A, r⟩ := A; exact ⟨cl, A.other W q, r⟩
theorem AV.keep {h' : Heap} {a : Addr} {ws : List Addr} {ty : FieldType} {vs : List Value} (A : AV Z h a ty vs) (K : Keep h h' ws) (q : a ∉ ws) : AV Z h' a ty vs := by obtain ⟨cl, A, r⟩ := A; exact ⟨cl, ⟨K.2.1 a cl A.1 q, A.2⟩, r⟩
theorem AV.same {h' : Heap} {a : Addr} {j : Nat} {v : Value} {ty : FieldType} {vs : List Value} (A : AV Z h a ty vs) (W : Wr h h' a j v) (hf : fits ty v = true) : AV Z h' a ty (vs.set j v) := by
  obtain ⟨cl, A, r1, r2, r3⟩ := A
  refine ⟨cl.setSlot j v, A.same W, ?_, by simpa using r2, fun u hu => ?_⟩
  · rw [← r1]; simp [Cell.setSlot]
  · rcases List.mem_or_eq_of_mem_set hu with q | q
    · exact r3 u q
    · exact q ▸ hf
theorem idx_ok {cl : Cell} {vs : List Value} {v : Value} {j : Int32} (r1 : cl.slots.toList = vs) (hj : ¬ j < 0) (hv : vs[j.toNatClampNeg]? = some v) : ¬ (j < 0 ∨ cl.slots.size ≤ j.toNatClampNeg) ∧ cl.slots[j.toNatClampNeg]? = some v := by
  subst r1
  rw [Array.getElem?_toList] at hv
  exact ⟨fun q => q.elim hj fun q => (by rw [Array.getElem?_eq_none q] at hv; cases hv), hv⟩

theorem F_iaload (X : St p l e R s m args below meth c Z code own ret ml nm n0 T h cells slots) {a : Addr} {vs : List Value} {j : Int32} {v : Int32} (A : AV Z h a .int vs) (hj : ¬ j < 0) (hv : vs[j.toNatClampNeg]? = some (.int v)) (hd : decode code pc = .ok (.iaload, 1)) (hp : pc + 1 = pc') (k : Ends p e below s n0 C S Q T (mkF m pc' Ls (.int v :: stk))) : Ends p e below s n0 C S Q T (mkF m pc Ls (.int j :: .ref a :: stk)) := by
  obtain ⟨locs, Y, hx, hZ, hc, ho, hr, hm, hn, hk, hh, hF, h0⟩ := X
  subst hp
  obtain ⟨cl, A, r1, r2, r3⟩ := A
  obtain ⟨q1, q2⟩ := idx_ok r1 hj hv
  exact k.by fun _ z => Y.iaload hx (j := j) (by rw [hh]; exact A.1) (State.isArrayOf_alike hZ.alike A.2.1) A.2.2 q1 q2 (g := mkF m pc Ls (.int j :: .ref a :: stk)) rfl rfl (hb hc hd) _ z
theorem F_laload (X : St p l e R s m args below meth c Z code own ret ml nm n0 T h cells slots) {a : Addr} {vs : List Value} {j : Int32} {v : Int64} (A : AV Z h a .long vs) (hj : ¬ j < 0) (hv : vs[j.toNatClampNeg]? = some (.long v)) (hd : decode code pc = .ok (.laload, 1)) (hp : pc + 1 = pc') (k : Ends p e below s n0 C S Q T (mkF m pc' Ls (.long v :: stk))) : Ends p e below s n0 C S Q T (mkF m pc Ls (.int j :: .ref a :: stk)) := by
  obtain ⟨locs, Y, hx, hZ, hc, ho, hr, hm, hn, hk, hh, hF, h0⟩ := X
  subst hp
  obtain ⟨cl, A, r1, r2, r3⟩ := A
  obtain ⟨q1, q2⟩ := idx_ok r1 hj hv
  exact k.by fun _ z => Y.laload hx (j := j) (by rw [hh]; exact A.1) (State.isArrayOf_alike hZ.alike A.2.1) A.2.2 q1 q2 (g := mkF m pc Ls (.int j :: .ref a :: stk)) rfl rfl (hb hc hd) _ z
theorem F_baload (X : St p l e R s m args below meth c Z code own ret ml nm n0 T h cells slots) {a : Addr} {vs : List Value} {j : Int32} {v : Int32} (A : AV Z h a .byte vs) (hj : ¬ j < 0) (hv : vs[j.toNatClampNeg]? = some (.int v)) (hd : decode code pc = .ok (.baload, 1)) (hp : pc + 1 = pc') (k : Ends p e below s n0 C S Q T (mkF m pc' Ls (.int v :: stk))) : Ends p e below s n0 C S Q T (mkF m pc Ls (.int j :: .ref a :: stk)) := by
  obtain ⟨locs, Y, hx, hZ, hc, ho, hr, hm, hn, hk, hh, hF, h0⟩ := X
  subst hp
  obtain ⟨cl, A, r1, r2, r3⟩ := A
  obtain ⟨q1, q2⟩ := idx_ok r1 hj hv
  exact k.by fun _ z => Y.baloadBytes hx (j := j) (by rw [hh]; exact A.1) (State.isArrayOf_alike hZ.alike A.2.1) A.2.2 q1 q2 (g := mkF m pc Ls (.int j :: .ref a :: stk)) rfl rfl (hb hc hd) _ z
theorem F_arraylength (X : St p l e R s m args below meth c Z code own ret ml nm n0 T h cells slots) {a : Addr} {ty : FieldType} {vs : List Value} {z : Int32} (A : AV Z h a ty vs) (hz : vs.length.toInt32 = z) (hd : decode code pc = .ok (.arraylength, 1)) (hp : pc + 1 = pc') (k : Ends p e below s n0 C S Q T (mkF m pc' Ls (.int z :: stk))) : Ends p e below s n0 C S Q T (mkF m pc Ls (.ref a :: stk)) := by
  obtain ⟨locs, Y, hx, hZ, hc, ho, hr, hm, hn, hk, hh, hF, h0⟩ := X
  subst hp
  obtain ⟨cl, A, r1, r2, r3⟩ := A
  subst hz r1
  exact k.by fun _ z => Y.arraylength hx (by rw [hh]; exact A.1) (State.isArrayOf_alike hZ.alike A.2.1) (g := mkF m pc Ls (.ref a :: stk)) rfl rfl (hb hc hd) _ (by simpa using z)
theorem F_iastore (X : St p l e R s m args below meth c Z code own ret ml nm n0 T h cells slots) {a : Addr} {vs : List Value} {j : Int32} {x : Int32} {i : Nat} (A : AV Z h a .int vs) (hj : ¬ j < 0) (hi : j.toNatClampNeg = i) (hlt : i < vs.length) (ge : n0 ≤ a) (hd : decode code pc = .ok (.iastore, 1)) (hp : pc + 1 = pc')
    (k : ∀ (T' : State) (h' : Heap), St p l e R s m args below meth c Z code own ret ml nm n0 T' h' cells slots → Wr h h' a i (.int x) → AV Z h' a .int (vs.set i (.int x)) → Ends p e below s n0 C S Q T' (mkF m pc' Ls stk)) : Ends p e below s n0 C S Q T (mkF m pc Ls (.int x :: .int j :: .ref a :: stk)) := by
  obtain ⟨locs, Y, hx, hZ, hc, ho, hr, hm, hn, hk, hh, hF, h0⟩ := X
  subst hp hi
  have A0 := A
  obtain ⟨cl, A, r1, r2, r3⟩ := A
  subst r1
  obtain ⟨T', h', Y', e', W, st⟩ := stI Y hx hZ hh A (j := j) (x := x) (fun q => q.elim hj fun q => by simp at hlt; omega) (g := mkF m pc Ls (.int x :: .int j :: .ref a :: stk)) rfl rfl (hb hc hd)
  exact (k T' h' ⟨_, Y', hx, hZ, hc, ho, hr, hm, hn, hk, e', Fr.snoc Y' hF ge, h0⟩ W (A0.same W rfl)).by st
theorem F_lastore (X : St p l e R s m args below meth c Z code own ret ml nm n0 T h cells slots) {a : Addr} {vs : List Value} {j : Int32} {x : Int64} {i : Nat} (A : AV Z h a .long vs) (hj : ¬ j < 0) (hi : j.toNatClampNeg = i) (hlt : i < vs.length) (ge : n0 ≤ a) (hd : decode code pc = .ok (.lastore, 1)) (hp : pc + 1 = pc')
    (k : ∀ (T' : State) (h' : Heap), St p l e R s m args below meth c Z code own ret ml nm n0 T' h' cells slots → Wr h h' a i (.long x) → AV Z h' a .long (vs.set i (.long x)) → Ends p e below s n0 C S Q T' (mkF m pc' Ls stk)) : Ends p e below s n0 C S Q T (mkF m pc Ls (.long x :: .int j :: .ref a :: stk)) := by
  obtain ⟨locs, Y, hx, hZ, hc, ho, hr, hm, hn, hk, hh, hF, h0⟩ := X
  subst hp hi
  have A0 := A
  obtain ⟨cl, A, r1, r2, r3⟩ := A
  subst r1
  obtain ⟨T', h', Y', e', W, st⟩ := stJ Y hx hZ hh A (j := j) (x := x) (fun q => q.elim hj fun q => by simp at hlt; omega) (g := mkF m pc Ls (.long x :: .int j :: .ref a :: stk)) rfl rfl (hb hc hd)
  exact (k T' h' ⟨_, Y', hx, hZ, hc, ho, hr, hm, hn, hk, e', Fr.snoc Y' hF ge, h0⟩ W (A0.same W rfl)).by st
theorem F_bastore (X : St p l e R s m args below meth c Z code own ret ml nm n0 T h cells slots) {a : Addr} {vs : List Value} {j : Int32} {x : Int32} {i : Nat} (A : AV Z h a .byte vs) (hj : ¬ j < 0) (hi : j.toNatClampNeg = i) (hlt : i < vs.length) (ge : n0 ≤ a) {z : Int32} (hz : x.toInt8.toInt32 = z) (hd : decode code pc = .ok (.bastore, 1)) (hp : pc + 1 = pc')
    (k : ∀ (T' : State) (h' : Heap), St p l e R s m args below meth c Z code own ret ml nm n0 T' h' cells slots → Wr h h' a i (.int z) → AV Z h' a .byte (vs.set i (.int z)) → Ends p e below s n0 C S Q T' (mkF m pc' Ls stk)) : Ends p e below s n0 C S Q T (mkF m pc Ls (.int x :: .int j :: .ref a :: stk)) := by
  obtain ⟨locs, Y, hx, hZ, hc, ho, hr, hm, hn, hk, hh, hF, h0⟩ := X
  subst hp hi
  have A0 := A
  obtain ⟨cl, A, r1, r2, r3⟩ := A
  subst r1
  obtain ⟨T', h', Y', e', W, st⟩ := stB Y hx hZ hh A (j := j) (x := x) (fun q => q.elim hj fun q => by simp at hlt; omega) (g := mkF m pc Ls (.int x :: .int j :: .ref a :: stk)) rfl rfl (hb hc hd)
  subst hz
  exact (k T' h' ⟨_, Y', hx, hZ, hc, ho, hr, hm, hn, hk, e', Fr.snoc Y' hF ge, h0⟩ W (A0.same W (fits_nar_byte _))).by st
theorem F_newarray (X : St p l e R s m args below meth c Z code own ret ml nm n0 T h cells slots) {aty : ArrayType} {n : Int32} {cap : Nat} {ad : String} (w : (Cond.arrayClass (newarray.typeOf aty)).before a0 Z = true) (hn0 : ¬ n < 0) (hcap : n.toNatClampNeg = cap) (hbig : cap * 8 ≤ 536870912) (r3 : cells + 1 ≤ R.cells) (r4 : slots + cap ≤ R.slots) (had : "[" ++ (newarray.typeOf aty).toString = ad) (hd : decode code pc = .ok (.newarray aty, 2)) (hp : pc + 2 = pc')
    (k : ∀ (T' : State) (h' : Heap) (a : Addr), St p l e R s m args below meth c Z code own ret ml nm n0 T' h' (cells + 1) (slots + cap) → Ext h h' → a = h.size → n0 ≤ a → Exa Z h' a ad → AV Z h' a (newarray.typeOf aty) (List.replicate cap (defaultValue (newarray.typeOf aty))) → Ends p e below s n0 C S Q T' (mkF m pc' Ls (.ref a :: stk))) : Ends p e below s n0 C S Q T (mkF m pc Ls (.int n :: stk)) := by
  have hsz := X.size
  obtain ⟨locs, Y, hx, hZ, hc, ho, hr, hm, hn, hk, hh, hF, h0⟩ := X
  subst hp
  obtain ⟨T', h', cA, Y', e', E, A, EX, st⟩ := newPE Y hx hZ w hh (g := mkF m pc Ls (.int n :: stk)) rfl (hb hc hd) rfl hn0 (Nat.le_of_eq hcap) hbig r3 r4 had
  refine (k T' h' _ ⟨_, Y', hx, hZ, hc, ho, hr, hm, hn, hk, e', hF, h0⟩ E rfl hsz EX ⟨_, A, by simp [newA, hcap], by simp; omega, fun v hv => ?_⟩).by st
  rw [(List.mem_replicate.mp hv).2]
  cases aty <;> rfl
theorem AV.arv {a : Addr} {ty : FieldType} {vs : List Value} (A : AV Z h a ty vs) (dv : Value) : ∃ k, Arv Z h a k ty vs.length.toInt32 vs dv := by
  obtain ⟨cl, A, r1, r2, r3⟩ := A
  have e1 : (vs.length.toInt32).toInt = vs.length := len_toInt (by omega)
  have e2 : vs.length.toInt32.toNatClampNeg = vs.length := by simp only [Int32.toNatClampNeg, e1]; omega
  have sz : cl.slots.size = vs.length := by rw [← r1]; simp
  have g : ∀ i, i < vs.length → vs[i]? = some (vs.getD i dv) := fun i hi => by simp [List.getD_eq_getElem?_getD, hi]
  refine ⟨cl.cls, cl, A, rfl, by rw [e2]; exact sz, by simp only [Int32.lt_iff_toInt_lt, e1, Int32.reduceToInt]; omega, fun i hi => ?_, fun i hi => ?_⟩
  · rw [← Array.getElem?_toList, r1]; exact g i (sz ▸ hi)
  · exact r3 _ (List.mem_of_getElem? (g i (sz ▸ hi)))
theorem AV.of_arv {a : Addr} {ty : FieldType} {vs : List Value} {k : ClassId} {z : Int32} {dv : Value} (A : Arv Z h a k ty z vs dv) (hz : z.toNatClampNeg = vs.length) : AV Z h a ty vs := by
  obtain ⟨cl, A, r1, r2, r3, H, G⟩ := A
  have sz : cl.slots.size = vs.length := r2.trans hz
  have e : cl.slots.toList = vs := by
    apply List.ext_getElem?
    intro i
    rw [Array.getElem?_toList]
    by_cases hi : i < vs.length
    · rw [H i (by rw [sz]; exact hi)]; simp [List.getD_eq_getElem?_getD, hi]
    · rw [Array.getElem?_eq_none (by omega), List.getElem?_eq_none (by omega)]
  refine ⟨cl, A, e, by have := (back32 r3).2; omega, fun v hv => ?_⟩
  obtain ⟨i, hi, rfl⟩ := List.getElem_of_mem hv
  have q := G i (by rw [sz]; exact hi)
  simpa [List.getD_eq_getElem?_getD, hi] using q

theorem F_arraycopy (X : St p l e R s m args below meth c Z code own ret ml nm n0 T h cells slots) {idx : Nat} {a b : Addr} {ty : FieldType} {vs vd us vr : List Value} {sp dp nn : Int32} (w1 : (Cond.methodLink own idx Jvm.Stand.acN).before a0 Z = true) (w2 : (Cond.native Jvm.Stand.acN).before a0 Z = true) (w3 : (Cond.static Jvm.Stand.acN).before a0 Z = true) (w4 : (Cond.initialized "java/lang/System").before a0 Z = true)
    (A : AV Z h a ty vs) (B : AV Z h b ty vd) (dv : Value) (hty : refKind ty = false) (h1 : ¬ sp < 0) (h2 : ¬ dp < 0) (h3 : ¬ nn < 0) (h4 : sp.toNatClampNeg + nn.toNatClampNeg ≤ vs.length) (h5 : dp.toNatClampNeg + nn.toNatClampNeg ≤ vd.length)
    (hus : us = (List.range nn.toNatClampNeg).map fun i => vs.getD (sp.toNatClampNeg + i) dv) (hvr : vd.take dp.toNatClampNeg ++ us ++ vd.drop (dp.toNatClampNeg + nn.toNatClampNeg) = vr) (ge : n0 ≤ b) (hls : Ls.size = ml) (r1 : 1 ≤ R.frames) {W : Nat} (hW : (stk.map fun v => v.category).sum ≤ W) (r2 : W + (nativeFrameWords "java/lang/System" "arraycopy" 5 + 11) ≤ R.locals) (hd : decode code pc = .ok (.invokestatic idx, 3)) (hp : pc + 3 = pc')
    (k : ∀ (T' : State) (h' : Heap), St p l e R s m args below meth c Z code own ret ml nm n0 T' h' cells slots → Keep h h' [b] → AV Z h' b ty vr → Ends p e below s n0 C S Q T' (mkF m pc' Ls stk)) : Ends p e below s n0 C S Q T (mkF m pc Ls (.int nn :: .int dp :: .ref b :: .int sp :: .ref a :: stk)) := by
  obtain ⟨locs, Y, hx, hZ, hc, ho, hr, hm, hn, hk, hh, hF, h0⟩ := X
  have hla : vs.length < 2147483648 := by obtain ⟨_, _, _, q, _⟩ := A; exact q
  have hlb : vd.length < 2147483648 := by obtain ⟨_, _, _, q, _⟩ := B; exact q
  subst hp
  obtain ⟨ka, A⟩ := A.arv dv
  obtain ⟨kb, B0⟩ := B.arv dv
  obtain ⟨T', h', L, Y', e', N', K', B', st⟩ := cpA Y hx hZ ho w1 w2 w3 w4 hh A B0 (Or.inl ⟨rfl, hty⟩) h1 h2 h3 (by rw [own_len32 hla]; exact h4) (by rw [own_len32 hlb]; exact h5) hus h5 hF ge (g := mkF m pc Ls (.int nn :: .int dp :: .ref b :: .int sp :: .ref a :: stk)) rfl (by rw [hm]; exact hls) rfl (hb hc hd) r1 (W := W) (by show 2 * 0 + _ ≤ _; omega) r2
  rw [hvr] at B'
  exact (k T' h' ⟨_, Y', hx, hZ, hc, ho, hr, hm, hn, hk, e', N', h0⟩ K' (AV.of_arv B' (by rw [own_len32 hlb, ← hvr, hus]; simp; omega))).by st
theorem F_clone (X : St p l e R s m args below meth c Z code own ret ml nm n0 T h cells slots) {idx : Nat} {a : Addr} {ty : FieldType} {vs : List Value} {ad : String} {cap : Nat} (w1 : (Cond.methodLink own idx ⟨ad, "clone", "()Ljava/lang/Object;"⟩).before a0 Z = true) (w2 : (Cond.sameMethod ad "java/lang/Object" "clone" "()Ljava/lang/Object;").before a0 Z = true) (w3 : (Cond.native ⟨"java/lang/Object", "clone", "()Ljava/lang/Object;"⟩).before a0 Z = true)
    (w4 : (Cond.instanceMethod ⟨"java/lang/Object", "clone", "()Ljava/lang/Object;"⟩).before a0 Z = true) (w5 : (Cond.selects ad ⟨ad, "clone", "()Ljava/lang/Object;"⟩ ⟨"java/lang/Object", "clone", "()Ljava/lang/Object;"⟩).before a0 Z = true) (w6 : (Cond.castable ad "java/lang/Cloneable").before a0 Z = true)
    (A : AV Z h a ty vs) (E : Exa Z h a ad) (hls : Ls.size = ml) (r1 : 1 ≤ R.frames) {W : Nat} (hW : (stk.map fun v => v.category).sum ≤ W) (r2 : W + 14 ≤ R.locals) (hcap : vs.length ≤ cap) (r3 : cells + 1 ≤ R.cells) (r4 : slots + cap ≤ R.slots) (hd : decode code pc = .ok (.invokevirtual idx, 3)) (hp : pc + 3 = pc')
    (k : ∀ (T' : State) (h' : Heap) (b : Addr), St p l e R s m args below meth c Z code own ret ml nm n0 T' h' (cells + 1) (slots + cap) → Ext h h' → b = h.size → n0 ≤ b → Exa Z h' b ad → AV Z h' b ty vs → Ends p e below s n0 C S Q T' (mkF m pc' Ls (.ref b :: stk))) : Ends p e below s n0 C S Q T (mkF m pc Ls (.ref a :: stk)) := by
  have hsz := X.size
  obtain ⟨locs, Y, hx, hZ, hc, ho, hr, hm, hn, hk, hh, hF, h0⟩ := X
  subst hp
  obtain ⟨cl, A, q1, q2, q3⟩ := A
  have FC : FitC Z cl := fitC_of A fun i hi v hv => q3 v (by rw [← q1]; exact List.mem_of_getElem? (i := i) (by rw [Array.getElem?_toList]; exact hv))
  obtain ⟨T', h', Y', e', E', A', EX, st⟩ := cloneA Y hx hZ ho w1 w2 w3 w4 w5 w6 hh A E FC (g := mkF m pc Ls (.ref a :: stk)) rfl (by rw [hm]; exact hls) rfl (hb hc hd) r1 (W := W) (by show 2 * 0 + _ ≤ _; omega) r2 (cap := cap) (by rw [← q1] at hcap; simpa using hcap) r3 r4
  exact (k T' h' _ ⟨_, Y', hx, hZ, hc, ho, hr, hm, hn, hk, e', hF, h0⟩ E' rfl hsz EX ⟨_, A', q1, q2, q3⟩).by st
theorem F_checkcast (X : St p l e R s m args below meth c Z code own ret ml nm n0 T h cells slots) {idx : Nat} {a : Addr} {K : String} (w : (Cond.classLink own idx K).before a0 Z = true) (E : Exa Z h a K) (hd : decode code pc = .ok (.checkcast idx, 3)) (hp : pc + 3 = pc')
    (k : ∀ T' : State, St p l e R s m args below meth c Z code own ret ml nm n0 T' h cells slots → Ends p e below s n0 C S Q T' (mkF m pc' Ls (.ref a :: stk))) : Ends p e below s n0 C S Q T (mkF m pc Ls (.ref a :: stk)) := by
  obtain ⟨locs, Y, hx, hZ, hc, ho, hr, hm, hn, hk, hh, hF, h0⟩ := X
  subst hp
  obtain ⟨T', Y', e', st⟩ := castY Y hx hZ ho w hh (Ins.self E) (g := mkF m pc Ls (.ref a :: stk)) rfl rfl (hb hc hd)
  exact (k T' ⟨_, Y', hx, hZ, hc, ho, hr, hm, hn, hk, e', hF, h0⟩).by st
end Laws
end Jvm.OwnKit

namespace Jvm.Pilot.@@N@@
open Jvm Jvm.ClassFile Sem Op Lib Jvm.Free Jvm.Stand Jvm.LawKit Jvm.RoadKit Jvm.OwnKit Bundle Jvm.Pilot.@@N@@.Jvm.D
theorem wd0 {a0 : Array Value} {Z : State} (hw : ∀ d ∈ tables_1, d.before a0 Z = true) : (Jvm.Cond.methodLink "org/pulsewire/oru/IntListLastBelowPinLaw" (7 : Nat) ({ cls := "java/lang/Math", name := "min", desc := "(II)I" } : Jvm.MethodName)).before a0 Z = true := hw _ (List.mem_of_getElem? (i := 0) rfl)
theorem wd1 {a0 : Array Value} {Z : State} (hw : ∀ d ∈ tables_1, d.before a0 Z = true) : (Jvm.Cond.static ({ cls := "java/lang/Math", name := "min", desc := "(II)I" } : Jvm.MethodName)).before a0 Z = true := hw _ (List.mem_of_getElem? (i := 1) rfl)
theorem wd2 {a0 : Array Value} {Z : State} (hw : ∀ d ∈ tables_1, d.before a0 Z = true) : (Jvm.Cond.initialized "java/lang/Math").before a0 Z = true := hw _ (List.mem_of_getElem? (i := 2) rfl)
theorem wd3 {a0 : Array Value} {Z : State} (hw : ∀ d ∈ tables_1, d.before a0 Z = true) : (Jvm.Cond.code ({ cls := "java/lang/Math", name := "min", desc := "(II)I" } : Jvm.MethodName) jdk_29_method_69_code (2 : Nat) (Option.some Jvm.ClassFile.FieldType.int)).before a0 Z = true := hw _ (List.mem_of_getElem? (i := 3) rfl)
theorem wd4 {a0 : Array Value} {Z : State} (hw : ∀ d ∈ tables_1, d.before a0 Z = true) : (Jvm.Cond.methodLink "org/pulsewire/oru/IntListLastBelowPinLaw" (13 : Nat) ({ cls := "java/lang/Math", name := "max", desc := "(II)I" } : Jvm.MethodName)).before a0 Z = true := hw _ (List.mem_of_getElem? (i := 4) rfl)
theorem wd5 {a0 : Array Value} {Z : State} (hw : ∀ d ∈ tables_1, d.before a0 Z = true) : (Jvm.Cond.static ({ cls := "java/lang/Math", name := "max", desc := "(II)I" } : Jvm.MethodName)).before a0 Z = true := hw _ (List.mem_of_getElem? (i := 5) rfl)
theorem wd6 {a0 : Array Value} {Z : State} (hw : ∀ d ∈ tables_1, d.before a0 Z = true) : (Jvm.Cond.code ({ cls := "java/lang/Math", name := "max", desc := "(II)I" } : Jvm.MethodName) jdk_29_method_65_code (2 : Nat) (Option.some Jvm.ClassFile.FieldType.int)).before a0 Z = true := hw _ (List.mem_of_getElem? (i := 6) rfl)
theorem wd7 {a0 : Array Value} {Z : State} (hw : ∀ d ∈ tables_1, d.before a0 Z = true) : (Jvm.Cond.classLink "org/pulsewire/oru/IntListLastBelowPinLaw" (16 : Nat) "org/pulsewire/oru/IntList").before a0 Z = true := hw _ (List.mem_of_getElem? (i := 7) rfl)
theorem wd8 {a0 : Array Value} {Z : State} (hw : ∀ d ∈ tables_1, d.before a0 Z = true) : (Jvm.Cond.instantiable "org/pulsewire/oru/IntList" (2 : Nat)).before a0 Z = true := hw _ (List.mem_of_getElem? (i := 8) rfl)
theorem wd9 {a0 : Array Value} {Z : State} (hw : ∀ d ∈ tables_1, d.before a0 Z = true) : (Jvm.Cond.initialized "org/pulsewire/oru/IntList").before a0 Z = true := hw _ (List.mem_of_getElem? (i := 9) rfl)
theorem wd10 {a0 : Array Value} {Z : State} (hw : ∀ d ∈ tables_1, d.before a0 Z = true) : (Jvm.Cond.methodLink "org/pulsewire/oru/IntListLastBelowPinLaw" (18 : Nat) ({ cls := "org/pulsewire/oru/IntList", name := "<init>", desc := "()V" } : Jvm.MethodName)).before a0 Z = true := hw _ (List.mem_of_getElem? (i := 10) rfl)
theorem wd11 {a0 : Array Value} {Z : State} (hw : ∀ d ∈ tables_1, d.before a0 Z = true) : (Jvm.Cond.instanceMethod ({ cls := "org/pulsewire/oru/IntList", name := "<init>", desc := "()V" } : Jvm.MethodName)).before a0 Z = true := hw _ (List.mem_of_getElem? (i := 11) rfl)
theorem wd12 {a0 : Array Value} {Z : State} (hw : ∀ d ∈ tables_1, d.before a0 Z = true) : (Jvm.Cond.code ({ cls := "org/pulsewire/oru/IntList", name := "<init>", desc := "()V" } : Jvm.MethodName) prog_114_method_1_code (1 : Nat) (Option.none : Option Jvm.ClassFile.FieldType)).before a0 Z = true := hw _ (List.mem_of_getElem? (i := 12) rfl)
theorem wd13 {a0 : Array Value} {Z : State} (hw : ∀ d ∈ tables_1, d.before a0 Z = true) : (Jvm.Cond.methodLink "org/pulsewire/oru/IntList" (1 : Nat) ({ cls := "java/lang/Object", name := "<init>", desc := "()V" } : Jvm.MethodName)).before a0 Z = true := hw _ (List.mem_of_getElem? (i := 13) rfl)
theorem wd14 {a0 : Array Value} {Z : State} (hw : ∀ d ∈ tables_1, d.before a0 Z = true) : (Jvm.Cond.instanceMethod ({ cls := "java/lang/Object", name := "<init>", desc := "()V" } : Jvm.MethodName)).before a0 Z = true := hw _ (List.mem_of_getElem? (i := 14) rfl)
theorem wd15 {a0 : Array Value} {Z : State} (hw : ∀ d ∈ tables_1, d.before a0 Z = true) : (Jvm.Cond.code ({ cls := "java/lang/Object", name := "<init>", desc := "()V" } : Jvm.MethodName) object_method_1_code (1 : Nat) (Option.none : Option Jvm.ClassFile.FieldType)).before a0 Z = true := hw _ (List.mem_of_getElem? (i := 15) rfl)
theorem wd16 {a0 : Array Value} {Z : State} (hw : ∀ d ∈ tables_1, d.before a0 Z = true) : (Jvm.Cond.arrayClass Jvm.ClassFile.FieldType.int).before a0 Z = true := hw _ (List.mem_of_getElem? (i := 16) rfl)
theorem wd17 {a0 : Array Value} {Z : State} (hw : ∀ d ∈ tables_1, d.before a0 Z = true) : (Jvm.Cond.fieldLink "org/pulsewire/oru/IntList" (7 : Nat) "org/pulsewire/oru/IntList" "values" "[I").before a0 Z = true := hw _ (List.mem_of_getElem? (i := 17) rfl)
theorem wd18 {a0 : Array Value} {Z : State} (hw : ∀ d ∈ tables_1, d.before a0 Z = true) : (Jvm.Cond.lays "org/pulsewire/oru/IntList" "org/pulsewire/oru/IntList" "values" "[I").before a0 Z = true := hw _ (List.mem_of_getElem? (i := 18) rfl)
theorem wd19 {a0 : Array Value} {Z : State} (hw : ∀ d ∈ tables_1, d.before a0 Z = true) : (Jvm.Cond.methodLink "org/pulsewire/oru/IntListLastBelowPinLaw" (19 : Nat) ({ cls := "org/pulsewire/oru/IntList", name := "add", desc := "(I)V" } : Jvm.MethodName)).before a0 Z = true := hw _ (List.mem_of_getElem? (i := 19) rfl)
theorem wd20 {a0 : Array Value} {Z : State} (hw : ∀ d ∈ tables_1, d.before a0 Z = true) : (Jvm.Cond.declares ({ cls := "org/pulsewire/oru/IntList", name := "add", desc := "(I)V" } : Jvm.MethodName)).before a0 Z = true := hw _ (List.mem_of_getElem? (i := 20) rfl)
theorem wd21 {a0 : Array Value} {Z : State} (hw : ∀ d ∈ tables_1, d.before a0 Z = true) : (Jvm.Cond.instanceMethod ({ cls := "org/pulsewire/oru/IntList", name := "add", desc := "(I)V" } : Jvm.MethodName)).before a0 Z = true := hw _ (List.mem_of_getElem? (i := 21) rfl)
theorem wd22 {a0 : Array Value} {Z : State} (hw : ∀ d ∈ tables_1, d.before a0 Z = true) : (Jvm.Cond.selects "org/pulsewire/oru/IntList" ({ cls := "org/pulsewire/oru/IntList", name := "add", desc := "(I)V" } : Jvm.MethodName) ({ cls := "org/pulsewire/oru/IntList", name := "add", desc := "(I)V" } : Jvm.MethodName)).before a0 Z = true := hw _ (List.mem_of_getElem? (i := 22) rfl)
theorem wd23 {a0 : Array Value} {Z : State} (hw : ∀ d ∈ tables_1, d.before a0 Z = true) : (Jvm.Cond.code ({ cls := "org/pulsewire/oru/IntList", name := "add", desc := "(I)V" } : Jvm.MethodName) prog_114_method_2_code (2 : Nat) (Option.none : Option Jvm.ClassFile.FieldType)).before a0 Z = true := hw _ (List.mem_of_getElem? (i := 23) rfl)
theorem wd24 {a0 : Array Value} {Z : State} (hw : ∀ d ∈ tables_1, d.before a0 Z = true) : (Jvm.Cond.fieldLink "org/pulsewire/oru/IntList" (13 : Nat) "org/pulsewire/oru/IntList" "size" "I").before a0 Z = true := hw _ (List.mem_of_getElem? (i := 24) rfl)
theorem wd25 {a0 : Array Value} {Z : State} (hw : ∀ d ∈ tables_1, d.before a0 Z = true) : (Jvm.Cond.lays "org/pulsewire/oru/IntList" "org/pulsewire/oru/IntList" "size" "I").before a0 Z = true := hw _ (List.mem_of_getElem? (i := 25) rfl)
theorem wd26 {a0 : Array Value} {Z : State} (hw : ∀ d ∈ tables_1, d.before a0 Z = true) : (Jvm.Cond.methodLink "org/pulsewire/oru/IntListLastBelowPinLaw" (23 : Nat) ({ cls := "org/pulsewire/oru/IntList", name := "lastBelow", desc := "(I)I" } : Jvm.MethodName)).before a0 Z = true := hw _ (List.mem_of_getElem? (i := 26) rfl)
theorem wd27 {a0 : Array Value} {Z : State} (hw : ∀ d ∈ tables_1, d.before a0 Z = true) : (Jvm.Cond.declares ({ cls := "org/pulsewire/oru/IntList", name := "lastBelow", desc := "(I)I" } : Jvm.MethodName)).before a0 Z = true := hw _ (List.mem_of_getElem? (i := 27) rfl)
theorem wd28 {a0 : Array Value} {Z : State} (hw : ∀ d ∈ tables_1, d.before a0 Z = true) : (Jvm.Cond.instanceMethod ({ cls := "org/pulsewire/oru/IntList", name := "lastBelow", desc := "(I)I" } : Jvm.MethodName)).before a0 Z = true := hw _ (List.mem_of_getElem? (i := 28) rfl)
theorem wd29 {a0 : Array Value} {Z : State} (hw : ∀ d ∈ tables_1, d.before a0 Z = true) : (Jvm.Cond.selects "org/pulsewire/oru/IntList" ({ cls := "org/pulsewire/oru/IntList", name := "lastBelow", desc := "(I)I" } : Jvm.MethodName) ({ cls := "org/pulsewire/oru/IntList", name := "lastBelow", desc := "(I)I" } : Jvm.MethodName)).before a0 Z = true := hw _ (List.mem_of_getElem? (i := 29) rfl)
theorem wd30 {a0 : Array Value} {Z : State} (hw : ∀ d ∈ tables_1, d.before a0 Z = true) : (Jvm.Cond.code ({ cls := "org/pulsewire/oru/IntList", name := "lastBelow", desc := "(I)I" } : Jvm.MethodName) prog_114_method_5_code (5 : Nat) (Option.some Jvm.ClassFile.FieldType.int)).before a0 Z = true := hw _ (List.mem_of_getElem? (i := 30) rfl)
theorem pd0 : parseMethodDescriptor "(II)I" = some ⟨[.int, .int], some .int⟩ := by decide +kernel
theorem pd1 : parseMethodDescriptor "()V" = some ⟨[], none⟩ := by decide +kernel
theorem pd2 : parseMethodDescriptor "(I)I" = some ⟨[.int], some .int⟩ := by decide +kernel
theorem pd3 : parseMethodDescriptor "(I)V" = some ⟨[.int], none⟩ := by decide +kernel
def imin (x y : Int32) : Int32 := if y < x then y else x
def imax (x y : Int32) : Int32 := if x < y then y else x
theorem own_min {x y z : Int32} (h : imin x y = z) : z.toInt ≤ x.toInt ∧ z.toInt ≤ y.toInt ∧ (z.toInt = x.toInt ∨ z.toInt = y.toInt) := by
  subst h; unfold imin; by_cases q : y < x
  · rw [if_pos q]; rw [Int32.lt_iff_toInt_lt] at q; omega
  · rw [if_neg q]; rw [Int32.lt_iff_toInt_lt] at q; omega
theorem own_max {x y z : Int32} (h : imax x y = z) : x.toInt ≤ z.toInt ∧ y.toInt ≤ z.toInt ∧ (z.toInt = x.toInt ∨ z.toInt = y.toInt) := by
  subst h; unfold imax; by_cases q : x < y
  · rw [if_pos q]; rw [Int32.lt_iff_toInt_lt] at q; omega
  · rw [if_neg q]; rw [Int32.lt_iff_toInt_lt] at q; omega
theorem own_sort {a b cc d s0 s1 s2 s3 t0 t1 t2 t3 q1 q2 : Int32} (h1 : imin a b = s0) (h2 : imax a b = s1) (h3 : imin cc d = s2) (h4 : imax cc d = s3) (h5 : imin s0 s2 = t0) (h6 : imax s0 s2 = t2) (h7 : imin s1 s3 = t1) (h8 : imax s1 s3 = t3) (h9 : imin t1 t2 = q1) (h10 : imax t1 t2 = q2) : t0.toInt ≤ q1.toInt ∧ q1.toInt ≤ q2.toInt ∧ q2.toInt ≤ t3.toInt := by
  have g1 := own_min h1; have g2 := own_max h2; have g3 := own_min h3; have g4 := own_max h4; have g5 := own_min h5; have g6 := own_max h6; have g7 := own_min h7; have g8 := own_max h8; have g9 := own_min h9; have g10 := own_max h10
  have k1 : s0.toInt ≤ s1.toInt := by omega
  have k2 : s2.toInt ≤ s3.toInt := by omega
  have k3 : t0.toInt ≤ t1.toInt := by omega
  have k4 : t0.toInt ≤ t2.toInt := by omega
  have k5 : t1.toInt ≤ t3.toInt := by omega
  have k6 : t2.toInt ≤ t3.toInt := by omega
  refine ⟨by omega, by omega, by omega⟩
theorem own_k {x z : Int32} (h : (x &&& (7 : Int32)) % (5 : Int32) = z) : z = 0 ∨ z = 1 ∨ z = 2 ∨ z = 3 ∨ z = 4 := by
  obtain ⟨n, hn, e⟩ := own_maskN x 7 3 (by decide) (by decide)
  rw [← h, e]
  have : ∀ i : Fin 8, Int32.ofNat i % (5 : Int32) = 0 ∨ Int32.ofNat i % (5 : Int32) = 1 ∨ Int32.ofNat i % (5 : Int32) = 2 ∨ Int32.ofNat i % (5 : Int32) = 3 ∨ Int32.ofNat i % (5 : Int32) = 4 := by decide +kernel
  exact this ⟨n, hn⟩
def lb0 ( v : Int32) : Int32 := (-1 : Int32)
def lb1 (z0 v : Int32) : Int32 := (if z0 < v then (0 : Int32) else (-1 : Int32))
def lb2 (z0 z1 v : Int32) : Int32 := (if z0 < v then (if z1 < v then (1 : Int32) else (0 : Int32)) else (-1 : Int32))
def lb3 (z0 z1 z2 v : Int32) : Int32 := (if z1 < v then (if z2 < v then (2 : Int32) else (1 : Int32)) else (if z0 < v then (0 : Int32) else (-1 : Int32)))
def lb4 (z0 z1 z2 z3 v : Int32) : Int32 := (if z1 < v then (if z2 < v then (if z3 < v then (3 : Int32) else (2 : Int32)) else (1 : Int32)) else (if z0 < v then (0 : Int32) else (-1 : Int32)))
theorem d1_0 : decode jdk_29_method_69_code 0 = .ok (.iload_n 0, 1) := by decide +kernel
theorem d1_1 : decode jdk_29_method_69_code 1 = .ok (.iload_n 1, 1) := by decide +kernel
theorem d1_2 : decode jdk_29_method_69_code 2 = .ok (.if_icmp .gt 7, 3) := by decide +kernel
theorem d1_5 : decode jdk_29_method_69_code 5 = .ok (.iload_n 0, 1) := by decide +kernel
theorem d1_6 : decode jdk_29_method_69_code 6 = .ok (.goto 4, 3) := by decide +kernel
theorem d1_9 : decode jdk_29_method_69_code 9 = .ok (.iload_n 1, 1) := by decide +kernel
theorem d1_10 : decode jdk_29_method_69_code 10 = .ok (.ireturn, 1) := by decide +kernel
theorem ef_con_min (m : MethodId) (x0 : Int32) (x1 : Int32) : entryFrame m #[(.int x0), (.int x1)] 2 = mkF m 0 #[.val (.int x0), .val (.int x1)] [] := by first | (simp [entryFrame, mkF, argsToLocals, Value.category]; done) | rfl
set_option maxRecDepth 65536 in
set_option maxHeartbeats 40000000 in
theorem con_min (l : Launch) (Z : State) (a0 : Array Value) (hw : ∀ d ∈ tables_1, d.before a0 Z = true) (n0 : Nat) (h : Heap) (hn0 : n0 ≤ h.size) (u1 : Int32) (u2 : Int32) :
    Con l (⟨"java/lang/Math", "min", "(II)I"⟩ : MethodName) jdk_29_method_69_code 2 (some .int) ({ frames := 0, cells := 0, slots := 0, locals := 0 } : Room) 0 0 Z n0 #[(.int u1), (.int u2)] h (fun v h' => v = some (.int (imin u1 u2)) ∧ h = h') := by
  refine Con.body (own := "java/lang/Math") (nm := "min") rfl rfl (Jvm.Free.JP.mathPlain rfl (by decide +kernel)) hn0 ?_
  intro p e s m below meth c T0 X0
  rw [ef_con_min]
  refine F_iloadN X0 d1_0 rfl (pc' := 1) rfl ?_
  refine F_iloadN X0 d1_1 rfl (pc' := 2) rfl ?_
  refine F_icmp_gt X0 d1_2 (by decide) (pt := 9) (by decide) (pc' := 5) rfl (fun hc2_1 => ?_) (fun hc2_1 => ?_)
  · refine F_iloadN X0 d1_9 rfl (pc' := 10) rfl ?_
    refine F_ireturn X0 d1_10 rfl (by decide) (by decide) ?_
    exact ⟨by simp [imin, *], rfl⟩
  · refine F_iloadN X0 d1_5 rfl (pc' := 6) rfl ?_
    refine F_goto X0 d1_6 (by decide) (pc' := 10) (by decide) ?_
    refine F_ireturn X0 d1_10 rfl (by decide) (by decide) ?_
    exact ⟨by simp [imin, *], rfl⟩
theorem d2_0 : decode jdk_29_method_65_code 0 = .ok (.iload_n 0, 1) := by decide +kernel
theorem d2_1 : decode jdk_29_method_65_code 1 = .ok (.iload_n 1, 1) := by decide +kernel
theorem d2_2 : decode jdk_29_method_65_code 2 = .ok (.if_icmp .lt 7, 3) := by decide +kernel
theorem d2_5 : decode jdk_29_method_65_code 5 = .ok (.iload_n 0, 1) := by decide +kernel
theorem d2_6 : decode jdk_29_method_65_code 6 = .ok (.goto 4, 3) := by decide +kernel
theorem d2_9 : decode jdk_29_method_65_code 9 = .ok (.iload_n 1, 1) := by decide +kernel
theorem d2_10 : decode jdk_29_method_65_code 10 = .ok (.ireturn, 1) := by decide +kernel
theorem ef_con_max (m : MethodId) (x0 : Int32) (x1 : Int32) : entryFrame m #[(.int x0), (.int x1)] 2 = mkF m 0 #[.val (.int x0), .val (.int x1)] [] := by first | (simp [entryFrame, mkF, argsToLocals, Value.category]; done) | rfl
set_option maxRecDepth 65536 in
set_option maxHeartbeats 40000000 in
theorem con_max (l : Launch) (Z : State) (a0 : Array Value) (hw : ∀ d ∈ tables_1, d.before a0 Z = true) (n0 : Nat) (h : Heap) (hn0 : n0 ≤ h.size) (u1 : Int32) (u2 : Int32) :
    Con l (⟨"java/lang/Math", "max", "(II)I"⟩ : MethodName) jdk_29_method_65_code 2 (some .int) ({ frames := 0, cells := 0, slots := 0, locals := 0 } : Room) 0 0 Z n0 #[(.int u1), (.int u2)] h (fun v h' => v = some (.int (imax u1 u2)) ∧ h = h') := by
  refine Con.body (own := "java/lang/Math") (nm := "max") rfl rfl (Jvm.Free.JP.mathPlain rfl (by decide +kernel)) hn0 ?_
  intro p e s m below meth c T0 X0
  rw [ef_con_max]
  refine F_iloadN X0 d2_0 rfl (pc' := 1) rfl ?_
  refine F_iloadN X0 d2_1 rfl (pc' := 2) rfl ?_
  refine F_icmp_lt X0 d2_2 (by decide) (pt := 9) (by decide) (pc' := 5) rfl (fun hc2_1 => ?_) (fun hc2_1 => ?_)
  · refine F_iloadN X0 d2_9 rfl (pc' := 10) rfl ?_
    refine F_ireturn X0 d2_10 rfl (by decide) (by decide) ?_
    exact ⟨by simp [imax, *], rfl⟩
  · refine F_iloadN X0 d2_5 rfl (pc' := 6) rfl ?_
    refine F_goto X0 d2_6 (by decide) (pc' := 10) (by decide) ?_
    refine F_ireturn X0 d2_10 rfl (by decide) (by decide) ?_
    exact ⟨by simp [imax, *], rfl⟩
theorem d3_0 : decode prog_114_method_1_code 0 = .ok (.aload_n 0, 1) := by decide +kernel
theorem d3_1 : decode prog_114_method_1_code 1 = .ok (.invokespecial 1, 3) := by decide +kernel
theorem d3_4 : decode prog_114_method_1_code 4 = .ok (.aload_n 0, 1) := by decide +kernel
theorem d3_5 : decode prog_114_method_1_code 5 = .ok (.bipush 16, 2) := by decide +kernel
theorem d3_7 : decode prog_114_method_1_code 7 = .ok (.newarray .int, 2) := by decide +kernel
theorem d3_9 : decode prog_114_method_1_code 9 = .ok (.putfield 7, 3) := by decide +kernel
theorem d3_12 : decode prog_114_method_1_code 12 = .ok (.return_, 1) := by decide +kernel
theorem pn3 : plainName "org/pulsewire/oru/IntList" = true := by first | (simp [plainName, overriddenIn]; done) | decide +kernel
theorem ef_conI (m : MethodId) (x0 : Addr) : entryFrame m #[(.ref x0)] 1 = mkF m 0 #[.val (.ref x0)] [] := by first | (simp [entryFrame, mkF, argsToLocals, Value.category]; done) | rfl
set_option maxRecDepth 65536 in
set_option maxHeartbeats 40000000 in
theorem conI (l : Launch) (Z : State) (a0 : Array Value) (hw : ∀ d ∈ tables_1, d.before a0 Z = true) (n0 : Nat) (h : Heap) (hn0 : n0 ≤ h.size) (o1 : Addr) (E_o1 : Exa Z h o1 "org/pulsewire/oru/IntList") (F_values_o1 : Fld Z h o1 "org/pulsewire/oru/IntList" "values" "[I" .null) (F_size_o1 : Fld Z h o1 "org/pulsewire/oru/IntList" "size" "I" (.int (0 : Int32))) (ge_o1 : n0 ≤ o1) :
    Con l (⟨"org/pulsewire/oru/IntList", "<init>", "()V"⟩ : MethodName) prog_114_method_1_code 1 none ({ frames := 1, cells := 1, slots := 16, locals := 12 } : Room) 1 16 Z n0 #[(.ref o1)] h (fun v h' => ∃ fb : Addr, v = none ∧ h.size ≤ fb ∧ Keep h h' [o1] ∧ Exa Z h' o1 "org/pulsewire/oru/IntList" ∧ Exa Z h' fb "[I" ∧ Fld Z h' o1 "org/pulsewire/oru/IntList" "values" "[I" (.ref fb) ∧ Fld Z h' o1 "org/pulsewire/oru/IntList" "size" "I" (.int (0 : Int32)) ∧ AV Z h' fb .int [(.int (0 : Int32)), (.int (0 : Int32)), (.int (0 : Int32)), (.int (0 : Int32)), (.int (0 : Int32)), (.int (0 : Int32)), (.int (0 : Int32)), (.int (0 : Int32)), (.int (0 : Int32)), (.int (0 : Int32)), (.int (0 : Int32)), (.int (0 : Int32)), (.int (0 : Int32)), (.int (0 : Int32)), (.int (0 : Int32)), (.int (0 : Int32))]) := by
  refine Con.body (own := "org/pulsewire/oru/IntList") (nm := "<init>") rfl rfl (plainFor_of_name pn3) hn0 ?_
  intro p e s m below meth c T0 X0
  rw [ef_conI]
  refine F_aloadN X0 d3_0 rfl rfl (pc' := 1) rfl ?_
  refine F_objInit X0 (wd13 hw) (wd14 hw) (wd15 hw) (by decide) (W := 0) (Nat.le_of_ble_eq_true rfl) (by decide) rfl d3_1 (pc' := 4) rfl fun T1 X1 => ?_
  refine F_aloadN X1 d3_4 rfl rfl (pc' := 5) rfl ?_
  refine F_bipush X1 d3_5 (z := (16 : Int32)) (by decide) (pc' := 7) rfl ?_
  refine F_newarray X1 (aty := .int) (wd16 hw) (by decide) (cap := 16) (by decide) (by decide) (by decide) (by decide) (ad := "[I") rfl d3_7 (pc' := 9) rfl fun T2 h2 b2 X2 Ex2 g2 ge2 E_b2 A2 => ?_
  replace A2 : AV Z h2 b2 .int [(.int (0 : Int32)), (.int (0 : Int32)), (.int (0 : Int32)), (.int (0 : Int32)), (.int (0 : Int32)), (.int (0 : Int32)), (.int (0 : Int32)), (.int (0 : Int32)), (.int (0 : Int32)), (.int (0 : Int32)), (.int (0 : Int32)), (.int (0 : Int32)), (.int (0 : Int32)), (.int (0 : Int32)), (.int (0 : Int32)), (.int (0 : Int32))] := A2
  have ne_o1_b2 : o1 ≠ b2 := Nat.ne_of_lt (Nat.lt_of_lt_of_le E_o1.lt (Nat.le_of_eq g2.symm))
  have E2_o1 := E_o1.ext Ex2
  have F2_values_o1 := F_values_o1.ext Ex2
  have F2_size_o1 := F_size_o1.ext Ex2
  have sz_b2 : h.size ≤ b2 := Nat.le_trans (Keep.refl h [o1]).1 (Nat.le_of_eq g2.symm)
  have K3 := (Keep.refl h [o1]).ext Ex2
  replace X2 := X2.more (cells' := 1) (slots' := 16) (by decide) (by decide)
  refine F_putfield X2 (wd17 hw) F2_values_o1 E2_o1 (Or.inl (wd18 hw)) (wd8 hw) (ty := (.array .int)) (by decide) rfl rfl ge_o1 d3_9 (pc' := 12) rfl fun T4 h4 X4 W4 => ?_
  have F4_values_o1 := F2_values_o1.same W4
  have E4_o1 := E2_o1.wr W4
  have E4_b2 := E_b2.wr W4
  have F4_size_o1 := F2_size_o1.other W4 (Or.inr (slot_ne (Or.inl (wd25 hw)) (Or.inl (wd18 hw)) (by decide) (t := .int) (t' := (.array .int)) (by decide) (by decide)))
  have A4_b2 := A2.other W4 (Ne.symm ne_o1_b2)
  have K5 := K3.wr W4 (Or.inl (List.mem_of_getElem? (i := 0) rfl))
  refine F_return X4 d3_12 rfl (by decide) (by decide) ?_
  exact ⟨_, rfl, sz_b2, K5, E4_o1, E4_b2, F4_values_o1, F4_size_o1, A4_b2⟩
theorem d5_0 : decode prog_114_method_2_code 0 = .ok (.aload_n 0, 1) := by decide +kernel
theorem d5_1 : decode prog_114_method_2_code 1 = .ok (.getfield 13, 3) := by decide +kernel
theorem d5_4 : decode prog_114_method_2_code 4 = .ok (.aload_n 0, 1) := by decide +kernel
theorem d5_5 : decode prog_114_method_2_code 5 = .ok (.getfield 7, 3) := by decide +kernel
theorem d5_8 : decode prog_114_method_2_code 8 = .ok (.arraylength, 1) := by decide +kernel
theorem d5_9 : decode prog_114_method_2_code 9 = .ok (.if_icmp .ne 25, 3) := by decide +kernel
theorem d5_34 : decode prog_114_method_2_code 34 = .ok (.aload_n 0, 1) := by decide +kernel
theorem d5_35 : decode prog_114_method_2_code 35 = .ok (.getfield 7, 3) := by decide +kernel
theorem d5_38 : decode prog_114_method_2_code 38 = .ok (.aload_n 0, 1) := by decide +kernel
theorem d5_39 : decode prog_114_method_2_code 39 = .ok (.dup, 1) := by decide +kernel
theorem d5_40 : decode prog_114_method_2_code 40 = .ok (.getfield 13, 3) := by decide +kernel
theorem d5_43 : decode prog_114_method_2_code 43 = .ok (.dup_x1, 1) := by decide +kernel
theorem d5_44 : decode prog_114_method_2_code 44 = .ok (.iconst 1, 1) := by decide +kernel
theorem d5_45 : decode prog_114_method_2_code 45 = .ok (.iadd, 1) := by decide +kernel
theorem d5_46 : decode prog_114_method_2_code 46 = .ok (.putfield 13, 3) := by decide +kernel
theorem d5_49 : decode prog_114_method_2_code 49 = .ok (.iload_n 1, 1) := by decide +kernel
theorem d5_50 : decode prog_114_method_2_code 50 = .ok (.iastore, 1) := by decide +kernel
theorem d5_51 : decode prog_114_method_2_code 51 = .ok (.return_, 1) := by decide +kernel
theorem pn5 : plainName "org/pulsewire/oru/IntList" = true := by first | (simp [plainName, overriddenIn]; done) | decide +kernel
theorem ef_conA0 (m : MethodId) (x0 : Addr) (x1 : Int32) : entryFrame m #[(.ref x0), (.int x1)] 2 = mkF m 0 #[.val (.ref x0), .val (.int x1)] [] := by first | (simp [entryFrame, mkF, argsToLocals, Value.category]; done) | rfl
set_option maxRecDepth 65536 in
set_option maxHeartbeats 40000000 in
theorem conA0 (l : Launch) (Z : State) (a0 : Array Value) (hw : ∀ d ∈ tables_1, d.before a0 Z = true) (n0 : Nat) (h : Heap) (hn0 : n0 ≤ h.size) (o1 : Addr) (u2 : Int32) (o2 : Addr) (E_o1 : Exa Z h o1 "org/pulsewire/oru/IntList") (F_values_o1 : Fld Z h o1 "org/pulsewire/oru/IntList" "values" "[I" (.ref o2)) (F_size_o1 : Fld Z h o1 "org/pulsewire/oru/IntList" "size" "I" (.int (0 : Int32))) (A_o2 : AV Z h o2 .int [(.int (0 : Int32)), (.int (0 : Int32)), (.int (0 : Int32)), (.int (0 : Int32)), (.int (0 : Int32)), (.int (0 : Int32)), (.int (0 : Int32)), (.int (0 : Int32)), (.int (0 : Int32)), (.int (0 : Int32)), (.int (0 : Int32)), (.int (0 : Int32)), (.int (0 : Int32)), (.int (0 : Int32)), (.int (0 : Int32)), (.int (0 : Int32))]) (ge_o1 : n0 ≤ o1) (ge_o2 : n0 ≤ o2) (ne_o1_o2 : o1 ≠ o2) :
    Con l (⟨"org/pulsewire/oru/IntList", "add", "(I)V"⟩ : MethodName) prog_114_method_2_code 2 none ({ frames := 0, cells := 0, slots := 0, locals := 0 } : Room) 0 0 Z n0 #[(.ref o1), (.int u2)] h (fun v h' => v = none ∧ Keep h h' [o1, o2] ∧ Fld Z h' o1 "org/pulsewire/oru/IntList" "values" "[I" (.ref o2) ∧ Fld Z h' o1 "org/pulsewire/oru/IntList" "size" "I" (.int (1 : Int32)) ∧ AV Z h' o2 .int [(.int u2), (.int (0 : Int32)), (.int (0 : Int32)), (.int (0 : Int32)), (.int (0 : Int32)), (.int (0 : Int32)), (.int (0 : Int32)), (.int (0 : Int32)), (.int (0 : Int32)), (.int (0 : Int32)), (.int (0 : Int32)), (.int (0 : Int32)), (.int (0 : Int32)), (.int (0 : Int32)), (.int (0 : Int32)), (.int (0 : Int32))]) := by
  refine Con.body (own := "org/pulsewire/oru/IntList") (nm := "add") rfl rfl (plainFor_of_name pn5) hn0 ?_
  intro p e s m below meth c T0 X0
  rw [ef_conA0]
  refine F_aloadN X0 d5_0 rfl rfl (pc' := 1) rfl ?_
  refine F_getfield X0 (wd24 hw) F_size_o1 d5_1 (pc' := 4) rfl fun T1 X1 => ?_
  refine F_aloadN X1 d5_4 rfl rfl (pc' := 5) rfl ?_
  refine F_getfield X1 (wd17 hw) F_values_o1 d5_5 (pc' := 8) rfl fun T2 X2 => ?_
  refine F_arraylength X2 A_o2 (z := (16 : Int32)) rfl d5_8 (pc' := 9) rfl ?_
  refine F_icmp_ne X2 d5_9 (by decide) (pt := 34) (by decide) (pc' := 12) rfl (fun _ => ?_) (fun q => absurd q (by decide))
  refine F_aloadN X2 d5_34 rfl rfl (pc' := 35) rfl ?_
  refine F_getfield X2 (wd17 hw) F_values_o1 d5_35 (pc' := 38) rfl fun T3 X3 => ?_
  refine F_aloadN X3 d5_38 rfl rfl (pc' := 39) rfl ?_
  refine F_dup X3 d5_39 rfl (pc' := 40) rfl ?_
  refine F_getfield X3 (wd24 hw) F_size_o1 d5_40 (pc' := 43) rfl fun T4 X4 => ?_
  refine F_dup_x1 X4 d5_43 rfl rfl (pc' := 44) rfl ?_
  refine F_iconst X4 d5_44 (z := (1 : Int32)) (by decide) (pc' := 45) rfl ?_
  refine F_iadd X4 d5_45 (z := (1 : Int32)) (by decide) (pc' := 46) rfl ?_
  refine F_putfield X4 (wd24 hw) F_size_o1 E_o1 (Or.inl (wd25 hw)) (wd8 hw) (ty := .int) (by decide) rfl rfl ge_o1 d5_46 (pc' := 49) rfl fun T5 h5 X5 W5 => ?_
  have F5_size_o1 := F_size_o1.same W5
  have E5_o1 := E_o1.wr W5
  have F5_values_o1 := F_values_o1.other W5 (Or.inr (slot_ne (Or.inl (wd18 hw)) (Or.inl (wd25 hw)) (by decide) (t := (.array .int)) (t' := .int) (by decide) (by decide)))
  have A5_o2 := A_o2.other W5 (Ne.symm ne_o1_o2)
  have K6 := (Keep.refl h [o1, o2]).wr W5 (Or.inl (List.mem_of_getElem? (i := 0) rfl))
  refine F_iloadN X5 d5_49 rfl (pc' := 50) rfl ?_
  refine F_iastore X5 A5_o2 (by decide) (i := 0) (by decide) (Nat.le_of_ble_eq_true rfl) ge_o2 d5_50 (pc' := 51) rfl fun T7 h7 X7 W7 A7 => ?_
  replace A7 : AV Z h7 o2 .int [(.int u2), (.int (0 : Int32)), (.int (0 : Int32)), (.int (0 : Int32)), (.int (0 : Int32)), (.int (0 : Int32)), (.int (0 : Int32)), (.int (0 : Int32)), (.int (0 : Int32)), (.int (0 : Int32)), (.int (0 : Int32)), (.int (0 : Int32)), (.int (0 : Int32)), (.int (0 : Int32)), (.int (0 : Int32)), (.int (0 : Int32))] := A7
  have E7_o1 := E5_o1.wr W7
  have F7_values_o1 := F5_values_o1.other W7 (Or.inl ne_o1_o2)
  have F7_size_o1 := F5_size_o1.other W7 (Or.inl ne_o1_o2)
  have K8 := K6.wr W7 (Or.inl (List.mem_of_getElem? (i := 1) rfl))
  refine F_return X7 d5_51 rfl (by decide) (by decide) ?_
  exact ⟨rfl, K8, F7_values_o1, F7_size_o1, A7⟩
theorem ef_conA1 (m : MethodId) (x0 : Addr) (x1 : Int32) : entryFrame m #[(.ref x0), (.int x1)] 2 = mkF m 0 #[.val (.ref x0), .val (.int x1)] [] := by first | (simp [entryFrame, mkF, argsToLocals, Value.category]; done) | rfl
set_option maxRecDepth 65536 in
set_option maxHeartbeats 40000000 in
theorem conA1 (l : Launch) (Z : State) (a0 : Array Value) (hw : ∀ d ∈ tables_1, d.before a0 Z = true) (n0 : Nat) (h : Heap) (hn0 : n0 ≤ h.size) (o1 : Addr) (u2 : Int32) (o2 : Addr) (z0 : Int32) (E_o1 : Exa Z h o1 "org/pulsewire/oru/IntList") (F_values_o1 : Fld Z h o1 "org/pulsewire/oru/IntList" "values" "[I" (.ref o2)) (F_size_o1 : Fld Z h o1 "org/pulsewire/oru/IntList" "size" "I" (.int (1 : Int32))) (A_o2 : AV Z h o2 .int [(.int z0), (.int (0 : Int32)), (.int (0 : Int32)), (.int (0 : Int32)), (.int (0 : Int32)), (.int (0 : Int32)), (.int (0 : Int32)), (.int (0 : Int32)), (.int (0 : Int32)), (.int (0 : Int32)), (.int (0 : Int32)), (.int (0 : Int32)), (.int (0 : Int32)), (.int (0 : Int32)), (.int (0 : Int32)), (.int (0 : Int32))]) (ge_o1 : n0 ≤ o1) (ge_o2 : n0 ≤ o2) (ne_o1_o2 : o1 ≠ o2) :
    Con l (⟨"org/pulsewire/oru/IntList", "add", "(I)V"⟩ : MethodName) prog_114_method_2_code 2 none ({ frames := 0, cells := 0, slots := 0, locals := 0 } : Room) 0 0 Z n0 #[(.ref o1), (.int u2)] h (fun v h' => v = none ∧ Keep h h' [o1, o2] ∧ Fld Z h' o1 "org/pulsewire/oru/IntList" "values" "[I" (.ref o2) ∧ Fld Z h' o1 "org/pulsewire/oru/IntList" "size" "I" (.int (2 : Int32)) ∧ AV Z h' o2 .int [(.int z0), (.int u2), (.int (0 : Int32)), (.int (0 : Int32)), (.int (0 : Int32)), (.int (0 : Int32)), (.int (0 : Int32)), (.int (0 : Int32)), (.int (0 : Int32)), (.int (0 : Int32)), (.int (0 : Int32)), (.int (0 : Int32)), (.int (0 : Int32)), (.int (0 : Int32)), (.int (0 : Int32)), (.int (0 : Int32))]) := by
  refine Con.body (own := "org/pulsewire/oru/IntList") (nm := "add") rfl rfl (plainFor_of_name pn5) hn0 ?_
  intro p e s m below meth c T0 X0
  rw [ef_conA1]
  refine F_aloadN X0 d5_0 rfl rfl (pc' := 1) rfl ?_
  refine F_getfield X0 (wd24 hw) F_size_o1 d5_1 (pc' := 4) rfl fun T1 X1 => ?_
  refine F_aloadN X1 d5_4 rfl rfl (pc' := 5) rfl ?_
  refine F_getfield X1 (wd17 hw) F_values_o1 d5_5 (pc' := 8) rfl fun T2 X2 => ?_
  refine F_arraylength X2 A_o2 (z := (16 : Int32)) rfl d5_8 (pc' := 9) rfl ?_
  refine F_icmp_ne X2 d5_9 (by decide) (pt := 34) (by decide) (pc' := 12) rfl (fun _ => ?_) (fun q => absurd q (by decide))
  refine F_aloadN X2 d5_34 rfl rfl (pc' := 35) rfl ?_
  refine F_getfield X2 (wd17 hw) F_values_o1 d5_35 (pc' := 38) rfl fun T3 X3 => ?_
  refine F_aloadN X3 d5_38 rfl rfl (pc' := 39) rfl ?_
  refine F_dup X3 d5_39 rfl (pc' := 40) rfl ?_
  refine F_getfield X3 (wd24 hw) F_size_o1 d5_40 (pc' := 43) rfl fun T4 X4 => ?_
  refine F_dup_x1 X4 d5_43 rfl rfl (pc' := 44) rfl ?_
  refine F_iconst X4 d5_44 (z := (1 : Int32)) (by decide) (pc' := 45) rfl ?_
  refine F_iadd X4 d5_45 (z := (2 : Int32)) (by decide) (pc' := 46) rfl ?_
  refine F_putfield X4 (wd24 hw) F_size_o1 E_o1 (Or.inl (wd25 hw)) (wd8 hw) (ty := .int) (by decide) rfl rfl ge_o1 d5_46 (pc' := 49) rfl fun T5 h5 X5 W5 => ?_
  have F5_size_o1 := F_size_o1.same W5
  have E5_o1 := E_o1.wr W5
  have F5_values_o1 := F_values_o1.other W5 (Or.inr (slot_ne (Or.inl (wd18 hw)) (Or.inl (wd25 hw)) (by decide) (t := (.array .int)) (t' := .int) (by decide) (by decide)))
  have A5_o2 := A_o2.other W5 (Ne.symm ne_o1_o2)
  have K6 := (Keep.refl h [o1, o2]).wr W5 (Or.inl (List.mem_of_getElem? (i := 0) rfl))
  refine F_iloadN X5 d5_49 rfl (pc' := 50) rfl ?_
  refine F_iastore X5 A5_o2 (by decide) (i := 1) (by decide) (Nat.le_of_ble_eq_true rfl) ge_o2 d5_50 (pc' := 51) rfl fun T7 h7 X7 W7 A7 => ?_
  replace A7 : AV Z h7 o2 .int [(.int z0), (.int u2), (.int (0 : Int32)), (.int (0 : Int32)), (.int (0 : Int32)), (.int (0 : Int32)), (.int (0 : Int32)), (.int (0 : Int32)), (.int (0 : Int32)), (.int (0 : Int32)), (.int (0 : Int32)), (.int (0 : Int32)), (.int (0 : Int32)), (.int (0 : Int32)), (.int (0 : Int32)), (.int (0 : Int32))] := A7
  have E7_o1 := E5_o1.wr W7
  have F7_values_o1 := F5_values_o1.other W7 (Or.inl ne_o1_o2)
  have F7_size_o1 := F5_size_o1.other W7 (Or.inl ne_o1_o2)
  have K8 := K6.wr W7 (Or.inl (List.mem_of_getElem? (i := 1) rfl))
  refine F_return X7 d5_51 rfl (by decide) (by decide) ?_
  exact ⟨rfl, K8, F7_values_o1, F7_size_o1, A7⟩
theorem ef_conA2 (m : MethodId) (x0 : Addr) (x1 : Int32) : entryFrame m #[(.ref x0), (.int x1)] 2 = mkF m 0 #[.val (.ref x0), .val (.int x1)] [] := by first | (simp [entryFrame, mkF, argsToLocals, Value.category]; done) | rfl
set_option maxRecDepth 65536 in
set_option maxHeartbeats 40000000 in
theorem conA2 (l : Launch) (Z : State) (a0 : Array Value) (hw : ∀ d ∈ tables_1, d.before a0 Z = true) (n0 : Nat) (h : Heap) (hn0 : n0 ≤ h.size) (o1 : Addr) (u2 : Int32) (o2 : Addr) (z0 : Int32) (z1 : Int32) (E_o1 : Exa Z h o1 "org/pulsewire/oru/IntList") (F_values_o1 : Fld Z h o1 "org/pulsewire/oru/IntList" "values" "[I" (.ref o2)) (F_size_o1 : Fld Z h o1 "org/pulsewire/oru/IntList" "size" "I" (.int (2 : Int32))) (A_o2 : AV Z h o2 .int [(.int z0), (.int z1), (.int (0 : Int32)), (.int (0 : Int32)), (.int (0 : Int32)), (.int (0 : Int32)), (.int (0 : Int32)), (.int (0 : Int32)), (.int (0 : Int32)), (.int (0 : Int32)), (.int (0 : Int32)), (.int (0 : Int32)), (.int (0 : Int32)), (.int (0 : Int32)), (.int (0 : Int32)), (.int (0 : Int32))]) (ge_o1 : n0 ≤ o1) (ge_o2 : n0 ≤ o2) (ne_o1_o2 : o1 ≠ o2) :
    Con l (⟨"org/pulsewire/oru/IntList", "add", "(I)V"⟩ : MethodName) prog_114_method_2_code 2 none ({ frames := 0, cells := 0, slots := 0, locals := 0 } : Room) 0 0 Z n0 #[(.ref o1), (.int u2)] h (fun v h' => v = none ∧ Keep h h' [o1, o2] ∧ Fld Z h' o1 "org/pulsewire/oru/IntList" "values" "[I" (.ref o2) ∧ Fld Z h' o1 "org/pulsewire/oru/IntList" "size" "I" (.int (3 : Int32)) ∧ AV Z h' o2 .int [(.int z0), (.int z1), (.int u2), (.int (0 : Int32)), (.int (0 : Int32)), (.int (0 : Int32)), (.int (0 : Int32)), (.int (0 : Int32)), (.int (0 : Int32)), (.int (0 : Int32)), (.int (0 : Int32)), (.int (0 : Int32)), (.int (0 : Int32)), (.int (0 : Int32)), (.int (0 : Int32)), (.int (0 : Int32))]) := by
  refine Con.body (own := "org/pulsewire/oru/IntList") (nm := "add") rfl rfl (plainFor_of_name pn5) hn0 ?_
  intro p e s m below meth c T0 X0
  rw [ef_conA2]
  refine F_aloadN X0 d5_0 rfl rfl (pc' := 1) rfl ?_
  refine F_getfield X0 (wd24 hw) F_size_o1 d5_1 (pc' := 4) rfl fun T1 X1 => ?_
  refine F_aloadN X1 d5_4 rfl rfl (pc' := 5) rfl ?_
  refine F_getfield X1 (wd17 hw) F_values_o1 d5_5 (pc' := 8) rfl fun T2 X2 => ?_
  refine F_arraylength X2 A_o2 (z := (16 : Int32)) rfl d5_8 (pc' := 9) rfl ?_
  refine F_icmp_ne X2 d5_9 (by decide) (pt := 34) (by decide) (pc' := 12) rfl (fun _ => ?_) (fun q => absurd q (by decide))
  refine F_aloadN X2 d5_34 rfl rfl (pc' := 35) rfl ?_
  refine F_getfield X2 (wd17 hw) F_values_o1 d5_35 (pc' := 38) rfl fun T3 X3 => ?_
  refine F_aloadN X3 d5_38 rfl rfl (pc' := 39) rfl ?_
  refine F_dup X3 d5_39 rfl (pc' := 40) rfl ?_
  refine F_getfield X3 (wd24 hw) F_size_o1 d5_40 (pc' := 43) rfl fun T4 X4 => ?_
  refine F_dup_x1 X4 d5_43 rfl rfl (pc' := 44) rfl ?_
  refine F_iconst X4 d5_44 (z := (1 : Int32)) (by decide) (pc' := 45) rfl ?_
  refine F_iadd X4 d5_45 (z := (3 : Int32)) (by decide) (pc' := 46) rfl ?_
  refine F_putfield X4 (wd24 hw) F_size_o1 E_o1 (Or.inl (wd25 hw)) (wd8 hw) (ty := .int) (by decide) rfl rfl ge_o1 d5_46 (pc' := 49) rfl fun T5 h5 X5 W5 => ?_
  have F5_size_o1 := F_size_o1.same W5
  have E5_o1 := E_o1.wr W5
  have F5_values_o1 := F_values_o1.other W5 (Or.inr (slot_ne (Or.inl (wd18 hw)) (Or.inl (wd25 hw)) (by decide) (t := (.array .int)) (t' := .int) (by decide) (by decide)))
  have A5_o2 := A_o2.other W5 (Ne.symm ne_o1_o2)
  have K6 := (Keep.refl h [o1, o2]).wr W5 (Or.inl (List.mem_of_getElem? (i := 0) rfl))
  refine F_iloadN X5 d5_49 rfl (pc' := 50) rfl ?_
  refine F_iastore X5 A5_o2 (by decide) (i := 2) (by decide) (Nat.le_of_ble_eq_true rfl) ge_o2 d5_50 (pc' := 51) rfl fun T7 h7 X7 W7 A7 => ?_
  replace A7 : AV Z h7 o2 .int [(.int z0), (.int z1), (.int u2), (.int (0 : Int32)), (.int (0 : Int32)), (.int (0 : Int32)), (.int (0 : Int32)), (.int (0 : Int32)), (.int (0 : Int32)), (.int (0 : Int32)), (.int (0 : Int32)), (.int (0 : Int32)), (.int (0 : Int32)), (.int (0 : Int32)), (.int (0 : Int32)), (.int (0 : Int32))] := A7
  have E7_o1 := E5_o1.wr W7
  have F7_values_o1 := F5_values_o1.other W7 (Or.inl ne_o1_o2)
  have F7_size_o1 := F5_size_o1.other W7 (Or.inl ne_o1_o2)
  have K8 := K6.wr W7 (Or.inl (List.mem_of_getElem? (i := 1) rfl))
  refine F_return X7 d5_51 rfl (by decide) (by decide) ?_
  exact ⟨rfl, K8, F7_values_o1, F7_size_o1, A7⟩
theorem ef_conA3 (m : MethodId) (x0 : Addr) (x1 : Int32) : entryFrame m #[(.ref x0), (.int x1)] 2 = mkF m 0 #[.val (.ref x0), .val (.int x1)] [] := by first | (simp [entryFrame, mkF, argsToLocals, Value.category]; done) | rfl
set_option maxRecDepth 65536 in
set_option maxHeartbeats 40000000 in
theorem conA3 (l : Launch) (Z : State) (a0 : Array Value) (hw : ∀ d ∈ tables_1, d.before a0 Z = true) (n0 : Nat) (h : Heap) (hn0 : n0 ≤ h.size) (o1 : Addr) (u2 : Int32) (o2 : Addr) (z0 : Int32) (z1 : Int32) (z2 : Int32) (E_o1 : Exa Z h o1 "org/pulsewire/oru/IntList") (F_values_o1 : Fld Z h o1 "org/pulsewire/oru/IntList" "values" "[I" (.ref o2)) (F_size_o1 : Fld Z h o1 "org/pulsewire/oru/IntList" "size" "I" (.int (3 : Int32))) (A_o2 : AV Z h o2 .int [(.int z0), (.int z1), (.int z2), (.int (0 : Int32)), (.int (0 : Int32)), (.int (0 : Int32)), (.int (0 : Int32)), (.int (0 : Int32)), (.int (0 : Int32)), (.int (0 : Int32)), (.int (0 : Int32)), (.int (0 : Int32)), (.int (0 : Int32)), (.int (0 : Int32)), (.int (0 : Int32)), (.int (0 : Int32))]) (ge_o1 : n0 ≤ o1) (ge_o2 : n0 ≤ o2) (ne_o1_o2 : o1 ≠ o2) :
    Con l (⟨"org/pulsewire/oru/IntList", "add", "(I)V"⟩ : MethodName) prog_114_method_2_code 2 none ({ frames := 0, cells := 0, slots := 0, locals := 0 } : Room) 0 0 Z n0 #[(.ref o1), (.int u2)] h (fun v h' => v = none ∧ Keep h h' [o1, o2] ∧ Fld Z h' o1 "org/pulsewire/oru/IntList" "values" "[I" (.ref o2) ∧ Fld Z h' o1 "org/pulsewire/oru/IntList" "size" "I" (.int (4 : Int32)) ∧ AV Z h' o2 .int [(.int z0), (.int z1), (.int z2), (.int u2), (.int (0 : Int32)), (.int (0 : Int32)), (.int (0 : Int32)), (.int (0 : Int32)), (.int (0 : Int32)), (.int (0 : Int32)), (.int (0 : Int32)), (.int (0 : Int32)), (.int (0 : Int32)), (.int (0 : Int32)), (.int (0 : Int32)), (.int (0 : Int32))]) := by
  refine Con.body (own := "org/pulsewire/oru/IntList") (nm := "add") rfl rfl (plainFor_of_name pn5) hn0 ?_
  intro p e s m below meth c T0 X0
  rw [ef_conA3]
  refine F_aloadN X0 d5_0 rfl rfl (pc' := 1) rfl ?_
  refine F_getfield X0 (wd24 hw) F_size_o1 d5_1 (pc' := 4) rfl fun T1 X1 => ?_
  refine F_aloadN X1 d5_4 rfl rfl (pc' := 5) rfl ?_
  refine F_getfield X1 (wd17 hw) F_values_o1 d5_5 (pc' := 8) rfl fun T2 X2 => ?_
  refine F_arraylength X2 A_o2 (z := (16 : Int32)) rfl d5_8 (pc' := 9) rfl ?_
  refine F_icmp_ne X2 d5_9 (by decide) (pt := 34) (by decide) (pc' := 12) rfl (fun _ => ?_) (fun q => absurd q (by decide))
  refine F_aloadN X2 d5_34 rfl rfl (pc' := 35) rfl ?_
  refine F_getfield X2 (wd17 hw) F_values_o1 d5_35 (pc' := 38) rfl fun T3 X3 => ?_
  refine F_aloadN X3 d5_38 rfl rfl (pc' := 39) rfl ?_
  refine F_dup X3 d5_39 rfl (pc' := 40) rfl ?_
  refine F_getfield X3 (wd24 hw) F_size_o1 d5_40 (pc' := 43) rfl fun T4 X4 => ?_
  refine F_dup_x1 X4 d5_43 rfl rfl (pc' := 44) rfl ?_
  refine F_iconst X4 d5_44 (z := (1 : Int32)) (by decide) (pc' := 45) rfl ?_
  refine F_iadd X4 d5_45 (z := (4 : Int32)) (by decide) (pc' := 46) rfl ?_
  refine F_putfield X4 (wd24 hw) F_size_o1 E_o1 (Or.inl (wd25 hw)) (wd8 hw) (ty := .int) (by decide) rfl rfl ge_o1 d5_46 (pc' := 49) rfl fun T5 h5 X5 W5 => ?_
  have F5_size_o1 := F_size_o1.same W5
  have E5_o1 := E_o1.wr W5
  have F5_values_o1 := F_values_o1.other W5 (Or.inr (slot_ne (Or.inl (wd18 hw)) (Or.inl (wd25 hw)) (by decide) (t := (.array .int)) (t' := .int) (by decide) (by decide)))
  have A5_o2 := A_o2.other W5 (Ne.symm ne_o1_o2)
  have K6 := (Keep.refl h [o1, o2]).wr W5 (Or.inl (List.mem_of_getElem? (i := 0) rfl))
  refine F_iloadN X5 d5_49 rfl (pc' := 50) rfl ?_
  refine F_iastore X5 A5_o2 (by decide) (i := 3) (by decide) (Nat.le_of_ble_eq_true rfl) ge_o2 d5_50 (pc' := 51) rfl fun T7 h7 X7 W7 A7 => ?_
  replace A7 : AV Z h7 o2 .int [(.int z0), (.int z1), (.int z2), (.int u2), (.int (0 : Int32)), (.int (0 : Int32)), (.int (0 : Int32)), (.int (0 : Int32)), (.int (0 : Int32)), (.int (0 : Int32)), (.int (0 : Int32)), (.int (0 : Int32)), (.int (0 : Int32)), (.int (0 : Int32)), (.int (0 : Int32)), (.int (0 : Int32))] := A7
  have E7_o1 := E5_o1.wr W7
  have F7_values_o1 := F5_values_o1.other W7 (Or.inl ne_o1_o2)
  have F7_size_o1 := F5_size_o1.other W7 (Or.inl ne_o1_o2)
  have K8 := K6.wr W7 (Or.inl (List.mem_of_getElem? (i := 1) rfl))
  refine F_return X7 d5_51 rfl (by decide) (by decide) ?_
  exact ⟨rfl, K8, F7_values_o1, F7_size_o1, A7⟩
theorem d6_0 : decode prog_114_method_5_code 0 = .ok (.iconst 0, 1) := by decide +kernel
theorem d6_1 : decode prog_114_method_5_code 1 = .ok (.istore_n 2, 1) := by decide +kernel
theorem d6_2 : decode prog_114_method_5_code 2 = .ok (.aload_n 0, 1) := by decide +kernel
theorem d6_3 : decode prog_114_method_5_code 3 = .ok (.getfield 13, 3) := by decide +kernel
theorem d6_6 : decode prog_114_method_5_code 6 = .ok (.iconst 1, 1) := by decide +kernel
theorem d6_7 : decode prog_114_method_5_code 7 = .ok (.isub, 1) := by decide +kernel
theorem d6_8 : decode prog_114_method_5_code 8 = .ok (.istore_n 3, 1) := by decide +kernel
theorem d6_9 : decode prog_114_method_5_code 9 = .ok (.iload_n 2, 1) := by decide +kernel
theorem d6_10 : decode prog_114_method_5_code 10 = .ok (.iload_n 3, 1) := by decide +kernel
theorem d6_11 : decode prog_114_method_5_code 11 = .ok (.if_icmp .gt 37, 3) := by decide +kernel
theorem d6_48 : decode prog_114_method_5_code 48 = .ok (.iload_n 3, 1) := by decide +kernel
theorem d6_49 : decode prog_114_method_5_code 49 = .ok (.ireturn, 1) := by decide +kernel
theorem pn6 : plainName "org/pulsewire/oru/IntList" = true := by first | (simp [plainName, overriddenIn]; done) | decide +kernel
theorem ef_conL0 (m : MethodId) (x0 : Addr) (x1 : Int32) : entryFrame m #[(.ref x0), (.int x1)] 5 = mkF m 0 #[.val (.ref x0), .val (.int x1), .unset, .unset, .unset] [] := by first | (simp [entryFrame, mkF, argsToLocals, Value.category]; done) | rfl
set_option maxRecDepth 65536 in
set_option maxHeartbeats 40000000 in
theorem conL0 (l : Launch) (Z : State) (a0 : Array Value) (hw : ∀ d ∈ tables_1, d.before a0 Z = true) (n0 : Nat) (h : Heap) (hn0 : n0 ≤ h.size) (o1 : Addr) (u2 : Int32) (o2 : Addr) (F_values_o1 : Fld Z h o1 "org/pulsewire/oru/IntList" "values" "[I" (.ref o2)) (F_size_o1 : Fld Z h o1 "org/pulsewire/oru/IntList" "size" "I" (.int (0 : Int32))) (A_o2 : AV Z h o2 .int [(.int (0 : Int32)), (.int (0 : Int32)), (.int (0 : Int32)), (.int (0 : Int32)), (.int (0 : Int32)), (.int (0 : Int32)), (.int (0 : Int32)), (.int (0 : Int32)), (.int (0 : Int32)), (.int (0 : Int32)), (.int (0 : Int32)), (.int (0 : Int32)), (.int (0 : Int32)), (.int (0 : Int32)), (.int (0 : Int32)), (.int (0 : Int32))]) :
    Con l (⟨"org/pulsewire/oru/IntList", "lastBelow", "(I)I"⟩ : MethodName) prog_114_method_5_code 5 (some .int) ({ frames := 0, cells := 0, slots := 0, locals := 0 } : Room) 0 0 Z n0 #[(.ref o1), (.int u2)] h (fun v h' => v = some (.int (lb0 u2)) ∧ h = h') := by
  refine Con.body (own := "org/pulsewire/oru/IntList") (nm := "lastBelow") rfl rfl (plainFor_of_name pn6) hn0 ?_
  intro p e s m below meth c T0 X0
  rw [ef_conL0]
  refine F_iconst X0 d6_0 (z := (0 : Int32)) (by decide) (pc' := 1) rfl ?_
  refine F_istoreN X0 d6_1 (Ls' := #[.val (.ref o1), .val (.int u2), .val (.int (0 : Int32)), .unset, .unset]) rfl (pc' := 2) rfl ?_
  refine F_aloadN X0 d6_2 rfl rfl (pc' := 3) rfl ?_
  refine F_getfield X0 (wd24 hw) F_size_o1 d6_3 (pc' := 6) rfl fun T1 X1 => ?_
  refine F_iconst X1 d6_6 (z := (1 : Int32)) (by decide) (pc' := 7) rfl ?_
  refine F_isub X1 d6_7 (z := (-1 : Int32)) (by decide) (pc' := 8) rfl ?_
  refine F_istoreN X1 d6_8 (Ls' := #[.val (.ref o1), .val (.int u2), .val (.int (0 : Int32)), .val (.int (-1 : Int32)), .unset]) rfl (pc' := 9) rfl ?_
  refine F_iloadN X1 d6_9 rfl (pc' := 10) rfl ?_
  refine F_iloadN X1 d6_10 rfl (pc' := 11) rfl ?_
  refine F_icmp_gt X1 d6_11 (by decide) (pt := 48) (by decide) (pc' := 14) rfl (fun _ => ?_) (fun q => absurd q (by decide))
  refine F_iloadN X1 d6_48 rfl (pc' := 49) rfl ?_
  refine F_ireturn X1 d6_49 rfl (by decide) (by decide) ?_
  exact ⟨by simp [lb0, *], rfl⟩
theorem d6_14 : decode prog_114_method_5_code 14 = .ok (.iload_n 2, 1) := by decide +kernel
theorem d6_15 : decode prog_114_method_5_code 15 = .ok (.iload_n 3, 1) := by decide +kernel
theorem d6_16 : decode prog_114_method_5_code 16 = .ok (.iadd, 1) := by decide +kernel
theorem d6_17 : decode prog_114_method_5_code 17 = .ok (.iconst 1, 1) := by decide +kernel
theorem d6_18 : decode prog_114_method_5_code 18 = .ok (.iushr, 1) := by decide +kernel
theorem d6_19 : decode prog_114_method_5_code 19 = .ok (.istore 4, 2) := by decide +kernel
theorem d6_21 : decode prog_114_method_5_code 21 = .ok (.aload_n 0, 1) := by decide +kernel
theorem d6_22 : decode prog_114_method_5_code 22 = .ok (.getfield 7, 3) := by decide +kernel
theorem d6_25 : decode prog_114_method_5_code 25 = .ok (.iload 4, 2) := by decide +kernel
theorem d6_27 : decode prog_114_method_5_code 27 = .ok (.iaload, 1) := by decide +kernel
theorem d6_28 : decode prog_114_method_5_code 28 = .ok (.iload_n 1, 1) := by decide +kernel
theorem d6_29 : decode prog_114_method_5_code 29 = .ok (.if_icmp .ge 11, 3) := by decide +kernel
theorem d6_32 : decode prog_114_method_5_code 32 = .ok (.iload 4, 2) := by decide +kernel
theorem d6_34 : decode prog_114_method_5_code 34 = .ok (.iconst 1, 1) := by decide +kernel
theorem d6_35 : decode prog_114_method_5_code 35 = .ok (.iadd, 1) := by decide +kernel
theorem d6_36 : decode prog_114_method_5_code 36 = .ok (.istore_n 2, 1) := by decide +kernel
theorem d6_37 : decode prog_114_method_5_code 37 = .ok (.goto 8, 3) := by decide +kernel
theorem d6_40 : decode prog_114_method_5_code 40 = .ok (.iload 4, 2) := by decide +kernel
theorem d6_42 : decode prog_114_method_5_code 42 = .ok (.iconst 1, 1) := by decide +kernel
theorem d6_43 : decode prog_114_method_5_code 43 = .ok (.isub, 1) := by decide +kernel
theorem d6_44 : decode prog_114_method_5_code 44 = .ok (.istore_n 3, 1) := by decide +kernel
theorem d6_45 : decode prog_114_method_5_code 45 = .ok (.goto (-36), 3) := by decide +kernel
theorem ef_conL1 (m : MethodId) (x0 : Addr) (x1 : Int32) : entryFrame m #[(.ref x0), (.int x1)] 5 = mkF m 0 #[.val (.ref x0), .val (.int x1), .unset, .unset, .unset] [] := by first | (simp [entryFrame, mkF, argsToLocals, Value.category]; done) | rfl
set_option maxRecDepth 65536 in
set_option maxHeartbeats 40000000 in
theorem conL1 (l : Launch) (Z : State) (a0 : Array Value) (hw : ∀ d ∈ tables_1, d.before a0 Z = true) (n0 : Nat) (h : Heap) (hn0 : n0 ≤ h.size) (o1 : Addr) (u2 : Int32) (o2 : Addr) (z0 : Int32) (F_values_o1 : Fld Z h o1 "org/pulsewire/oru/IntList" "values" "[I" (.ref o2)) (F_size_o1 : Fld Z h o1 "org/pulsewire/oru/IntList" "size" "I" (.int (1 : Int32))) (A_o2 : AV Z h o2 .int [(.int z0), (.int (0 : Int32)), (.int (0 : Int32)), (.int (0 : Int32)), (.int (0 : Int32)), (.int (0 : Int32)), (.int (0 : Int32)), (.int (0 : Int32)), (.int (0 : Int32)), (.int (0 : Int32)), (.int (0 : Int32)), (.int (0 : Int32)), (.int (0 : Int32)), (.int (0 : Int32)), (.int (0 : Int32)), (.int (0 : Int32))]) :
    Con l (⟨"org/pulsewire/oru/IntList", "lastBelow", "(I)I"⟩ : MethodName) prog_114_method_5_code 5 (some .int) ({ frames := 0, cells := 0, slots := 0, locals := 0 } : Room) 0 0 Z n0 #[(.ref o1), (.int u2)] h (fun v h' => v = some (.int (lb1 z0 u2)) ∧ h = h') := by
  refine Con.body (own := "org/pulsewire/oru/IntList") (nm := "lastBelow") rfl rfl (plainFor_of_name pn6) hn0 ?_
  intro p e s m below meth c T0 X0
  rw [ef_conL1]
  refine F_iconst X0 d6_0 (z := (0 : Int32)) (by decide) (pc' := 1) rfl ?_
  refine F_istoreN X0 d6_1 (Ls' := #[.val (.ref o1), .val (.int u2), .val (.int (0 : Int32)), .unset, .unset]) rfl (pc' := 2) rfl ?_
  refine F_aloadN X0 d6_2 rfl rfl (pc' := 3) rfl ?_
  refine F_getfield X0 (wd24 hw) F_size_o1 d6_3 (pc' := 6) rfl fun T1 X1 => ?_
  refine F_iconst X1 d6_6 (z := (1 : Int32)) (by decide) (pc' := 7) rfl ?_
  refine F_isub X1 d6_7 (z := (0 : Int32)) (by decide) (pc' := 8) rfl ?_
  refine F_istoreN X1 d6_8 (Ls' := #[.val (.ref o1), .val (.int u2), .val (.int (0 : Int32)), .val (.int (0 : Int32)), .unset]) rfl (pc' := 9) rfl ?_
  refine F_iloadN X1 d6_9 rfl (pc' := 10) rfl ?_
  refine F_iloadN X1 d6_10 rfl (pc' := 11) rfl ?_
  refine F_icmp_gt X1 d6_11 (by decide) (pt := 48) (by decide) (pc' := 14) rfl (fun q => absurd q (by decide)) (fun _ => ?_)
  refine F_iloadN X1 d6_14 rfl (pc' := 15) rfl ?_
  refine F_iloadN X1 d6_15 rfl (pc' := 16) rfl ?_
  refine F_iadd X1 d6_16 (z := (0 : Int32)) (by decide) (pc' := 17) rfl ?_
  refine F_iconst X1 d6_17 (z := (1 : Int32)) (by decide) (pc' := 18) rfl ?_
  refine F_iushr X1 d6_18 (z := (0 : Int32)) (by decide) (pc' := 19) rfl ?_
  refine F_istore X1 d6_19 (Ls' := #[.val (.ref o1), .val (.int u2), .val (.int (0 : Int32)), .val (.int (0 : Int32)), .val (.int (0 : Int32))]) rfl (pc' := 21) rfl ?_
  refine F_aloadN X1 d6_21 rfl rfl (pc' := 22) rfl ?_
  refine F_getfield X1 (wd17 hw) F_values_o1 d6_22 (pc' := 25) rfl fun T2 X2 => ?_
  refine F_iload X2 d6_25 rfl (pc' := 27) rfl ?_
  refine F_iaload X2 A_o2 (by decide) rfl d6_27 (pc' := 28) rfl ?_
  refine F_iloadN X2 d6_28 rfl (pc' := 29) rfl ?_
  refine F_icmp_ge X2 d6_29 (by decide) (pt := 40) (by decide) (pc' := 32) rfl (fun hc29_3 => ?_) (fun hc29_3 => ?_)
  · refine F_iload X2 d6_40 rfl (pc' := 42) rfl ?_
    refine F_iconst X2 d6_42 (z := (1 : Int32)) (by decide) (pc' := 43) rfl ?_
    refine F_isub X2 d6_43 (z := (-1 : Int32)) (by decide) (pc' := 44) rfl ?_
    refine F_istoreN X2 d6_44 (Ls' := #[.val (.ref o1), .val (.int u2), .val (.int (0 : Int32)), .val (.int (-1 : Int32)), .val (.int (0 : Int32))]) rfl (pc' := 45) rfl ?_
    refine F_goto X2 d6_45 (by decide) (pc' := 9) (by decide) ?_
    refine F_iloadN X2 d6_9 rfl (pc' := 10) rfl ?_
    refine F_iloadN X2 d6_10 rfl (pc' := 11) rfl ?_
    refine F_icmp_gt X2 d6_11 (by decide) (pt := 48) (by decide) (pc' := 14) rfl (fun _ => ?_) (fun q => absurd q (by decide))
    refine F_iloadN X2 d6_48 rfl (pc' := 49) rfl ?_
    refine F_ireturn X2 d6_49 rfl (by decide) (by decide) ?_
    exact ⟨by simp [lb1, *], rfl⟩
  · refine F_iload X2 d6_32 rfl (pc' := 34) rfl ?_
    refine F_iconst X2 d6_34 (z := (1 : Int32)) (by decide) (pc' := 35) rfl ?_
    refine F_iadd X2 d6_35 (z := (1 : Int32)) (by decide) (pc' := 36) rfl ?_
    refine F_istoreN X2 d6_36 (Ls' := #[.val (.ref o1), .val (.int u2), .val (.int (1 : Int32)), .val (.int (0 : Int32)), .val (.int (0 : Int32))]) rfl (pc' := 37) rfl ?_
    refine F_goto X2 d6_37 (by decide) (pc' := 45) (by decide) ?_
    refine F_goto X2 d6_45 (by decide) (pc' := 9) (by decide) ?_
    refine F_iloadN X2 d6_9 rfl (pc' := 10) rfl ?_
    refine F_iloadN X2 d6_10 rfl (pc' := 11) rfl ?_
    refine F_icmp_gt X2 d6_11 (by decide) (pt := 48) (by decide) (pc' := 14) rfl (fun _ => ?_) (fun q => absurd q (by decide))
    refine F_iloadN X2 d6_48 rfl (pc' := 49) rfl ?_
    refine F_ireturn X2 d6_49 rfl (by decide) (by decide) ?_
    exact ⟨by simp [lb1, *], rfl⟩
theorem ef_conL2 (m : MethodId) (x0 : Addr) (x1 : Int32) : entryFrame m #[(.ref x0), (.int x1)] 5 = mkF m 0 #[.val (.ref x0), .val (.int x1), .unset, .unset, .unset] [] := by first | (simp [entryFrame, mkF, argsToLocals, Value.category]; done) | rfl
set_option maxRecDepth 65536 in
set_option maxHeartbeats 40000000 in
theorem conL2 (l : Launch) (Z : State) (a0 : Array Value) (hw : ∀ d ∈ tables_1, d.before a0 Z = true) (n0 : Nat) (h : Heap) (hn0 : n0 ≤ h.size) (o1 : Addr) (u2 : Int32) (o2 : Addr) (z0 : Int32) (z1 : Int32) (F_values_o1 : Fld Z h o1 "org/pulsewire/oru/IntList" "values" "[I" (.ref o2)) (F_size_o1 : Fld Z h o1 "org/pulsewire/oru/IntList" "size" "I" (.int (2 : Int32))) (A_o2 : AV Z h o2 .int [(.int z0), (.int z1), (.int (0 : Int32)), (.int (0 : Int32)), (.int (0 : Int32)), (.int (0 : Int32)), (.int (0 : Int32)), (.int (0 : Int32)), (.int (0 : Int32)), (.int (0 : Int32)), (.int (0 : Int32)), (.int (0 : Int32)), (.int (0 : Int32)), (.int (0 : Int32)), (.int (0 : Int32)), (.int (0 : Int32))]) :
    Con l (⟨"org/pulsewire/oru/IntList", "lastBelow", "(I)I"⟩ : MethodName) prog_114_method_5_code 5 (some .int) ({ frames := 0, cells := 0, slots := 0, locals := 0 } : Room) 0 0 Z n0 #[(.ref o1), (.int u2)] h (fun v h' => v = some (.int (lb2 z0 z1 u2)) ∧ h = h') := by
  refine Con.body (own := "org/pulsewire/oru/IntList") (nm := "lastBelow") rfl rfl (plainFor_of_name pn6) hn0 ?_
  intro p e s m below meth c T0 X0
  rw [ef_conL2]
  refine F_iconst X0 d6_0 (z := (0 : Int32)) (by decide) (pc' := 1) rfl ?_
  refine F_istoreN X0 d6_1 (Ls' := #[.val (.ref o1), .val (.int u2), .val (.int (0 : Int32)), .unset, .unset]) rfl (pc' := 2) rfl ?_
  refine F_aloadN X0 d6_2 rfl rfl (pc' := 3) rfl ?_
  refine F_getfield X0 (wd24 hw) F_size_o1 d6_3 (pc' := 6) rfl fun T1 X1 => ?_
  refine F_iconst X1 d6_6 (z := (1 : Int32)) (by decide) (pc' := 7) rfl ?_
  refine F_isub X1 d6_7 (z := (1 : Int32)) (by decide) (pc' := 8) rfl ?_
  refine F_istoreN X1 d6_8 (Ls' := #[.val (.ref o1), .val (.int u2), .val (.int (0 : Int32)), .val (.int (1 : Int32)), .unset]) rfl (pc' := 9) rfl ?_
  refine F_iloadN X1 d6_9 rfl (pc' := 10) rfl ?_
  refine F_iloadN X1 d6_10 rfl (pc' := 11) rfl ?_
  refine F_icmp_gt X1 d6_11 (by decide) (pt := 48) (by decide) (pc' := 14) rfl (fun q => absurd q (by decide)) (fun _ => ?_)
  refine F_iloadN X1 d6_14 rfl (pc' := 15) rfl ?_
  refine F_iloadN X1 d6_15 rfl (pc' := 16) rfl ?_
  refine F_iadd X1 d6_16 (z := (1 : Int32)) (by decide) (pc' := 17) rfl ?_
  refine F_iconst X1 d6_17 (z := (1 : Int32)) (by decide) (pc' := 18) rfl ?_
  refine F_iushr X1 d6_18 (z := (0 : Int32)) (by decide) (pc' := 19) rfl ?_
  refine F_istore X1 d6_19 (Ls' := #[.val (.ref o1), .val (.int u2), .val (.int (0 : Int32)), .val (.int (1 : Int32)), .val (.int (0 : Int32))]) rfl (pc' := 21) rfl ?_
  refine F_aloadN X1 d6_21 rfl rfl (pc' := 22) rfl ?_
  refine F_getfield X1 (wd17 hw) F_values_o1 d6_22 (pc' := 25) rfl fun T2 X2 => ?_
  refine F_iload X2 d6_25 rfl (pc' := 27) rfl ?_
  refine F_iaload X2 A_o2 (by decide) rfl d6_27 (pc' := 28) rfl ?_
  refine F_iloadN X2 d6_28 rfl (pc' := 29) rfl ?_
  refine F_icmp_ge X2 d6_29 (by decide) (pt := 40) (by decide) (pc' := 32) rfl (fun hc29_3 => ?_) (fun hc29_3 => ?_)
  · refine F_iload X2 d6_40 rfl (pc' := 42) rfl ?_
    refine F_iconst X2 d6_42 (z := (1 : Int32)) (by decide) (pc' := 43) rfl ?_
    refine F_isub X2 d6_43 (z := (-1 : Int32)) (by decide) (pc' := 44) rfl ?_
    refine F_istoreN X2 d6_44 (Ls' := #[.val (.ref o1), .val (.int u2), .val (.int (0 : Int32)), .val (.int (-1 : Int32)), .val (.int (0 : Int32))]) rfl (pc' := 45) rfl ?_
    refine F_goto X2 d6_45 (by decide) (pc' := 9) (by decide) ?_
    refine F_iloadN X2 d6_9 rfl (pc' := 10) rfl ?_
    refine F_iloadN X2 d6_10 rfl (pc' := 11) rfl ?_
    refine F_icmp_gt X2 d6_11 (by decide) (pt := 48) (by decide) (pc' := 14) rfl (fun _ => ?_) (fun q => absurd q (by decide))
    refine F_iloadN X2 d6_48 rfl (pc' := 49) rfl ?_
    refine F_ireturn X2 d6_49 rfl (by decide) (by decide) ?_
    exact ⟨by simp [lb2, *], rfl⟩
  · refine F_iload X2 d6_32 rfl (pc' := 34) rfl ?_
    refine F_iconst X2 d6_34 (z := (1 : Int32)) (by decide) (pc' := 35) rfl ?_
    refine F_iadd X2 d6_35 (z := (1 : Int32)) (by decide) (pc' := 36) rfl ?_
    refine F_istoreN X2 d6_36 (Ls' := #[.val (.ref o1), .val (.int u2), .val (.int (1 : Int32)), .val (.int (1 : Int32)), .val (.int (0 : Int32))]) rfl (pc' := 37) rfl ?_
    refine F_goto X2 d6_37 (by decide) (pc' := 45) (by decide) ?_
    refine F_goto X2 d6_45 (by decide) (pc' := 9) (by decide) ?_
    refine F_iloadN X2 d6_9 rfl (pc' := 10) rfl ?_
    refine F_iloadN X2 d6_10 rfl (pc' := 11) rfl ?_
    refine F_icmp_gt X2 d6_11 (by decide) (pt := 48) (by decide) (pc' := 14) rfl (fun q => absurd q (by decide)) (fun _ => ?_)
    refine F_iloadN X2 d6_14 rfl (pc' := 15) rfl ?_
    refine F_iloadN X2 d6_15 rfl (pc' := 16) rfl ?_
    refine F_iadd X2 d6_16 (z := (2 : Int32)) (by decide) (pc' := 17) rfl ?_
    refine F_iconst X2 d6_17 (z := (1 : Int32)) (by decide) (pc' := 18) rfl ?_
    refine F_iushr X2 d6_18 (z := (1 : Int32)) (by decide) (pc' := 19) rfl ?_
    refine F_istore X2 d6_19 (Ls' := #[.val (.ref o1), .val (.int u2), .val (.int (1 : Int32)), .val (.int (1 : Int32)), .val (.int (1 : Int32))]) rfl (pc' := 21) rfl ?_
    refine F_aloadN X2 d6_21 rfl rfl (pc' := 22) rfl ?_
    refine F_getfield X2 (wd17 hw) F_values_o1 d6_22 (pc' := 25) rfl fun T4 X4 => ?_
    refine F_iload X4 d6_25 rfl (pc' := 27) rfl ?_
    refine F_iaload X4 A_o2 (by decide) rfl d6_27 (pc' := 28) rfl ?_
    refine F_iloadN X4 d6_28 rfl (pc' := 29) rfl ?_
    refine F_icmp_ge X4 d6_29 (by decide) (pt := 40) (by decide) (pc' := 32) rfl (fun hc29_5 => ?_) (fun hc29_5 => ?_)
    · refine F_iload X4 d6_40 rfl (pc' := 42) rfl ?_
      refine F_iconst X4 d6_42 (z := (1 : Int32)) (by decide) (pc' := 43) rfl ?_
      refine F_isub X4 d6_43 (z := (0 : Int32)) (by decide) (pc' := 44) rfl ?_
      refine F_istoreN X4 d6_44 (Ls' := #[.val (.ref o1), .val (.int u2), .val (.int (1 : Int32)), .val (.int (0 : Int32)), .val (.int (1 : Int32))]) rfl (pc' := 45) rfl ?_
      refine F_goto X4 d6_45 (by decide) (pc' := 9) (by decide) ?_
      refine F_iloadN X4 d6_9 rfl (pc' := 10) rfl ?_
      refine F_iloadN X4 d6_10 rfl (pc' := 11) rfl ?_
      refine F_icmp_gt X4 d6_11 (by decide) (pt := 48) (by decide) (pc' := 14) rfl (fun _ => ?_) (fun q => absurd q (by decide))
      refine F_iloadN X4 d6_48 rfl (pc' := 49) rfl ?_
      refine F_ireturn X4 d6_49 rfl (by decide) (by decide) ?_
      exact ⟨by simp [lb2, *], rfl⟩
    · refine F_iload X4 d6_32 rfl (pc' := 34) rfl ?_
      refine F_iconst X4 d6_34 (z := (1 : Int32)) (by decide) (pc' := 35) rfl ?_
      refine F_iadd X4 d6_35 (z := (2 : Int32)) (by decide) (pc' := 36) rfl ?_
      refine F_istoreN X4 d6_36 (Ls' := #[.val (.ref o1), .val (.int u2), .val (.int (2 : Int32)), .val (.int (1 : Int32)), .val (.int (1 : Int32))]) rfl (pc' := 37) rfl ?_
      refine F_goto X4 d6_37 (by decide) (pc' := 45) (by decide) ?_
      refine F_goto X4 d6_45 (by decide) (pc' := 9) (by decide) ?_
      refine F_iloadN X4 d6_9 rfl (pc' := 10) rfl ?_
      refine F_iloadN X4 d6_10 rfl (pc' := 11) rfl ?_
      refine F_icmp_gt X4 d6_11 (by decide) (pt := 48) (by decide) (pc' := 14) rfl (fun _ => ?_) (fun q => absurd q (by decide))
      refine F_iloadN X4 d6_48 rfl (pc' := 49) rfl ?_
      refine F_ireturn X4 d6_49 rfl (by decide) (by decide) ?_
      exact ⟨by simp [lb2, *], rfl⟩
theorem ef_conL3 (m : MethodId) (x0 : Addr) (x1 : Int32) : entryFrame m #[(.ref x0), (.int x1)] 5 = mkF m 0 #[.val (.ref x0), .val (.int x1), .unset, .unset, .unset] [] := by first | (simp [entryFrame, mkF, argsToLocals, Value.category]; done) | rfl
set_option maxRecDepth 65536 in
set_option maxHeartbeats 40000000 in
theorem conL3 (l : Launch) (Z : State) (a0 : Array Value) (hw : ∀ d ∈ tables_1, d.before a0 Z = true) (n0 : Nat) (h : Heap) (hn0 : n0 ≤ h.size) (o1 : Addr) (u2 : Int32) (o2 : Addr) (z0 : Int32) (z1 : Int32) (z2 : Int32) (F_values_o1 : Fld Z h o1 "org/pulsewire/oru/IntList" "values" "[I" (.ref o2)) (F_size_o1 : Fld Z h o1 "org/pulsewire/oru/IntList" "size" "I" (.int (3 : Int32))) (A_o2 : AV Z h o2 .int [(.int z0), (.int z1), (.int z2), (.int (0 : Int32)), (.int (0 : Int32)), (.int (0 : Int32)), (.int (0 : Int32)), (.int (0 : Int32)), (.int (0 : Int32)), (.int (0 : Int32)), (.int (0 : Int32)), (.int (0 : Int32)), (.int (0 : Int32)), (.int (0 : Int32)), (.int (0 : Int32)), (.int (0 : Int32))]) :
    Con l (⟨"org/pulsewire/oru/IntList", "lastBelow", "(I)I"⟩ : MethodName) prog_114_method_5_code 5 (some .int) ({ frames := 0, cells := 0, slots := 0, locals := 0 } : Room) 0 0 Z n0 #[(.ref o1), (.int u2)] h (fun v h' => v = some (.int (lb3 z0 z1 z2 u2)) ∧ h = h') := by
  refine Con.body (own := "org/pulsewire/oru/IntList") (nm := "lastBelow") rfl rfl (plainFor_of_name pn6) hn0 ?_
  intro p e s m below meth c T0 X0
  rw [ef_conL3]
  refine F_iconst X0 d6_0 (z := (0 : Int32)) (by decide) (pc' := 1) rfl ?_
  refine F_istoreN X0 d6_1 (Ls' := #[.val (.ref o1), .val (.int u2), .val (.int (0 : Int32)), .unset, .unset]) rfl (pc' := 2) rfl ?_
  refine F_aloadN X0 d6_2 rfl rfl (pc' := 3) rfl ?_
  refine F_getfield X0 (wd24 hw) F_size_o1 d6_3 (pc' := 6) rfl fun T1 X1 => ?_
  refine F_iconst X1 d6_6 (z := (1 : Int32)) (by decide) (pc' := 7) rfl ?_
  refine F_isub X1 d6_7 (z := (2 : Int32)) (by decide) (pc' := 8) rfl ?_
  refine F_istoreN X1 d6_8 (Ls' := #[.val (.ref o1), .val (.int u2), .val (.int (0 : Int32)), .val (.int (2 : Int32)), .unset]) rfl (pc' := 9) rfl ?_
  refine F_iloadN X1 d6_9 rfl (pc' := 10) rfl ?_
  refine F_iloadN X1 d6_10 rfl (pc' := 11) rfl ?_
  refine F_icmp_gt X1 d6_11 (by decide) (pt := 48) (by decide) (pc' := 14) rfl (fun q => absurd q (by decide)) (fun _ => ?_)
  refine F_iloadN X1 d6_14 rfl (pc' := 15) rfl ?_
  refine F_iloadN X1 d6_15 rfl (pc' := 16) rfl ?_
  refine F_iadd X1 d6_16 (z := (2 : Int32)) (by decide) (pc' := 17) rfl ?_
  refine F_iconst X1 d6_17 (z := (1 : Int32)) (by decide) (pc' := 18) rfl ?_
  refine F_iushr X1 d6_18 (z := (1 : Int32)) (by decide) (pc' := 19) rfl ?_
  refine F_istore X1 d6_19 (Ls' := #[.val (.ref o1), .val (.int u2), .val (.int (0 : Int32)), .val (.int (2 : Int32)), .val (.int (1 : Int32))]) rfl (pc' := 21) rfl ?_
  refine F_aloadN X1 d6_21 rfl rfl (pc' := 22) rfl ?_
  refine F_getfield X1 (wd17 hw) F_values_o1 d6_22 (pc' := 25) rfl fun T2 X2 => ?_
  refine F_iload X2 d6_25 rfl (pc' := 27) rfl ?_
  refine F_iaload X2 A_o2 (by decide) rfl d6_27 (pc' := 28) rfl ?_
  refine F_iloadN X2 d6_28 rfl (pc' := 29) rfl ?_
  refine F_icmp_ge X2 d6_29 (by decide) (pt := 40) (by decide) (pc' := 32) rfl (fun hc29_3 => ?_) (fun hc29_3 => ?_)
  · refine F_iload X2 d6_40 rfl (pc' := 42) rfl ?_
    refine F_iconst X2 d6_42 (z := (1 : Int32)) (by decide) (pc' := 43) rfl ?_
    refine F_isub X2 d6_43 (z := (0 : Int32)) (by decide) (pc' := 44) rfl ?_
    refine F_istoreN X2 d6_44 (Ls' := #[.val (.ref o1), .val (.int u2), .val (.int (0 : Int32)), .val (.int (0 : Int32)), .val (.int (1 : Int32))]) rfl (pc' := 45) rfl ?_
    refine F_goto X2 d6_45 (by decide) (pc' := 9) (by decide) ?_
    refine F_iloadN X2 d6_9 rfl (pc' := 10) rfl ?_
    refine F_iloadN X2 d6_10 rfl (pc' := 11) rfl ?_
    refine F_icmp_gt X2 d6_11 (by decide) (pt := 48) (by decide) (pc' := 14) rfl (fun q => absurd q (by decide)) (fun _ => ?_)
    refine F_iloadN X2 d6_14 rfl (pc' := 15) rfl ?_
    refine F_iloadN X2 d6_15 rfl (pc' := 16) rfl ?_
    refine F_iadd X2 d6_16 (z := (0 : Int32)) (by decide) (pc' := 17) rfl ?_
    refine F_iconst X2 d6_17 (z := (1 : Int32)) (by decide) (pc' := 18) rfl ?_
    refine F_iushr X2 d6_18 (z := (0 : Int32)) (by decide) (pc' := 19) rfl ?_
    refine F_istore X2 d6_19 (Ls' := #[.val (.ref o1), .val (.int u2), .val (.int (0 : Int32)), .val (.int (0 : Int32)), .val (.int (0 : Int32))]) rfl (pc' := 21) rfl ?_
    refine F_aloadN X2 d6_21 rfl rfl (pc' := 22) rfl ?_
    refine F_getfield X2 (wd17 hw) F_values_o1 d6_22 (pc' := 25) rfl fun T4 X4 => ?_
    refine F_iload X4 d6_25 rfl (pc' := 27) rfl ?_
    refine F_iaload X4 A_o2 (by decide) rfl d6_27 (pc' := 28) rfl ?_
    refine F_iloadN X4 d6_28 rfl (pc' := 29) rfl ?_
    refine F_icmp_ge X4 d6_29 (by decide) (pt := 40) (by decide) (pc' := 32) rfl (fun hc29_5 => ?_) (fun hc29_5 => ?_)
    · refine F_iload X4 d6_40 rfl (pc' := 42) rfl ?_
      refine F_iconst X4 d6_42 (z := (1 : Int32)) (by decide) (pc' := 43) rfl ?_
      refine F_isub X4 d6_43 (z := (-1 : Int32)) (by decide) (pc' := 44) rfl ?_
      refine F_istoreN X4 d6_44 (Ls' := #[.val (.ref o1), .val (.int u2), .val (.int (0 : Int32)), .val (.int (-1 : Int32)), .val (.int (0 : Int32))]) rfl (pc' := 45) rfl ?_
      refine F_goto X4 d6_45 (by decide) (pc' := 9) (by decide) ?_
      refine F_iloadN X4 d6_9 rfl (pc' := 10) rfl ?_
      refine F_iloadN X4 d6_10 rfl (pc' := 11) rfl ?_
      refine F_icmp_gt X4 d6_11 (by decide) (pt := 48) (by decide) (pc' := 14) rfl (fun _ => ?_) (fun q => absurd q (by decide))
      refine F_iloadN X4 d6_48 rfl (pc' := 49) rfl ?_
      refine F_ireturn X4 d6_49 rfl (by decide) (by decide) ?_
      exact ⟨by simp [lb3, *], rfl⟩
    · refine F_iload X4 d6_32 rfl (pc' := 34) rfl ?_
      refine F_iconst X4 d6_34 (z := (1 : Int32)) (by decide) (pc' := 35) rfl ?_
      refine F_iadd X4 d6_35 (z := (1 : Int32)) (by decide) (pc' := 36) rfl ?_
      refine F_istoreN X4 d6_36 (Ls' := #[.val (.ref o1), .val (.int u2), .val (.int (1 : Int32)), .val (.int (0 : Int32)), .val (.int (0 : Int32))]) rfl (pc' := 37) rfl ?_
      refine F_goto X4 d6_37 (by decide) (pc' := 45) (by decide) ?_
      refine F_goto X4 d6_45 (by decide) (pc' := 9) (by decide) ?_
      refine F_iloadN X4 d6_9 rfl (pc' := 10) rfl ?_
      refine F_iloadN X4 d6_10 rfl (pc' := 11) rfl ?_
      refine F_icmp_gt X4 d6_11 (by decide) (pt := 48) (by decide) (pc' := 14) rfl (fun _ => ?_) (fun q => absurd q (by decide))
      refine F_iloadN X4 d6_48 rfl (pc' := 49) rfl ?_
      refine F_ireturn X4 d6_49 rfl (by decide) (by decide) ?_
      exact ⟨by simp [lb3, *], rfl⟩
  · refine F_iload X2 d6_32 rfl (pc' := 34) rfl ?_
    refine F_iconst X2 d6_34 (z := (1 : Int32)) (by decide) (pc' := 35) rfl ?_
    refine F_iadd X2 d6_35 (z := (2 : Int32)) (by decide) (pc' := 36) rfl ?_
    refine F_istoreN X2 d6_36 (Ls' := #[.val (.ref o1), .val (.int u2), .val (.int (2 : Int32)), .val (.int (2 : Int32)), .val (.int (1 : Int32))]) rfl (pc' := 37) rfl ?_
    refine F_goto X2 d6_37 (by decide) (pc' := 45) (by decide) ?_
    refine F_goto X2 d6_45 (by decide) (pc' := 9) (by decide) ?_
    refine F_iloadN X2 d6_9 rfl (pc' := 10) rfl ?_
    refine F_iloadN X2 d6_10 rfl (pc' := 11) rfl ?_
    refine F_icmp_gt X2 d6_11 (by decide) (pt := 48) (by decide) (pc' := 14) rfl (fun q => absurd q (by decide)) (fun _ => ?_)
    refine F_iloadN X2 d6_14 rfl (pc' := 15) rfl ?_
    refine F_iloadN X2 d6_15 rfl (pc' := 16) rfl ?_
    refine F_iadd X2 d6_16 (z := (4 : Int32)) (by decide) (pc' := 17) rfl ?_
    refine F_iconst X2 d6_17 (z := (1 : Int32)) (by decide) (pc' := 18) rfl ?_
    refine F_iushr X2 d6_18 (z := (2 : Int32)) (by decide) (pc' := 19) rfl ?_
    refine F_istore X2 d6_19 (Ls' := #[.val (.ref o1), .val (.int u2), .val (.int (2 : Int32)), .val (.int (2 : Int32)), .val (.int (2 : Int32))]) rfl (pc' := 21) rfl ?_
    refine F_aloadN X2 d6_21 rfl rfl (pc' := 22) rfl ?_
    refine F_getfield X2 (wd17 hw) F_values_o1 d6_22 (pc' := 25) rfl fun T6 X6 => ?_
    refine F_iload X6 d6_25 rfl (pc' := 27) rfl ?_
    refine F_iaload X6 A_o2 (by decide) rfl d6_27 (pc' := 28) rfl ?_
    refine F_iloadN X6 d6_28 rfl (pc' := 29) rfl ?_
    refine F_icmp_ge X6 d6_29 (by decide) (pt := 40) (by decide) (pc' := 32) rfl (fun hc29_7 => ?_) (fun hc29_7 => ?_)
    · refine F_iload X6 d6_40 rfl (pc' := 42) rfl ?_
      refine F_iconst X6 d6_42 (z := (1 : Int32)) (by decide) (pc' := 43) rfl ?_
      refine F_isub X6 d6_43 (z := (1 : Int32)) (by decide) (pc' := 44) rfl ?_
      refine F_istoreN X6 d6_44 (Ls' := #[.val (.ref o1), .val (.int u2), .val (.int (2 : Int32)), .val (.int (1 : Int32)), .val (.int (2 : Int32))]) rfl (pc' := 45) rfl ?_
      refine F_goto X6 d6_45 (by decide) (pc' := 9) (by decide) ?_
      refine F_iloadN X6 d6_9 rfl (pc' := 10) rfl ?_
      refine F_iloadN X6 d6_10 rfl (pc' := 11) rfl ?_
      refine F_icmp_gt X6 d6_11 (by decide) (pt := 48) (by decide) (pc' := 14) rfl (fun _ => ?_) (fun q => absurd q (by decide))
      refine F_iloadN X6 d6_48 rfl (pc' := 49) rfl ?_
      refine F_ireturn X6 d6_49 rfl (by decide) (by decide) ?_
      exact ⟨by simp [lb3, *], rfl⟩
    · refine F_iload X6 d6_32 rfl (pc' := 34) rfl ?_
      refine F_iconst X6 d6_34 (z := (1 : Int32)) (by decide) (pc' := 35) rfl ?_
      refine F_iadd X6 d6_35 (z := (3 : Int32)) (by decide) (pc' := 36) rfl ?_
      refine F_istoreN X6 d6_36 (Ls' := #[.val (.ref o1), .val (.int u2), .val (.int (3 : Int32)), .val (.int (2 : Int32)), .val (.int (2 : Int32))]) rfl (pc' := 37) rfl ?_
      refine F_goto X6 d6_37 (by decide) (pc' := 45) (by decide) ?_
      refine F_goto X6 d6_45 (by decide) (pc' := 9) (by decide) ?_
      refine F_iloadN X6 d6_9 rfl (pc' := 10) rfl ?_
      refine F_iloadN X6 d6_10 rfl (pc' := 11) rfl ?_
      refine F_icmp_gt X6 d6_11 (by decide) (pt := 48) (by decide) (pc' := 14) rfl (fun _ => ?_) (fun q => absurd q (by decide))
      refine F_iloadN X6 d6_48 rfl (pc' := 49) rfl ?_
      refine F_ireturn X6 d6_49 rfl (by decide) (by decide) ?_
      exact ⟨by simp [lb3, *], rfl⟩
theorem ef_conL4 (m : MethodId) (x0 : Addr) (x1 : Int32) : entryFrame m #[(.ref x0), (.int x1)] 5 = mkF m 0 #[.val (.ref x0), .val (.int x1), .unset, .unset, .unset] [] := by first | (simp [entryFrame, mkF, argsToLocals, Value.category]; done) | rfl
set_option maxRecDepth 65536 in
set_option maxHeartbeats 40000000 in
theorem conL4 (l : Launch) (Z : State) (a0 : Array Value) (hw : ∀ d ∈ tables_1, d.before a0 Z = true) (n0 : Nat) (h : Heap) (hn0 : n0 ≤ h.size) (o1 : Addr) (u2 : Int32) (o2 : Addr) (z0 : Int32) (z1 : Int32) (z2 : Int32) (z3 : Int32) (F_values_o1 : Fld Z h o1 "org/pulsewire/oru/IntList" "values" "[I" (.ref o2)) (F_size_o1 : Fld Z h o1 "org/pulsewire/oru/IntList" "size" "I" (.int (4 : Int32))) (A_o2 : AV Z h o2 .int [(.int z0), (.int z1), (.int z2), (.int z3), (.int (0 : Int32)), (.int (0 : Int32)), (.int (0 : Int32)), (.int (0 : Int32)), (.int (0 : Int32)), (.int (0 : Int32)), (.int (0 : Int32)), (.int (0 : Int32)), (.int (0 : Int32)), (.int (0 : Int32)), (.int (0 : Int32)), (.int (0 : Int32))]) :
    Con l (⟨"org/pulsewire/oru/IntList", "lastBelow", "(I)I"⟩ : MethodName) prog_114_method_5_code 5 (some .int) ({ frames := 0, cells := 0, slots := 0, locals := 0 } : Room) 0 0 Z n0 #[(.ref o1), (.int u2)] h (fun v h' => v = some (.int (lb4 z0 z1 z2 z3 u2)) ∧ h = h') := by
  refine Con.body (own := "org/pulsewire/oru/IntList") (nm := "lastBelow") rfl rfl (plainFor_of_name pn6) hn0 ?_
  intro p e s m below meth c T0 X0
  rw [ef_conL4]
  refine F_iconst X0 d6_0 (z := (0 : Int32)) (by decide) (pc' := 1) rfl ?_
  refine F_istoreN X0 d6_1 (Ls' := #[.val (.ref o1), .val (.int u2), .val (.int (0 : Int32)), .unset, .unset]) rfl (pc' := 2) rfl ?_
  refine F_aloadN X0 d6_2 rfl rfl (pc' := 3) rfl ?_
  refine F_getfield X0 (wd24 hw) F_size_o1 d6_3 (pc' := 6) rfl fun T1 X1 => ?_
  refine F_iconst X1 d6_6 (z := (1 : Int32)) (by decide) (pc' := 7) rfl ?_
  refine F_isub X1 d6_7 (z := (3 : Int32)) (by decide) (pc' := 8) rfl ?_
  refine F_istoreN X1 d6_8 (Ls' := #[.val (.ref o1), .val (.int u2), .val (.int (0 : Int32)), .val (.int (3 : Int32)), .unset]) rfl (pc' := 9) rfl ?_
  refine F_iloadN X1 d6_9 rfl (pc' := 10) rfl ?_
  refine F_iloadN X1 d6_10 rfl (pc' := 11) rfl ?_
  refine F_icmp_gt X1 d6_11 (by decide) (pt := 48) (by decide) (pc' := 14) rfl (fun q => absurd q (by decide)) (fun _ => ?_)
  refine F_iloadN X1 d6_14 rfl (pc' := 15) rfl ?_
  refine F_iloadN X1 d6_15 rfl (pc' := 16) rfl ?_
  refine F_iadd X1 d6_16 (z := (3 : Int32)) (by decide) (pc' := 17) rfl ?_
  refine F_iconst X1 d6_17 (z := (1 : Int32)) (by decide) (pc' := 18) rfl ?_
  refine F_iushr X1 d6_18 (z := (1 : Int32)) (by decide) (pc' := 19) rfl ?_
  refine F_istore X1 d6_19 (Ls' := #[.val (.ref o1), .val (.int u2), .val (.int (0 : Int32)), .val (.int (3 : Int32)), .val (.int (1 : Int32))]) rfl (pc' := 21) rfl ?_
  refine F_aloadN X1 d6_21 rfl rfl (pc' := 22) rfl ?_
  refine F_getfield X1 (wd17 hw) F_values_o1 d6_22 (pc' := 25) rfl fun T2 X2 => ?_
  refine F_iload X2 d6_25 rfl (pc' := 27) rfl ?_
  refine F_iaload X2 A_o2 (by decide) rfl d6_27 (pc' := 28) rfl ?_
  refine F_iloadN X2 d6_28 rfl (pc' := 29) rfl ?_
  refine F_icmp_ge X2 d6_29 (by decide) (pt := 40) (by decide) (pc' := 32) rfl (fun hc29_3 => ?_) (fun hc29_3 => ?_)
  · refine F_iload X2 d6_40 rfl (pc' := 42) rfl ?_
    refine F_iconst X2 d6_42 (z := (1 : Int32)) (by decide) (pc' := 43) rfl ?_
    refine F_isub X2 d6_43 (z := (0 : Int32)) (by decide) (pc' := 44) rfl ?_
    refine F_istoreN X2 d6_44 (Ls' := #[.val (.ref o1), .val (.int u2), .val (.int (0 : Int32)), .val (.int (0 : Int32)), .val (.int (1 : Int32))]) rfl (pc' := 45) rfl ?_
    refine F_goto X2 d6_45 (by decide) (pc' := 9) (by decide) ?_
    refine F_iloadN X2 d6_9 rfl (pc' := 10) rfl ?_
    refine F_iloadN X2 d6_10 rfl (pc' := 11) rfl ?_
    refine F_icmp_gt X2 d6_11 (by decide) (pt := 48) (by decide) (pc' := 14) rfl (fun q => absurd q (by decide)) (fun _ => ?_)
    refine F_iloadN X2 d6_14 rfl (pc' := 15) rfl ?_
    refine F_iloadN X2 d6_15 rfl (pc' := 16) rfl ?_
    refine F_iadd X2 d6_16 (z := (0 : Int32)) (by decide) (pc' := 17) rfl ?_
    refine F_iconst X2 d6_17 (z := (1 : Int32)) (by decide) (pc' := 18) rfl ?_
    refine F_iushr X2 d6_18 (z := (0 : Int32)) (by decide) (pc' := 19) rfl ?_
    refine F_istore X2 d6_19 (Ls' := #[.val (.ref o1), .val (.int u2), .val (.int (0 : Int32)), .val (.int (0 : Int32)), .val (.int (0 : Int32))]) rfl (pc' := 21) rfl ?_
    refine F_aloadN X2 d6_21 rfl rfl (pc' := 22) rfl ?_
    refine F_getfield X2 (wd17 hw) F_values_o1 d6_22 (pc' := 25) rfl fun T4 X4 => ?_
    refine F_iload X4 d6_25 rfl (pc' := 27) rfl ?_
    refine F_iaload X4 A_o2 (by decide) rfl d6_27 (pc' := 28) rfl ?_
    refine F_iloadN X4 d6_28 rfl (pc' := 29) rfl ?_
    refine F_icmp_ge X4 d6_29 (by decide) (pt := 40) (by decide) (pc' := 32) rfl (fun hc29_5 => ?_) (fun hc29_5 => ?_)
    · refine F_iload X4 d6_40 rfl (pc' := 42) rfl ?_
      refine F_iconst X4 d6_42 (z := (1 : Int32)) (by decide) (pc' := 43) rfl ?_
      refine F_isub X4 d6_43 (z := (-1 : Int32)) (by decide) (pc' := 44) rfl ?_
      refine F_istoreN X4 d6_44 (Ls' := #[.val (.ref o1), .val (.int u2), .val (.int (0 : Int32)), .val (.int (-1 : Int32)), .val (.int (0 : Int32))]) rfl (pc' := 45) rfl ?_
      refine F_goto X4 d6_45 (by decide) (pc' := 9) (by decide) ?_
      refine F_iloadN X4 d6_9 rfl (pc' := 10) rfl ?_
      refine F_iloadN X4 d6_10 rfl (pc' := 11) rfl ?_
      refine F_icmp_gt X4 d6_11 (by decide) (pt := 48) (by decide) (pc' := 14) rfl (fun _ => ?_) (fun q => absurd q (by decide))
      refine F_iloadN X4 d6_48 rfl (pc' := 49) rfl ?_
      refine F_ireturn X4 d6_49 rfl (by decide) (by decide) ?_
      exact ⟨by simp [lb4, *], rfl⟩
    · refine F_iload X4 d6_32 rfl (pc' := 34) rfl ?_
      refine F_iconst X4 d6_34 (z := (1 : Int32)) (by decide) (pc' := 35) rfl ?_
      refine F_iadd X4 d6_35 (z := (1 : Int32)) (by decide) (pc' := 36) rfl ?_
      refine F_istoreN X4 d6_36 (Ls' := #[.val (.ref o1), .val (.int u2), .val (.int (1 : Int32)), .val (.int (0 : Int32)), .val (.int (0 : Int32))]) rfl (pc' := 37) rfl ?_
      refine F_goto X4 d6_37 (by decide) (pc' := 45) (by decide) ?_
      refine F_goto X4 d6_45 (by decide) (pc' := 9) (by decide) ?_
      refine F_iloadN X4 d6_9 rfl (pc' := 10) rfl ?_
      refine F_iloadN X4 d6_10 rfl (pc' := 11) rfl ?_
      refine F_icmp_gt X4 d6_11 (by decide) (pt := 48) (by decide) (pc' := 14) rfl (fun _ => ?_) (fun q => absurd q (by decide))
      refine F_iloadN X4 d6_48 rfl (pc' := 49) rfl ?_
      refine F_ireturn X4 d6_49 rfl (by decide) (by decide) ?_
      exact ⟨by simp [lb4, *], rfl⟩
  · refine F_iload X2 d6_32 rfl (pc' := 34) rfl ?_
    refine F_iconst X2 d6_34 (z := (1 : Int32)) (by decide) (pc' := 35) rfl ?_
    refine F_iadd X2 d6_35 (z := (2 : Int32)) (by decide) (pc' := 36) rfl ?_
    refine F_istoreN X2 d6_36 (Ls' := #[.val (.ref o1), .val (.int u2), .val (.int (2 : Int32)), .val (.int (3 : Int32)), .val (.int (1 : Int32))]) rfl (pc' := 37) rfl ?_
    refine F_goto X2 d6_37 (by decide) (pc' := 45) (by decide) ?_
    refine F_goto X2 d6_45 (by decide) (pc' := 9) (by decide) ?_
    refine F_iloadN X2 d6_9 rfl (pc' := 10) rfl ?_
    refine F_iloadN X2 d6_10 rfl (pc' := 11) rfl ?_
    refine F_icmp_gt X2 d6_11 (by decide) (pt := 48) (by decide) (pc' := 14) rfl (fun q => absurd q (by decide)) (fun _ => ?_)
    refine F_iloadN X2 d6_14 rfl (pc' := 15) rfl ?_
    refine F_iloadN X2 d6_15 rfl (pc' := 16) rfl ?_
    refine F_iadd X2 d6_16 (z := (5 : Int32)) (by decide) (pc' := 17) rfl ?_
    refine F_iconst X2 d6_17 (z := (1 : Int32)) (by decide) (pc' := 18) rfl ?_
    refine F_iushr X2 d6_18 (z := (2 : Int32)) (by decide) (pc' := 19) rfl ?_
    refine F_istore X2 d6_19 (Ls' := #[.val (.ref o1), .val (.int u2), .val (.int (2 : Int32)), .val (.int (3 : Int32)), .val (.int (2 : Int32))]) rfl (pc' := 21) rfl ?_
    refine F_aloadN X2 d6_21 rfl rfl (pc' := 22) rfl ?_
    refine F_getfield X2 (wd17 hw) F_values_o1 d6_22 (pc' := 25) rfl fun T6 X6 => ?_
    refine F_iload X6 d6_25 rfl (pc' := 27) rfl ?_
    refine F_iaload X6 A_o2 (by decide) rfl d6_27 (pc' := 28) rfl ?_
    refine F_iloadN X6 d6_28 rfl (pc' := 29) rfl ?_
    refine F_icmp_ge X6 d6_29 (by decide) (pt := 40) (by decide) (pc' := 32) rfl (fun hc29_7 => ?_) (fun hc29_7 => ?_)
    · refine F_iload X6 d6_40 rfl (pc' := 42) rfl ?_
      refine F_iconst X6 d6_42 (z := (1 : Int32)) (by decide) (pc' := 43) rfl ?_
      refine F_isub X6 d6_43 (z := (1 : Int32)) (by decide) (pc' := 44) rfl ?_
      refine F_istoreN X6 d6_44 (Ls' := #[.val (.ref o1), .val (.int u2), .val (.int (2 : Int32)), .val (.int (1 : Int32)), .val (.int (2 : Int32))]) rfl (pc' := 45) rfl ?_
      refine F_goto X6 d6_45 (by decide) (pc' := 9) (by decide) ?_
      refine F_iloadN X6 d6_9 rfl (pc' := 10) rfl ?_
      refine F_iloadN X6 d6_10 rfl (pc' := 11) rfl ?_
      refine F_icmp_gt X6 d6_11 (by decide) (pt := 48) (by decide) (pc' := 14) rfl (fun _ => ?_) (fun q => absurd q (by decide))
      refine F_iloadN X6 d6_48 rfl (pc' := 49) rfl ?_
      refine F_ireturn X6 d6_49 rfl (by decide) (by decide) ?_
      exact ⟨by simp [lb4, *], rfl⟩
    · refine F_iload X6 d6_32 rfl (pc' := 34) rfl ?_
      refine F_iconst X6 d6_34 (z := (1 : Int32)) (by decide) (pc' := 35) rfl ?_
      refine F_iadd X6 d6_35 (z := (3 : Int32)) (by decide) (pc' := 36) rfl ?_
      refine F_istoreN X6 d6_36 (Ls' := #[.val (.ref o1), .val (.int u2), .val (.int (3 : Int32)), .val (.int (3 : Int32)), .val (.int (2 : Int32))]) rfl (pc' := 37) rfl ?_
      refine F_goto X6 d6_37 (by decide) (pc' := 45) (by decide) ?_
      refine F_goto X6 d6_45 (by decide) (pc' := 9) (by decide) ?_
      refine F_iloadN X6 d6_9 rfl (pc' := 10) rfl ?_
      refine F_iloadN X6 d6_10 rfl (pc' := 11) rfl ?_
      refine F_icmp_gt X6 d6_11 (by decide) (pt := 48) (by decide) (pc' := 14) rfl (fun q => absurd q (by decide)) (fun _ => ?_)
      refine F_iloadN X6 d6_14 rfl (pc' := 15) rfl ?_
      refine F_iloadN X6 d6_15 rfl (pc' := 16) rfl ?_
      refine F_iadd X6 d6_16 (z := (6 : Int32)) (by decide) (pc' := 17) rfl ?_
      refine F_iconst X6 d6_17 (z := (1 : Int32)) (by decide) (pc' := 18) rfl ?_
      refine F_iushr X6 d6_18 (z := (3 : Int32)) (by decide) (pc' := 19) rfl ?_
      refine F_istore X6 d6_19 (Ls' := #[.val (.ref o1), .val (.int u2), .val (.int (3 : Int32)), .val (.int (3 : Int32)), .val (.int (3 : Int32))]) rfl (pc' := 21) rfl ?_
      refine F_aloadN X6 d6_21 rfl rfl (pc' := 22) rfl ?_
      refine F_getfield X6 (wd17 hw) F_values_o1 d6_22 (pc' := 25) rfl fun T8 X8 => ?_
      refine F_iload X8 d6_25 rfl (pc' := 27) rfl ?_
      refine F_iaload X8 A_o2 (by decide) rfl d6_27 (pc' := 28) rfl ?_
      refine F_iloadN X8 d6_28 rfl (pc' := 29) rfl ?_
      refine F_icmp_ge X8 d6_29 (by decide) (pt := 40) (by decide) (pc' := 32) rfl (fun hc29_9 => ?_) (fun hc29_9 => ?_)
      · refine F_iload X8 d6_40 rfl (pc' := 42) rfl ?_
        refine F_iconst X8 d6_42 (z := (1 : Int32)) (by decide) (pc' := 43) rfl ?_
        refine F_isub X8 d6_43 (z := (2 : Int32)) (by decide) (pc' := 44) rfl ?_
        refine F_istoreN X8 d6_44 (Ls' := #[.val (.ref o1), .val (.int u2), .val (.int (3 : Int32)), .val (.int (2 : Int32)), .val (.int (3 : Int32))]) rfl (pc' := 45) rfl ?_
        refine F_goto X8 d6_45 (by decide) (pc' := 9) (by decide) ?_
        refine F_iloadN X8 d6_9 rfl (pc' := 10) rfl ?_
        refine F_iloadN X8 d6_10 rfl (pc' := 11) rfl ?_
        refine F_icmp_gt X8 d6_11 (by decide) (pt := 48) (by decide) (pc' := 14) rfl (fun _ => ?_) (fun q => absurd q (by decide))
        refine F_iloadN X8 d6_48 rfl (pc' := 49) rfl ?_
        refine F_ireturn X8 d6_49 rfl (by decide) (by decide) ?_
        exact ⟨by simp [lb4, *], rfl⟩
      · refine F_iload X8 d6_32 rfl (pc' := 34) rfl ?_
        refine F_iconst X8 d6_34 (z := (1 : Int32)) (by decide) (pc' := 35) rfl ?_
        refine F_iadd X8 d6_35 (z := (4 : Int32)) (by decide) (pc' := 36) rfl ?_
        refine F_istoreN X8 d6_36 (Ls' := #[.val (.ref o1), .val (.int u2), .val (.int (4 : Int32)), .val (.int (3 : Int32)), .val (.int (3 : Int32))]) rfl (pc' := 37) rfl ?_
        refine F_goto X8 d6_37 (by decide) (pc' := 45) (by decide) ?_
        refine F_goto X8 d6_45 (by decide) (pc' := 9) (by decide) ?_
        refine F_iloadN X8 d6_9 rfl (pc' := 10) rfl ?_
        refine F_iloadN X8 d6_10 rfl (pc' := 11) rfl ?_
        refine F_icmp_gt X8 d6_11 (by decide) (pt := 48) (by decide) (pc' := 14) rfl (fun _ => ?_) (fun q => absurd q (by decide))
        refine F_iloadN X8 d6_48 rfl (pc' := 49) rfl ?_
        refine F_ireturn X8 d6_49 rfl (by decide) (by decide) ?_
        exact ⟨by simp [lb4, *], rfl⟩
theorem pn0 : plainName "org/pulsewire/oru/IntListLastBelowPinLaw" = true := by first | (simp [plainName, overriddenIn]; done) | decide +kernel
theorem ef_con0 (m : MethodId) (x0 : Int32) (x1 : Int32) (x2 : Int32) (x3 : Int32) (x4 : Int32) (x5 : Int32) : entryFrame m #[(.int x0), (.int x1), (.int x2), (.int x3), (.int x4), (.int x5)] maxLocals = mkF m 0 #[.val (.int x0), .val (.int x1), .val (.int x2), .val (.int x3), .val (.int x4), .val (.int x5), .unset, .unset, .unset, .unset, .unset, .unset, .unset, .unset, .unset, .unset, .unset, .unset, .unset, .unset] [] := by first | (simp [entryFrame, mkF, argsToLocals, Value.category, maxLocals]; done) | rfl
set_option maxRecDepth 65536 in
set_option maxHeartbeats 40000000 in
theorem con0 (l : Launch) (Z : State) (a0 : Array Value) (hw : ∀ d ∈ tables_1, d.before a0 Z = true) (n0 : Nat) (h : Heap) (hn0 : n0 ≤ h.size) (u1 : Int32) (u2 : Int32) (u3 : Int32) (u4 : Int32) (u5 : Int32) (u6 : Int32) :
    Con l x code maxLocals ret room_1 16 128 Z n0 #[(.int u1), (.int u2), (.int u3), (.int u4), (.int u5), (.int u6)] h (fun v h' => v = some (.int (1 : Int32))) := by
  refine Con.body (own := "org/pulsewire/oru/IntListLastBelowPinLaw") (nm := "law") rfl rfl (plainFor_of_name pn0) hn0 ?_
  intro p e s m below meth c T0 X0
  rw [ef_con0]
  refine F_iload X0 at_0 rfl (pc' := 2) rfl ?_
  refine F_bipush X0 at_2 (z := (7 : Int32)) (by decide) (pc' := 4) rfl ?_
  refine F_iand X0 at_4 rfl (pc' := 5) rfl ?_
  refine F_iconst X0 at_5 (z := (5 : Int32)) (by decide) (pc' := 6) rfl ?_
  obtain ⟨kk, hkk⟩ : ∃ z : Int32, (u6 &&& (7 : Int32)) % (5 : Int32) = z := ⟨_, rfl⟩
  refine F_irem X0 at_6 (by decide) (z := kk) hkk (pc' := 7) rfl ?_
  refine F_istore X0 at_7 (Ls' := #[.val (.int u1), .val (.int u2), .val (.int u3), .val (.int u4), .val (.int u5), .val (.int u6), .val (.int kk), .unset, .unset, .unset, .unset, .unset, .unset, .unset, .unset, .unset, .unset, .unset, .unset, .unset]) rfl (pc' := 9) rfl ?_
  refine F_iloadN X0 at_9 rfl (pc' := 10) rfl ?_
  refine F_iloadN X0 at_10 rfl (pc' := 11) rfl ?_
  refine F_callS X0 (y := (⟨"java/lang/Math", "min", "(II)I"⟩ : MethodName)) (stk := []) (wd0 hw) (wd1 hw) (wd2 hw) (wd3 hw) (by decide) (argsL := [(.int u1), (.int u2)]) (con_min l Z a0 hw n0 h X0.size u1 u2) (by decide) (W := 0) (Nat.le_of_ble_eq_true rfl) (by decide) (by decide) (by decide) rfl (lenOf pd0 rfl) rfl at_11 (pc' := 14) rfl fun T1 v1 h1 X1 q1 => ?_
  obtain ⟨rfl, rfl⟩ := q1
  replace X1 := X1.more (cells' := 0) (slots' := 0) (by decide) (by decide)
  show Jvm.OwnKit.Ends p e below s n0 16 128 _ T1 (mkF m 14 #[.val (.int u1), .val (.int u2), .val (.int u3), .val (.int u4), .val (.int u5), .val (.int u6), .val (.int kk), .unset, .unset, .unset, .unset, .unset, .unset, .unset, .unset, .unset, .unset, .unset, .unset, .unset] [(.int (imin u1 u2))])
  generalize hs0 : (imin u1 u2) = s0
  refine F_istore X1 at_14 (Ls' := #[.val (.int u1), .val (.int u2), .val (.int u3), .val (.int u4), .val (.int u5), .val (.int u6), .val (.int kk), .val (.int s0), .unset, .unset, .unset, .unset, .unset, .unset, .unset, .unset, .unset, .unset, .unset, .unset]) rfl (pc' := 16) rfl ?_
  refine F_iloadN X1 at_16 rfl (pc' := 17) rfl ?_
  refine F_iloadN X1 at_17 rfl (pc' := 18) rfl ?_
  refine F_callS X1 (y := (⟨"java/lang/Math", "max", "(II)I"⟩ : MethodName)) (stk := []) (wd4 hw) (wd5 hw) (wd2 hw) (wd6 hw) (by decide) (argsL := [(.int u1), (.int u2)]) (con_max l Z a0 hw n0 h X1.size u1 u2) (by decide) (W := 0) (Nat.le_of_ble_eq_true rfl) (by decide) (by decide) (by decide) rfl (lenOf pd0 rfl) rfl at_18 (pc' := 21) rfl fun T2 v2 h2 X2 q2 => ?_
  obtain ⟨rfl, rfl⟩ := q2
  replace X2 := X2.more (cells' := 0) (slots' := 0) (by decide) (by decide)
  show Jvm.OwnKit.Ends p e below s n0 16 128 _ T2 (mkF m 21 #[.val (.int u1), .val (.int u2), .val (.int u3), .val (.int u4), .val (.int u5), .val (.int u6), .val (.int kk), .val (.int s0), .unset, .unset, .unset, .unset, .unset, .unset, .unset, .unset, .unset, .unset, .unset, .unset] [(.int (imax u1 u2))])
  generalize hs1 : (imax u1 u2) = s1
  refine F_istore X2 at_21 (Ls' := #[.val (.int u1), .val (.int u2), .val (.int u3), .val (.int u4), .val (.int u5), .val (.int u6), .val (.int kk), .val (.int s0), .val (.int s1), .unset, .unset, .unset, .unset, .unset, .unset, .unset, .unset, .unset, .unset, .unset]) rfl (pc' := 23) rfl ?_
  refine F_iloadN X2 at_23 rfl (pc' := 24) rfl ?_
  refine F_iloadN X2 at_24 rfl (pc' := 25) rfl ?_
  refine F_callS X2 (y := (⟨"java/lang/Math", "min", "(II)I"⟩ : MethodName)) (stk := []) (wd0 hw) (wd1 hw) (wd2 hw) (wd3 hw) (by decide) (argsL := [(.int u3), (.int u4)]) (con_min l Z a0 hw n0 h X2.size u3 u4) (by decide) (W := 0) (Nat.le_of_ble_eq_true rfl) (by decide) (by decide) (by decide) rfl (lenOf pd0 rfl) rfl at_25 (pc' := 28) rfl fun T3 v3 h3 X3 q3 => ?_
  obtain ⟨rfl, rfl⟩ := q3
  replace X3 := X3.more (cells' := 0) (slots' := 0) (by decide) (by decide)
  show Jvm.OwnKit.Ends p e below s n0 16 128 _ T3 (mkF m 28 #[.val (.int u1), .val (.int u2), .val (.int u3), .val (.int u4), .val (.int u5), .val (.int u6), .val (.int kk), .val (.int s0), .val (.int s1), .unset, .unset, .unset, .unset, .unset, .unset, .unset, .unset, .unset, .unset, .unset] [(.int (imin u3 u4))])
  generalize hs2 : (imin u3 u4) = s2
  refine F_istore X3 at_28 (Ls' := #[.val (.int u1), .val (.int u2), .val (.int u3), .val (.int u4), .val (.int u5), .val (.int u6), .val (.int kk), .val (.int s0), .val (.int s1), .val (.int s2), .unset, .unset, .unset, .unset, .unset, .unset, .unset, .unset, .unset, .unset]) rfl (pc' := 30) rfl ?_
  refine F_iloadN X3 at_30 rfl (pc' := 31) rfl ?_
  refine F_iloadN X3 at_31 rfl (pc' := 32) rfl ?_
  refine F_callS X3 (y := (⟨"java/lang/Math", "max", "(II)I"⟩ : MethodName)) (stk := []) (wd4 hw) (wd5 hw) (wd2 hw) (wd6 hw) (by decide) (argsL := [(.int u3), (.int u4)]) (con_max l Z a0 hw n0 h X3.size u3 u4) (by decide) (W := 0) (Nat.le_of_ble_eq_true rfl) (by decide) (by decide) (by decide) rfl (lenOf pd0 rfl) rfl at_32 (pc' := 35) rfl fun T4 v4 h4 X4 q4 => ?_
  obtain ⟨rfl, rfl⟩ := q4
  replace X4 := X4.more (cells' := 0) (slots' := 0) (by decide) (by decide)
  show Jvm.OwnKit.Ends p e below s n0 16 128 _ T4 (mkF m 35 #[.val (.int u1), .val (.int u2), .val (.int u3), .val (.int u4), .val (.int u5), .val (.int u6), .val (.int kk), .val (.int s0), .val (.int s1), .val (.int s2), .unset, .unset, .unset, .unset, .unset, .unset, .unset, .unset, .unset, .unset] [(.int (imax u3 u4))])
  generalize hs3 : (imax u3 u4) = s3
  refine F_istore X4 at_35 (Ls' := #[.val (.int u1), .val (.int u2), .val (.int u3), .val (.int u4), .val (.int u5), .val (.int u6), .val (.int kk), .val (.int s0), .val (.int s1), .val (.int s2), .val (.int s3), .unset, .unset, .unset, .unset, .unset, .unset, .unset, .unset, .unset]) rfl (pc' := 37) rfl ?_
  refine F_iload X4 at_37 rfl (pc' := 39) rfl ?_
  refine F_iload X4 at_39 rfl (pc' := 41) rfl ?_
  refine F_callS X4 (y := (⟨"java/lang/Math", "min", "(II)I"⟩ : MethodName)) (stk := []) (wd0 hw) (wd1 hw) (wd2 hw) (wd3 hw) (by decide) (argsL := [(.int s0), (.int s2)]) (con_min l Z a0 hw n0 h X4.size s0 s2) (by decide) (W := 0) (Nat.le_of_ble_eq_true rfl) (by decide) (by decide) (by decide) rfl (lenOf pd0 rfl) rfl at_41 (pc' := 44) rfl fun T5 v5 h5 X5 q5 => ?_
  obtain ⟨rfl, rfl⟩ := q5
  replace X5 := X5.more (cells' := 0) (slots' := 0) (by decide) (by decide)
  show Jvm.OwnKit.Ends p e below s n0 16 128 _ T5 (mkF m 44 #[.val (.int u1), .val (.int u2), .val (.int u3), .val (.int u4), .val (.int u5), .val (.int u6), .val (.int kk), .val (.int s0), .val (.int s1), .val (.int s2), .val (.int s3), .unset, .unset, .unset, .unset, .unset, .unset, .unset, .unset, .unset] [(.int (imin s0 s2))])
  generalize ht0 : (imin s0 s2) = t0
  refine F_istore X5 at_44 (Ls' := #[.val (.int u1), .val (.int u2), .val (.int u3), .val (.int u4), .val (.int u5), .val (.int u6), .val (.int kk), .val (.int s0), .val (.int s1), .val (.int s2), .val (.int s3), .val (.int t0), .unset, .unset, .unset, .unset, .unset, .unset, .unset, .unset]) rfl (pc' := 46) rfl ?_
  refine F_iload X5 at_46 rfl (pc' := 48) rfl ?_
  refine F_iload X5 at_48 rfl (pc' := 50) rfl ?_
  refine F_callS X5 (y := (⟨"java/lang/Math", "max", "(II)I"⟩ : MethodName)) (stk := []) (wd4 hw) (wd5 hw) (wd2 hw) (wd6 hw) (by decide) (argsL := [(.int s0), (.int s2)]) (con_max l Z a0 hw n0 h X5.size s0 s2) (by decide) (W := 0) (Nat.le_of_ble_eq_true rfl) (by decide) (by decide) (by decide) rfl (lenOf pd0 rfl) rfl at_50 (pc' := 53) rfl fun T6 v6 h6 X6 q6 => ?_
  obtain ⟨rfl, rfl⟩ := q6
  replace X6 := X6.more (cells' := 0) (slots' := 0) (by decide) (by decide)
  show Jvm.OwnKit.Ends p e below s n0 16 128 _ T6 (mkF m 53 #[.val (.int u1), .val (.int u2), .val (.int u3), .val (.int u4), .val (.int u5), .val (.int u6), .val (.int kk), .val (.int s0), .val (.int s1), .val (.int s2), .val (.int s3), .val (.int t0), .unset, .unset, .unset, .unset, .unset, .unset, .unset, .unset] [(.int (imax s0 s2))])
  generalize ht2 : (imax s0 s2) = t2
  refine F_istore X6 at_53 (Ls' := #[.val (.int u1), .val (.int u2), .val (.int u3), .val (.int u4), .val (.int u5), .val (.int u6), .val (.int kk), .val (.int s0), .val (.int s1), .val (.int s2), .val (.int s3), .val (.int t0), .val (.int t2), .unset, .unset, .unset, .unset, .unset, .unset, .unset]) rfl (pc' := 55) rfl ?_
  refine F_iload X6 at_55 rfl (pc' := 57) rfl ?_
  refine F_iload X6 at_57 rfl (pc' := 59) rfl ?_
  refine F_callS X6 (y := (⟨"java/lang/Math", "min", "(II)I"⟩ : MethodName)) (stk := []) (wd0 hw) (wd1 hw) (wd2 hw) (wd3 hw) (by decide) (argsL := [(.int s1), (.int s3)]) (con_min l Z a0 hw n0 h X6.size s1 s3) (by decide) (W := 0) (Nat.le_of_ble_eq_true rfl) (by decide) (by decide) (by decide) rfl (lenOf pd0 rfl) rfl at_59 (pc' := 62) rfl fun T7 v7 h7 X7 q7 => ?_
  obtain ⟨rfl, rfl⟩ := q7
  replace X7 := X7.more (cells' := 0) (slots' := 0) (by decide) (by decide)
  show Jvm.OwnKit.Ends p e below s n0 16 128 _ T7 (mkF m 62 #[.val (.int u1), .val (.int u2), .val (.int u3), .val (.int u4), .val (.int u5), .val (.int u6), .val (.int kk), .val (.int s0), .val (.int s1), .val (.int s2), .val (.int s3), .val (.int t0), .val (.int t2), .unset, .unset, .unset, .unset, .unset, .unset, .unset] [(.int (imin s1 s3))])
  generalize ht1 : (imin s1 s3) = t1
  refine F_istore X7 at_62 (Ls' := #[.val (.int u1), .val (.int u2), .val (.int u3), .val (.int u4), .val (.int u5), .val (.int u6), .val (.int kk), .val (.int s0), .val (.int s1), .val (.int s2), .val (.int s3), .val (.int t0), .val (.int t2), .val (.int t1), .unset, .unset, .unset, .unset, .unset, .unset]) rfl (pc' := 64) rfl ?_
  refine F_iload X7 at_64 rfl (pc' := 66) rfl ?_
  refine F_iload X7 at_66 rfl (pc' := 68) rfl ?_
  refine F_callS X7 (y := (⟨"java/lang/Math", "max", "(II)I"⟩ : MethodName)) (stk := []) (wd4 hw) (wd5 hw) (wd2 hw) (wd6 hw) (by decide) (argsL := [(.int s1), (.int s3)]) (con_max l Z a0 hw n0 h X7.size s1 s3) (by decide) (W := 0) (Nat.le_of_ble_eq_true rfl) (by decide) (by decide) (by decide) rfl (lenOf pd0 rfl) rfl at_68 (pc' := 71) rfl fun T8 v8 h8 X8 q8 => ?_
  obtain ⟨rfl, rfl⟩ := q8
  replace X8 := X8.more (cells' := 0) (slots' := 0) (by decide) (by decide)
  show Jvm.OwnKit.Ends p e below s n0 16 128 _ T8 (mkF m 71 #[.val (.int u1), .val (.int u2), .val (.int u3), .val (.int u4), .val (.int u5), .val (.int u6), .val (.int kk), .val (.int s0), .val (.int s1), .val (.int s2), .val (.int s3), .val (.int t0), .val (.int t2), .val (.int t1), .unset, .unset, .unset, .unset, .unset, .unset] [(.int (imax s1 s3))])
  generalize ht3 : (imax s1 s3) = t3
  refine F_istore X8 at_71 (Ls' := #[.val (.int u1), .val (.int u2), .val (.int u3), .val (.int u4), .val (.int u5), .val (.int u6), .val (.int kk), .val (.int s0), .val (.int s1), .val (.int s2), .val (.int s3), .val (.int t0), .val (.int t2), .val (.int t1), .val (.int t3), .unset, .unset, .unset, .unset, .unset]) rfl (pc' := 73) rfl ?_
  refine F_iload X8 at_73 rfl (pc' := 75) rfl ?_
  refine F_iload X8 at_75 rfl (pc' := 77) rfl ?_
  refine F_callS X8 (y := (⟨"java/lang/Math", "min", "(II)I"⟩ : MethodName)) (stk := []) (wd0 hw) (wd1 hw) (wd2 hw) (wd3 hw) (by decide) (argsL := [(.int t1), (.int t2)]) (con_min l Z a0 hw n0 h X8.size t1 t2) (by decide) (W := 0) (Nat.le_of_ble_eq_true rfl) (by decide) (by decide) (by decide) rfl (lenOf pd0 rfl) rfl at_77 (pc' := 80) rfl fun T9 v9 h9 X9 q9 => ?_
  obtain ⟨rfl, rfl⟩ := q9
  replace X9 := X9.more (cells' := 0) (slots' := 0) (by decide) (by decide)
  show Jvm.OwnKit.Ends p e below s n0 16 128 _ T9 (mkF m 80 #[.val (.int u1), .val (.int u2), .val (.int u3), .val (.int u4), .val (.int u5), .val (.int u6), .val (.int kk), .val (.int s0), .val (.int s1), .val (.int s2), .val (.int s3), .val (.int t0), .val (.int t2), .val (.int t1), .val (.int t3), .unset, .unset, .unset, .unset, .unset] [(.int (imin t1 t2))])
  generalize hq1 : (imin t1 t2) = q1
  refine F_istore X9 at_80 (Ls' := #[.val (.int u1), .val (.int u2), .val (.int u3), .val (.int u4), .val (.int u5), .val (.int u6), .val (.int kk), .val (.int s0), .val (.int s1), .val (.int s2), .val (.int s3), .val (.int t0), .val (.int t2), .val (.int t1), .val (.int t3), .val (.int q1), .unset, .unset, .unset, .unset]) rfl (pc' := 82) rfl ?_
  refine F_iload X9 at_82 rfl (pc' := 84) rfl ?_
  refine F_iload X9 at_84 rfl (pc' := 86) rfl ?_
  refine F_callS X9 (y := (⟨"java/lang/Math", "max", "(II)I"⟩ : MethodName)) (stk := []) (wd4 hw) (wd5 hw) (wd2 hw) (wd6 hw) (by decide) (argsL := [(.int t1), (.int t2)]) (con_max l Z a0 hw n0 h X9.size t1 t2) (by decide) (W := 0) (Nat.le_of_ble_eq_true rfl) (by decide) (by decide) (by decide) rfl (lenOf pd0 rfl) rfl at_86 (pc' := 89) rfl fun T10 v10 h10 X10 q10 => ?_
  obtain ⟨rfl, rfl⟩ := q10
  replace X10 := X10.more (cells' := 0) (slots' := 0) (by decide) (by decide)
  show Jvm.OwnKit.Ends p e below s n0 16 128 _ T10 (mkF m 89 #[.val (.int u1), .val (.int u2), .val (.int u3), .val (.int u4), .val (.int u5), .val (.int u6), .val (.int kk), .val (.int s0), .val (.int s1), .val (.int s2), .val (.int s3), .val (.int t0), .val (.int t2), .val (.int t1), .val (.int t3), .val (.int q1), .unset, .unset, .unset, .unset] [(.int (imax t1 t2))])
  generalize hq2 : (imax t1 t2) = q2
  refine F_istore X10 at_89 (Ls' := #[.val (.int u1), .val (.int u2), .val (.int u3), .val (.int u4), .val (.int u5), .val (.int u6), .val (.int kk), .val (.int s0), .val (.int s1), .val (.int s2), .val (.int s3), .val (.int t0), .val (.int t2), .val (.int t1), .val (.int t3), .val (.int q1), .val (.int q2), .unset, .unset, .unset]) rfl (pc' := 91) rfl ?_
  obtain ⟨ho1, ho2, ho3⟩ := own_sort hs0 hs1 hs2 hs3 ht0 ht2 ht1 ht3 hq1 hq2
  refine F_new X10 (wd7 hw) (wd8 hw) (wd9 hw) (by decide) (by decide) at_91 (pc' := 94) rfl fun T11 h11 b11 X11 Ex11 g11 ge11 E_b11 D11 => ?_
  have F11_values_b11 : Fld Z h11 b11 "org/pulsewire/oru/IntList" "values" "[I" .null := D11 (Or.inl (wd18 hw)) (ty := (.array .int)) (by decide)
  have F11_size_b11 : Fld Z h11 b11 "org/pulsewire/oru/IntList" "size" "I" (.int (0 : Int32)) := D11 (Or.inl (wd25 hw)) (ty := .int) (by decide)
  replace X11 := X11.more (cells' := 1) (slots' := 2) (by decide) (by decide)
  refine F_dup X11 at_94 rfl (pc' := 95) rfl ?_
  refine F_init X11 (y := (⟨"org/pulsewire/oru/IntList", "<init>", "()V"⟩ : MethodName)) (stk := [(.ref b11)]) rfl (wd10 hw) (wd11 hw) (wd9 hw) (wd12 hw) (by decide) (a := b11) (argsL := []) (conI l Z a0 hw n0 h11 X11.size b11 E_b11 F11_values_b11 F11_size_b11 ge11) (by decide) (W := 1) (Nat.le_of_ble_eq_true rfl) (by decide) (by decide) (by decide) rfl (lenOf pd1 rfl) rfl at_95 (pc' := 98) rfl fun T12 v12 h12 X12 q12 => ?_
  obtain ⟨b12_fb, rfl, sz12_fb, Kp12, E12_b11, E12_b12_fb, F12_values_b11, F12_size_b11, A12_b12_fb⟩ := q12
  have ge_b12_fb : n0 ≤ b12_fb := Nat.le_trans X11.size sz12_fb
  have ne_b11_b12_fb : b11 ≠ b12_fb := Nat.ne_of_lt (Nat.lt_of_lt_of_le E_b11.lt sz12_fb)
  have E12k_b11 := E_b11.keep Kp12
  replace X12 := X12.more (cells' := 2) (slots' := 18) (by decide) (by decide)
  show Jvm.OwnKit.Ends p e below s n0 16 128 _ T12 (mkF m 98 #[.val (.int u1), .val (.int u2), .val (.int u3), .val (.int u4), .val (.int u5), .val (.int u6), .val (.int kk), .val (.int s0), .val (.int s1), .val (.int s2), .val (.int s3), .val (.int t0), .val (.int t2), .val (.int t1), .val (.int t3), .val (.int q1), .val (.int q2), .unset, .unset, .unset] [(.ref b11)])
  refine F_astore X12 at_98 rfl (Ls' := #[.val (.int u1), .val (.int u2), .val (.int u3), .val (.int u4), .val (.int u5), .val (.int u6), .val (.int kk), .val (.int s0), .val (.int s1), .val (.int s2), .val (.int s3), .val (.int t0), .val (.int t2), .val (.int t1), .val (.int t3), .val (.int q1), .val (.int q2), .val (.ref b11), .unset, .unset]) rfl (pc' := 100) rfl ?_
  rcases (own_k hkk) with rfl | rfl | rfl | rfl | rfl
  · refine F_iload X12 at_100 rfl (pc' := 102) rfl ?_
    refine F_if_le X12 at_102 (by decide) (pt := 112) (by decide) (pc' := 105) rfl (fun _ => ?_) (fun q => absurd q (by decide))
    refine F_iload X12 at_112 rfl (pc' := 114) rfl ?_
    refine F_iconst X12 at_114 (z := (1 : Int32)) (by decide) (pc' := 115) rfl ?_
    refine F_icmp_le X12 at_115 (by decide) (pt := 125) (by decide) (pc' := 118) rfl (fun _ => ?_) (fun q => absurd q (by decide))
    refine F_iload X12 at_125 rfl (pc' := 127) rfl ?_
    refine F_iconst X12 at_127 (z := (2 : Int32)) (by decide) (pc' := 128) rfl ?_
    refine F_icmp_le X12 at_128 (by decide) (pt := 138) (by decide) (pc' := 131) rfl (fun _ => ?_) (fun q => absurd q (by decide))
    refine F_iload X12 at_138 rfl (pc' := 140) rfl ?_
    refine F_iconst X12 at_140 (z := (3 : Int32)) (by decide) (pc' := 141) rfl ?_
    refine F_icmp_le X12 at_141 (by decide) (pt := 151) (by decide) (pc' := 144) rfl (fun _ => ?_) (fun q => absurd q (by decide))
    refine F_iconst X12 at_151 (z := (0 : Int32)) (by decide) (pc' := 152) rfl ?_
    refine F_istore X12 at_152 (Ls' := #[.val (.int u1), .val (.int u2), .val (.int u3), .val (.int u4), .val (.int u5), .val (.int u6), .val (.int (0 : Int32)), .val (.int s0), .val (.int s1), .val (.int s2), .val (.int s3), .val (.int t0), .val (.int t2), .val (.int t1), .val (.int t3), .val (.int q1), .val (.int q2), .val (.ref b11), .val (.int (0 : Int32)), .unset]) rfl (pc' := 154) rfl ?_
    refine F_iload X12 at_154 rfl (pc' := 156) rfl ?_
    refine F_if_le X12 at_156 (by decide) (pt := 172) (by decide) (pc' := 159) rfl (fun _ => ?_) (fun q => absurd q (by decide))
    refine F_iload X12 at_172 rfl (pc' := 174) rfl ?_
    refine F_iconst X12 at_174 (z := (1 : Int32)) (by decide) (pc' := 175) rfl ?_
    refine F_icmp_le X12 at_175 (by decide) (pt := 191) (by decide) (pc' := 178) rfl (fun _ => ?_) (fun q => absurd q (by decide))
    refine F_iload X12 at_191 rfl (pc' := 193) rfl ?_
    refine F_iconst X12 at_193 (z := (2 : Int32)) (by decide) (pc' := 194) rfl ?_
    refine F_icmp_le X12 at_194 (by decide) (pt := 210) (by decide) (pc' := 197) rfl (fun _ => ?_) (fun q => absurd q (by decide))
    refine F_iload X12 at_210 rfl (pc' := 212) rfl ?_
    refine F_iconst X12 at_212 (z := (3 : Int32)) (by decide) (pc' := 213) rfl ?_
    refine F_icmp_le X12 at_213 (by decide) (pt := 229) (by decide) (pc' := 216) rfl (fun _ => ?_) (fun q => absurd q (by decide))
    refine F_aload X12 at_229 rfl rfl (pc' := 231) rfl ?_
    refine F_iload X12 at_231 rfl (pc' := 233) rfl ?_
    refine F_callV X12 (y := (⟨"org/pulsewire/oru/IntList", "lastBelow", "(I)I"⟩ : MethodName)) (stk := []) (wd26 hw) (wd27 hw) (wd29 hw) (wd28 hw) (wd9 hw) (wd30 hw) (by decide) (a := b11) E12_b11 (argsL := [(.int u5)]) (conL0 l Z a0 hw n0 h12 X12.size b11 u5 b12_fb F12_values_b11 F12_size_b11 A12_b12_fb) (by decide) (W := 0) (Nat.le_of_ble_eq_true rfl) (by decide) (by decide) (by decide) rfl (lenOf pd2 rfl) rfl at_233 (pc' := 236) rfl fun T13 v13 h13 X13 q13 => ?_
    obtain ⟨rfl, rfl⟩ := q13
    replace X13 := X13.more (cells' := 2) (slots' := 18) (by decide) (by decide)
    show Jvm.OwnKit.Ends p e below s n0 16 128 _ T13 (mkF m 236 #[.val (.int u1), .val (.int u2), .val (.int u3), .val (.int u4), .val (.int u5), .val (.int u6), .val (.int (0 : Int32)), .val (.int s0), .val (.int s1), .val (.int s2), .val (.int s3), .val (.int t0), .val (.int t2), .val (.int t1), .val (.int t3), .val (.int q1), .val (.int q2), .val (.ref b11), .val (.int (0 : Int32)), .unset] [(.int (lb0 u5))])
    refine F_istore X13 at_236 (Ls' := #[.val (.int u1), .val (.int u2), .val (.int u3), .val (.int u4), .val (.int u5), .val (.int u6), .val (.int (0 : Int32)), .val (.int s0), .val (.int s1), .val (.int s2), .val (.int s3), .val (.int t0), .val (.int t2), .val (.int t1), .val (.int t3), .val (.int q1), .val (.int q2), .val (.ref b11), .val (.int (0 : Int32)), .val (.int (lb0 u5))]) rfl (pc' := 238) rfl ?_
    refine F_iload X13 at_238 rfl (pc' := 240) rfl ?_
    refine F_iload X13 at_240 rfl (pc' := 242) rfl ?_
    refine F_iconst X13 at_242 (z := (1 : Int32)) (by decide) (pc' := 243) rfl ?_
    refine F_isub X13 at_243 (z := (-1 : Int32)) (by decide) (pc' := 244) rfl ?_
    refine F_icmp_ne X13 at_244 (by decide) (pt := 251) (by decide) (pc' := 247) rfl (fun hc244_14 => ?_) (fun hc244_14 => ?_)
    · refine F_iconst X13 at_251 (z := (0 : Int32)) (by decide) (pc' := 252) rfl ?_
      refine F_ireturn_boolean (z' := (0 : Int32)) X13 (by decide) at_252 rfl (by decide) (by decide) ?_
      exfalso; refine hc244_14 ?_; unfold lb0; simp only [Int32.lt_iff_toInt_lt] ; repeat' split
      all_goals first | rfl | (exfalso; omega)
    · refine F_iconst X13 at_247 (z := (1 : Int32)) (by decide) (pc' := 248) rfl ?_
      refine F_goto X13 at_248 (by decide) (pc' := 252) (by decide) ?_
      refine F_ireturn_boolean (z' := (1 : Int32)) X13 (by decide) at_252 rfl (by decide) (by decide) ?_
      exact rfl
  · refine F_iload X12 at_100 rfl (pc' := 102) rfl ?_
    refine F_if_le X12 at_102 (by decide) (pt := 112) (by decide) (pc' := 105) rfl (fun q => absurd q (by decide)) (fun _ => ?_)
    refine F_aload X12 at_105 rfl rfl (pc' := 107) rfl ?_
    refine F_iload X12 at_107 rfl (pc' := 109) rfl ?_
    refine F_callV X12 (y := (⟨"org/pulsewire/oru/IntList", "add", "(I)V"⟩ : MethodName)) (stk := []) (wd19 hw) (wd20 hw) (wd22 hw) (wd21 hw) (wd9 hw) (wd23 hw) (by decide) (a := b11) E12_b11 (argsL := [(.int t0)]) (conA0 l Z a0 hw n0 h12 X12.size b11 t0 b12_fb E12_b11 F12_values_b11 F12_size_b11 A12_b12_fb ge11 ge_b12_fb ne_b11_b12_fb) (by decide) (W := 0) (Nat.le_of_ble_eq_true rfl) (by decide) (by decide) (by decide) rfl (lenOf pd3 rfl) rfl at_109 (pc' := 112) rfl fun T15 v15 h15 X15 q15 => ?_
    obtain ⟨rfl, Kp15, F15_values_b11, F15_size_b11, A15_b12_fb⟩ := q15
    have E15k_b11 := E12_b11.keep Kp15
    have E15k_b12_fb := E12_b12_fb.keep Kp15
    replace X15 := X15.more (cells' := 2) (slots' := 18) (by decide) (by decide)
    show Jvm.OwnKit.Ends p e below s n0 16 128 _ T15 (mkF m 112 #[.val (.int u1), .val (.int u2), .val (.int u3), .val (.int u4), .val (.int u5), .val (.int u6), .val (.int (1 : Int32)), .val (.int s0), .val (.int s1), .val (.int s2), .val (.int s3), .val (.int t0), .val (.int t2), .val (.int t1), .val (.int t3), .val (.int q1), .val (.int q2), .val (.ref b11), .unset, .unset] [])
    refine F_iload X15 at_112 rfl (pc' := 114) rfl ?_
    refine F_iconst X15 at_114 (z := (1 : Int32)) (by decide) (pc' := 115) rfl ?_
    refine F_icmp_le X15 at_115 (by decide) (pt := 125) (by decide) (pc' := 118) rfl (fun _ => ?_) (fun q => absurd q (by decide))
    refine F_iload X15 at_125 rfl (pc' := 127) rfl ?_
    refine F_iconst X15 at_127 (z := (2 : Int32)) (by decide) (pc' := 128) rfl ?_
    refine F_icmp_le X15 at_128 (by decide) (pt := 138) (by decide) (pc' := 131) rfl (fun _ => ?_) (fun q => absurd q (by decide))
    refine F_iload X15 at_138 rfl (pc' := 140) rfl ?_
    refine F_iconst X15 at_140 (z := (3 : Int32)) (by decide) (pc' := 141) rfl ?_
    refine F_icmp_le X15 at_141 (by decide) (pt := 151) (by decide) (pc' := 144) rfl (fun _ => ?_) (fun q => absurd q (by decide))
    refine F_iconst X15 at_151 (z := (0 : Int32)) (by decide) (pc' := 152) rfl ?_
    refine F_istore X15 at_152 (Ls' := #[.val (.int u1), .val (.int u2), .val (.int u3), .val (.int u4), .val (.int u5), .val (.int u6), .val (.int (1 : Int32)), .val (.int s0), .val (.int s1), .val (.int s2), .val (.int s3), .val (.int t0), .val (.int t2), .val (.int t1), .val (.int t3), .val (.int q1), .val (.int q2), .val (.ref b11), .val (.int (0 : Int32)), .unset]) rfl (pc' := 154) rfl ?_
    refine F_iload X15 at_154 rfl (pc' := 156) rfl ?_
    refine F_if_le X15 at_156 (by decide) (pt := 172) (by decide) (pc' := 159) rfl (fun q => absurd q (by decide)) (fun _ => ?_)
    refine F_iload X15 at_159 rfl (pc' := 161) rfl ?_
    refine F_iload X15 at_161 rfl (pc' := 163) rfl ?_
    refine F_icmp_ge X15 at_163 (by decide) (pt := 172) (by decide) (pc' := 166) rfl (fun hc163_16 => ?_) (fun hc163_16 => ?_)
    · refine F_iload X15 at_172 rfl (pc' := 174) rfl ?_
      refine F_iconst X15 at_174 (z := (1 : Int32)) (by decide) (pc' := 175) rfl ?_
      refine F_icmp_le X15 at_175 (by decide) (pt := 191) (by decide) (pc' := 178) rfl (fun _ => ?_) (fun q => absurd q (by decide))
      refine F_iload X15 at_191 rfl (pc' := 193) rfl ?_
      refine F_iconst X15 at_193 (z := (2 : Int32)) (by decide) (pc' := 194) rfl ?_
      refine F_icmp_le X15 at_194 (by decide) (pt := 210) (by decide) (pc' := 197) rfl (fun _ => ?_) (fun q => absurd q (by decide))
      refine F_iload X15 at_210 rfl (pc' := 212) rfl ?_
      refine F_iconst X15 at_212 (z := (3 : Int32)) (by decide) (pc' := 213) rfl ?_
      refine F_icmp_le X15 at_213 (by decide) (pt := 229) (by decide) (pc' := 216) rfl (fun _ => ?_) (fun q => absurd q (by decide))
      refine F_aload X15 at_229 rfl rfl (pc' := 231) rfl ?_
      refine F_iload X15 at_231 rfl (pc' := 233) rfl ?_
      refine F_callV X15 (y := (⟨"org/pulsewire/oru/IntList", "lastBelow", "(I)I"⟩ : MethodName)) (stk := []) (wd26 hw) (wd27 hw) (wd29 hw) (wd28 hw) (wd9 hw) (wd30 hw) (by decide) (a := b11) E15k_b11 (argsL := [(.int u5)]) (conL1 l Z a0 hw n0 h15 X15.size b11 u5 b12_fb t0 F15_values_b11 F15_size_b11 A15_b12_fb) (by decide) (W := 0) (Nat.le_of_ble_eq_true rfl) (by decide) (by decide) (by decide) rfl (lenOf pd2 rfl) rfl at_233 (pc' := 236) rfl fun T17 v17 h17 X17 q17 => ?_
      obtain ⟨rfl, rfl⟩ := q17
      replace X17 := X17.more (cells' := 2) (slots' := 18) (by decide) (by decide)
      show Jvm.OwnKit.Ends p e below s n0 16 128 _ T17 (mkF m 236 #[.val (.int u1), .val (.int u2), .val (.int u3), .val (.int u4), .val (.int u5), .val (.int u6), .val (.int (1 : Int32)), .val (.int s0), .val (.int s1), .val (.int s2), .val (.int s3), .val (.int t0), .val (.int t2), .val (.int t1), .val (.int t3), .val (.int q1), .val (.int q2), .val (.ref b11), .val (.int (0 : Int32)), .unset] [(.int (lb1 t0 u5))])
      refine F_istore X17 at_236 (Ls' := #[.val (.int u1), .val (.int u2), .val (.int u3), .val (.int u4), .val (.int u5), .val (.int u6), .val (.int (1 : Int32)), .val (.int s0), .val (.int s1), .val (.int s2), .val (.int s3), .val (.int t0), .val (.int t2), .val (.int t1), .val (.int t3), .val (.int q1), .val (.int q2), .val (.ref b11), .val (.int (0 : Int32)), .val (.int (lb1 t0 u5))]) rfl (pc' := 238) rfl ?_
      refine F_iload X17 at_238 rfl (pc' := 240) rfl ?_
      refine F_iload X17 at_240 rfl (pc' := 242) rfl ?_
      refine F_iconst X17 at_242 (z := (1 : Int32)) (by decide) (pc' := 243) rfl ?_
      refine F_isub X17 at_243 (z := (-1 : Int32)) (by decide) (pc' := 244) rfl ?_
      refine F_icmp_ne X17 at_244 (by decide) (pt := 251) (by decide) (pc' := 247) rfl (fun hc244_18 => ?_) (fun hc244_18 => ?_)
      · refine F_iconst X17 at_251 (z := (0 : Int32)) (by decide) (pc' := 252) rfl ?_
        refine F_ireturn_boolean (z' := (0 : Int32)) X17 (by decide) at_252 rfl (by decide) (by decide) ?_
        exfalso; refine hc244_18 ?_; unfold lb1; simp only [Int32.lt_iff_toInt_lt] at hc163_16 ⊢; repeat' split
        all_goals first | rfl | (exfalso; omega)
      · refine F_iconst X17 at_247 (z := (1 : Int32)) (by decide) (pc' := 248) rfl ?_
        refine F_goto X17 at_248 (by decide) (pc' := 252) (by decide) ?_
        refine F_ireturn_boolean (z' := (1 : Int32)) X17 (by decide) at_252 rfl (by decide) (by decide) ?_
        exact rfl
    · refine F_iload X15 at_166 rfl (pc' := 168) rfl ?_
      refine F_iconst X15 at_168 (z := (1 : Int32)) (by decide) (pc' := 169) rfl ?_
      refine F_iadd X15 at_169 (z := (1 : Int32)) (by decide) (pc' := 170) rfl ?_
      refine F_istore X15 at_170 (Ls' := #[.val (.int u1), .val (.int u2), .val (.int u3), .val (.int u4), .val (.int u5), .val (.int u6), .val (.int (1 : Int32)), .val (.int s0), .val (.int s1), .val (.int s2), .val (.int s3), .val (.int t0), .val (.int t2), .val (.int t1), .val (.int t3), .val (.int q1), .val (.int q2), .val (.ref b11), .val (.int (1 : Int32)), .unset]) rfl (pc' := 172) rfl ?_
      refine F_iload X15 at_172 rfl (pc' := 174) rfl ?_
      refine F_iconst X15 at_174 (z := (1 : Int32)) (by decide) (pc' := 175) rfl ?_
      refine F_icmp_le X15 at_175 (by decide) (pt := 191) (by decide) (pc' := 178) rfl (fun _ => ?_) (fun q => absurd q (by decide))
      refine F_iload X15 at_191 rfl (pc' := 193) rfl ?_
      refine F_iconst X15 at_193 (z := (2 : Int32)) (by decide) (pc' := 194) rfl ?_
      refine F_icmp_le X15 at_194 (by decide) (pt := 210) (by decide) (pc' := 197) rfl (fun _ => ?_) (fun q => absurd q (by decide))
      refine F_iload X15 at_210 rfl (pc' := 212) rfl ?_
      refine F_iconst X15 at_212 (z := (3 : Int32)) (by decide) (pc' := 213) rfl ?_
      refine F_icmp_le X15 at_213 (by decide) (pt := 229) (by decide) (pc' := 216) rfl (fun _ => ?_) (fun q => absurd q (by decide))
      refine F_aload X15 at_229 rfl rfl (pc' := 231) rfl ?_
      refine F_iload X15 at_231 rfl (pc' := 233) rfl ?_
      refine F_callV X15 (y := (⟨"org/pulsewire/oru/IntList", "lastBelow", "(I)I"⟩ : MethodName)) (stk := []) (wd26 hw) (wd27 hw) (wd29 hw) (wd28 hw) (wd9 hw) (wd30 hw) (by decide) (a := b11) E15k_b11 (argsL := [(.int u5)]) (conL1 l Z a0 hw n0 h15 X15.size b11 u5 b12_fb t0 F15_values_b11 F15_size_b11 A15_b12_fb) (by decide) (W := 0) (Nat.le_of_ble_eq_true rfl) (by decide) (by decide) (by decide) rfl (lenOf pd2 rfl) rfl at_233 (pc' := 236) rfl fun T19 v19 h19 X19 q19 => ?_
      obtain ⟨rfl, rfl⟩ := q19
      replace X19 := X19.more (cells' := 2) (slots' := 18) (by decide) (by decide)
      show Jvm.OwnKit.Ends p e below s n0 16 128 _ T19 (mkF m 236 #[.val (.int u1), .val (.int u2), .val (.int u3), .val (.int u4), .val (.int u5), .val (.int u6), .val (.int (1 : Int32)), .val (.int s0), .val (.int s1), .val (.int s2), .val (.int s3), .val (.int t0), .val (.int t2), .val (.int t1), .val (.int t3), .val (.int q1), .val (.int q2), .val (.ref b11), .val (.int (1 : Int32)), .unset] [(.int (lb1 t0 u5))])
      refine F_istore X19 at_236 (Ls' := #[.val (.int u1), .val (.int u2), .val (.int u3), .val (.int u4), .val (.int u5), .val (.int u6), .val (.int (1 : Int32)), .val (.int s0), .val (.int s1), .val (.int s2), .val (.int s3), .val (.int t0), .val (.int t2), .val (.int t1), .val (.int t3), .val (.int q1), .val (.int q2), .val (.ref b11), .val (.int (1 : Int32)), .val (.int (lb1 t0 u5))]) rfl (pc' := 238) rfl ?_
      refine F_iload X19 at_238 rfl (pc' := 240) rfl ?_
      refine F_iload X19 at_240 rfl (pc' := 242) rfl ?_
      refine F_iconst X19 at_242 (z := (1 : Int32)) (by decide) (pc' := 243) rfl ?_
      refine F_isub X19 at_243 (z := (0 : Int32)) (by decide) (pc' := 244) rfl ?_
      refine F_icmp_ne X19 at_244 (by decide) (pt := 251) (by decide) (pc' := 247) rfl (fun hc244_20 => ?_) (fun hc244_20 => ?_)
      · refine F_iconst X19 at_251 (z := (0 : Int32)) (by decide) (pc' := 252) rfl ?_
        refine F_ireturn_boolean (z' := (0 : Int32)) X19 (by decide) at_252 rfl (by decide) (by decide) ?_
        exfalso; refine hc244_20 ?_; unfold lb1; simp only [Int32.lt_iff_toInt_lt] at hc163_16 ⊢; repeat' split
        all_goals first | rfl | (exfalso; omega)
      · refine F_iconst X19 at_247 (z := (1 : Int32)) (by decide) (pc' := 248) rfl ?_
        refine F_goto X19 at_248 (by decide) (pc' := 252) (by decide) ?_
        refine F_ireturn_boolean (z' := (1 : Int32)) X19 (by decide) at_252 rfl (by decide) (by decide) ?_
        exact rfl
  · refine F_iload X12 at_100 rfl (pc' := 102) rfl ?_
    refine F_if_le X12 at_102 (by decide) (pt := 112) (by decide) (pc' := 105) rfl (fun q => absurd q (by decide)) (fun _ => ?_)
    refine F_aload X12 at_105 rfl rfl (pc' := 107) rfl ?_
    refine F_iload X12 at_107 rfl (pc' := 109) rfl ?_
    refine F_callV X12 (y := (⟨"org/pulsewire/oru/IntList", "add", "(I)V"⟩ : MethodName)) (stk := []) (wd19 hw) (wd20 hw) (wd22 hw) (wd21 hw) (wd9 hw) (wd23 hw) (by decide) (a := b11) E12_b11 (argsL := [(.int t0)]) (conA0 l Z a0 hw n0 h12 X12.size b11 t0 b12_fb E12_b11 F12_values_b11 F12_size_b11 A12_b12_fb ge11 ge_b12_fb ne_b11_b12_fb) (by decide) (W := 0) (Nat.le_of_ble_eq_true rfl) (by decide) (by decide) (by decide) rfl (lenOf pd3 rfl) rfl at_109 (pc' := 112) rfl fun T21 v21 h21 X21 q21 => ?_
    obtain ⟨rfl, Kp21, F21_values_b11, F21_size_b11, A21_b12_fb⟩ := q21
    have E21k_b11 := E12_b11.keep Kp21
    have E21k_b12_fb := E12_b12_fb.keep Kp21
    replace X21 := X21.more (cells' := 2) (slots' := 18) (by decide) (by decide)
    show Jvm.OwnKit.Ends p e below s n0 16 128 _ T21 (mkF m 112 #[.val (.int u1), .val (.int u2), .val (.int u3), .val (.int u4), .val (.int u5), .val (.int u6), .val (.int (2 : Int32)), .val (.int s0), .val (.int s1), .val (.int s2), .val (.int s3), .val (.int t0), .val (.int t2), .val (.int t1), .val (.int t3), .val (.int q1), .val (.int q2), .val (.ref b11), .unset, .unset] [])
    refine F_iload X21 at_112 rfl (pc' := 114) rfl ?_
    refine F_iconst X21 at_114 (z := (1 : Int32)) (by decide) (pc' := 115) rfl ?_
    refine F_icmp_le X21 at_115 (by decide) (pt := 125) (by decide) (pc' := 118) rfl (fun q => absurd q (by decide)) (fun _ => ?_)
    refine F_aload X21 at_118 rfl rfl (pc' := 120) rfl ?_
    refine F_iload X21 at_120 rfl (pc' := 122) rfl ?_
    refine F_callV X21 (y := (⟨"org/pulsewire/oru/IntList", "add", "(I)V"⟩ : MethodName)) (stk := []) (wd19 hw) (wd20 hw) (wd22 hw) (wd21 hw) (wd9 hw) (wd23 hw) (by decide) (a := b11) E21k_b11 (argsL := [(.int q1)]) (conA1 l Z a0 hw n0 h21 X21.size b11 q1 b12_fb t0 E21k_b11 F21_values_b11 F21_size_b11 A21_b12_fb ge11 ge_b12_fb ne_b11_b12_fb) (by decide) (W := 0) (Nat.le_of_ble_eq_true rfl) (by decide) (by decide) (by decide) rfl (lenOf pd3 rfl) rfl at_122 (pc' := 125) rfl fun T22 v22 h22 X22 q22 => ?_
    obtain ⟨rfl, Kp22, F22_values_b11, F22_size_b11, A22_b12_fb⟩ := q22
    have E22k_b11 := E21k_b11.keep Kp22
    have E22k_b12_fb := E21k_b12_fb.keep Kp22
    replace X22 := X22.more (cells' := 2) (slots' := 18) (by decide) (by decide)
    show Jvm.OwnKit.Ends p e below s n0 16 128 _ T22 (mkF m 125 #[.val (.int u1), .val (.int u2), .val (.int u3), .val (.int u4), .val (.int u5), .val (.int u6), .val (.int (2 : Int32)), .val (.int s0), .val (.int s1), .val (.int s2), .val (.int s3), .val (.int t0), .val (.int t2), .val (.int t1), .val (.int t3), .val (.int q1), .val (.int q2), .val (.ref b11), .unset, .unset] [])
    refine F_iload X22 at_125 rfl (pc' := 127) rfl ?_
    refine F_iconst X22 at_127 (z := (2 : Int32)) (by decide) (pc' := 128) rfl ?_
    refine F_icmp_le X22 at_128 (by decide) (pt := 138) (by decide) (pc' := 131) rfl (fun _ => ?_) (fun q => absurd q (by decide))
    refine F_iload X22 at_138 rfl (pc' := 140) rfl ?_
    refine F_iconst X22 at_140 (z := (3 : Int32)) (by decide) (pc' := 141) rfl ?_
    refine F_icmp_le X22 at_141 (by decide) (pt := 151) (by decide) (pc' := 144) rfl (fun _ => ?_) (fun q => absurd q (by decide))
    refine F_iconst X22 at_151 (z := (0 : Int32)) (by decide) (pc' := 152) rfl ?_
    refine F_istore X22 at_152 (Ls' := #[.val (.int u1), .val (.int u2), .val (.int u3), .val (.int u4), .val (.int u5), .val (.int u6), .val (.int (2 : Int32)), .val (.int s0), .val (.int s1), .val (.int s2), .val (.int s3), .val (.int t0), .val (.int t2), .val (.int t1), .val (.int t3), .val (.int q1), .val (.int q2), .val (.ref b11), .val (.int (0 : Int32)), .unset]) rfl (pc' := 154) rfl ?_
    refine F_iload X22 at_154 rfl (pc' := 156) rfl ?_
    refine F_if_le X22 at_156 (by decide) (pt := 172) (by decide) (pc' := 159) rfl (fun q => absurd q (by decide)) (fun _ => ?_)
    refine F_iload X22 at_159 rfl (pc' := 161) rfl ?_
    refine F_iload X22 at_161 rfl (pc' := 163) rfl ?_
    refine F_icmp_ge X22 at_163 (by decide) (pt := 172) (by decide) (pc' := 166) rfl (fun hc163_23 => ?_) (fun hc163_23 => ?_)
    · refine F_iload X22 at_172 rfl (pc' := 174) rfl ?_
      refine F_iconst X22 at_174 (z := (1 : Int32)) (by decide) (pc' := 175) rfl ?_
      refine F_icmp_le X22 at_175 (by decide) (pt := 191) (by decide) (pc' := 178) rfl (fun q => absurd q (by decide)) (fun _ => ?_)
      refine F_iload X22 at_178 rfl (pc' := 180) rfl ?_
      refine F_iload X22 at_180 rfl (pc' := 182) rfl ?_
      refine F_icmp_ge X22 at_182 (by decide) (pt := 191) (by decide) (pc' := 185) rfl (fun hc182_24 => ?_) (fun hc182_24 => ?_)
      · refine F_iload X22 at_191 rfl (pc' := 193) rfl ?_
        refine F_iconst X22 at_193 (z := (2 : Int32)) (by decide) (pc' := 194) rfl ?_
        refine F_icmp_le X22 at_194 (by decide) (pt := 210) (by decide) (pc' := 197) rfl (fun _ => ?_) (fun q => absurd q (by decide))
        refine F_iload X22 at_210 rfl (pc' := 212) rfl ?_
        refine F_iconst X22 at_212 (z := (3 : Int32)) (by decide) (pc' := 213) rfl ?_
        refine F_icmp_le X22 at_213 (by decide) (pt := 229) (by decide) (pc' := 216) rfl (fun _ => ?_) (fun q => absurd q (by decide))
        refine F_aload X22 at_229 rfl rfl (pc' := 231) rfl ?_
        refine F_iload X22 at_231 rfl (pc' := 233) rfl ?_
        refine F_callV X22 (y := (⟨"org/pulsewire/oru/IntList", "lastBelow", "(I)I"⟩ : MethodName)) (stk := []) (wd26 hw) (wd27 hw) (wd29 hw) (wd28 hw) (wd9 hw) (wd30 hw) (by decide) (a := b11) E22k_b11 (argsL := [(.int u5)]) (conL2 l Z a0 hw n0 h22 X22.size b11 u5 b12_fb t0 q1 F22_values_b11 F22_size_b11 A22_b12_fb) (by decide) (W := 0) (Nat.le_of_ble_eq_true rfl) (by decide) (by decide) (by decide) rfl (lenOf pd2 rfl) rfl at_233 (pc' := 236) rfl fun T25 v25 h25 X25 q25 => ?_
        obtain ⟨rfl, rfl⟩ := q25
        replace X25 := X25.more (cells' := 2) (slots' := 18) (by decide) (by decide)
        show Jvm.OwnKit.Ends p e below s n0 16 128 _ T25 (mkF m 236 #[.val (.int u1), .val (.int u2), .val (.int u3), .val (.int u4), .val (.int u5), .val (.int u6), .val (.int (2 : Int32)), .val (.int s0), .val (.int s1), .val (.int s2), .val (.int s3), .val (.int t0), .val (.int t2), .val (.int t1), .val (.int t3), .val (.int q1), .val (.int q2), .val (.ref b11), .val (.int (0 : Int32)), .unset] [(.int (lb2 t0 q1 u5))])
        refine F_istore X25 at_236 (Ls' := #[.val (.int u1), .val (.int u2), .val (.int u3), .val (.int u4), .val (.int u5), .val (.int u6), .val (.int (2 : Int32)), .val (.int s0), .val (.int s1), .val (.int s2), .val (.int s3), .val (.int t0), .val (.int t2), .val (.int t1), .val (.int t3), .val (.int q1), .val (.int q2), .val (.ref b11), .val (.int (0 : Int32)), .val (.int (lb2 t0 q1 u5))]) rfl (pc' := 238) rfl ?_
        refine F_iload X25 at_238 rfl (pc' := 240) rfl ?_
        refine F_iload X25 at_240 rfl (pc' := 242) rfl ?_
        refine F_iconst X25 at_242 (z := (1 : Int32)) (by decide) (pc' := 243) rfl ?_
        refine F_isub X25 at_243 (z := (-1 : Int32)) (by decide) (pc' := 244) rfl ?_
        refine F_icmp_ne X25 at_244 (by decide) (pt := 251) (by decide) (pc' := 247) rfl (fun hc244_26 => ?_) (fun hc244_26 => ?_)
        · refine F_iconst X25 at_251 (z := (0 : Int32)) (by decide) (pc' := 252) rfl ?_
          refine F_ireturn_boolean (z' := (0 : Int32)) X25 (by decide) at_252 rfl (by decide) (by decide) ?_
          exfalso; refine hc244_26 ?_; unfold lb2; simp only [Int32.lt_iff_toInt_lt] at hc163_23 hc182_24 ⊢; repeat' split
          all_goals first | rfl | (exfalso; omega)
        · refine F_iconst X25 at_247 (z := (1 : Int32)) (by decide) (pc' := 248) rfl ?_
          refine F_goto X25 at_248 (by decide) (pc' := 252) (by decide) ?_
          refine F_ireturn_boolean (z' := (1 : Int32)) X25 (by decide) at_252 rfl (by decide) (by decide) ?_
          exact rfl
      · refine F_iload X22 at_185 rfl (pc' := 187) rfl ?_
        refine F_iconst X22 at_187 (z := (1 : Int32)) (by decide) (pc' := 188) rfl ?_
        refine F_iadd X22 at_188 (z := (1 : Int32)) (by decide) (pc' := 189) rfl ?_
        refine F_istore X22 at_189 (Ls' := #[.val (.int u1), .val (.int u2), .val (.int u3), .val (.int u4), .val (.int u5), .val (.int u6), .val (.int (2 : Int32)), .val (.int s0), .val (.int s1), .val (.int s2), .val (.int s3), .val (.int t0), .val (.int t2), .val (.int t1), .val (.int t3), .val (.int q1), .val (.int q2), .val (.ref b11), .val (.int (1 : Int32)), .unset]) rfl (pc' := 191) rfl ?_
        refine F_iload X22 at_191 rfl (pc' := 193) rfl ?_
        refine F_iconst X22 at_193 (z := (2 : Int32)) (by decide) (pc' := 194) rfl ?_
        refine F_icmp_le X22 at_194 (by decide) (pt := 210) (by decide) (pc' := 197) rfl (fun _ => ?_) (fun q => absurd q (by decide))
        refine F_iload X22 at_210 rfl (pc' := 212) rfl ?_
        refine F_iconst X22 at_212 (z := (3 : Int32)) (by decide) (pc' := 213) rfl ?_
        refine F_icmp_le X22 at_213 (by decide) (pt := 229) (by decide) (pc' := 216) rfl (fun _ => ?_) (fun q => absurd q (by decide))
        refine F_aload X22 at_229 rfl rfl (pc' := 231) rfl ?_
        refine F_iload X22 at_231 rfl (pc' := 233) rfl ?_
        refine F_callV X22 (y := (⟨"org/pulsewire/oru/IntList", "lastBelow", "(I)I"⟩ : MethodName)) (stk := []) (wd26 hw) (wd27 hw) (wd29 hw) (wd28 hw) (wd9 hw) (wd30 hw) (by decide) (a := b11) E22k_b11 (argsL := [(.int u5)]) (conL2 l Z a0 hw n0 h22 X22.size b11 u5 b12_fb t0 q1 F22_values_b11 F22_size_b11 A22_b12_fb) (by decide) (W := 0) (Nat.le_of_ble_eq_true rfl) (by decide) (by decide) (by decide) rfl (lenOf pd2 rfl) rfl at_233 (pc' := 236) rfl fun T27 v27 h27 X27 q27 => ?_
        obtain ⟨rfl, rfl⟩ := q27
        replace X27 := X27.more (cells' := 2) (slots' := 18) (by decide) (by decide)
        show Jvm.OwnKit.Ends p e below s n0 16 128 _ T27 (mkF m 236 #[.val (.int u1), .val (.int u2), .val (.int u3), .val (.int u4), .val (.int u5), .val (.int u6), .val (.int (2 : Int32)), .val (.int s0), .val (.int s1), .val (.int s2), .val (.int s3), .val (.int t0), .val (.int t2), .val (.int t1), .val (.int t3), .val (.int q1), .val (.int q2), .val (.ref b11), .val (.int (1 : Int32)), .unset] [(.int (lb2 t0 q1 u5))])
        refine F_istore X27 at_236 (Ls' := #[.val (.int u1), .val (.int u2), .val (.int u3), .val (.int u4), .val (.int u5), .val (.int u6), .val (.int (2 : Int32)), .val (.int s0), .val (.int s1), .val (.int s2), .val (.int s3), .val (.int t0), .val (.int t2), .val (.int t1), .val (.int t3), .val (.int q1), .val (.int q2), .val (.ref b11), .val (.int (1 : Int32)), .val (.int (lb2 t0 q1 u5))]) rfl (pc' := 238) rfl ?_
        refine F_iload X27 at_238 rfl (pc' := 240) rfl ?_
        refine F_iload X27 at_240 rfl (pc' := 242) rfl ?_
        refine F_iconst X27 at_242 (z := (1 : Int32)) (by decide) (pc' := 243) rfl ?_
        refine F_isub X27 at_243 (z := (0 : Int32)) (by decide) (pc' := 244) rfl ?_
        refine F_icmp_ne X27 at_244 (by decide) (pt := 251) (by decide) (pc' := 247) rfl (fun hc244_28 => ?_) (fun hc244_28 => ?_)
        · refine F_iconst X27 at_251 (z := (0 : Int32)) (by decide) (pc' := 252) rfl ?_
          refine F_ireturn_boolean (z' := (0 : Int32)) X27 (by decide) at_252 rfl (by decide) (by decide) ?_
          exfalso; refine hc244_28 ?_; unfold lb2; simp only [Int32.lt_iff_toInt_lt] at hc163_23 hc182_24 ⊢; repeat' split
          all_goals first | rfl | (exfalso; omega)
        · refine F_iconst X27 at_247 (z := (1 : Int32)) (by decide) (pc' := 248) rfl ?_
          refine F_goto X27 at_248 (by decide) (pc' := 252) (by decide) ?_
          refine F_ireturn_boolean (z' := (1 : Int32)) X27 (by decide) at_252 rfl (by decide) (by decide) ?_
          exact rfl
    · refine F_iload X22 at_166 rfl (pc' := 168) rfl ?_
      refine F_iconst X22 at_168 (z := (1 : Int32)) (by decide) (pc' := 169) rfl ?_
      refine F_iadd X22 at_169 (z := (1 : Int32)) (by decide) (pc' := 170) rfl ?_
      refine F_istore X22 at_170 (Ls' := #[.val (.int u1), .val (.int u2), .val (.int u3), .val (.int u4), .val (.int u5), .val (.int u6), .val (.int (2 : Int32)), .val (.int s0), .val (.int s1), .val (.int s2), .val (.int s3), .val (.int t0), .val (.int t2), .val (.int t1), .val (.int t3), .val (.int q1), .val (.int q2), .val (.ref b11), .val (.int (1 : Int32)), .unset]) rfl (pc' := 172) rfl ?_
      refine F_iload X22 at_172 rfl (pc' := 174) rfl ?_
      refine F_iconst X22 at_174 (z := (1 : Int32)) (by decide) (pc' := 175) rfl ?_
      refine F_icmp_le X22 at_175 (by decide) (pt := 191) (by decide) (pc' := 178) rfl (fun q => absurd q (by decide)) (fun _ => ?_)
      refine F_iload X22 at_178 rfl (pc' := 180) rfl ?_
      refine F_iload X22 at_180 rfl (pc' := 182) rfl ?_
      refine F_icmp_ge X22 at_182 (by decide) (pt := 191) (by decide) (pc' := 185) rfl (fun hc182_29 => ?_) (fun hc182_29 => ?_)
      · refine F_iload X22 at_191 rfl (pc' := 193) rfl ?_
        refine F_iconst X22 at_193 (z := (2 : Int32)) (by decide) (pc' := 194) rfl ?_
        refine F_icmp_le X22 at_194 (by decide) (pt := 210) (by decide) (pc' := 197) rfl (fun _ => ?_) (fun q => absurd q (by decide))
        refine F_iload X22 at_210 rfl (pc' := 212) rfl ?_
        refine F_iconst X22 at_212 (z := (3 : Int32)) (by decide) (pc' := 213) rfl ?_
        refine F_icmp_le X22 at_213 (by decide) (pt := 229) (by decide) (pc' := 216) rfl (fun _ => ?_) (fun q => absurd q (by decide))
        refine F_aload X22 at_229 rfl rfl (pc' := 231) rfl ?_
        refine F_iload X22 at_231 rfl (pc' := 233) rfl ?_
        refine F_callV X22 (y := (⟨"org/pulsewire/oru/IntList", "lastBelow", "(I)I"⟩ : MethodName)) (stk := []) (wd26 hw) (wd27 hw) (wd29 hw) (wd28 hw) (wd9 hw) (wd30 hw) (by decide) (a := b11) E22k_b11 (argsL := [(.int u5)]) (conL2 l Z a0 hw n0 h22 X22.size b11 u5 b12_fb t0 q1 F22_values_b11 F22_size_b11 A22_b12_fb) (by decide) (W := 0) (Nat.le_of_ble_eq_true rfl) (by decide) (by decide) (by decide) rfl (lenOf pd2 rfl) rfl at_233 (pc' := 236) rfl fun T30 v30 h30 X30 q30 => ?_
        obtain ⟨rfl, rfl⟩ := q30
        replace X30 := X30.more (cells' := 2) (slots' := 18) (by decide) (by decide)
        show Jvm.OwnKit.Ends p e below s n0 16 128 _ T30 (mkF m 236 #[.val (.int u1), .val (.int u2), .val (.int u3), .val (.int u4), .val (.int u5), .val (.int u6), .val (.int (2 : Int32)), .val (.int s0), .val (.int s1), .val (.int s2), .val (.int s3), .val (.int t0), .val (.int t2), .val (.int t1), .val (.int t3), .val (.int q1), .val (.int q2), .val (.ref b11), .val (.int (1 : Int32)), .unset] [(.int (lb2 t0 q1 u5))])
        refine F_istore X30 at_236 (Ls' := #[.val (.int u1), .val (.int u2), .val (.int u3), .val (.int u4), .val (.int u5), .val (.int u6), .val (.int (2 : Int32)), .val (.int s0), .val (.int s1), .val (.int s2), .val (.int s3), .val (.int t0), .val (.int t2), .val (.int t1), .val (.int t3), .val (.int q1), .val (.int q2), .val (.ref b11), .val (.int (1 : Int32)), .val (.int (lb2 t0 q1 u5))]) rfl (pc' := 238) rfl ?_
        refine F_iload X30 at_238 rfl (pc' := 240) rfl ?_
        refine F_iload X30 at_240 rfl (pc' := 242) rfl ?_
        refine F_iconst X30 at_242 (z := (1 : Int32)) (by decide) (pc' := 243) rfl ?_
        refine F_isub X30 at_243 (z := (0 : Int32)) (by decide) (pc' := 244) rfl ?_
        refine F_icmp_ne X30 at_244 (by decide) (pt := 251) (by decide) (pc' := 247) rfl (fun hc244_31 => ?_) (fun hc244_31 => ?_)
        · refine F_iconst X30 at_251 (z := (0 : Int32)) (by decide) (pc' := 252) rfl ?_
          refine F_ireturn_boolean (z' := (0 : Int32)) X30 (by decide) at_252 rfl (by decide) (by decide) ?_
          exfalso; refine hc244_31 ?_; unfold lb2; simp only [Int32.lt_iff_toInt_lt] at hc163_23 hc182_29 ⊢; repeat' split
          all_goals first | rfl | (exfalso; omega)
        · refine F_iconst X30 at_247 (z := (1 : Int32)) (by decide) (pc' := 248) rfl ?_
          refine F_goto X30 at_248 (by decide) (pc' := 252) (by decide) ?_
          refine F_ireturn_boolean (z' := (1 : Int32)) X30 (by decide) at_252 rfl (by decide) (by decide) ?_
          exact rfl
      · refine F_iload X22 at_185 rfl (pc' := 187) rfl ?_
        refine F_iconst X22 at_187 (z := (1 : Int32)) (by decide) (pc' := 188) rfl ?_
        refine F_iadd X22 at_188 (z := (2 : Int32)) (by decide) (pc' := 189) rfl ?_
        refine F_istore X22 at_189 (Ls' := #[.val (.int u1), .val (.int u2), .val (.int u3), .val (.int u4), .val (.int u5), .val (.int u6), .val (.int (2 : Int32)), .val (.int s0), .val (.int s1), .val (.int s2), .val (.int s3), .val (.int t0), .val (.int t2), .val (.int t1), .val (.int t3), .val (.int q1), .val (.int q2), .val (.ref b11), .val (.int (2 : Int32)), .unset]) rfl (pc' := 191) rfl ?_
        refine F_iload X22 at_191 rfl (pc' := 193) rfl ?_
        refine F_iconst X22 at_193 (z := (2 : Int32)) (by decide) (pc' := 194) rfl ?_
        refine F_icmp_le X22 at_194 (by decide) (pt := 210) (by decide) (pc' := 197) rfl (fun _ => ?_) (fun q => absurd q (by decide))
        refine F_iload X22 at_210 rfl (pc' := 212) rfl ?_
        refine F_iconst X22 at_212 (z := (3 : Int32)) (by decide) (pc' := 213) rfl ?_
        refine F_icmp_le X22 at_213 (by decide) (pt := 229) (by decide) (pc' := 216) rfl (fun _ => ?_) (fun q => absurd q (by decide))
        refine F_aload X22 at_229 rfl rfl (pc' := 231) rfl ?_
        refine F_iload X22 at_231 rfl (pc' := 233) rfl ?_
        refine F_callV X22 (y := (⟨"org/pulsewire/oru/IntList", "lastBelow", "(I)I"⟩ : MethodName)) (stk := []) (wd26 hw) (wd27 hw) (wd29 hw) (wd28 hw) (wd9 hw) (wd30 hw) (by decide) (a := b11) E22k_b11 (argsL := [(.int u5)]) (conL2 l Z a0 hw n0 h22 X22.size b11 u5 b12_fb t0 q1 F22_values_b11 F22_size_b11 A22_b12_fb) (by decide) (W := 0) (Nat.le_of_ble_eq_true rfl) (by decide) (by decide) (by decide) rfl (lenOf pd2 rfl) rfl at_233 (pc' := 236) rfl fun T32 v32 h32 X32 q32 => ?_
        obtain ⟨rfl, rfl⟩ := q32
        replace X32 := X32.more (cells' := 2) (slots' := 18) (by decide) (by decide)
        show Jvm.OwnKit.Ends p e below s n0 16 128 _ T32 (mkF m 236 #[.val (.int u1), .val (.int u2), .val (.int u3), .val (.int u4), .val (.int u5), .val (.int u6), .val (.int (2 : Int32)), .val (.int s0), .val (.int s1), .val (.int s2), .val (.int s3), .val (.int t0), .val (.int t2), .val (.int t1), .val (.int t3), .val (.int q1), .val (.int q2), .val (.ref b11), .val (.int (2 : Int32)), .unset] [(.int (lb2 t0 q1 u5))])
        refine F_istore X32 at_236 (Ls' := #[.val (.int u1), .val (.int u2), .val (.int u3), .val (.int u4), .val (.int u5), .val (.int u6), .val (.int (2 : Int32)), .val (.int s0), .val (.int s1), .val (.int s2), .val (.int s3), .val (.int t0), .val (.int t2), .val (.int t1), .val (.int t3), .val (.int q1), .val (.int q2), .val (.ref b11), .val (.int (2 : Int32)), .val (.int (lb2 t0 q1 u5))]) rfl (pc' := 238) rfl ?_
        refine F_iload X32 at_238 rfl (pc' := 240) rfl ?_
        refine F_iload X32 at_240 rfl (pc' := 242) rfl ?_
        refine F_iconst X32 at_242 (z := (1 : Int32)) (by decide) (pc' := 243) rfl ?_
        refine F_isub X32 at_243 (z := (1 : Int32)) (by decide) (pc' := 244) rfl ?_
        refine F_icmp_ne X32 at_244 (by decide) (pt := 251) (by decide) (pc' := 247) rfl (fun hc244_33 => ?_) (fun hc244_33 => ?_)
        · refine F_iconst X32 at_251 (z := (0 : Int32)) (by decide) (pc' := 252) rfl ?_
          refine F_ireturn_boolean (z' := (0 : Int32)) X32 (by decide) at_252 rfl (by decide) (by decide) ?_
          exfalso; refine hc244_33 ?_; unfold lb2; simp only [Int32.lt_iff_toInt_lt] at hc163_23 hc182_29 ⊢; repeat' split
          all_goals first | rfl | (exfalso; omega)
        · refine F_iconst X32 at_247 (z := (1 : Int32)) (by decide) (pc' := 248) rfl ?_
          refine F_goto X32 at_248 (by decide) (pc' := 252) (by decide) ?_
          refine F_ireturn_boolean (z' := (1 : Int32)) X32 (by decide) at_252 rfl (by decide) (by decide) ?_
          exact rfl
  · refine F_iload X12 at_100 rfl (pc' := 102) rfl ?_
    refine F_if_le X12 at_102 (by decide) (pt := 112) (by decide) (pc' := 105) rfl (fun q => absurd q (by decide)) (fun _ => ?_)
    refine F_aload X12 at_105 rfl rfl (pc' := 107) rfl ?_
    refine F_iload X12 at_107 rfl (pc' := 109) rfl ?_
    refine F_callV X12 (y := (⟨"org/pulsewire/oru/IntList", "add", "(I)V"⟩ : MethodName)) (stk := []) (wd19 hw) (wd20 hw) (wd22 hw) (wd21 hw) (wd9 hw) (wd23 hw) (by decide) (a := b11) E12_b11 (argsL := [(.int t0)]) (conA0 l Z a0 hw n0 h12 X12.size b11 t0 b12_fb E12_b11 F12_values_b11 F12_size_b11 A12_b12_fb ge11 ge_b12_fb ne_b11_b12_fb) (by decide) (W := 0) (Nat.le_of_ble_eq_true rfl) (by decide) (by decide) (by decide) rfl (lenOf pd3 rfl) rfl at_109 (pc' := 112) rfl fun T34 v34 h34 X34 q34 => ?_
    obtain ⟨rfl, Kp34, F34_values_b11, F34_size_b11, A34_b12_fb⟩ := q34
    have E34k_b11 := E12_b11.keep Kp34
    have E34k_b12_fb := E12_b12_fb.keep Kp34
    replace X34 := X34.more (cells' := 2) (slots' := 18) (by decide) (by decide)
    show Jvm.OwnKit.Ends p e below s n0 16 128 _ T34 (mkF m 112 #[.val (.int u1), .val (.int u2), .val (.int u3), .val (.int u4), .val (.int u5), .val (.int u6), .val (.int (3 : Int32)), .val (.int s0), .val (.int s1), .val (.int s2), .val (.int s3), .val (.int t0), .val (.int t2), .val (.int t1), .val (.int t3), .val (.int q1), .val (.int q2), .val (.ref b11), .unset, .unset] [])
    refine F_iload X34 at_112 rfl (pc' := 114) rfl ?_
    refine F_iconst X34 at_114 (z := (1 : Int32)) (by decide) (pc' := 115) rfl ?_
    refine F_icmp_le X34 at_115 (by decide) (pt := 125) (by decide) (pc' := 118) rfl (fun q => absurd q (by decide)) (fun _ => ?_)
    refine F_aload X34 at_118 rfl rfl (pc' := 120) rfl ?_
    refine F_iload X34 at_120 rfl (pc' := 122) rfl ?_
    refine F_callV X34 (y := (⟨"org/pulsewire/oru/IntList", "add", "(I)V"⟩ : MethodName)) (stk := []) (wd19 hw) (wd20 hw) (wd22 hw) (wd21 hw) (wd9 hw) (wd23 hw) (by decide) (a := b11) E34k_b11 (argsL := [(.int q1)]) (conA1 l Z a0 hw n0 h34 X34.size b11 q1 b12_fb t0 E34k_b11 F34_values_b11 F34_size_b11 A34_b12_fb ge11 ge_b12_fb ne_b11_b12_fb) (by decide) (W := 0) (Nat.le_of_ble_eq_true rfl) (by decide) (by decide) (by decide) rfl (lenOf pd3 rfl) rfl at_122 (pc' := 125) rfl fun T35 v35 h35 X35 q35 => ?_
    obtain ⟨rfl, Kp35, F35_values_b11, F35_size_b11, A35_b12_fb⟩ := q35
    have E35k_b11 := E34k_b11.keep Kp35
    have E35k_b12_fb := E34k_b12_fb.keep Kp35
    replace X35 := X35.more (cells' := 2) (slots' := 18) (by decide) (by decide)
    show Jvm.OwnKit.Ends p e below s n0 16 128 _ T35 (mkF m 125 #[.val (.int u1), .val (.int u2), .val (.int u3), .val (.int u4), .val (.int u5), .val (.int u6), .val (.int (3 : Int32)), .val (.int s0), .val (.int s1), .val (.int s2), .val (.int s3), .val (.int t0), .val (.int t2), .val (.int t1), .val (.int t3), .val (.int q1), .val (.int q2), .val (.ref b11), .unset, .unset] [])
    refine F_iload X35 at_125 rfl (pc' := 127) rfl ?_
    refine F_iconst X35 at_127 (z := (2 : Int32)) (by decide) (pc' := 128) rfl ?_
    refine F_icmp_le X35 at_128 (by decide) (pt := 138) (by decide) (pc' := 131) rfl (fun q => absurd q (by decide)) (fun _ => ?_)
    refine F_aload X35 at_131 rfl rfl (pc' := 133) rfl ?_
    refine F_iload X35 at_133 rfl (pc' := 135) rfl ?_
    refine F_callV X35 (y := (⟨"org/pulsewire/oru/IntList", "add", "(I)V"⟩ : MethodName)) (stk := []) (wd19 hw) (wd20 hw) (wd22 hw) (wd21 hw) (wd9 hw) (wd23 hw) (by decide) (a := b11) E35k_b11 (argsL := [(.int q2)]) (conA2 l Z a0 hw n0 h35 X35.size b11 q2 b12_fb t0 q1 E35k_b11 F35_values_b11 F35_size_b11 A35_b12_fb ge11 ge_b12_fb ne_b11_b12_fb) (by decide) (W := 0) (Nat.le_of_ble_eq_true rfl) (by decide) (by decide) (by decide) rfl (lenOf pd3 rfl) rfl at_135 (pc' := 138) rfl fun T36 v36 h36 X36 q36 => ?_
    obtain ⟨rfl, Kp36, F36_values_b11, F36_size_b11, A36_b12_fb⟩ := q36
    have E36k_b11 := E35k_b11.keep Kp36
    have E36k_b12_fb := E35k_b12_fb.keep Kp36
    replace X36 := X36.more (cells' := 2) (slots' := 18) (by decide) (by decide)
    show Jvm.OwnKit.Ends p e below s n0 16 128 _ T36 (mkF m 138 #[.val (.int u1), .val (.int u2), .val (.int u3), .val (.int u4), .val (.int u5), .val (.int u6), .val (.int (3 : Int32)), .val (.int s0), .val (.int s1), .val (.int s2), .val (.int s3), .val (.int t0), .val (.int t2), .val (.int t1), .val (.int t3), .val (.int q1), .val (.int q2), .val (.ref b11), .unset, .unset] [])
    refine F_iload X36 at_138 rfl (pc' := 140) rfl ?_
    refine F_iconst X36 at_140 (z := (3 : Int32)) (by decide) (pc' := 141) rfl ?_
    refine F_icmp_le X36 at_141 (by decide) (pt := 151) (by decide) (pc' := 144) rfl (fun _ => ?_) (fun q => absurd q (by decide))
    refine F_iconst X36 at_151 (z := (0 : Int32)) (by decide) (pc' := 152) rfl ?_
    refine F_istore X36 at_152 (Ls' := #[.val (.int u1), .val (.int u2), .val (.int u3), .val (.int u4), .val (.int u5), .val (.int u6), .val (.int (3 : Int32)), .val (.int s0), .val (.int s1), .val (.int s2), .val (.int s3), .val (.int t0), .val (.int t2), .val (.int t1), .val (.int t3), .val (.int q1), .val (.int q2), .val (.ref b11), .val (.int (0 : Int32)), .unset]) rfl (pc' := 154) rfl ?_
    refine F_iload X36 at_154 rfl (pc' := 156) rfl ?_
    refine F_if_le X36 at_156 (by decide) (pt := 172) (by decide) (pc' := 159) rfl (fun q => absurd q (by decide)) (fun _ => ?_)
    refine F_iload X36 at_159 rfl (pc' := 161) rfl ?_
    refine F_iload X36 at_161 rfl (pc' := 163) rfl ?_
    refine F_icmp_ge X36 at_163 (by decide) (pt := 172) (by decide) (pc' := 166) rfl (fun hc163_37 => ?_) (fun hc163_37 => ?_)
    · refine F_iload X36 at_172 rfl (pc' := 174) rfl ?_
      refine F_iconst X36 at_174 (z := (1 : Int32)) (by decide) (pc' := 175) rfl ?_
      refine F_icmp_le X36 at_175 (by decide) (pt := 191) (by decide) (pc' := 178) rfl (fun q => absurd q (by decide)) (fun _ => ?_)
      refine F_iload X36 at_178 rfl (pc' := 180) rfl ?_
      refine F_iload X36 at_180 rfl (pc' := 182) rfl ?_
      refine F_icmp_ge X36 at_182 (by decide) (pt := 191) (by decide) (pc' := 185) rfl (fun hc182_38 => ?_) (fun hc182_38 => ?_)
      · refine F_iload X36 at_191 rfl (pc' := 193) rfl ?_
        refine F_iconst X36 at_193 (z := (2 : Int32)) (by decide) (pc' := 194) rfl ?_
        refine F_icmp_le X36 at_194 (by decide) (pt := 210) (by decide) (pc' := 197) rfl (fun q => absurd q (by decide)) (fun _ => ?_)
        refine F_iload X36 at_197 rfl (pc' := 199) rfl ?_
        refine F_iload X36 at_199 rfl (pc' := 201) rfl ?_
        refine F_icmp_ge X36 at_201 (by decide) (pt := 210) (by decide) (pc' := 204) rfl (fun hc201_39 => ?_) (fun hc201_39 => ?_)
        · refine F_iload X36 at_210 rfl (pc' := 212) rfl ?_
          refine F_iconst X36 at_212 (z := (3 : Int32)) (by decide) (pc' := 213) rfl ?_
          refine F_icmp_le X36 at_213 (by decide) (pt := 229) (by decide) (pc' := 216) rfl (fun _ => ?_) (fun q => absurd q (by decide))
          refine F_aload X36 at_229 rfl rfl (pc' := 231) rfl ?_
          refine F_iload X36 at_231 rfl (pc' := 233) rfl ?_
          refine F_callV X36 (y := (⟨"org/pulsewire/oru/IntList", "lastBelow", "(I)I"⟩ : MethodName)) (stk := []) (wd26 hw) (wd27 hw) (wd29 hw) (wd28 hw) (wd9 hw) (wd30 hw) (by decide) (a := b11) E36k_b11 (argsL := [(.int u5)]) (conL3 l Z a0 hw n0 h36 X36.size b11 u5 b12_fb t0 q1 q2 F36_values_b11 F36_size_b11 A36_b12_fb) (by decide) (W := 0) (Nat.le_of_ble_eq_true rfl) (by decide) (by decide) (by decide) rfl (lenOf pd2 rfl) rfl at_233 (pc' := 236) rfl fun T40 v40 h40 X40 q40 => ?_
          obtain ⟨rfl, rfl⟩ := q40
          replace X40 := X40.more (cells' := 2) (slots' := 18) (by decide) (by decide)
          show Jvm.OwnKit.Ends p e below s n0 16 128 _ T40 (mkF m 236 #[.val (.int u1), .val (.int u2), .val (.int u3), .val (.int u4), .val (.int u5), .val (.int u6), .val (.int (3 : Int32)), .val (.int s0), .val (.int s1), .val (.int s2), .val (.int s3), .val (.int t0), .val (.int t2), .val (.int t1), .val (.int t3), .val (.int q1), .val (.int q2), .val (.ref b11), .val (.int (0 : Int32)), .unset] [(.int (lb3 t0 q1 q2 u5))])
          refine F_istore X40 at_236 (Ls' := #[.val (.int u1), .val (.int u2), .val (.int u3), .val (.int u4), .val (.int u5), .val (.int u6), .val (.int (3 : Int32)), .val (.int s0), .val (.int s1), .val (.int s2), .val (.int s3), .val (.int t0), .val (.int t2), .val (.int t1), .val (.int t3), .val (.int q1), .val (.int q2), .val (.ref b11), .val (.int (0 : Int32)), .val (.int (lb3 t0 q1 q2 u5))]) rfl (pc' := 238) rfl ?_
          refine F_iload X40 at_238 rfl (pc' := 240) rfl ?_
          refine F_iload X40 at_240 rfl (pc' := 242) rfl ?_
          refine F_iconst X40 at_242 (z := (1 : Int32)) (by decide) (pc' := 243) rfl ?_
          refine F_isub X40 at_243 (z := (-1 : Int32)) (by decide) (pc' := 244) rfl ?_
          refine F_icmp_ne X40 at_244 (by decide) (pt := 251) (by decide) (pc' := 247) rfl (fun hc244_41 => ?_) (fun hc244_41 => ?_)
          · refine F_iconst X40 at_251 (z := (0 : Int32)) (by decide) (pc' := 252) rfl ?_
            refine F_ireturn_boolean (z' := (0 : Int32)) X40 (by decide) at_252 rfl (by decide) (by decide) ?_
            exfalso; refine hc244_41 ?_; unfold lb3; simp only [Int32.lt_iff_toInt_lt] at hc163_37 hc182_38 hc201_39 ⊢; repeat' split
            all_goals first | rfl | (exfalso; omega)
          · refine F_iconst X40 at_247 (z := (1 : Int32)) (by decide) (pc' := 248) rfl ?_
            refine F_goto X40 at_248 (by decide) (pc' := 252) (by decide) ?_
            refine F_ireturn_boolean (z' := (1 : Int32)) X40 (by decide) at_252 rfl (by decide) (by decide) ?_
            exact rfl
        · refine F_iload X36 at_204 rfl (pc' := 206) rfl ?_
          refine F_iconst X36 at_206 (z := (1 : Int32)) (by decide) (pc' := 207) rfl ?_
          refine F_iadd X36 at_207 (z := (1 : Int32)) (by decide) (pc' := 208) rfl ?_
          refine F_istore X36 at_208 (Ls' := #[.val (.int u1), .val (.int u2), .val (.int u3), .val (.int u4), .val (.int u5), .val (.int u6), .val (.int (3 : Int32)), .val (.int s0), .val (.int s1), .val (.int s2), .val (.int s3), .val (.int t0), .val (.int t2), .val (.int t1), .val (.int t3), .val (.int q1), .val (.int q2), .val (.ref b11), .val (.int (1 : Int32)), .unset]) rfl (pc' := 210) rfl ?_
          refine F_iload X36 at_210 rfl (pc' := 212) rfl ?_
          refine F_iconst X36 at_212 (z := (3 : Int32)) (by decide) (pc' := 213) rfl ?_
          refine F_icmp_le X36 at_213 (by decide) (pt := 229) (by decide) (pc' := 216) rfl (fun _ => ?_) (fun q => absurd q (by decide))
          refine F_aload X36 at_229 rfl rfl (pc' := 231) rfl ?_
          refine F_iload X36 at_231 rfl (pc' := 233) rfl ?_
          refine F_callV X36 (y := (⟨"org/pulsewire/oru/IntList", "lastBelow", "(I)I"⟩ : MethodName)) (stk := []) (wd26 hw) (wd27 hw) (wd29 hw) (wd28 hw) (wd9 hw) (wd30 hw) (by decide) (a := b11) E36k_b11 (argsL := [(.int u5)]) (conL3 l Z a0 hw n0 h36 X36.size b11 u5 b12_fb t0 q1 q2 F36_values_b11 F36_size_b11 A36_b12_fb) (by decide) (W := 0) (Nat.le_of_ble_eq_true rfl) (by decide) (by decide) (by decide) rfl (lenOf pd2 rfl) rfl at_233 (pc' := 236) rfl fun T42 v42 h42 X42 q42 => ?_
          obtain ⟨rfl, rfl⟩ := q42
          replace X42 := X42.more (cells' := 2) (slots' := 18) (by decide) (by decide)
          show Jvm.OwnKit.Ends p e below s n0 16 128 _ T42 (mkF m 236 #[.val (.int u1), .val (.int u2), .val (.int u3), .val (.int u4), .val (.int u5), .val (.int u6), .val (.int (3 : Int32)), .val (.int s0), .val (.int s1), .val (.int s2), .val (.int s3), .val (.int t0), .val (.int t2), .val (.int t1), .val (.int t3), .val (.int q1), .val (.int q2), .val (.ref b11), .val (.int (1 : Int32)), .unset] [(.int (lb3 t0 q1 q2 u5))])
          refine F_istore X42 at_236 (Ls' := #[.val (.int u1), .val (.int u2), .val (.int u3), .val (.int u4), .val (.int u5), .val (.int u6), .val (.int (3 : Int32)), .val (.int s0), .val (.int s1), .val (.int s2), .val (.int s3), .val (.int t0), .val (.int t2), .val (.int t1), .val (.int t3), .val (.int q1), .val (.int q2), .val (.ref b11), .val (.int (1 : Int32)), .val (.int (lb3 t0 q1 q2 u5))]) rfl (pc' := 238) rfl ?_
          refine F_iload X42 at_238 rfl (pc' := 240) rfl ?_
          refine F_iload X42 at_240 rfl (pc' := 242) rfl ?_
          refine F_iconst X42 at_242 (z := (1 : Int32)) (by decide) (pc' := 243) rfl ?_
          refine F_isub X42 at_243 (z := (0 : Int32)) (by decide) (pc' := 244) rfl ?_
          refine F_icmp_ne X42 at_244 (by decide) (pt := 251) (by decide) (pc' := 247) rfl (fun hc244_43 => ?_) (fun hc244_43 => ?_)
          · refine F_iconst X42 at_251 (z := (0 : Int32)) (by decide) (pc' := 252) rfl ?_
            refine F_ireturn_boolean (z' := (0 : Int32)) X42 (by decide) at_252 rfl (by decide) (by decide) ?_
            exfalso; refine hc244_43 ?_; unfold lb3; simp only [Int32.lt_iff_toInt_lt] at hc163_37 hc182_38 hc201_39 ⊢; repeat' split
            all_goals first | rfl | (exfalso; omega)
          · refine F_iconst X42 at_247 (z := (1 : Int32)) (by decide) (pc' := 248) rfl ?_
            refine F_goto X42 at_248 (by decide) (pc' := 252) (by decide) ?_
            refine F_ireturn_boolean (z' := (1 : Int32)) X42 (by decide) at_252 rfl (by decide) (by decide) ?_
            exact rfl
      · refine F_iload X36 at_185 rfl (pc' := 187) rfl ?_
        refine F_iconst X36 at_187 (z := (1 : Int32)) (by decide) (pc' := 188) rfl ?_
        refine F_iadd X36 at_188 (z := (1 : Int32)) (by decide) (pc' := 189) rfl ?_
        refine F_istore X36 at_189 (Ls' := #[.val (.int u1), .val (.int u2), .val (.int u3), .val (.int u4), .val (.int u5), .val (.int u6), .val (.int (3 : Int32)), .val (.int s0), .val (.int s1), .val (.int s2), .val (.int s3), .val (.int t0), .val (.int t2), .val (.int t1), .val (.int t3), .val (.int q1), .val (.int q2), .val (.ref b11), .val (.int (1 : Int32)), .unset]) rfl (pc' := 191) rfl ?_
        refine F_iload X36 at_191 rfl (pc' := 193) rfl ?_
        refine F_iconst X36 at_193 (z := (2 : Int32)) (by decide) (pc' := 194) rfl ?_
        refine F_icmp_le X36 at_194 (by decide) (pt := 210) (by decide) (pc' := 197) rfl (fun q => absurd q (by decide)) (fun _ => ?_)
        refine F_iload X36 at_197 rfl (pc' := 199) rfl ?_
        refine F_iload X36 at_199 rfl (pc' := 201) rfl ?_
        refine F_icmp_ge X36 at_201 (by decide) (pt := 210) (by decide) (pc' := 204) rfl (fun hc201_44 => ?_) (fun hc201_44 => ?_)
        · refine F_iload X36 at_210 rfl (pc' := 212) rfl ?_
          refine F_iconst X36 at_212 (z := (3 : Int32)) (by decide) (pc' := 213) rfl ?_
          refine F_icmp_le X36 at_213 (by decide) (pt := 229) (by decide) (pc' := 216) rfl (fun _ => ?_) (fun q => absurd q (by decide))
          refine F_aload X36 at_229 rfl rfl (pc' := 231) rfl ?_
          refine F_iload X36 at_231 rfl (pc' := 233) rfl ?_
          refine F_callV X36 (y := (⟨"org/pulsewire/oru/IntList", "lastBelow", "(I)I"⟩ : MethodName)) (stk := []) (wd26 hw) (wd27 hw) (wd29 hw) (wd28 hw) (wd9 hw) (wd30 hw) (by decide) (a := b11) E36k_b11 (argsL := [(.int u5)]) (conL3 l Z a0 hw n0 h36 X36.size b11 u5 b12_fb t0 q1 q2 F36_values_b11 F36_size_b11 A36_b12_fb) (by decide) (W := 0) (Nat.le_of_ble_eq_true rfl) (by decide) (by decide) (by decide) rfl (lenOf pd2 rfl) rfl at_233 (pc' := 236) rfl fun T45 v45 h45 X45 q45 => ?_
          obtain ⟨rfl, rfl⟩ := q45
          replace X45 := X45.more (cells' := 2) (slots' := 18) (by decide) (by decide)
          show Jvm.OwnKit.Ends p e below s n0 16 128 _ T45 (mkF m 236 #[.val (.int u1), .val (.int u2), .val (.int u3), .val (.int u4), .val (.int u5), .val (.int u6), .val (.int (3 : Int32)), .val (.int s0), .val (.int s1), .val (.int s2), .val (.int s3), .val (.int t0), .val (.int t2), .val (.int t1), .val (.int t3), .val (.int q1), .val (.int q2), .val (.ref b11), .val (.int (1 : Int32)), .unset] [(.int (lb3 t0 q1 q2 u5))])
          refine F_istore X45 at_236 (Ls' := #[.val (.int u1), .val (.int u2), .val (.int u3), .val (.int u4), .val (.int u5), .val (.int u6), .val (.int (3 : Int32)), .val (.int s0), .val (.int s1), .val (.int s2), .val (.int s3), .val (.int t0), .val (.int t2), .val (.int t1), .val (.int t3), .val (.int q1), .val (.int q2), .val (.ref b11), .val (.int (1 : Int32)), .val (.int (lb3 t0 q1 q2 u5))]) rfl (pc' := 238) rfl ?_
          refine F_iload X45 at_238 rfl (pc' := 240) rfl ?_
          refine F_iload X45 at_240 rfl (pc' := 242) rfl ?_
          refine F_iconst X45 at_242 (z := (1 : Int32)) (by decide) (pc' := 243) rfl ?_
          refine F_isub X45 at_243 (z := (0 : Int32)) (by decide) (pc' := 244) rfl ?_
          refine F_icmp_ne X45 at_244 (by decide) (pt := 251) (by decide) (pc' := 247) rfl (fun hc244_46 => ?_) (fun hc244_46 => ?_)
          · refine F_iconst X45 at_251 (z := (0 : Int32)) (by decide) (pc' := 252) rfl ?_
            refine F_ireturn_boolean (z' := (0 : Int32)) X45 (by decide) at_252 rfl (by decide) (by decide) ?_
            exfalso; refine hc244_46 ?_; unfold lb3; simp only [Int32.lt_iff_toInt_lt] at hc163_37 hc182_38 hc201_44 ⊢; repeat' split
            all_goals first | rfl | (exfalso; omega)
          · refine F_iconst X45 at_247 (z := (1 : Int32)) (by decide) (pc' := 248) rfl ?_
            refine F_goto X45 at_248 (by decide) (pc' := 252) (by decide) ?_
            refine F_ireturn_boolean (z' := (1 : Int32)) X45 (by decide) at_252 rfl (by decide) (by decide) ?_
            exact rfl
        · refine F_iload X36 at_204 rfl (pc' := 206) rfl ?_
          refine F_iconst X36 at_206 (z := (1 : Int32)) (by decide) (pc' := 207) rfl ?_
          refine F_iadd X36 at_207 (z := (2 : Int32)) (by decide) (pc' := 208) rfl ?_
          refine F_istore X36 at_208 (Ls' := #[.val (.int u1), .val (.int u2), .val (.int u3), .val (.int u4), .val (.int u5), .val (.int u6), .val (.int (3 : Int32)), .val (.int s0), .val (.int s1), .val (.int s2), .val (.int s3), .val (.int t0), .val (.int t2), .val (.int t1), .val (.int t3), .val (.int q1), .val (.int q2), .val (.ref b11), .val (.int (2 : Int32)), .unset]) rfl (pc' := 210) rfl ?_
          refine F_iload X36 at_210 rfl (pc' := 212) rfl ?_
          refine F_iconst X36 at_212 (z := (3 : Int32)) (by decide) (pc' := 213) rfl ?_
          refine F_icmp_le X36 at_213 (by decide) (pt := 229) (by decide) (pc' := 216) rfl (fun _ => ?_) (fun q => absurd q (by decide))
          refine F_aload X36 at_229 rfl rfl (pc' := 231) rfl ?_
          refine F_iload X36 at_231 rfl (pc' := 233) rfl ?_
          refine F_callV X36 (y := (⟨"org/pulsewire/oru/IntList", "lastBelow", "(I)I"⟩ : MethodName)) (stk := []) (wd26 hw) (wd27 hw) (wd29 hw) (wd28 hw) (wd9 hw) (wd30 hw) (by decide) (a := b11) E36k_b11 (argsL := [(.int u5)]) (conL3 l Z a0 hw n0 h36 X36.size b11 u5 b12_fb t0 q1 q2 F36_values_b11 F36_size_b11 A36_b12_fb) (by decide) (W := 0) (Nat.le_of_ble_eq_true rfl) (by decide) (by decide) (by decide) rfl (lenOf pd2 rfl) rfl at_233 (pc' := 236) rfl fun T47 v47 h47 X47 q47 => ?_
          obtain ⟨rfl, rfl⟩ := q47
          replace X47 := X47.more (cells' := 2) (slots' := 18) (by decide) (by decide)
          show Jvm.OwnKit.Ends p e below s n0 16 128 _ T47 (mkF m 236 #[.val (.int u1), .val (.int u2), .val (.int u3), .val (.int u4), .val (.int u5), .val (.int u6), .val (.int (3 : Int32)), .val (.int s0), .val (.int s1), .val (.int s2), .val (.int s3), .val (.int t0), .val (.int t2), .val (.int t1), .val (.int t3), .val (.int q1), .val (.int q2), .val (.ref b11), .val (.int (2 : Int32)), .unset] [(.int (lb3 t0 q1 q2 u5))])
          refine F_istore X47 at_236 (Ls' := #[.val (.int u1), .val (.int u2), .val (.int u3), .val (.int u4), .val (.int u5), .val (.int u6), .val (.int (3 : Int32)), .val (.int s0), .val (.int s1), .val (.int s2), .val (.int s3), .val (.int t0), .val (.int t2), .val (.int t1), .val (.int t3), .val (.int q1), .val (.int q2), .val (.ref b11), .val (.int (2 : Int32)), .val (.int (lb3 t0 q1 q2 u5))]) rfl (pc' := 238) rfl ?_
          refine F_iload X47 at_238 rfl (pc' := 240) rfl ?_
          refine F_iload X47 at_240 rfl (pc' := 242) rfl ?_
          refine F_iconst X47 at_242 (z := (1 : Int32)) (by decide) (pc' := 243) rfl ?_
          refine F_isub X47 at_243 (z := (1 : Int32)) (by decide) (pc' := 244) rfl ?_
          refine F_icmp_ne X47 at_244 (by decide) (pt := 251) (by decide) (pc' := 247) rfl (fun hc244_48 => ?_) (fun hc244_48 => ?_)
          · refine F_iconst X47 at_251 (z := (0 : Int32)) (by decide) (pc' := 252) rfl ?_
            refine F_ireturn_boolean (z' := (0 : Int32)) X47 (by decide) at_252 rfl (by decide) (by decide) ?_
            exfalso; refine hc244_48 ?_; unfold lb3; simp only [Int32.lt_iff_toInt_lt] at hc163_37 hc182_38 hc201_44 ⊢; repeat' split
            all_goals first | rfl | (exfalso; omega)
          · refine F_iconst X47 at_247 (z := (1 : Int32)) (by decide) (pc' := 248) rfl ?_
            refine F_goto X47 at_248 (by decide) (pc' := 252) (by decide) ?_
            refine F_ireturn_boolean (z' := (1 : Int32)) X47 (by decide) at_252 rfl (by decide) (by decide) ?_
            exact rfl
    · refine F_iload X36 at_166 rfl (pc' := 168) rfl ?_
      refine F_iconst X36 at_168 (z := (1 : Int32)) (by decide) (pc' := 169) rfl ?_
      refine F_iadd X36 at_169 (z := (1 : Int32)) (by decide) (pc' := 170) rfl ?_
      refine F_istore X36 at_170 (Ls' := #[.val (.int u1), .val (.int u2), .val (.int u3), .val (.int u4), .val (.int u5), .val (.int u6), .val (.int (3 : Int32)), .val (.int s0), .val (.int s1), .val (.int s2), .val (.int s3), .val (.int t0), .val (.int t2), .val (.int t1), .val (.int t3), .val (.int q1), .val (.int q2), .val (.ref b11), .val (.int (1 : Int32)), .unset]) rfl (pc' := 172) rfl ?_
      refine F_iload X36 at_172 rfl (pc' := 174) rfl ?_
      refine F_iconst X36 at_174 (z := (1 : Int32)) (by decide) (pc' := 175) rfl ?_
      refine F_icmp_le X36 at_175 (by decide) (pt := 191) (by decide) (pc' := 178) rfl (fun q => absurd q (by decide)) (fun _ => ?_)
      refine F_iload X36 at_178 rfl (pc' := 180) rfl ?_
      refine F_iload X36 at_180 rfl (pc' := 182) rfl ?_
      refine F_icmp_ge X36 at_182 (by decide) (pt := 191) (by decide) (pc' := 185) rfl (fun hc182_49 => ?_) (fun hc182_49 => ?_)
      · refine F_iload X36 at_191 rfl (pc' := 193) rfl ?_
        refine F_iconst X36 at_193 (z := (2 : Int32)) (by decide) (pc' := 194) rfl ?_
        refine F_icmp_le X36 at_194 (by decide) (pt := 210) (by decide) (pc' := 197) rfl (fun q => absurd q (by decide)) (fun _ => ?_)
        refine F_iload X36 at_197 rfl (pc' := 199) rfl ?_
        refine F_iload X36 at_199 rfl (pc' := 201) rfl ?_
        refine F_icmp_ge X36 at_201 (by decide) (pt := 210) (by decide) (pc' := 204) rfl (fun hc201_50 => ?_) (fun hc201_50 => ?_)
        · refine F_iload X36 at_210 rfl (pc' := 212) rfl ?_
          refine F_iconst X36 at_212 (z := (3 : Int32)) (by decide) (pc' := 213) rfl ?_
          refine F_icmp_le X36 at_213 (by decide) (pt := 229) (by decide) (pc' := 216) rfl (fun _ => ?_) (fun q => absurd q (by decide))
          refine F_aload X36 at_229 rfl rfl (pc' := 231) rfl ?_
          refine F_iload X36 at_231 rfl (pc' := 233) rfl ?_
          refine F_callV X36 (y := (⟨"org/pulsewire/oru/IntList", "lastBelow", "(I)I"⟩ : MethodName)) (stk := []) (wd26 hw) (wd27 hw) (wd29 hw) (wd28 hw) (wd9 hw) (wd30 hw) (by decide) (a := b11) E36k_b11 (argsL := [(.int u5)]) (conL3 l Z a0 hw n0 h36 X36.size b11 u5 b12_fb t0 q1 q2 F36_values_b11 F36_size_b11 A36_b12_fb) (by decide) (W := 0) (Nat.le_of_ble_eq_true rfl) (by decide) (by decide) (by decide) rfl (lenOf pd2 rfl) rfl at_233 (pc' := 236) rfl fun T51 v51 h51 X51 q51 => ?_
          obtain ⟨rfl, rfl⟩ := q51
          replace X51 := X51.more (cells' := 2) (slots' := 18) (by decide) (by decide)
          show Jvm.OwnKit.Ends p e below s n0 16 128 _ T51 (mkF m 236 #[.val (.int u1), .val (.int u2), .val (.int u3), .val (.int u4), .val (.int u5), .val (.int u6), .val (.int (3 : Int32)), .val (.int s0), .val (.int s1), .val (.int s2), .val (.int s3), .val (.int t0), .val (.int t2), .val (.int t1), .val (.int t3), .val (.int q1), .val (.int q2), .val (.ref b11), .val (.int (1 : Int32)), .unset] [(.int (lb3 t0 q1 q2 u5))])
          refine F_istore X51 at_236 (Ls' := #[.val (.int u1), .val (.int u2), .val (.int u3), .val (.int u4), .val (.int u5), .val (.int u6), .val (.int (3 : Int32)), .val (.int s0), .val (.int s1), .val (.int s2), .val (.int s3), .val (.int t0), .val (.int t2), .val (.int t1), .val (.int t3), .val (.int q1), .val (.int q2), .val (.ref b11), .val (.int (1 : Int32)), .val (.int (lb3 t0 q1 q2 u5))]) rfl (pc' := 238) rfl ?_
          refine F_iload X51 at_238 rfl (pc' := 240) rfl ?_
          refine F_iload X51 at_240 rfl (pc' := 242) rfl ?_
          refine F_iconst X51 at_242 (z := (1 : Int32)) (by decide) (pc' := 243) rfl ?_
          refine F_isub X51 at_243 (z := (0 : Int32)) (by decide) (pc' := 244) rfl ?_
          refine F_icmp_ne X51 at_244 (by decide) (pt := 251) (by decide) (pc' := 247) rfl (fun hc244_52 => ?_) (fun hc244_52 => ?_)
          · refine F_iconst X51 at_251 (z := (0 : Int32)) (by decide) (pc' := 252) rfl ?_
            refine F_ireturn_boolean (z' := (0 : Int32)) X51 (by decide) at_252 rfl (by decide) (by decide) ?_
            exfalso; refine hc244_52 ?_; unfold lb3; simp only [Int32.lt_iff_toInt_lt] at hc163_37 hc182_49 hc201_50 ⊢; repeat' split
            all_goals first | rfl | (exfalso; omega)
          · refine F_iconst X51 at_247 (z := (1 : Int32)) (by decide) (pc' := 248) rfl ?_
            refine F_goto X51 at_248 (by decide) (pc' := 252) (by decide) ?_
            refine F_ireturn_boolean (z' := (1 : Int32)) X51 (by decide) at_252 rfl (by decide) (by decide) ?_
            exact rfl
        · refine F_iload X36 at_204 rfl (pc' := 206) rfl ?_
          refine F_iconst X36 at_206 (z := (1 : Int32)) (by decide) (pc' := 207) rfl ?_
          refine F_iadd X36 at_207 (z := (2 : Int32)) (by decide) (pc' := 208) rfl ?_
          refine F_istore X36 at_208 (Ls' := #[.val (.int u1), .val (.int u2), .val (.int u3), .val (.int u4), .val (.int u5), .val (.int u6), .val (.int (3 : Int32)), .val (.int s0), .val (.int s1), .val (.int s2), .val (.int s3), .val (.int t0), .val (.int t2), .val (.int t1), .val (.int t3), .val (.int q1), .val (.int q2), .val (.ref b11), .val (.int (2 : Int32)), .unset]) rfl (pc' := 210) rfl ?_
          refine F_iload X36 at_210 rfl (pc' := 212) rfl ?_
          refine F_iconst X36 at_212 (z := (3 : Int32)) (by decide) (pc' := 213) rfl ?_
          refine F_icmp_le X36 at_213 (by decide) (pt := 229) (by decide) (pc' := 216) rfl (fun _ => ?_) (fun q => absurd q (by decide))
          refine F_aload X36 at_229 rfl rfl (pc' := 231) rfl ?_
          refine F_iload X36 at_231 rfl (pc' := 233) rfl ?_
          refine F_callV X36 (y := (⟨"org/pulsewire/oru/IntList", "lastBelow", "(I)I"⟩ : MethodName)) (stk := []) (wd26 hw) (wd27 hw) (wd29 hw) (wd28 hw) (wd9 hw) (wd30 hw) (by decide) (a := b11) E36k_b11 (argsL := [(.int u5)]) (conL3 l Z a0 hw n0 h36 X36.size b11 u5 b12_fb t0 q1 q2 F36_values_b11 F36_size_b11 A36_b12_fb) (by decide) (W := 0) (Nat.le_of_ble_eq_true rfl) (by decide) (by decide) (by decide) rfl (lenOf pd2 rfl) rfl at_233 (pc' := 236) rfl fun T53 v53 h53 X53 q53 => ?_
          obtain ⟨rfl, rfl⟩ := q53
          replace X53 := X53.more (cells' := 2) (slots' := 18) (by decide) (by decide)
          show Jvm.OwnKit.Ends p e below s n0 16 128 _ T53 (mkF m 236 #[.val (.int u1), .val (.int u2), .val (.int u3), .val (.int u4), .val (.int u5), .val (.int u6), .val (.int (3 : Int32)), .val (.int s0), .val (.int s1), .val (.int s2), .val (.int s3), .val (.int t0), .val (.int t2), .val (.int t1), .val (.int t3), .val (.int q1), .val (.int q2), .val (.ref b11), .val (.int (2 : Int32)), .unset] [(.int (lb3 t0 q1 q2 u5))])
          refine F_istore X53 at_236 (Ls' := #[.val (.int u1), .val (.int u2), .val (.int u3), .val (.int u4), .val (.int u5), .val (.int u6), .val (.int (3 : Int32)), .val (.int s0), .val (.int s1), .val (.int s2), .val (.int s3), .val (.int t0), .val (.int t2), .val (.int t1), .val (.int t3), .val (.int q1), .val (.int q2), .val (.ref b11), .val (.int (2 : Int32)), .val (.int (lb3 t0 q1 q2 u5))]) rfl (pc' := 238) rfl ?_
          refine F_iload X53 at_238 rfl (pc' := 240) rfl ?_
          refine F_iload X53 at_240 rfl (pc' := 242) rfl ?_
          refine F_iconst X53 at_242 (z := (1 : Int32)) (by decide) (pc' := 243) rfl ?_
          refine F_isub X53 at_243 (z := (1 : Int32)) (by decide) (pc' := 244) rfl ?_
          refine F_icmp_ne X53 at_244 (by decide) (pt := 251) (by decide) (pc' := 247) rfl (fun hc244_54 => ?_) (fun hc244_54 => ?_)
          · refine F_iconst X53 at_251 (z := (0 : Int32)) (by decide) (pc' := 252) rfl ?_
            refine F_ireturn_boolean (z' := (0 : Int32)) X53 (by decide) at_252 rfl (by decide) (by decide) ?_
            exfalso; refine hc244_54 ?_; unfold lb3; simp only [Int32.lt_iff_toInt_lt] at hc163_37 hc182_49 hc201_50 ⊢; repeat' split
            all_goals first | rfl | (exfalso; omega)
          · refine F_iconst X53 at_247 (z := (1 : Int32)) (by decide) (pc' := 248) rfl ?_
            refine F_goto X53 at_248 (by decide) (pc' := 252) (by decide) ?_
            refine F_ireturn_boolean (z' := (1 : Int32)) X53 (by decide) at_252 rfl (by decide) (by decide) ?_
            exact rfl
      · refine F_iload X36 at_185 rfl (pc' := 187) rfl ?_
        refine F_iconst X36 at_187 (z := (1 : Int32)) (by decide) (pc' := 188) rfl ?_
        refine F_iadd X36 at_188 (z := (2 : Int32)) (by decide) (pc' := 189) rfl ?_
        refine F_istore X36 at_189 (Ls' := #[.val (.int u1), .val (.int u2), .val (.int u3), .val (.int u4), .val (.int u5), .val (.int u6), .val (.int (3 : Int32)), .val (.int s0), .val (.int s1), .val (.int s2), .val (.int s3), .val (.int t0), .val (.int t2), .val (.int t1), .val (.int t3), .val (.int q1), .val (.int q2), .val (.ref b11), .val (.int (2 : Int32)), .unset]) rfl (pc' := 191) rfl ?_
        refine F_iload X36 at_191 rfl (pc' := 193) rfl ?_
        refine F_iconst X36 at_193 (z := (2 : Int32)) (by decide) (pc' := 194) rfl ?_
        refine F_icmp_le X36 at_194 (by decide) (pt := 210) (by decide) (pc' := 197) rfl (fun q => absurd q (by decide)) (fun _ => ?_)
        refine F_iload X36 at_197 rfl (pc' := 199) rfl ?_
        refine F_iload X36 at_199 rfl (pc' := 201) rfl ?_
        refine F_icmp_ge X36 at_201 (by decide) (pt := 210) (by decide) (pc' := 204) rfl (fun hc201_55 => ?_) (fun hc201_55 => ?_)
        · refine F_iload X36 at_210 rfl (pc' := 212) rfl ?_
          refine F_iconst X36 at_212 (z := (3 : Int32)) (by decide) (pc' := 213) rfl ?_
          refine F_icmp_le X36 at_213 (by decide) (pt := 229) (by decide) (pc' := 216) rfl (fun _ => ?_) (fun q => absurd q (by decide))
          refine F_aload X36 at_229 rfl rfl (pc' := 231) rfl ?_
          refine F_iload X36 at_231 rfl (pc' := 233) rfl ?_
          refine F_callV X36 (y := (⟨"org/pulsewire/oru/IntList", "lastBelow", "(I)I"⟩ : MethodName)) (stk := []) (wd26 hw) (wd27 hw) (wd29 hw) (wd28 hw) (wd9 hw) (wd30 hw) (by decide) (a := b11) E36k_b11 (argsL := [(.int u5)]) (conL3 l Z a0 hw n0 h36 X36.size b11 u5 b12_fb t0 q1 q2 F36_values_b11 F36_size_b11 A36_b12_fb) (by decide) (W := 0) (Nat.le_of_ble_eq_true rfl) (by decide) (by decide) (by decide) rfl (lenOf pd2 rfl) rfl at_233 (pc' := 236) rfl fun T56 v56 h56 X56 q56 => ?_
          obtain ⟨rfl, rfl⟩ := q56
          replace X56 := X56.more (cells' := 2) (slots' := 18) (by decide) (by decide)
          show Jvm.OwnKit.Ends p e below s n0 16 128 _ T56 (mkF m 236 #[.val (.int u1), .val (.int u2), .val (.int u3), .val (.int u4), .val (.int u5), .val (.int u6), .val (.int (3 : Int32)), .val (.int s0), .val (.int s1), .val (.int s2), .val (.int s3), .val (.int t0), .val (.int t2), .val (.int t1), .val (.int t3), .val (.int q1), .val (.int q2), .val (.ref b11), .val (.int (2 : Int32)), .unset] [(.int (lb3 t0 q1 q2 u5))])
          refine F_istore X56 at_236 (Ls' := #[.val (.int u1), .val (.int u2), .val (.int u3), .val (.int u4), .val (.int u5), .val (.int u6), .val (.int (3 : Int32)), .val (.int s0), .val (.int s1), .val (.int s2), .val (.int s3), .val (.int t0), .val (.int t2), .val (.int t1), .val (.int t3), .val (.int q1), .val (.int q2), .val (.ref b11), .val (.int (2 : Int32)), .val (.int (lb3 t0 q1 q2 u5))]) rfl (pc' := 238) rfl ?_
          refine F_iload X56 at_238 rfl (pc' := 240) rfl ?_
          refine F_iload X56 at_240 rfl (pc' := 242) rfl ?_
          refine F_iconst X56 at_242 (z := (1 : Int32)) (by decide) (pc' := 243) rfl ?_
          refine F_isub X56 at_243 (z := (1 : Int32)) (by decide) (pc' := 244) rfl ?_
          refine F_icmp_ne X56 at_244 (by decide) (pt := 251) (by decide) (pc' := 247) rfl (fun hc244_57 => ?_) (fun hc244_57 => ?_)
          · refine F_iconst X56 at_251 (z := (0 : Int32)) (by decide) (pc' := 252) rfl ?_
            refine F_ireturn_boolean (z' := (0 : Int32)) X56 (by decide) at_252 rfl (by decide) (by decide) ?_
            exfalso; refine hc244_57 ?_; unfold lb3; simp only [Int32.lt_iff_toInt_lt] at hc163_37 hc182_49 hc201_55 ⊢; repeat' split
            all_goals first | rfl | (exfalso; omega)
          · refine F_iconst X56 at_247 (z := (1 : Int32)) (by decide) (pc' := 248) rfl ?_
            refine F_goto X56 at_248 (by decide) (pc' := 252) (by decide) ?_
            refine F_ireturn_boolean (z' := (1 : Int32)) X56 (by decide) at_252 rfl (by decide) (by decide) ?_
            exact rfl
        · refine F_iload X36 at_204 rfl (pc' := 206) rfl ?_
          refine F_iconst X36 at_206 (z := (1 : Int32)) (by decide) (pc' := 207) rfl ?_
          refine F_iadd X36 at_207 (z := (3 : Int32)) (by decide) (pc' := 208) rfl ?_
          refine F_istore X36 at_208 (Ls' := #[.val (.int u1), .val (.int u2), .val (.int u3), .val (.int u4), .val (.int u5), .val (.int u6), .val (.int (3 : Int32)), .val (.int s0), .val (.int s1), .val (.int s2), .val (.int s3), .val (.int t0), .val (.int t2), .val (.int t1), .val (.int t3), .val (.int q1), .val (.int q2), .val (.ref b11), .val (.int (3 : Int32)), .unset]) rfl (pc' := 210) rfl ?_
          refine F_iload X36 at_210 rfl (pc' := 212) rfl ?_
          refine F_iconst X36 at_212 (z := (3 : Int32)) (by decide) (pc' := 213) rfl ?_
          refine F_icmp_le X36 at_213 (by decide) (pt := 229) (by decide) (pc' := 216) rfl (fun _ => ?_) (fun q => absurd q (by decide))
          refine F_aload X36 at_229 rfl rfl (pc' := 231) rfl ?_
          refine F_iload X36 at_231 rfl (pc' := 233) rfl ?_
          refine F_callV X36 (y := (⟨"org/pulsewire/oru/IntList", "lastBelow", "(I)I"⟩ : MethodName)) (stk := []) (wd26 hw) (wd27 hw) (wd29 hw) (wd28 hw) (wd9 hw) (wd30 hw) (by decide) (a := b11) E36k_b11 (argsL := [(.int u5)]) (conL3 l Z a0 hw n0 h36 X36.size b11 u5 b12_fb t0 q1 q2 F36_values_b11 F36_size_b11 A36_b12_fb) (by decide) (W := 0) (Nat.le_of_ble_eq_true rfl) (by decide) (by decide) (by decide) rfl (lenOf pd2 rfl) rfl at_233 (pc' := 236) rfl fun T58 v58 h58 X58 q58 => ?_
          obtain ⟨rfl, rfl⟩ := q58
          replace X58 := X58.more (cells' := 2) (slots' := 18) (by decide) (by decide)
          show Jvm.OwnKit.Ends p e below s n0 16 128 _ T58 (mkF m 236 #[.val (.int u1), .val (.int u2), .val (.int u3), .val (.int u4), .val (.int u5), .val (.int u6), .val (.int (3 : Int32)), .val (.int s0), .val (.int s1), .val (.int s2), .val (.int s3), .val (.int t0), .val (.int t2), .val (.int t1), .val (.int t3), .val (.int q1), .val (.int q2), .val (.ref b11), .val (.int (3 : Int32)), .unset] [(.int (lb3 t0 q1 q2 u5))])
          refine F_istore X58 at_236 (Ls' := #[.val (.int u1), .val (.int u2), .val (.int u3), .val (.int u4), .val (.int u5), .val (.int u6), .val (.int (3 : Int32)), .val (.int s0), .val (.int s1), .val (.int s2), .val (.int s3), .val (.int t0), .val (.int t2), .val (.int t1), .val (.int t3), .val (.int q1), .val (.int q2), .val (.ref b11), .val (.int (3 : Int32)), .val (.int (lb3 t0 q1 q2 u5))]) rfl (pc' := 238) rfl ?_
          refine F_iload X58 at_238 rfl (pc' := 240) rfl ?_
          refine F_iload X58 at_240 rfl (pc' := 242) rfl ?_
          refine F_iconst X58 at_242 (z := (1 : Int32)) (by decide) (pc' := 243) rfl ?_
          refine F_isub X58 at_243 (z := (2 : Int32)) (by decide) (pc' := 244) rfl ?_
          refine F_icmp_ne X58 at_244 (by decide) (pt := 251) (by decide) (pc' := 247) rfl (fun hc244_59 => ?_) (fun hc244_59 => ?_)
          · refine F_iconst X58 at_251 (z := (0 : Int32)) (by decide) (pc' := 252) rfl ?_
            refine F_ireturn_boolean (z' := (0 : Int32)) X58 (by decide) at_252 rfl (by decide) (by decide) ?_
            exfalso; refine hc244_59 ?_; unfold lb3; simp only [Int32.lt_iff_toInt_lt] at hc163_37 hc182_49 hc201_55 ⊢; repeat' split
            all_goals first | rfl | (exfalso; omega)
          · refine F_iconst X58 at_247 (z := (1 : Int32)) (by decide) (pc' := 248) rfl ?_
            refine F_goto X58 at_248 (by decide) (pc' := 252) (by decide) ?_
            refine F_ireturn_boolean (z' := (1 : Int32)) X58 (by decide) at_252 rfl (by decide) (by decide) ?_
            exact rfl
  · refine F_iload X12 at_100 rfl (pc' := 102) rfl ?_
    refine F_if_le X12 at_102 (by decide) (pt := 112) (by decide) (pc' := 105) rfl (fun q => absurd q (by decide)) (fun _ => ?_)
    refine F_aload X12 at_105 rfl rfl (pc' := 107) rfl ?_
    refine F_iload X12 at_107 rfl (pc' := 109) rfl ?_
    refine F_callV X12 (y := (⟨"org/pulsewire/oru/IntList", "add", "(I)V"⟩ : MethodName)) (stk := []) (wd19 hw) (wd20 hw) (wd22 hw) (wd21 hw) (wd9 hw) (wd23 hw) (by decide) (a := b11) E12_b11 (argsL := [(.int t0)]) (conA0 l Z a0 hw n0 h12 X12.size b11 t0 b12_fb E12_b11 F12_values_b11 F12_size_b11 A12_b12_fb ge11 ge_b12_fb ne_b11_b12_fb) (by decide) (W := 0) (Nat.le_of_ble_eq_true rfl) (by decide) (by decide) (by decide) rfl (lenOf pd3 rfl) rfl at_109 (pc' := 112) rfl fun T60 v60 h60 X60 q60 => ?_
    obtain ⟨rfl, Kp60, F60_values_b11, F60_size_b11, A60_b12_fb⟩ := q60
    have E60k_b11 := E12_b11.keep Kp60
    have E60k_b12_fb := E12_b12_fb.keep Kp60
    replace X60 := X60.more (cells' := 2) (slots' := 18) (by decide) (by decide)
    show Jvm.OwnKit.Ends p e below s n0 16 128 _ T60 (mkF m 112 #[.val (.int u1), .val (.int u2), .val (.int u3), .val (.int u4), .val (.int u5), .val (.int u6), .val (.int (4 : Int32)), .val (.int s0), .val (.int s1), .val (.int s2), .val (.int s3), .val (.int t0), .val (.int t2), .val (.int t1), .val (.int t3), .val (.int q1), .val (.int q2), .val (.ref b11), .unset, .unset] [])
    refine F_iload X60 at_112 rfl (pc' := 114) rfl ?_
    refine F_iconst X60 at_114 (z := (1 : Int32)) (by decide) (pc' := 115) rfl ?_
    refine F_icmp_le X60 at_115 (by decide) (pt := 125) (by decide) (pc' := 118) rfl (fun q => absurd q (by decide)) (fun _ => ?_)
    refine F_aload X60 at_118 rfl rfl (pc' := 120) rfl ?_
    refine F_iload X60 at_120 rfl (pc' := 122) rfl ?_
    refine F_callV X60 (y := (⟨"org/pulsewire/oru/IntList", "add", "(I)V"⟩ : MethodName)) (stk := []) (wd19 hw) (wd20 hw) (wd22 hw) (wd21 hw) (wd9 hw) (wd23 hw) (by decide) (a := b11) E60k_b11 (argsL := [(.int q1)]) (conA1 l Z a0 hw n0 h60 X60.size b11 q1 b12_fb t0 E60k_b11 F60_values_b11 F60_size_b11 A60_b12_fb ge11 ge_b12_fb ne_b11_b12_fb) (by decide) (W := 0) (Nat.le_of_ble_eq_true rfl) (by decide) (by decide) (by decide) rfl (lenOf pd3 rfl) rfl at_122 (pc' := 125) rfl fun T61 v61 h61 X61 q61 => ?_
    obtain ⟨rfl, Kp61, F61_values_b11, F61_size_b11, A61_b12_fb⟩ := q61
    have E61k_b11 := E60k_b11.keep Kp61
    have E61k_b12_fb := E60k_b12_fb.keep Kp61
    replace X61 := X61.more (cells' := 2) (slots' := 18) (by decide) (by decide)
    show Jvm.OwnKit.Ends p e below s n0 16 128 _ T61 (mkF m 125 #[.val (.int u1), .val (.int u2), .val (.int u3), .val (.int u4), .val (.int u5), .val (.int u6), .val (.int (4 : Int32)), .val (.int s0), .val (.int s1), .val (.int s2), .val (.int s3), .val (.int t0), .val (.int t2), .val (.int t1), .val (.int t3), .val (.int q1), .val (.int q2), .val (.ref b11), .unset, .unset] [])
    refine F_iload X61 at_125 rfl (pc' := 127) rfl ?_
    refine F_iconst X61 at_127 (z := (2 : Int32)) (by decide) (pc' := 128) rfl ?_
    refine F_icmp_le X61 at_128 (by decide) (pt := 138) (by decide) (pc' := 131) rfl (fun q => absurd q (by decide)) (fun _ => ?_)
    refine F_aload X61 at_131 rfl rfl (pc' := 133) rfl ?_
    refine F_iload X61 at_133 rfl (pc' := 135) rfl ?_
    refine F_callV X61 (y := (⟨"org/pulsewire/oru/IntList", "add", "(I)V"⟩ : MethodName)) (stk := []) (wd19 hw) (wd20 hw) (wd22 hw) (wd21 hw) (wd9 hw) (wd23 hw) (by decide) (a := b11) E61k_b11 (argsL := [(.int q2)]) (conA2 l Z a0 hw n0 h61 X61.size b11 q2 b12_fb t0 q1 E61k_b11 F61_values_b11 F61_size_b11 A61_b12_fb ge11 ge_b12_fb ne_b11_b12_fb) (by decide) (W := 0) (Nat.le_of_ble_eq_true rfl) (by decide) (by decide) (by decide) rfl (lenOf pd3 rfl) rfl at_135 (pc' := 138) rfl fun T62 v62 h62 X62 q62 => ?_
    obtain ⟨rfl, Kp62, F62_values_b11, F62_size_b11, A62_b12_fb⟩ := q62
    have E62k_b11 := E61k_b11.keep Kp62
    have E62k_b12_fb := E61k_b12_fb.keep Kp62
    replace X62 := X62.more (cells' := 2) (slots' := 18) (by decide) (by decide)
    show Jvm.OwnKit.Ends p e below s n0 16 128 _ T62 (mkF m 138 #[.val (.int u1), .val (.int u2), .val (.int u3), .val (.int u4), .val (.int u5), .val (.int u6), .val (.int (4 : Int32)), .val (.int s0), .val (.int s1), .val (.int s2), .val (.int s3), .val (.int t0), .val (.int t2), .val (.int t1), .val (.int t3), .val (.int q1), .val (.int q2), .val (.ref b11), .unset, .unset] [])
    refine F_iload X62 at_138 rfl (pc' := 140) rfl ?_
    refine F_iconst X62 at_140 (z := (3 : Int32)) (by decide) (pc' := 141) rfl ?_
    refine F_icmp_le X62 at_141 (by decide) (pt := 151) (by decide) (pc' := 144) rfl (fun q => absurd q (by decide)) (fun _ => ?_)
    refine F_aload X62 at_144 rfl rfl (pc' := 146) rfl ?_
    refine F_iload X62 at_146 rfl (pc' := 148) rfl ?_
    refine F_callV X62 (y := (⟨"org/pulsewire/oru/IntList", "add", "(I)V"⟩ : MethodName)) (stk := []) (wd19 hw) (wd20 hw) (wd22 hw) (wd21 hw) (wd9 hw) (wd23 hw) (by decide) (a := b11) E62k_b11 (argsL := [(.int t3)]) (conA3 l Z a0 hw n0 h62 X62.size b11 t3 b12_fb t0 q1 q2 E62k_b11 F62_values_b11 F62_size_b11 A62_b12_fb ge11 ge_b12_fb ne_b11_b12_fb) (by decide) (W := 0) (Nat.le_of_ble_eq_true rfl) (by decide) (by decide) (by decide) rfl (lenOf pd3 rfl) rfl at_148 (pc' := 151) rfl fun T63 v63 h63 X63 q63 => ?_
    obtain ⟨rfl, Kp63, F63_values_b11, F63_size_b11, A63_b12_fb⟩ := q63
    have E63k_b11 := E62k_b11.keep Kp63
    have E63k_b12_fb := E62k_b12_fb.keep Kp63
    replace X63 := X63.more (cells' := 2) (slots' := 18) (by decide) (by decide)
    show Jvm.OwnKit.Ends p e below s n0 16 128 _ T63 (mkF m 151 #[.val (.int u1), .val (.int u2), .val (.int u3), .val (.int u4), .val (.int u5), .val (.int u6), .val (.int (4 : Int32)), .val (.int s0), .val (.int s1), .val (.int s2), .val (.int s3), .val (.int t0), .val (.int t2), .val (.int t1), .val (.int t3), .val (.int q1), .val (.int q2), .val (.ref b11), .unset, .unset] [])
    refine F_iconst X63 at_151 (z := (0 : Int32)) (by decide) (pc' := 152) rfl ?_
    refine F_istore X63 at_152 (Ls' := #[.val (.int u1), .val (.int u2), .val (.int u3), .val (.int u4), .val (.int u5), .val (.int u6), .val (.int (4 : Int32)), .val (.int s0), .val (.int s1), .val (.int s2), .val (.int s3), .val (.int t0), .val (.int t2), .val (.int t1), .val (.int t3), .val (.int q1), .val (.int q2), .val (.ref b11), .val (.int (0 : Int32)), .unset]) rfl (pc' := 154) rfl ?_
    refine F_iload X63 at_154 rfl (pc' := 156) rfl ?_
    refine F_if_le X63 at_156 (by decide) (pt := 172) (by decide) (pc' := 159) rfl (fun q => absurd q (by decide)) (fun _ => ?_)
    refine F_iload X63 at_159 rfl (pc' := 161) rfl ?_
    refine F_iload X63 at_161 rfl (pc' := 163) rfl ?_
    refine F_icmp_ge X63 at_163 (by decide) (pt := 172) (by decide) (pc' := 166) rfl (fun hc163_64 => ?_) (fun hc163_64 => ?_)
    · refine F_iload X63 at_172 rfl (pc' := 174) rfl ?_
      refine F_iconst X63 at_174 (z := (1 : Int32)) (by decide) (pc' := 175) rfl ?_
      refine F_icmp_le X63 at_175 (by decide) (pt := 191) (by decide) (pc' := 178) rfl (fun q => absurd q (by decide)) (fun _ => ?_)
      refine F_iload X63 at_178 rfl (pc' := 180) rfl ?_
      refine F_iload X63 at_180 rfl (pc' := 182) rfl ?_
      refine F_icmp_ge X63 at_182 (by decide) (pt := 191) (by decide) (pc' := 185) rfl (fun hc182_65 => ?_) (fun hc182_65 => ?_)
      · refine F_iload X63 at_191 rfl (pc' := 193) rfl ?_
        refine F_iconst X63 at_193 (z := (2 : Int32)) (by decide) (pc' := 194) rfl ?_
        refine F_icmp_le X63 at_194 (by decide) (pt := 210) (by decide) (pc' := 197) rfl (fun q => absurd q (by decide)) (fun _ => ?_)
        refine F_iload X63 at_197 rfl (pc' := 199) rfl ?_
        refine F_iload X63 at_199 rfl (pc' := 201) rfl ?_
        refine F_icmp_ge X63 at_201 (by decide) (pt := 210) (by decide) (pc' := 204) rfl (fun hc201_66 => ?_) (fun hc201_66 => ?_)
        · refine F_iload X63 at_210 rfl (pc' := 212) rfl ?_
          refine F_iconst X63 at_212 (z := (3 : Int32)) (by decide) (pc' := 213) rfl ?_
          refine F_icmp_le X63 at_213 (by decide) (pt := 229) (by decide) (pc' := 216) rfl (fun q => absurd q (by decide)) (fun _ => ?_)
          refine F_iload X63 at_216 rfl (pc' := 218) rfl ?_
          refine F_iload X63 at_218 rfl (pc' := 220) rfl ?_
          refine F_icmp_ge X63 at_220 (by decide) (pt := 229) (by decide) (pc' := 223) rfl (fun hc220_67 => ?_) (fun hc220_67 => ?_)
          · refine F_aload X63 at_229 rfl rfl (pc' := 231) rfl ?_
            refine F_iload X63 at_231 rfl (pc' := 233) rfl ?_
            refine F_callV X63 (y := (⟨"org/pulsewire/oru/IntList", "lastBelow", "(I)I"⟩ : MethodName)) (stk := []) (wd26 hw) (wd27 hw) (wd29 hw) (wd28 hw) (wd9 hw) (wd30 hw) (by decide) (a := b11) E63k_b11 (argsL := [(.int u5)]) (conL4 l Z a0 hw n0 h63 X63.size b11 u5 b12_fb t0 q1 q2 t3 F63_values_b11 F63_size_b11 A63_b12_fb) (by decide) (W := 0) (Nat.le_of_ble_eq_true rfl) (by decide) (by decide) (by decide) rfl (lenOf pd2 rfl) rfl at_233 (pc' := 236) rfl fun T68 v68 h68 X68 q68 => ?_
            obtain ⟨rfl, rfl⟩ := q68
            replace X68 := X68.more (cells' := 2) (slots' := 18) (by decide) (by decide)
            show Jvm.OwnKit.Ends p e below s n0 16 128 _ T68 (mkF m 236 #[.val (.int u1), .val (.int u2), .val (.int u3), .val (.int u4), .val (.int u5), .val (.int u6), .val (.int (4 : Int32)), .val (.int s0), .val (.int s1), .val (.int s2), .val (.int s3), .val (.int t0), .val (.int t2), .val (.int t1), .val (.int t3), .val (.int q1), .val (.int q2), .val (.ref b11), .val (.int (0 : Int32)), .unset] [(.int (lb4 t0 q1 q2 t3 u5))])
            refine F_istore X68 at_236 (Ls' := #[.val (.int u1), .val (.int u2), .val (.int u3), .val (.int u4), .val (.int u5), .val (.int u6), .val (.int (4 : Int32)), .val (.int s0), .val (.int s1), .val (.int s2), .val (.int s3), .val (.int t0), .val (.int t2), .val (.int t1), .val (.int t3), .val (.int q1), .val (.int q2), .val (.ref b11), .val (.int (0 : Int32)), .val (.int (lb4 t0 q1 q2 t3 u5))]) rfl (pc' := 238) rfl ?_
            refine F_iload X68 at_238 rfl (pc' := 240) rfl ?_
            refine F_iload X68 at_240 rfl (pc' := 242) rfl ?_
            refine F_iconst X68 at_242 (z := (1 : Int32)) (by decide) (pc' := 243) rfl ?_
            refine F_isub X68 at_243 (z := (-1 : Int32)) (by decide) (pc' := 244) rfl ?_
            refine F_icmp_ne X68 at_244 (by decide) (pt := 251) (by decide) (pc' := 247) rfl (fun hc244_69 => ?_) (fun hc244_69 => ?_)
            · refine F_iconst X68 at_251 (z := (0 : Int32)) (by decide) (pc' := 252) rfl ?_
              refine F_ireturn_boolean (z' := (0 : Int32)) X68 (by decide) at_252 rfl (by decide) (by decide) ?_
              exfalso; refine hc244_69 ?_; unfold lb4; simp only [Int32.lt_iff_toInt_lt] at hc163_64 hc182_65 hc201_66 hc220_67 ⊢; repeat' split
              all_goals first | rfl | (exfalso; omega)
            · refine F_iconst X68 at_247 (z := (1 : Int32)) (by decide) (pc' := 248) rfl ?_
              refine F_goto X68 at_248 (by decide) (pc' := 252) (by decide) ?_
              refine F_ireturn_boolean (z' := (1 : Int32)) X68 (by decide) at_252 rfl (by decide) (by decide) ?_
              exact rfl
          · refine F_iload X63 at_223 rfl (pc' := 225) rfl ?_
            refine F_iconst X63 at_225 (z := (1 : Int32)) (by decide) (pc' := 226) rfl ?_
            refine F_iadd X63 at_226 (z := (1 : Int32)) (by decide) (pc' := 227) rfl ?_
            refine F_istore X63 at_227 (Ls' := #[.val (.int u1), .val (.int u2), .val (.int u3), .val (.int u4), .val (.int u5), .val (.int u6), .val (.int (4 : Int32)), .val (.int s0), .val (.int s1), .val (.int s2), .val (.int s3), .val (.int t0), .val (.int t2), .val (.int t1), .val (.int t3), .val (.int q1), .val (.int q2), .val (.ref b11), .val (.int (1 : Int32)), .unset]) rfl (pc' := 229) rfl ?_
            refine F_aload X63 at_229 rfl rfl (pc' := 231) rfl ?_
            refine F_iload X63 at_231 rfl (pc' := 233) rfl ?_
            refine F_callV X63 (y := (⟨"org/pulsewire/oru/IntList", "lastBelow", "(I)I"⟩ : MethodName)) (stk := []) (wd26 hw) (wd27 hw) (wd29 hw) (wd28 hw) (wd9 hw) (wd30 hw) (by decide) (a := b11) E63k_b11 (argsL := [(.int u5)]) (conL4 l Z a0 hw n0 h63 X63.size b11 u5 b12_fb t0 q1 q2 t3 F63_values_b11 F63_size_b11 A63_b12_fb) (by decide) (W := 0) (Nat.le_of_ble_eq_true rfl) (by decide) (by decide) (by decide) rfl (lenOf pd2 rfl) rfl at_233 (pc' := 236) rfl fun T70 v70 h70 X70 q70 => ?_
            obtain ⟨rfl, rfl⟩ := q70
            replace X70 := X70.more (cells' := 2) (slots' := 18) (by decide) (by decide)
            show Jvm.OwnKit.Ends p e below s n0 16 128 _ T70 (mkF m 236 #[.val (.int u1), .val (.int u2), .val (.int u3), .val (.int u4), .val (.int u5), .val (.int u6), .val (.int (4 : Int32)), .val (.int s0), .val (.int s1), .val (.int s2), .val (.int s3), .val (.int t0), .val (.int t2), .val (.int t1), .val (.int t3), .val (.int q1), .val (.int q2), .val (.ref b11), .val (.int (1 : Int32)), .unset] [(.int (lb4 t0 q1 q2 t3 u5))])
            refine F_istore X70 at_236 (Ls' := #[.val (.int u1), .val (.int u2), .val (.int u3), .val (.int u4), .val (.int u5), .val (.int u6), .val (.int (4 : Int32)), .val (.int s0), .val (.int s1), .val (.int s2), .val (.int s3), .val (.int t0), .val (.int t2), .val (.int t1), .val (.int t3), .val (.int q1), .val (.int q2), .val (.ref b11), .val (.int (1 : Int32)), .val (.int (lb4 t0 q1 q2 t3 u5))]) rfl (pc' := 238) rfl ?_
            refine F_iload X70 at_238 rfl (pc' := 240) rfl ?_
            refine F_iload X70 at_240 rfl (pc' := 242) rfl ?_
            refine F_iconst X70 at_242 (z := (1 : Int32)) (by decide) (pc' := 243) rfl ?_
            refine F_isub X70 at_243 (z := (0 : Int32)) (by decide) (pc' := 244) rfl ?_
            refine F_icmp_ne X70 at_244 (by decide) (pt := 251) (by decide) (pc' := 247) rfl (fun hc244_71 => ?_) (fun hc244_71 => ?_)
            · refine F_iconst X70 at_251 (z := (0 : Int32)) (by decide) (pc' := 252) rfl ?_
              refine F_ireturn_boolean (z' := (0 : Int32)) X70 (by decide) at_252 rfl (by decide) (by decide) ?_
              exfalso; refine hc244_71 ?_; unfold lb4; simp only [Int32.lt_iff_toInt_lt] at hc163_64 hc182_65 hc201_66 hc220_67 ⊢; repeat' split
              all_goals first | rfl | (exfalso; omega)
            · refine F_iconst X70 at_247 (z := (1 : Int32)) (by decide) (pc' := 248) rfl ?_
              refine F_goto X70 at_248 (by decide) (pc' := 252) (by decide) ?_
              refine F_ireturn_boolean (z' := (1 : Int32)) X70 (by decide) at_252 rfl (by decide) (by decide) ?_
              exact rfl
        · refine F_iload X63 at_204 rfl (pc' := 206) rfl ?_
          refine F_iconst X63 at_206 (z := (1 : Int32)) (by decide) (pc' := 207) rfl ?_
          refine F_iadd X63 at_207 (z := (1 : Int32)) (by decide) (pc' := 208) rfl ?_
          refine F_istore X63 at_208 (Ls' := #[.val (.int u1), .val (.int u2), .val (.int u3), .val (.int u4), .val (.int u5), .val (.int u6), .val (.int (4 : Int32)), .val (.int s0), .val (.int s1), .val (.int s2), .val (.int s3), .val (.int t0), .val (.int t2), .val (.int t1), .val (.int t3), .val (.int q1), .val (.int q2), .val (.ref b11), .val (.int (1 : Int32)), .unset]) rfl (pc' := 210) rfl ?_
          refine F_iload X63 at_210 rfl (pc' := 212) rfl ?_
          refine F_iconst X63 at_212 (z := (3 : Int32)) (by decide) (pc' := 213) rfl ?_
          refine F_icmp_le X63 at_213 (by decide) (pt := 229) (by decide) (pc' := 216) rfl (fun q => absurd q (by decide)) (fun _ => ?_)
          refine F_iload X63 at_216 rfl (pc' := 218) rfl ?_
          refine F_iload X63 at_218 rfl (pc' := 220) rfl ?_
          refine F_icmp_ge X63 at_220 (by decide) (pt := 229) (by decide) (pc' := 223) rfl (fun hc220_72 => ?_) (fun hc220_72 => ?_)
          · refine F_aload X63 at_229 rfl rfl (pc' := 231) rfl ?_
            refine F_iload X63 at_231 rfl (pc' := 233) rfl ?_
            refine F_callV X63 (y := (⟨"org/pulsewire/oru/IntList", "lastBelow", "(I)I"⟩ : MethodName)) (stk := []) (wd26 hw) (wd27 hw) (wd29 hw) (wd28 hw) (wd9 hw) (wd30 hw) (by decide) (a := b11) E63k_b11 (argsL := [(.int u5)]) (conL4 l Z a0 hw n0 h63 X63.size b11 u5 b12_fb t0 q1 q2 t3 F63_values_b11 F63_size_b11 A63_b12_fb) (by decide) (W := 0) (Nat.le_of_ble_eq_true rfl) (by decide) (by decide) (by decide) rfl (lenOf pd2 rfl) rfl at_233 (pc' := 236) rfl fun T73 v73 h73 X73 q73 => ?_
            obtain ⟨rfl, rfl⟩ := q73
            replace X73 := X73.more (cells' := 2) (slots' := 18) (by decide) (by decide)
            show Jvm.OwnKit.Ends p e below s n0 16 128 _ T73 (mkF m 236 #[.val (.int u1), .val (.int u2), .val (.int u3), .val (.int u4), .val (.int u5), .val (.int u6), .val (.int (4 : Int32)), .val (.int s0), .val (.int s1), .val (.int s2), .val (.int s3), .val (.int t0), .val (.int t2), .val (.int t1), .val (.int t3), .val (.int q1), .val (.int q2), .val (.ref b11), .val (.int (1 : Int32)), .unset] [(.int (lb4 t0 q1 q2 t3 u5))])
            refine F_istore X73 at_236 (Ls' := #[.val (.int u1), .val (.int u2), .val (.int u3), .val (.int u4), .val (.int u5), .val (.int u6), .val (.int (4 : Int32)), .val (.int s0), .val (.int s1), .val (.int s2), .val (.int s3), .val (.int t0), .val (.int t2), .val (.int t1), .val (.int t3), .val (.int q1), .val (.int q2), .val (.ref b11), .val (.int (1 : Int32)), .val (.int (lb4 t0 q1 q2 t3 u5))]) rfl (pc' := 238) rfl ?_
            refine F_iload X73 at_238 rfl (pc' := 240) rfl ?_
            refine F_iload X73 at_240 rfl (pc' := 242) rfl ?_
            refine F_iconst X73 at_242 (z := (1 : Int32)) (by decide) (pc' := 243) rfl ?_
            refine F_isub X73 at_243 (z := (0 : Int32)) (by decide) (pc' := 244) rfl ?_
            refine F_icmp_ne X73 at_244 (by decide) (pt := 251) (by decide) (pc' := 247) rfl (fun hc244_74 => ?_) (fun hc244_74 => ?_)
            · refine F_iconst X73 at_251 (z := (0 : Int32)) (by decide) (pc' := 252) rfl ?_
              refine F_ireturn_boolean (z' := (0 : Int32)) X73 (by decide) at_252 rfl (by decide) (by decide) ?_
              exfalso; refine hc244_74 ?_; unfold lb4; simp only [Int32.lt_iff_toInt_lt] at hc163_64 hc182_65 hc201_66 hc220_72 ⊢; repeat' split
              all_goals first | rfl | (exfalso; omega)
            · refine F_iconst X73 at_247 (z := (1 : Int32)) (by decide) (pc' := 248) rfl ?_
              refine F_goto X73 at_248 (by decide) (pc' := 252) (by decide) ?_
              refine F_ireturn_boolean (z' := (1 : Int32)) X73 (by decide) at_252 rfl (by decide) (by decide) ?_
              exact rfl
          · refine F_iload X63 at_223 rfl (pc' := 225) rfl ?_
            refine F_iconst X63 at_225 (z := (1 : Int32)) (by decide) (pc' := 226) rfl ?_
            refine F_iadd X63 at_226 (z := (2 : Int32)) (by decide) (pc' := 227) rfl ?_
            refine F_istore X63 at_227 (Ls' := #[.val (.int u1), .val (.int u2), .val (.int u3), .val (.int u4), .val (.int u5), .val (.int u6), .val (.int (4 : Int32)), .val (.int s0), .val (.int s1), .val (.int s2), .val (.int s3), .val (.int t0), .val (.int t2), .val (.int t1), .val (.int t3), .val (.int q1), .val (.int q2), .val (.ref b11), .val (.int (2 : Int32)), .unset]) rfl (pc' := 229) rfl ?_
            refine F_aload X63 at_229 rfl rfl (pc' := 231) rfl ?_
            refine F_iload X63 at_231 rfl (pc' := 233) rfl ?_
            refine F_callV X63 (y := (⟨"org/pulsewire/oru/IntList", "lastBelow", "(I)I"⟩ : MethodName)) (stk := []) (wd26 hw) (wd27 hw) (wd29 hw) (wd28 hw) (wd9 hw) (wd30 hw) (by decide) (a := b11) E63k_b11 (argsL := [(.int u5)]) (conL4 l Z a0 hw n0 h63 X63.size b11 u5 b12_fb t0 q1 q2 t3 F63_values_b11 F63_size_b11 A63_b12_fb) (by decide) (W := 0) (Nat.le_of_ble_eq_true rfl) (by decide) (by decide) (by decide) rfl (lenOf pd2 rfl) rfl at_233 (pc' := 236) rfl fun T75 v75 h75 X75 q75 => ?_
            obtain ⟨rfl, rfl⟩ := q75
            replace X75 := X75.more (cells' := 2) (slots' := 18) (by decide) (by decide)
            show Jvm.OwnKit.Ends p e below s n0 16 128 _ T75 (mkF m 236 #[.val (.int u1), .val (.int u2), .val (.int u3), .val (.int u4), .val (.int u5), .val (.int u6), .val (.int (4 : Int32)), .val (.int s0), .val (.int s1), .val (.int s2), .val (.int s3), .val (.int t0), .val (.int t2), .val (.int t1), .val (.int t3), .val (.int q1), .val (.int q2), .val (.ref b11), .val (.int (2 : Int32)), .unset] [(.int (lb4 t0 q1 q2 t3 u5))])
            refine F_istore X75 at_236 (Ls' := #[.val (.int u1), .val (.int u2), .val (.int u3), .val (.int u4), .val (.int u5), .val (.int u6), .val (.int (4 : Int32)), .val (.int s0), .val (.int s1), .val (.int s2), .val (.int s3), .val (.int t0), .val (.int t2), .val (.int t1), .val (.int t3), .val (.int q1), .val (.int q2), .val (.ref b11), .val (.int (2 : Int32)), .val (.int (lb4 t0 q1 q2 t3 u5))]) rfl (pc' := 238) rfl ?_
            refine F_iload X75 at_238 rfl (pc' := 240) rfl ?_
            refine F_iload X75 at_240 rfl (pc' := 242) rfl ?_
            refine F_iconst X75 at_242 (z := (1 : Int32)) (by decide) (pc' := 243) rfl ?_
            refine F_isub X75 at_243 (z := (1 : Int32)) (by decide) (pc' := 244) rfl ?_
            refine F_icmp_ne X75 at_244 (by decide) (pt := 251) (by decide) (pc' := 247) rfl (fun hc244_76 => ?_) (fun hc244_76 => ?_)
            · refine F_iconst X75 at_251 (z := (0 : Int32)) (by decide) (pc' := 252) rfl ?_
              refine F_ireturn_boolean (z' := (0 : Int32)) X75 (by decide) at_252 rfl (by decide) (by decide) ?_
              exfalso; refine hc244_76 ?_; unfold lb4; simp only [Int32.lt_iff_toInt_lt] at hc163_64 hc182_65 hc201_66 hc220_72 ⊢; repeat' split
              all_goals first | rfl | (exfalso; omega)
            · refine F_iconst X75 at_247 (z := (1 : Int32)) (by decide) (pc' := 248) rfl ?_
              refine F_goto X75 at_248 (by decide) (pc' := 252) (by decide) ?_
              refine F_ireturn_boolean (z' := (1 : Int32)) X75 (by decide) at_252 rfl (by decide) (by decide) ?_
              exact rfl
      · refine F_iload X63 at_185 rfl (pc' := 187) rfl ?_
        refine F_iconst X63 at_187 (z := (1 : Int32)) (by decide) (pc' := 188) rfl ?_
        refine F_iadd X63 at_188 (z := (1 : Int32)) (by decide) (pc' := 189) rfl ?_
        refine F_istore X63 at_189 (Ls' := #[.val (.int u1), .val (.int u2), .val (.int u3), .val (.int u4), .val (.int u5), .val (.int u6), .val (.int (4 : Int32)), .val (.int s0), .val (.int s1), .val (.int s2), .val (.int s3), .val (.int t0), .val (.int t2), .val (.int t1), .val (.int t3), .val (.int q1), .val (.int q2), .val (.ref b11), .val (.int (1 : Int32)), .unset]) rfl (pc' := 191) rfl ?_
        refine F_iload X63 at_191 rfl (pc' := 193) rfl ?_
        refine F_iconst X63 at_193 (z := (2 : Int32)) (by decide) (pc' := 194) rfl ?_
        refine F_icmp_le X63 at_194 (by decide) (pt := 210) (by decide) (pc' := 197) rfl (fun q => absurd q (by decide)) (fun _ => ?_)
        refine F_iload X63 at_197 rfl (pc' := 199) rfl ?_
        refine F_iload X63 at_199 rfl (pc' := 201) rfl ?_
        refine F_icmp_ge X63 at_201 (by decide) (pt := 210) (by decide) (pc' := 204) rfl (fun hc201_77 => ?_) (fun hc201_77 => ?_)
        · refine F_iload X63 at_210 rfl (pc' := 212) rfl ?_
          refine F_iconst X63 at_212 (z := (3 : Int32)) (by decide) (pc' := 213) rfl ?_
          refine F_icmp_le X63 at_213 (by decide) (pt := 229) (by decide) (pc' := 216) rfl (fun q => absurd q (by decide)) (fun _ => ?_)
          refine F_iload X63 at_216 rfl (pc' := 218) rfl ?_
          refine F_iload X63 at_218 rfl (pc' := 220) rfl ?_
          refine F_icmp_ge X63 at_220 (by decide) (pt := 229) (by decide) (pc' := 223) rfl (fun hc220_78 => ?_) (fun hc220_78 => ?_)
          · refine F_aload X63 at_229 rfl rfl (pc' := 231) rfl ?_
            refine F_iload X63 at_231 rfl (pc' := 233) rfl ?_
            refine F_callV X63 (y := (⟨"org/pulsewire/oru/IntList", "lastBelow", "(I)I"⟩ : MethodName)) (stk := []) (wd26 hw) (wd27 hw) (wd29 hw) (wd28 hw) (wd9 hw) (wd30 hw) (by decide) (a := b11) E63k_b11 (argsL := [(.int u5)]) (conL4 l Z a0 hw n0 h63 X63.size b11 u5 b12_fb t0 q1 q2 t3 F63_values_b11 F63_size_b11 A63_b12_fb) (by decide) (W := 0) (Nat.le_of_ble_eq_true rfl) (by decide) (by decide) (by decide) rfl (lenOf pd2 rfl) rfl at_233 (pc' := 236) rfl fun T79 v79 h79 X79 q79 => ?_
            obtain ⟨rfl, rfl⟩ := q79
            replace X79 := X79.more (cells' := 2) (slots' := 18) (by decide) (by decide)
            show Jvm.OwnKit.Ends p e below s n0 16 128 _ T79 (mkF m 236 #[.val (.int u1), .val (.int u2), .val (.int u3), .val (.int u4), .val (.int u5), .val (.int u6), .val (.int (4 : Int32)), .val (.int s0), .val (.int s1), .val (.int s2), .val (.int s3), .val (.int t0), .val (.int t2), .val (.int t1), .val (.int t3), .val (.int q1), .val (.int q2), .val (.ref b11), .val (.int (1 : Int32)), .unset] [(.int (lb4 t0 q1 q2 t3 u5))])
            refine F_istore X79 at_236 (Ls' := #[.val (.int u1), .val (.int u2), .val (.int u3), .val (.int u4), .val (.int u5), .val (.int u6), .val (.int (4 : Int32)), .val (.int s0), .val (.int s1), .val (.int s2), .val (.int s3), .val (.int t0), .val (.int t2), .val (.int t1), .val (.int t3), .val (.int q1), .val (.int q2), .val (.ref b11), .val (.int (1 : Int32)), .val (.int (lb4 t0 q1 q2 t3 u5))]) rfl (pc' := 238) rfl ?_
            refine F_iload X79 at_238 rfl (pc' := 240) rfl ?_
            refine F_iload X79 at_240 rfl (pc' := 242) rfl ?_
            refine F_iconst X79 at_242 (z := (1 : Int32)) (by decide) (pc' := 243) rfl ?_
            refine F_isub X79 at_243 (z := (0 : Int32)) (by decide) (pc' := 244) rfl ?_
            refine F_icmp_ne X79 at_244 (by decide) (pt := 251) (by decide) (pc' := 247) rfl (fun hc244_80 => ?_) (fun hc244_80 => ?_)
            · refine F_iconst X79 at_251 (z := (0 : Int32)) (by decide) (pc' := 252) rfl ?_
              refine F_ireturn_boolean (z' := (0 : Int32)) X79 (by decide) at_252 rfl (by decide) (by decide) ?_
              exfalso; refine hc244_80 ?_; unfold lb4; simp only [Int32.lt_iff_toInt_lt] at hc163_64 hc182_65 hc201_77 hc220_78 ⊢; repeat' split
              all_goals first | rfl | (exfalso; omega)
            · refine F_iconst X79 at_247 (z := (1 : Int32)) (by decide) (pc' := 248) rfl ?_
              refine F_goto X79 at_248 (by decide) (pc' := 252) (by decide) ?_
              refine F_ireturn_boolean (z' := (1 : Int32)) X79 (by decide) at_252 rfl (by decide) (by decide) ?_
              exact rfl
          · refine F_iload X63 at_223 rfl (pc' := 225) rfl ?_
            refine F_iconst X63 at_225 (z := (1 : Int32)) (by decide) (pc' := 226) rfl ?_
            refine F_iadd X63 at_226 (z := (2 : Int32)) (by decide) (pc' := 227) rfl ?_
            refine F_istore X63 at_227 (Ls' := #[.val (.int u1), .val (.int u2), .val (.int u3), .val (.int u4), .val (.int u5), .val (.int u6), .val (.int (4 : Int32)), .val (.int s0), .val (.int s1), .val (.int s2), .val (.int s3), .val (.int t0), .val (.int t2), .val (.int t1), .val (.int t3), .val (.int q1), .val (.int q2), .val (.ref b11), .val (.int (2 : Int32)), .unset]) rfl (pc' := 229) rfl ?_
            refine F_aload X63 at_229 rfl rfl (pc' := 231) rfl ?_
            refine F_iload X63 at_231 rfl (pc' := 233) rfl ?_
            refine F_callV X63 (y := (⟨"org/pulsewire/oru/IntList", "lastBelow", "(I)I"⟩ : MethodName)) (stk := []) (wd26 hw) (wd27 hw) (wd29 hw) (wd28 hw) (wd9 hw) (wd30 hw) (by decide) (a := b11) E63k_b11 (argsL := [(.int u5)]) (conL4 l Z a0 hw n0 h63 X63.size b11 u5 b12_fb t0 q1 q2 t3 F63_values_b11 F63_size_b11 A63_b12_fb) (by decide) (W := 0) (Nat.le_of_ble_eq_true rfl) (by decide) (by decide) (by decide) rfl (lenOf pd2 rfl) rfl at_233 (pc' := 236) rfl fun T81 v81 h81 X81 q81 => ?_
            obtain ⟨rfl, rfl⟩ := q81
            replace X81 := X81.more (cells' := 2) (slots' := 18) (by decide) (by decide)
            show Jvm.OwnKit.Ends p e below s n0 16 128 _ T81 (mkF m 236 #[.val (.int u1), .val (.int u2), .val (.int u3), .val (.int u4), .val (.int u5), .val (.int u6), .val (.int (4 : Int32)), .val (.int s0), .val (.int s1), .val (.int s2), .val (.int s3), .val (.int t0), .val (.int t2), .val (.int t1), .val (.int t3), .val (.int q1), .val (.int q2), .val (.ref b11), .val (.int (2 : Int32)), .unset] [(.int (lb4 t0 q1 q2 t3 u5))])
            refine F_istore X81 at_236 (Ls' := #[.val (.int u1), .val (.int u2), .val (.int u3), .val (.int u4), .val (.int u5), .val (.int u6), .val (.int (4 : Int32)), .val (.int s0), .val (.int s1), .val (.int s2), .val (.int s3), .val (.int t0), .val (.int t2), .val (.int t1), .val (.int t3), .val (.int q1), .val (.int q2), .val (.ref b11), .val (.int (2 : Int32)), .val (.int (lb4 t0 q1 q2 t3 u5))]) rfl (pc' := 238) rfl ?_
            refine F_iload X81 at_238 rfl (pc' := 240) rfl ?_
            refine F_iload X81 at_240 rfl (pc' := 242) rfl ?_
            refine F_iconst X81 at_242 (z := (1 : Int32)) (by decide) (pc' := 243) rfl ?_
            refine F_isub X81 at_243 (z := (1 : Int32)) (by decide) (pc' := 244) rfl ?_
            refine F_icmp_ne X81 at_244 (by decide) (pt := 251) (by decide) (pc' := 247) rfl (fun hc244_82 => ?_) (fun hc244_82 => ?_)
            · refine F_iconst X81 at_251 (z := (0 : Int32)) (by decide) (pc' := 252) rfl ?_
              refine F_ireturn_boolean (z' := (0 : Int32)) X81 (by decide) at_252 rfl (by decide) (by decide) ?_
              exfalso; refine hc244_82 ?_; unfold lb4; simp only [Int32.lt_iff_toInt_lt] at hc163_64 hc182_65 hc201_77 hc220_78 ⊢; repeat' split
              all_goals first | rfl | (exfalso; omega)
            · refine F_iconst X81 at_247 (z := (1 : Int32)) (by decide) (pc' := 248) rfl ?_
              refine F_goto X81 at_248 (by decide) (pc' := 252) (by decide) ?_
              refine F_ireturn_boolean (z' := (1 : Int32)) X81 (by decide) at_252 rfl (by decide) (by decide) ?_
              exact rfl
        · refine F_iload X63 at_204 rfl (pc' := 206) rfl ?_
          refine F_iconst X63 at_206 (z := (1 : Int32)) (by decide) (pc' := 207) rfl ?_
          refine F_iadd X63 at_207 (z := (2 : Int32)) (by decide) (pc' := 208) rfl ?_
          refine F_istore X63 at_208 (Ls' := #[.val (.int u1), .val (.int u2), .val (.int u3), .val (.int u4), .val (.int u5), .val (.int u6), .val (.int (4 : Int32)), .val (.int s0), .val (.int s1), .val (.int s2), .val (.int s3), .val (.int t0), .val (.int t2), .val (.int t1), .val (.int t3), .val (.int q1), .val (.int q2), .val (.ref b11), .val (.int (2 : Int32)), .unset]) rfl (pc' := 210) rfl ?_
          refine F_iload X63 at_210 rfl (pc' := 212) rfl ?_
          refine F_iconst X63 at_212 (z := (3 : Int32)) (by decide) (pc' := 213) rfl ?_
          refine F_icmp_le X63 at_213 (by decide) (pt := 229) (by decide) (pc' := 216) rfl (fun q => absurd q (by decide)) (fun _ => ?_)
          refine F_iload X63 at_216 rfl (pc' := 218) rfl ?_
          refine F_iload X63 at_218 rfl (pc' := 220) rfl ?_
          refine F_icmp_ge X63 at_220 (by decide) (pt := 229) (by decide) (pc' := 223) rfl (fun hc220_83 => ?_) (fun hc220_83 => ?_)
          · refine F_aload X63 at_229 rfl rfl (pc' := 231) rfl ?_
            refine F_iload X63 at_231 rfl (pc' := 233) rfl ?_
            refine F_callV X63 (y := (⟨"org/pulsewire/oru/IntList", "lastBelow", "(I)I"⟩ : MethodName)) (stk := []) (wd26 hw) (wd27 hw) (wd29 hw) (wd28 hw) (wd9 hw) (wd30 hw) (by decide) (a := b11) E63k_b11 (argsL := [(.int u5)]) (conL4 l Z a0 hw n0 h63 X63.size b11 u5 b12_fb t0 q1 q2 t3 F63_values_b11 F63_size_b11 A63_b12_fb) (by decide) (W := 0) (Nat.le_of_ble_eq_true rfl) (by decide) (by decide) (by decide) rfl (lenOf pd2 rfl) rfl at_233 (pc' := 236) rfl fun T84 v84 h84 X84 q84 => ?_
            obtain ⟨rfl, rfl⟩ := q84
            replace X84 := X84.more (cells' := 2) (slots' := 18) (by decide) (by decide)
            show Jvm.OwnKit.Ends p e below s n0 16 128 _ T84 (mkF m 236 #[.val (.int u1), .val (.int u2), .val (.int u3), .val (.int u4), .val (.int u5), .val (.int u6), .val (.int (4 : Int32)), .val (.int s0), .val (.int s1), .val (.int s2), .val (.int s3), .val (.int t0), .val (.int t2), .val (.int t1), .val (.int t3), .val (.int q1), .val (.int q2), .val (.ref b11), .val (.int (2 : Int32)), .unset] [(.int (lb4 t0 q1 q2 t3 u5))])
            refine F_istore X84 at_236 (Ls' := #[.val (.int u1), .val (.int u2), .val (.int u3), .val (.int u4), .val (.int u5), .val (.int u6), .val (.int (4 : Int32)), .val (.int s0), .val (.int s1), .val (.int s2), .val (.int s3), .val (.int t0), .val (.int t2), .val (.int t1), .val (.int t3), .val (.int q1), .val (.int q2), .val (.ref b11), .val (.int (2 : Int32)), .val (.int (lb4 t0 q1 q2 t3 u5))]) rfl (pc' := 238) rfl ?_
            refine F_iload X84 at_238 rfl (pc' := 240) rfl ?_
            refine F_iload X84 at_240 rfl (pc' := 242) rfl ?_
            refine F_iconst X84 at_242 (z := (1 : Int32)) (by decide) (pc' := 243) rfl ?_
            refine F_isub X84 at_243 (z := (1 : Int32)) (by decide) (pc' := 244) rfl ?_
            refine F_icmp_ne X84 at_244 (by decide) (pt := 251) (by decide) (pc' := 247) rfl (fun hc244_85 => ?_) (fun hc244_85 => ?_)
            · refine F_iconst X84 at_251 (z := (0 : Int32)) (by decide) (pc' := 252) rfl ?_
              refine F_ireturn_boolean (z' := (0 : Int32)) X84 (by decide) at_252 rfl (by decide) (by decide) ?_
              exfalso; refine hc244_85 ?_; unfold lb4; simp only [Int32.lt_iff_toInt_lt] at hc163_64 hc182_65 hc201_77 hc220_83 ⊢; repeat' split
              all_goals first | rfl | (exfalso; omega)
            · refine F_iconst X84 at_247 (z := (1 : Int32)) (by decide) (pc' := 248) rfl ?_
              refine F_goto X84 at_248 (by decide) (pc' := 252) (by decide) ?_
              refine F_ireturn_boolean (z' := (1 : Int32)) X84 (by decide) at_252 rfl (by decide) (by decide) ?_
              exact rfl
          · refine F_iload X63 at_223 rfl (pc' := 225) rfl ?_
            refine F_iconst X63 at_225 (z := (1 : Int32)) (by decide) (pc' := 226) rfl ?_
            refine F_iadd X63 at_226 (z := (3 : Int32)) (by decide) (pc' := 227) rfl ?_
            refine F_istore X63 at_227 (Ls' := #[.val (.int u1), .val (.int u2), .val (.int u3), .val (.int u4), .val (.int u5), .val (.int u6), .val (.int (4 : Int32)), .val (.int s0), .val (.int s1), .val (.int s2), .val (.int s3), .val (.int t0), .val (.int t2), .val (.int t1), .val (.int t3), .val (.int q1), .val (.int q2), .val (.ref b11), .val (.int (3 : Int32)), .unset]) rfl (pc' := 229) rfl ?_
            refine F_aload X63 at_229 rfl rfl (pc' := 231) rfl ?_
            refine F_iload X63 at_231 rfl (pc' := 233) rfl ?_
            refine F_callV X63 (y := (⟨"org/pulsewire/oru/IntList", "lastBelow", "(I)I"⟩ : MethodName)) (stk := []) (wd26 hw) (wd27 hw) (wd29 hw) (wd28 hw) (wd9 hw) (wd30 hw) (by decide) (a := b11) E63k_b11 (argsL := [(.int u5)]) (conL4 l Z a0 hw n0 h63 X63.size b11 u5 b12_fb t0 q1 q2 t3 F63_values_b11 F63_size_b11 A63_b12_fb) (by decide) (W := 0) (Nat.le_of_ble_eq_true rfl) (by decide) (by decide) (by decide) rfl (lenOf pd2 rfl) rfl at_233 (pc' := 236) rfl fun T86 v86 h86 X86 q86 => ?_
            obtain ⟨rfl, rfl⟩ := q86
            replace X86 := X86.more (cells' := 2) (slots' := 18) (by decide) (by decide)
            show Jvm.OwnKit.Ends p e below s n0 16 128 _ T86 (mkF m 236 #[.val (.int u1), .val (.int u2), .val (.int u3), .val (.int u4), .val (.int u5), .val (.int u6), .val (.int (4 : Int32)), .val (.int s0), .val (.int s1), .val (.int s2), .val (.int s3), .val (.int t0), .val (.int t2), .val (.int t1), .val (.int t3), .val (.int q1), .val (.int q2), .val (.ref b11), .val (.int (3 : Int32)), .unset] [(.int (lb4 t0 q1 q2 t3 u5))])
            refine F_istore X86 at_236 (Ls' := #[.val (.int u1), .val (.int u2), .val (.int u3), .val (.int u4), .val (.int u5), .val (.int u6), .val (.int (4 : Int32)), .val (.int s0), .val (.int s1), .val (.int s2), .val (.int s3), .val (.int t0), .val (.int t2), .val (.int t1), .val (.int t3), .val (.int q1), .val (.int q2), .val (.ref b11), .val (.int (3 : Int32)), .val (.int (lb4 t0 q1 q2 t3 u5))]) rfl (pc' := 238) rfl ?_
            refine F_iload X86 at_238 rfl (pc' := 240) rfl ?_
            refine F_iload X86 at_240 rfl (pc' := 242) rfl ?_
            refine F_iconst X86 at_242 (z := (1 : Int32)) (by decide) (pc' := 243) rfl ?_
            refine F_isub X86 at_243 (z := (2 : Int32)) (by decide) (pc' := 244) rfl ?_
            refine F_icmp_ne X86 at_244 (by decide) (pt := 251) (by decide) (pc' := 247) rfl (fun hc244_87 => ?_) (fun hc244_87 => ?_)
            · refine F_iconst X86 at_251 (z := (0 : Int32)) (by decide) (pc' := 252) rfl ?_
              refine F_ireturn_boolean (z' := (0 : Int32)) X86 (by decide) at_252 rfl (by decide) (by decide) ?_
              exfalso; refine hc244_87 ?_; unfold lb4; simp only [Int32.lt_iff_toInt_lt] at hc163_64 hc182_65 hc201_77 hc220_83 ⊢; repeat' split
              all_goals first | rfl | (exfalso; omega)
            · refine F_iconst X86 at_247 (z := (1 : Int32)) (by decide) (pc' := 248) rfl ?_
              refine F_goto X86 at_248 (by decide) (pc' := 252) (by decide) ?_
              refine F_ireturn_boolean (z' := (1 : Int32)) X86 (by decide) at_252 rfl (by decide) (by decide) ?_
              exact rfl
    · refine F_iload X63 at_166 rfl (pc' := 168) rfl ?_
      refine F_iconst X63 at_168 (z := (1 : Int32)) (by decide) (pc' := 169) rfl ?_
      refine F_iadd X63 at_169 (z := (1 : Int32)) (by decide) (pc' := 170) rfl ?_
      refine F_istore X63 at_170 (Ls' := #[.val (.int u1), .val (.int u2), .val (.int u3), .val (.int u4), .val (.int u5), .val (.int u6), .val (.int (4 : Int32)), .val (.int s0), .val (.int s1), .val (.int s2), .val (.int s3), .val (.int t0), .val (.int t2), .val (.int t1), .val (.int t3), .val (.int q1), .val (.int q2), .val (.ref b11), .val (.int (1 : Int32)), .unset]) rfl (pc' := 172) rfl ?_
      refine F_iload X63 at_172 rfl (pc' := 174) rfl ?_
      refine F_iconst X63 at_174 (z := (1 : Int32)) (by decide) (pc' := 175) rfl ?_
      refine F_icmp_le X63 at_175 (by decide) (pt := 191) (by decide) (pc' := 178) rfl (fun q => absurd q (by decide)) (fun _ => ?_)
      refine F_iload X63 at_178 rfl (pc' := 180) rfl ?_
      refine F_iload X63 at_180 rfl (pc' := 182) rfl ?_
      refine F_icmp_ge X63 at_182 (by decide) (pt := 191) (by decide) (pc' := 185) rfl (fun hc182_88 => ?_) (fun hc182_88 => ?_)
      · refine F_iload X63 at_191 rfl (pc' := 193) rfl ?_
        refine F_iconst X63 at_193 (z := (2 : Int32)) (by decide) (pc' := 194) rfl ?_
        refine F_icmp_le X63 at_194 (by decide) (pt := 210) (by decide) (pc' := 197) rfl (fun q => absurd q (by decide)) (fun _ => ?_)
        refine F_iload X63 at_197 rfl (pc' := 199) rfl ?_
        refine F_iload X63 at_199 rfl (pc' := 201) rfl ?_
        refine F_icmp_ge X63 at_201 (by decide) (pt := 210) (by decide) (pc' := 204) rfl (fun hc201_89 => ?_) (fun hc201_89 => ?_)
        · refine F_iload X63 at_210 rfl (pc' := 212) rfl ?_
          refine F_iconst X63 at_212 (z := (3 : Int32)) (by decide) (pc' := 213) rfl ?_
          refine F_icmp_le X63 at_213 (by decide) (pt := 229) (by decide) (pc' := 216) rfl (fun q => absurd q (by decide)) (fun _ => ?_)
          refine F_iload X63 at_216 rfl (pc' := 218) rfl ?_
          refine F_iload X63 at_218 rfl (pc' := 220) rfl ?_
          refine F_icmp_ge X63 at_220 (by decide) (pt := 229) (by decide) (pc' := 223) rfl (fun hc220_90 => ?_) (fun hc220_90 => ?_)
          · refine F_aload X63 at_229 rfl rfl (pc' := 231) rfl ?_
            refine F_iload X63 at_231 rfl (pc' := 233) rfl ?_
            refine F_callV X63 (y := (⟨"org/pulsewire/oru/IntList", "lastBelow", "(I)I"⟩ : MethodName)) (stk := []) (wd26 hw) (wd27 hw) (wd29 hw) (wd28 hw) (wd9 hw) (wd30 hw) (by decide) (a := b11) E63k_b11 (argsL := [(.int u5)]) (conL4 l Z a0 hw n0 h63 X63.size b11 u5 b12_fb t0 q1 q2 t3 F63_values_b11 F63_size_b11 A63_b12_fb) (by decide) (W := 0) (Nat.le_of_ble_eq_true rfl) (by decide) (by decide) (by decide) rfl (lenOf pd2 rfl) rfl at_233 (pc' := 236) rfl fun T91 v91 h91 X91 q91 => ?_
            obtain ⟨rfl, rfl⟩ := q91
            replace X91 := X91.more (cells' := 2) (slots' := 18) (by decide) (by decide)
            show Jvm.OwnKit.Ends p e below s n0 16 128 _ T91 (mkF m 236 #[.val (.int u1), .val (.int u2), .val (.int u3), .val (.int u4), .val (.int u5), .val (.int u6), .val (.int (4 : Int32)), .val (.int s0), .val (.int s1), .val (.int s2), .val (.int s3), .val (.int t0), .val (.int t2), .val (.int t1), .val (.int t3), .val (.int q1), .val (.int q2), .val (.ref b11), .val (.int (1 : Int32)), .unset] [(.int (lb4 t0 q1 q2 t3 u5))])
            refine F_istore X91 at_236 (Ls' := #[.val (.int u1), .val (.int u2), .val (.int u3), .val (.int u4), .val (.int u5), .val (.int u6), .val (.int (4 : Int32)), .val (.int s0), .val (.int s1), .val (.int s2), .val (.int s3), .val (.int t0), .val (.int t2), .val (.int t1), .val (.int t3), .val (.int q1), .val (.int q2), .val (.ref b11), .val (.int (1 : Int32)), .val (.int (lb4 t0 q1 q2 t3 u5))]) rfl (pc' := 238) rfl ?_
            refine F_iload X91 at_238 rfl (pc' := 240) rfl ?_
            refine F_iload X91 at_240 rfl (pc' := 242) rfl ?_
            refine F_iconst X91 at_242 (z := (1 : Int32)) (by decide) (pc' := 243) rfl ?_
            refine F_isub X91 at_243 (z := (0 : Int32)) (by decide) (pc' := 244) rfl ?_
            refine F_icmp_ne X91 at_244 (by decide) (pt := 251) (by decide) (pc' := 247) rfl (fun hc244_92 => ?_) (fun hc244_92 => ?_)
            · refine F_iconst X91 at_251 (z := (0 : Int32)) (by decide) (pc' := 252) rfl ?_
              refine F_ireturn_boolean (z' := (0 : Int32)) X91 (by decide) at_252 rfl (by decide) (by decide) ?_
              exfalso; refine hc244_92 ?_; unfold lb4; simp only [Int32.lt_iff_toInt_lt] at hc163_64 hc182_88 hc201_89 hc220_90 ⊢; repeat' split
              all_goals first | rfl | (exfalso; omega)
            · refine F_iconst X91 at_247 (z := (1 : Int32)) (by decide) (pc' := 248) rfl ?_
              refine F_goto X91 at_248 (by decide) (pc' := 252) (by decide) ?_
              refine F_ireturn_boolean (z' := (1 : Int32)) X91 (by decide) at_252 rfl (by decide) (by decide) ?_
              exact rfl
          · refine F_iload X63 at_223 rfl (pc' := 225) rfl ?_
            refine F_iconst X63 at_225 (z := (1 : Int32)) (by decide) (pc' := 226) rfl ?_
            refine F_iadd X63 at_226 (z := (2 : Int32)) (by decide) (pc' := 227) rfl ?_
            refine F_istore X63 at_227 (Ls' := #[.val (.int u1), .val (.int u2), .val (.int u3), .val (.int u4), .val (.int u5), .val (.int u6), .val (.int (4 : Int32)), .val (.int s0), .val (.int s1), .val (.int s2), .val (.int s3), .val (.int t0), .val (.int t2), .val (.int t1), .val (.int t3), .val (.int q1), .val (.int q2), .val (.ref b11), .val (.int (2 : Int32)), .unset]) rfl (pc' := 229) rfl ?_
            refine F_aload X63 at_229 rfl rfl (pc' := 231) rfl ?_
            refine F_iload X63 at_231 rfl (pc' := 233) rfl ?_
            refine F_callV X63 (y := (⟨"org/pulsewire/oru/IntList", "lastBelow", "(I)I"⟩ : MethodName)) (stk := []) (wd26 hw) (wd27 hw) (wd29 hw) (wd28 hw) (wd9 hw) (wd30 hw) (by decide) (a := b11) E63k_b11 (argsL := [(.int u5)]) (conL4 l Z a0 hw n0 h63 X63.size b11 u5 b12_fb t0 q1 q2 t3 F63_values_b11 F63_size_b11 A63_b12_fb) (by decide) (W := 0) (Nat.le_of_ble_eq_true rfl) (by decide) (by decide) (by decide) rfl (lenOf pd2 rfl) rfl at_233 (pc' := 236) rfl fun T93 v93 h93 X93 q93 => ?_
            obtain ⟨rfl, rfl⟩ := q93
            replace X93 := X93.more (cells' := 2) (slots' := 18) (by decide) (by decide)
            show Jvm.OwnKit.Ends p e below s n0 16 128 _ T93 (mkF m 236 #[.val (.int u1), .val (.int u2), .val (.int u3), .val (.int u4), .val (.int u5), .val (.int u6), .val (.int (4 : Int32)), .val (.int s0), .val (.int s1), .val (.int s2), .val (.int s3), .val (.int t0), .val (.int t2), .val (.int t1), .val (.int t3), .val (.int q1), .val (.int q2), .val (.ref b11), .val (.int (2 : Int32)), .unset] [(.int (lb4 t0 q1 q2 t3 u5))])
            refine F_istore X93 at_236 (Ls' := #[.val (.int u1), .val (.int u2), .val (.int u3), .val (.int u4), .val (.int u5), .val (.int u6), .val (.int (4 : Int32)), .val (.int s0), .val (.int s1), .val (.int s2), .val (.int s3), .val (.int t0), .val (.int t2), .val (.int t1), .val (.int t3), .val (.int q1), .val (.int q2), .val (.ref b11), .val (.int (2 : Int32)), .val (.int (lb4 t0 q1 q2 t3 u5))]) rfl (pc' := 238) rfl ?_
            refine F_iload X93 at_238 rfl (pc' := 240) rfl ?_
            refine F_iload X93 at_240 rfl (pc' := 242) rfl ?_
            refine F_iconst X93 at_242 (z := (1 : Int32)) (by decide) (pc' := 243) rfl ?_
            refine F_isub X93 at_243 (z := (1 : Int32)) (by decide) (pc' := 244) rfl ?_
            refine F_icmp_ne X93 at_244 (by decide) (pt := 251) (by decide) (pc' := 247) rfl (fun hc244_94 => ?_) (fun hc244_94 => ?_)
            · refine F_iconst X93 at_251 (z := (0 : Int32)) (by decide) (pc' := 252) rfl ?_
              refine F_ireturn_boolean (z' := (0 : Int32)) X93 (by decide) at_252 rfl (by decide) (by decide) ?_
              exfalso; refine hc244_94 ?_; unfold lb4; simp only [Int32.lt_iff_toInt_lt] at hc163_64 hc182_88 hc201_89 hc220_90 ⊢; repeat' split
              all_goals first | rfl | (exfalso; omega)
            · refine F_iconst X93 at_247 (z := (1 : Int32)) (by decide) (pc' := 248) rfl ?_
              refine F_goto X93 at_248 (by decide) (pc' := 252) (by decide) ?_
              refine F_ireturn_boolean (z' := (1 : Int32)) X93 (by decide) at_252 rfl (by decide) (by decide) ?_
              exact rfl
        · refine F_iload X63 at_204 rfl (pc' := 206) rfl ?_
          refine F_iconst X63 at_206 (z := (1 : Int32)) (by decide) (pc' := 207) rfl ?_
          refine F_iadd X63 at_207 (z := (2 : Int32)) (by decide) (pc' := 208) rfl ?_
          refine F_istore X63 at_208 (Ls' := #[.val (.int u1), .val (.int u2), .val (.int u3), .val (.int u4), .val (.int u5), .val (.int u6), .val (.int (4 : Int32)), .val (.int s0), .val (.int s1), .val (.int s2), .val (.int s3), .val (.int t0), .val (.int t2), .val (.int t1), .val (.int t3), .val (.int q1), .val (.int q2), .val (.ref b11), .val (.int (2 : Int32)), .unset]) rfl (pc' := 210) rfl ?_
          refine F_iload X63 at_210 rfl (pc' := 212) rfl ?_
          refine F_iconst X63 at_212 (z := (3 : Int32)) (by decide) (pc' := 213) rfl ?_
          refine F_icmp_le X63 at_213 (by decide) (pt := 229) (by decide) (pc' := 216) rfl (fun q => absurd q (by decide)) (fun _ => ?_)
          refine F_iload X63 at_216 rfl (pc' := 218) rfl ?_
          refine F_iload X63 at_218 rfl (pc' := 220) rfl ?_
          refine F_icmp_ge X63 at_220 (by decide) (pt := 229) (by decide) (pc' := 223) rfl (fun hc220_95 => ?_) (fun hc220_95 => ?_)
          · refine F_aload X63 at_229 rfl rfl (pc' := 231) rfl ?_
            refine F_iload X63 at_231 rfl (pc' := 233) rfl ?_
            refine F_callV X63 (y := (⟨"org/pulsewire/oru/IntList", "lastBelow", "(I)I"⟩ : MethodName)) (stk := []) (wd26 hw) (wd27 hw) (wd29 hw) (wd28 hw) (wd9 hw) (wd30 hw) (by decide) (a := b11) E63k_b11 (argsL := [(.int u5)]) (conL4 l Z a0 hw n0 h63 X63.size b11 u5 b12_fb t0 q1 q2 t3 F63_values_b11 F63_size_b11 A63_b12_fb) (by decide) (W := 0) (Nat.le_of_ble_eq_true rfl) (by decide) (by decide) (by decide) rfl (lenOf pd2 rfl) rfl at_233 (pc' := 236) rfl fun T96 v96 h96 X96 q96 => ?_
            obtain ⟨rfl, rfl⟩ := q96
            replace X96 := X96.more (cells' := 2) (slots' := 18) (by decide) (by decide)
            show Jvm.OwnKit.Ends p e below s n0 16 128 _ T96 (mkF m 236 #[.val (.int u1), .val (.int u2), .val (.int u3), .val (.int u4), .val (.int u5), .val (.int u6), .val (.int (4 : Int32)), .val (.int s0), .val (.int s1), .val (.int s2), .val (.int s3), .val (.int t0), .val (.int t2), .val (.int t1), .val (.int t3), .val (.int q1), .val (.int q2), .val (.ref b11), .val (.int (2 : Int32)), .unset] [(.int (lb4 t0 q1 q2 t3 u5))])
            refine F_istore X96 at_236 (Ls' := #[.val (.int u1), .val (.int u2), .val (.int u3), .val (.int u4), .val (.int u5), .val (.int u6), .val (.int (4 : Int32)), .val (.int s0), .val (.int s1), .val (.int s2), .val (.int s3), .val (.int t0), .val (.int t2), .val (.int t1), .val (.int t3), .val (.int q1), .val (.int q2), .val (.ref b11), .val (.int (2 : Int32)), .val (.int (lb4 t0 q1 q2 t3 u5))]) rfl (pc' := 238) rfl ?_
            refine F_iload X96 at_238 rfl (pc' := 240) rfl ?_
            refine F_iload X96 at_240 rfl (pc' := 242) rfl ?_
            refine F_iconst X96 at_242 (z := (1 : Int32)) (by decide) (pc' := 243) rfl ?_
            refine F_isub X96 at_243 (z := (1 : Int32)) (by decide) (pc' := 244) rfl ?_
            refine F_icmp_ne X96 at_244 (by decide) (pt := 251) (by decide) (pc' := 247) rfl (fun hc244_97 => ?_) (fun hc244_97 => ?_)
            · refine F_iconst X96 at_251 (z := (0 : Int32)) (by decide) (pc' := 252) rfl ?_
              refine F_ireturn_boolean (z' := (0 : Int32)) X96 (by decide) at_252 rfl (by decide) (by decide) ?_
              exfalso; refine hc244_97 ?_; unfold lb4; simp only [Int32.lt_iff_toInt_lt] at hc163_64 hc182_88 hc201_89 hc220_95 ⊢; repeat' split
              all_goals first | rfl | (exfalso; omega)
            · refine F_iconst X96 at_247 (z := (1 : Int32)) (by decide) (pc' := 248) rfl ?_
              refine F_goto X96 at_248 (by decide) (pc' := 252) (by decide) ?_
              refine F_ireturn_boolean (z' := (1 : Int32)) X96 (by decide) at_252 rfl (by decide) (by decide) ?_
              exact rfl
          · refine F_iload X63 at_223 rfl (pc' := 225) rfl ?_
            refine F_iconst X63 at_225 (z := (1 : Int32)) (by decide) (pc' := 226) rfl ?_
            refine F_iadd X63 at_226 (z := (3 : Int32)) (by decide) (pc' := 227) rfl ?_
            refine F_istore X63 at_227 (Ls' := #[.val (.int u1), .val (.int u2), .val (.int u3), .val (.int u4), .val (.int u5), .val (.int u6), .val (.int (4 : Int32)), .val (.int s0), .val (.int s1), .val (.int s2), .val (.int s3), .val (.int t0), .val (.int t2), .val (.int t1), .val (.int t3), .val (.int q1), .val (.int q2), .val (.ref b11), .val (.int (3 : Int32)), .unset]) rfl (pc' := 229) rfl ?_
            refine F_aload X63 at_229 rfl rfl (pc' := 231) rfl ?_
            refine F_iload X63 at_231 rfl (pc' := 233) rfl ?_
            refine F_callV X63 (y := (⟨"org/pulsewire/oru/IntList", "lastBelow", "(I)I"⟩ : MethodName)) (stk := []) (wd26 hw) (wd27 hw) (wd29 hw) (wd28 hw) (wd9 hw) (wd30 hw) (by decide) (a := b11) E63k_b11 (argsL := [(.int u5)]) (conL4 l Z a0 hw n0 h63 X63.size b11 u5 b12_fb t0 q1 q2 t3 F63_values_b11 F63_size_b11 A63_b12_fb) (by decide) (W := 0) (Nat.le_of_ble_eq_true rfl) (by decide) (by decide) (by decide) rfl (lenOf pd2 rfl) rfl at_233 (pc' := 236) rfl fun T98 v98 h98 X98 q98 => ?_
            obtain ⟨rfl, rfl⟩ := q98
            replace X98 := X98.more (cells' := 2) (slots' := 18) (by decide) (by decide)
            show Jvm.OwnKit.Ends p e below s n0 16 128 _ T98 (mkF m 236 #[.val (.int u1), .val (.int u2), .val (.int u3), .val (.int u4), .val (.int u5), .val (.int u6), .val (.int (4 : Int32)), .val (.int s0), .val (.int s1), .val (.int s2), .val (.int s3), .val (.int t0), .val (.int t2), .val (.int t1), .val (.int t3), .val (.int q1), .val (.int q2), .val (.ref b11), .val (.int (3 : Int32)), .unset] [(.int (lb4 t0 q1 q2 t3 u5))])
            refine F_istore X98 at_236 (Ls' := #[.val (.int u1), .val (.int u2), .val (.int u3), .val (.int u4), .val (.int u5), .val (.int u6), .val (.int (4 : Int32)), .val (.int s0), .val (.int s1), .val (.int s2), .val (.int s3), .val (.int t0), .val (.int t2), .val (.int t1), .val (.int t3), .val (.int q1), .val (.int q2), .val (.ref b11), .val (.int (3 : Int32)), .val (.int (lb4 t0 q1 q2 t3 u5))]) rfl (pc' := 238) rfl ?_
            refine F_iload X98 at_238 rfl (pc' := 240) rfl ?_
            refine F_iload X98 at_240 rfl (pc' := 242) rfl ?_
            refine F_iconst X98 at_242 (z := (1 : Int32)) (by decide) (pc' := 243) rfl ?_
            refine F_isub X98 at_243 (z := (2 : Int32)) (by decide) (pc' := 244) rfl ?_
            refine F_icmp_ne X98 at_244 (by decide) (pt := 251) (by decide) (pc' := 247) rfl (fun hc244_99 => ?_) (fun hc244_99 => ?_)
            · refine F_iconst X98 at_251 (z := (0 : Int32)) (by decide) (pc' := 252) rfl ?_
              refine F_ireturn_boolean (z' := (0 : Int32)) X98 (by decide) at_252 rfl (by decide) (by decide) ?_
              exfalso; refine hc244_99 ?_; unfold lb4; simp only [Int32.lt_iff_toInt_lt] at hc163_64 hc182_88 hc201_89 hc220_95 ⊢; repeat' split
              all_goals first | rfl | (exfalso; omega)
            · refine F_iconst X98 at_247 (z := (1 : Int32)) (by decide) (pc' := 248) rfl ?_
              refine F_goto X98 at_248 (by decide) (pc' := 252) (by decide) ?_
              refine F_ireturn_boolean (z' := (1 : Int32)) X98 (by decide) at_252 rfl (by decide) (by decide) ?_
              exact rfl
      · refine F_iload X63 at_185 rfl (pc' := 187) rfl ?_
        refine F_iconst X63 at_187 (z := (1 : Int32)) (by decide) (pc' := 188) rfl ?_
        refine F_iadd X63 at_188 (z := (2 : Int32)) (by decide) (pc' := 189) rfl ?_
        refine F_istore X63 at_189 (Ls' := #[.val (.int u1), .val (.int u2), .val (.int u3), .val (.int u4), .val (.int u5), .val (.int u6), .val (.int (4 : Int32)), .val (.int s0), .val (.int s1), .val (.int s2), .val (.int s3), .val (.int t0), .val (.int t2), .val (.int t1), .val (.int t3), .val (.int q1), .val (.int q2), .val (.ref b11), .val (.int (2 : Int32)), .unset]) rfl (pc' := 191) rfl ?_
        refine F_iload X63 at_191 rfl (pc' := 193) rfl ?_
        refine F_iconst X63 at_193 (z := (2 : Int32)) (by decide) (pc' := 194) rfl ?_
        refine F_icmp_le X63 at_194 (by decide) (pt := 210) (by decide) (pc' := 197) rfl (fun q => absurd q (by decide)) (fun _ => ?_)
        refine F_iload X63 at_197 rfl (pc' := 199) rfl ?_
        refine F_iload X63 at_199 rfl (pc' := 201) rfl ?_
        refine F_icmp_ge X63 at_201 (by decide) (pt := 210) (by decide) (pc' := 204) rfl (fun hc201_100 => ?_) (fun hc201_100 => ?_)
        · refine F_iload X63 at_210 rfl (pc' := 212) rfl ?_
          refine F_iconst X63 at_212 (z := (3 : Int32)) (by decide) (pc' := 213) rfl ?_
          refine F_icmp_le X63 at_213 (by decide) (pt := 229) (by decide) (pc' := 216) rfl (fun q => absurd q (by decide)) (fun _ => ?_)
          refine F_iload X63 at_216 rfl (pc' := 218) rfl ?_
          refine F_iload X63 at_218 rfl (pc' := 220) rfl ?_
          refine F_icmp_ge X63 at_220 (by decide) (pt := 229) (by decide) (pc' := 223) rfl (fun hc220_101 => ?_) (fun hc220_101 => ?_)
          · refine F_aload X63 at_229 rfl rfl (pc' := 231) rfl ?_
            refine F_iload X63 at_231 rfl (pc' := 233) rfl ?_
            refine F_callV X63 (y := (⟨"org/pulsewire/oru/IntList", "lastBelow", "(I)I"⟩ : MethodName)) (stk := []) (wd26 hw) (wd27 hw) (wd29 hw) (wd28 hw) (wd9 hw) (wd30 hw) (by decide) (a := b11) E63k_b11 (argsL := [(.int u5)]) (conL4 l Z a0 hw n0 h63 X63.size b11 u5 b12_fb t0 q1 q2 t3 F63_values_b11 F63_size_b11 A63_b12_fb) (by decide) (W := 0) (Nat.le_of_ble_eq_true rfl) (by decide) (by decide) (by decide) rfl (lenOf pd2 rfl) rfl at_233 (pc' := 236) rfl fun T102 v102 h102 X102 q102 => ?_
            obtain ⟨rfl, rfl⟩ := q102
            replace X102 := X102.more (cells' := 2) (slots' := 18) (by decide) (by decide)
            show Jvm.OwnKit.Ends p e below s n0 16 128 _ T102 (mkF m 236 #[.val (.int u1), .val (.int u2), .val (.int u3), .val (.int u4), .val (.int u5), .val (.int u6), .val (.int (4 : Int32)), .val (.int s0), .val (.int s1), .val (.int s2), .val (.int s3), .val (.int t0), .val (.int t2), .val (.int t1), .val (.int t3), .val (.int q1), .val (.int q2), .val (.ref b11), .val (.int (2 : Int32)), .unset] [(.int (lb4 t0 q1 q2 t3 u5))])
            refine F_istore X102 at_236 (Ls' := #[.val (.int u1), .val (.int u2), .val (.int u3), .val (.int u4), .val (.int u5), .val (.int u6), .val (.int (4 : Int32)), .val (.int s0), .val (.int s1), .val (.int s2), .val (.int s3), .val (.int t0), .val (.int t2), .val (.int t1), .val (.int t3), .val (.int q1), .val (.int q2), .val (.ref b11), .val (.int (2 : Int32)), .val (.int (lb4 t0 q1 q2 t3 u5))]) rfl (pc' := 238) rfl ?_
            refine F_iload X102 at_238 rfl (pc' := 240) rfl ?_
            refine F_iload X102 at_240 rfl (pc' := 242) rfl ?_
            refine F_iconst X102 at_242 (z := (1 : Int32)) (by decide) (pc' := 243) rfl ?_
            refine F_isub X102 at_243 (z := (1 : Int32)) (by decide) (pc' := 244) rfl ?_
            refine F_icmp_ne X102 at_244 (by decide) (pt := 251) (by decide) (pc' := 247) rfl (fun hc244_103 => ?_) (fun hc244_103 => ?_)
            · refine F_iconst X102 at_251 (z := (0 : Int32)) (by decide) (pc' := 252) rfl ?_
              refine F_ireturn_boolean (z' := (0 : Int32)) X102 (by decide) at_252 rfl (by decide) (by decide) ?_
              exfalso; refine hc244_103 ?_; unfold lb4; simp only [Int32.lt_iff_toInt_lt] at hc163_64 hc182_88 hc201_100 hc220_101 ⊢; repeat' split
              all_goals first | rfl | (exfalso; omega)
            · refine F_iconst X102 at_247 (z := (1 : Int32)) (by decide) (pc' := 248) rfl ?_
              refine F_goto X102 at_248 (by decide) (pc' := 252) (by decide) ?_
              refine F_ireturn_boolean (z' := (1 : Int32)) X102 (by decide) at_252 rfl (by decide) (by decide) ?_
              exact rfl
          · refine F_iload X63 at_223 rfl (pc' := 225) rfl ?_
            refine F_iconst X63 at_225 (z := (1 : Int32)) (by decide) (pc' := 226) rfl ?_
            refine F_iadd X63 at_226 (z := (3 : Int32)) (by decide) (pc' := 227) rfl ?_
            refine F_istore X63 at_227 (Ls' := #[.val (.int u1), .val (.int u2), .val (.int u3), .val (.int u4), .val (.int u5), .val (.int u6), .val (.int (4 : Int32)), .val (.int s0), .val (.int s1), .val (.int s2), .val (.int s3), .val (.int t0), .val (.int t2), .val (.int t1), .val (.int t3), .val (.int q1), .val (.int q2), .val (.ref b11), .val (.int (3 : Int32)), .unset]) rfl (pc' := 229) rfl ?_
            refine F_aload X63 at_229 rfl rfl (pc' := 231) rfl ?_
            refine F_iload X63 at_231 rfl (pc' := 233) rfl ?_
            refine F_callV X63 (y := (⟨"org/pulsewire/oru/IntList", "lastBelow", "(I)I"⟩ : MethodName)) (stk := []) (wd26 hw) (wd27 hw) (wd29 hw) (wd28 hw) (wd9 hw) (wd30 hw) (by decide) (a := b11) E63k_b11 (argsL := [(.int u5)]) (conL4 l Z a0 hw n0 h63 X63.size b11 u5 b12_fb t0 q1 q2 t3 F63_values_b11 F63_size_b11 A63_b12_fb) (by decide) (W := 0) (Nat.le_of_ble_eq_true rfl) (by decide) (by decide) (by decide) rfl (lenOf pd2 rfl) rfl at_233 (pc' := 236) rfl fun T104 v104 h104 X104 q104 => ?_
            obtain ⟨rfl, rfl⟩ := q104
            replace X104 := X104.more (cells' := 2) (slots' := 18) (by decide) (by decide)
            show Jvm.OwnKit.Ends p e below s n0 16 128 _ T104 (mkF m 236 #[.val (.int u1), .val (.int u2), .val (.int u3), .val (.int u4), .val (.int u5), .val (.int u6), .val (.int (4 : Int32)), .val (.int s0), .val (.int s1), .val (.int s2), .val (.int s3), .val (.int t0), .val (.int t2), .val (.int t1), .val (.int t3), .val (.int q1), .val (.int q2), .val (.ref b11), .val (.int (3 : Int32)), .unset] [(.int (lb4 t0 q1 q2 t3 u5))])
            refine F_istore X104 at_236 (Ls' := #[.val (.int u1), .val (.int u2), .val (.int u3), .val (.int u4), .val (.int u5), .val (.int u6), .val (.int (4 : Int32)), .val (.int s0), .val (.int s1), .val (.int s2), .val (.int s3), .val (.int t0), .val (.int t2), .val (.int t1), .val (.int t3), .val (.int q1), .val (.int q2), .val (.ref b11), .val (.int (3 : Int32)), .val (.int (lb4 t0 q1 q2 t3 u5))]) rfl (pc' := 238) rfl ?_
            refine F_iload X104 at_238 rfl (pc' := 240) rfl ?_
            refine F_iload X104 at_240 rfl (pc' := 242) rfl ?_
            refine F_iconst X104 at_242 (z := (1 : Int32)) (by decide) (pc' := 243) rfl ?_
            refine F_isub X104 at_243 (z := (2 : Int32)) (by decide) (pc' := 244) rfl ?_
            refine F_icmp_ne X104 at_244 (by decide) (pt := 251) (by decide) (pc' := 247) rfl (fun hc244_105 => ?_) (fun hc244_105 => ?_)
            · refine F_iconst X104 at_251 (z := (0 : Int32)) (by decide) (pc' := 252) rfl ?_
              refine F_ireturn_boolean (z' := (0 : Int32)) X104 (by decide) at_252 rfl (by decide) (by decide) ?_
              exfalso; refine hc244_105 ?_; unfold lb4; simp only [Int32.lt_iff_toInt_lt] at hc163_64 hc182_88 hc201_100 hc220_101 ⊢; repeat' split
              all_goals first | rfl | (exfalso; omega)
            · refine F_iconst X104 at_247 (z := (1 : Int32)) (by decide) (pc' := 248) rfl ?_
              refine F_goto X104 at_248 (by decide) (pc' := 252) (by decide) ?_
              refine F_ireturn_boolean (z' := (1 : Int32)) X104 (by decide) at_252 rfl (by decide) (by decide) ?_
              exact rfl
        · refine F_iload X63 at_204 rfl (pc' := 206) rfl ?_
          refine F_iconst X63 at_206 (z := (1 : Int32)) (by decide) (pc' := 207) rfl ?_
          refine F_iadd X63 at_207 (z := (3 : Int32)) (by decide) (pc' := 208) rfl ?_
          refine F_istore X63 at_208 (Ls' := #[.val (.int u1), .val (.int u2), .val (.int u3), .val (.int u4), .val (.int u5), .val (.int u6), .val (.int (4 : Int32)), .val (.int s0), .val (.int s1), .val (.int s2), .val (.int s3), .val (.int t0), .val (.int t2), .val (.int t1), .val (.int t3), .val (.int q1), .val (.int q2), .val (.ref b11), .val (.int (3 : Int32)), .unset]) rfl (pc' := 210) rfl ?_
          refine F_iload X63 at_210 rfl (pc' := 212) rfl ?_
          refine F_iconst X63 at_212 (z := (3 : Int32)) (by decide) (pc' := 213) rfl ?_
          refine F_icmp_le X63 at_213 (by decide) (pt := 229) (by decide) (pc' := 216) rfl (fun q => absurd q (by decide)) (fun _ => ?_)
          refine F_iload X63 at_216 rfl (pc' := 218) rfl ?_
          refine F_iload X63 at_218 rfl (pc' := 220) rfl ?_
          refine F_icmp_ge X63 at_220 (by decide) (pt := 229) (by decide) (pc' := 223) rfl (fun hc220_106 => ?_) (fun hc220_106 => ?_)
          · refine F_aload X63 at_229 rfl rfl (pc' := 231) rfl ?_
            refine F_iload X63 at_231 rfl (pc' := 233) rfl ?_
            refine F_callV X63 (y := (⟨"org/pulsewire/oru/IntList", "lastBelow", "(I)I"⟩ : MethodName)) (stk := []) (wd26 hw) (wd27 hw) (wd29 hw) (wd28 hw) (wd9 hw) (wd30 hw) (by decide) (a := b11) E63k_b11 (argsL := [(.int u5)]) (conL4 l Z a0 hw n0 h63 X63.size b11 u5 b12_fb t0 q1 q2 t3 F63_values_b11 F63_size_b11 A63_b12_fb) (by decide) (W := 0) (Nat.le_of_ble_eq_true rfl) (by decide) (by decide) (by decide) rfl (lenOf pd2 rfl) rfl at_233 (pc' := 236) rfl fun T107 v107 h107 X107 q107 => ?_
            obtain ⟨rfl, rfl⟩ := q107
            replace X107 := X107.more (cells' := 2) (slots' := 18) (by decide) (by decide)
            show Jvm.OwnKit.Ends p e below s n0 16 128 _ T107 (mkF m 236 #[.val (.int u1), .val (.int u2), .val (.int u3), .val (.int u4), .val (.int u5), .val (.int u6), .val (.int (4 : Int32)), .val (.int s0), .val (.int s1), .val (.int s2), .val (.int s3), .val (.int t0), .val (.int t2), .val (.int t1), .val (.int t3), .val (.int q1), .val (.int q2), .val (.ref b11), .val (.int (3 : Int32)), .unset] [(.int (lb4 t0 q1 q2 t3 u5))])
            refine F_istore X107 at_236 (Ls' := #[.val (.int u1), .val (.int u2), .val (.int u3), .val (.int u4), .val (.int u5), .val (.int u6), .val (.int (4 : Int32)), .val (.int s0), .val (.int s1), .val (.int s2), .val (.int s3), .val (.int t0), .val (.int t2), .val (.int t1), .val (.int t3), .val (.int q1), .val (.int q2), .val (.ref b11), .val (.int (3 : Int32)), .val (.int (lb4 t0 q1 q2 t3 u5))]) rfl (pc' := 238) rfl ?_
            refine F_iload X107 at_238 rfl (pc' := 240) rfl ?_
            refine F_iload X107 at_240 rfl (pc' := 242) rfl ?_
            refine F_iconst X107 at_242 (z := (1 : Int32)) (by decide) (pc' := 243) rfl ?_
            refine F_isub X107 at_243 (z := (2 : Int32)) (by decide) (pc' := 244) rfl ?_
            refine F_icmp_ne X107 at_244 (by decide) (pt := 251) (by decide) (pc' := 247) rfl (fun hc244_108 => ?_) (fun hc244_108 => ?_)
            · refine F_iconst X107 at_251 (z := (0 : Int32)) (by decide) (pc' := 252) rfl ?_
              refine F_ireturn_boolean (z' := (0 : Int32)) X107 (by decide) at_252 rfl (by decide) (by decide) ?_
              exfalso; refine hc244_108 ?_; unfold lb4; simp only [Int32.lt_iff_toInt_lt] at hc163_64 hc182_88 hc201_100 hc220_106 ⊢; repeat' split
              all_goals first | rfl | (exfalso; omega)
            · refine F_iconst X107 at_247 (z := (1 : Int32)) (by decide) (pc' := 248) rfl ?_
              refine F_goto X107 at_248 (by decide) (pc' := 252) (by decide) ?_
              refine F_ireturn_boolean (z' := (1 : Int32)) X107 (by decide) at_252 rfl (by decide) (by decide) ?_
              exact rfl
          · refine F_iload X63 at_223 rfl (pc' := 225) rfl ?_
            refine F_iconst X63 at_225 (z := (1 : Int32)) (by decide) (pc' := 226) rfl ?_
            refine F_iadd X63 at_226 (z := (4 : Int32)) (by decide) (pc' := 227) rfl ?_
            refine F_istore X63 at_227 (Ls' := #[.val (.int u1), .val (.int u2), .val (.int u3), .val (.int u4), .val (.int u5), .val (.int u6), .val (.int (4 : Int32)), .val (.int s0), .val (.int s1), .val (.int s2), .val (.int s3), .val (.int t0), .val (.int t2), .val (.int t1), .val (.int t3), .val (.int q1), .val (.int q2), .val (.ref b11), .val (.int (4 : Int32)), .unset]) rfl (pc' := 229) rfl ?_
            refine F_aload X63 at_229 rfl rfl (pc' := 231) rfl ?_
            refine F_iload X63 at_231 rfl (pc' := 233) rfl ?_
            refine F_callV X63 (y := (⟨"org/pulsewire/oru/IntList", "lastBelow", "(I)I"⟩ : MethodName)) (stk := []) (wd26 hw) (wd27 hw) (wd29 hw) (wd28 hw) (wd9 hw) (wd30 hw) (by decide) (a := b11) E63k_b11 (argsL := [(.int u5)]) (conL4 l Z a0 hw n0 h63 X63.size b11 u5 b12_fb t0 q1 q2 t3 F63_values_b11 F63_size_b11 A63_b12_fb) (by decide) (W := 0) (Nat.le_of_ble_eq_true rfl) (by decide) (by decide) (by decide) rfl (lenOf pd2 rfl) rfl at_233 (pc' := 236) rfl fun T109 v109 h109 X109 q109 => ?_
            obtain ⟨rfl, rfl⟩ := q109
            replace X109 := X109.more (cells' := 2) (slots' := 18) (by decide) (by decide)
            show Jvm.OwnKit.Ends p e below s n0 16 128 _ T109 (mkF m 236 #[.val (.int u1), .val (.int u2), .val (.int u3), .val (.int u4), .val (.int u5), .val (.int u6), .val (.int (4 : Int32)), .val (.int s0), .val (.int s1), .val (.int s2), .val (.int s3), .val (.int t0), .val (.int t2), .val (.int t1), .val (.int t3), .val (.int q1), .val (.int q2), .val (.ref b11), .val (.int (4 : Int32)), .unset] [(.int (lb4 t0 q1 q2 t3 u5))])
            refine F_istore X109 at_236 (Ls' := #[.val (.int u1), .val (.int u2), .val (.int u3), .val (.int u4), .val (.int u5), .val (.int u6), .val (.int (4 : Int32)), .val (.int s0), .val (.int s1), .val (.int s2), .val (.int s3), .val (.int t0), .val (.int t2), .val (.int t1), .val (.int t3), .val (.int q1), .val (.int q2), .val (.ref b11), .val (.int (4 : Int32)), .val (.int (lb4 t0 q1 q2 t3 u5))]) rfl (pc' := 238) rfl ?_
            refine F_iload X109 at_238 rfl (pc' := 240) rfl ?_
            refine F_iload X109 at_240 rfl (pc' := 242) rfl ?_
            refine F_iconst X109 at_242 (z := (1 : Int32)) (by decide) (pc' := 243) rfl ?_
            refine F_isub X109 at_243 (z := (3 : Int32)) (by decide) (pc' := 244) rfl ?_
            refine F_icmp_ne X109 at_244 (by decide) (pt := 251) (by decide) (pc' := 247) rfl (fun hc244_110 => ?_) (fun hc244_110 => ?_)
            · refine F_iconst X109 at_251 (z := (0 : Int32)) (by decide) (pc' := 252) rfl ?_
              refine F_ireturn_boolean (z' := (0 : Int32)) X109 (by decide) at_252 rfl (by decide) (by decide) ?_
              exfalso; refine hc244_110 ?_; unfold lb4; simp only [Int32.lt_iff_toInt_lt] at hc163_64 hc182_88 hc201_100 hc220_106 ⊢; repeat' split
              all_goals first | rfl | (exfalso; omega)
            · refine F_iconst X109 at_247 (z := (1 : Int32)) (by decide) (pc' := 248) rfl ?_
              refine F_goto X109 at_248 (by decide) (pc' := 252) (by decide) ?_
              refine F_ireturn_boolean (z' := (1 : Int32)) X109 (by decide) at_252 rfl (by decide) (by decide) ?_
              exact rfl
set_option maxRecDepth 65536 in
set_option maxHeartbeats 40000000 in
theorem comes_1 {Post : Tables → Env → Array Value → State → Outcome → State → Prop} (hpost : ∀ tb e args s v u, (limb_1_1.after args s (.returned v) u = true ∧ limb_1_2.after args s (.returned v) u = true ∧ True) → FrameEnd s (.returned v) u (Jvm.fieldLocs frame_1_writes args s ++ Jvm.arrayLocs frame_1_arrays args s ++ Jvm.staticLocs frame_1_statics s) 16 128 → Post tb e args s (.returned v) u) :
    ArmFor flags0 classFile x code maxLocals ret World_1 tables_1 room_1 Calls_1 rest_1 Pre_1 Post := by
  intro l hfl _ _ p e ha hc hk s m args below hf hA hF happ hP
  obtain ⟨hcalls, hrest, hpre⟩ := hP
  obtain ⟨-, -, -, hnamed, -, -, -, hat⟩ := (Spec.applies_iff hf).mp happ
  obtain ⟨hg, hn⟩ := and_e (Cond.before_iff.mp (show (Jvm.Cond.and given_1 narrow_1).before args s = true from hpre))
  obtain ⟨g0, r0⟩ := and_e hg
  obtain ⟨v0, r1⟩ := and_e r0
  obtain ⟨v1, r2⟩ := and_e r1
  obtain ⟨v2, r3⟩ := and_e r2
  obtain ⟨v3, r4⟩ := and_e r3
  obtain ⟨v4, r5⟩ := and_e r4
  obtain ⟨w0, w1, w2, w3, w4, w5, rfl⟩ : ∃ w0 w1 w2 w3 w4 w5 : Value, args = #[w0, w1, w2, w3, w4, w5] := by
    have hs : args.size = 6 := by simpa [Cond.value, given_1] using g0
    obtain ⟨L⟩ := args
    match L, hs with
    | [w0, w1, w2, w3, w4, w5], _ => exact ⟨w0, w1, w2, w3, w4, w5, rfl⟩
  have hw := fun d (hd : d ∈ tables_1) => atoms_spec (ws := Jvm.Cond.code x code maxLocals ret :: tables_1) hat d (List.mem_cons_of_mem _ hd)
  obtain ⟨i0, ei0⟩ := is_v v0
  obtain rfl : w0 = (.int i0) := Option.some.inj ei0
  obtain ⟨i1, ei1⟩ := is_v v1
  obtain rfl : w1 = (.int i1) := Option.some.inj ei1
  obtain ⟨i2, ei2⟩ := is_v v2
  obtain rfl : w2 = (.int i2) := Option.some.inj ei2
  obtain ⟨i3, ei3⟩ := is_v v3
  obtain rfl : w3 = (.int i3) := Option.some.inj ei3
  obtain ⟨i4, ei4⟩ := is_v v4
  obtain rfl : w4 = (.int i4) := Option.some.inj ei4
  obtain ⟨i5, ei5⟩ := is_v r5
  obtain rfl : w5 = (.int i5) := Option.some.inj ei5
  obtain ⟨n, o, h1, h2, h3, _, L, rfl, ⟨rfl, N⟩, hq⟩ := con0 l s _ hw s.heap.size s.heap (Nat.le_refl _) i0 i1 i2 i3 i4 i5 tables_1 p e ha hc hk s m _ below hf ((Spec.applies_iff_loose hf).mp happ).1 ⟨rfl, State.Warmed39.refl s, rfl⟩ trivial
  refine ⟨n, _, h1, h2, h3, hpost _ _ _ _ _ _ ⟨Cond.after_iff.mpr rfl, Cond.after_iff.mpr (eq_i res_at (Term.int_eval (1)) rfl), trivial⟩ ⟨hq.1, hq.2.1, (hq.2.2.sift fun y hy => Or.inr (N y hy)).mono (by decide) (by decide)⟩⟩
theorem main_1_1 : Claimed_1_1 := comes_1 fun _ _ _ _ _ _ h hF => ⟨h.1, hF⟩
theorem main_1_2 : Claimed_1_2 := comes_1 fun _ _ _ _ _ _ h hF => ⟨h.2.1, hF⟩
end Jvm.Pilot.@@N@@
namespace Jvm.Pilot.@@N@@
open Jvm Jvm.ClassFile Sem Op Lib Jvm.Free Jvm.Stand Jvm.Pilot.@@N@@.Jvm.D
/-! MADE BY PROGRAM (witnessworld.py) out of the Statement's table words and the real class files: 10 classes; the members and pool entries that the words name. The judged class is class 1, her method 1. -/
namespace start1
open Jvm.ClassFile
def u (s : String) : CpInfo := .utf8 (stringToUtf16 s)
/-- a pool by its gaps: so many unusable entries, then the entry; so many at the end -/
def gap : Nat → List CpInfo → List CpInfo
  | 0, r => r
  | n + 1, r => .unusable :: gap n r
def poolList (es : List (Nat × CpInfo)) (last : Nat) : List CpInfo := es.foldr (fun e r => gap e.1 (e.2 :: r)) (gap last [])
def pool (es : List (Nat × CpInfo)) (last : Nat) : Array CpInfo := ⟨poolList es last⟩
def fileOf (pool : Array CpInfo) (this : Nat) (attrs : Array Attribute := #[]) (ms : Array MethodInfo := #[]) (fl : Nat := 33) (sup : Nat := 0) (ifs : Array Nat := #[]) (fds : Array FieldInfo := #[]) : ClassFile where
  minorVersion := 0
  majorVersion := 65
  constantPool := pool
  accessFlags := fl
  thisClass := this
  superClass := sup
  interfaces := ifs
  fields := fds
  methods := ms
  attributes := attrs
def plain (name : String) (sup : Option ClassId) : Class where
  name := name
  kind := .ordinary
  loader := none
  accessFlags := 33
  super := sup
  interfaces := #[]
  cf := none
  fields := #[]
  methods := #[]
  instanceTypes := #[]
  staticTypes := #[]
  resolved := #[]
  callSites := []
  init := .initialized
  statics := none
  mirror := none

def pool0 : Array CpInfo := pool [(5, u "<init>"), (0, u "()V"), (1, .class_ 10), (1, u "java/lang/Object")] 113

def k0c0 : Code := { maxStack := 0, maxLocals := 1, code := object_method_1_code, exceptionTable := #[], attributes := #[] }
def k0m0 : Method := { name := "<init>", desc := "()V", sig := { parameters := [], returnType := none }, accessFlags := 1, code := some k0c0 }
/-- java/lang/Object -/
def k0 : Class := { plain "java/lang/Object" none with
  accessFlags := 33
  interfaces := #[]
  cf := some (fileOf pool0 8 #[] #[{ accessFlags := 1, nameIndex := 5, descriptorIndex := 6, attributes := #[] }] 33 0 #[] #[])
  fields := #[]
  methods := #[k0m0]
  instanceTypes := #[]
  staticTypes := #[]
  resolved := Array.replicate 124 none
  statics := none }

def pool1 : Array CpInfo := pool [(2, .class_ 4), (0, .nameAndType 5 6), (0, u "java/lang/Object"), (0, u "<init>"), (0, u "()V"), (0, .methodref 8 9), (0, .class_ 10), (0, .nameAndType 11 12), (0, u "java/lang/Math"), (0, u "min"), (0, u "(II)I"), (0, .methodref 8 14), (0, .nameAndType 15 12), (0, u "max"), (0, .class_ 17), (0, u "org/pulsewire/oru/IntList"), (0, .methodref 16 3), (0, .methodref 16 20), (0, .nameAndType 21 22), (0, u "add"), (0, u "(I)V"), (0, .methodref 16 24), (0, .nameAndType 25 26), (0, u "lastBelow"), (0, u "(I)I"), (0, .class_ 28), (0, u "org/pulsewire/oru/IntListLastBelowPinLaw"), (2, u "law"), (0, u "(IIIIII)Z")] 3

def k1m0 : Method := { name := "<init>", desc := "()V", sig := { parameters := [], returnType := none }, accessFlags := 1, code := none }
def k1c1 : Code := { maxStack := 3, maxLocals := 20, code := code, exceptionTable := #[], attributes := #[] }
def k1m1 : Method := { name := "law", desc := "(IIIIII)Z", sig := { parameters := [.int, .int, .int, .int, .int, .int], returnType := some .boolean }, accessFlags := 9, code := some k1c1 }
/-- org/pulsewire/oru/IntListLastBelowPinLaw -/
def k1 : Class := { plain "org/pulsewire/oru/IntListLastBelowPinLaw" (some 0) with
  accessFlags := 49
  interfaces := #[]
  cf := some (fileOf pool1 27 #[] #[{ accessFlags := 1, nameIndex := 5, descriptorIndex := 6, attributes := #[] }, { accessFlags := 9, nameIndex := 31, descriptorIndex := 32, attributes := #[] }] 49 2 #[] #[])
  fields := #[]
  methods := #[k1m0, k1m1]
  instanceTypes := #[]
  staticTypes := #[]
  resolved := Array.replicate 36 none
  statics := none }

def pool2 : Array CpInfo := pool [(1, .class_ 2), (0, u "java/lang/Math"), (1, .class_ 6), (1, u "java/lang/Object"), (0, u "<init>"), (0, u "()V"), (89, .class_ 100), (1, u "java/lang/Math$RandomNumberGeneratorHolder"), (71, u "negativeZeroFloatBits"), (0, u "J"), (2, u "negativeZeroDoubleBits"), (21, u "max"), (2, u "min"), (43, u "$assertionsDisabled"), (0, u "Z"), (88, u "(II)I"), (2, u "twoToTheDoubleScaleDown"), (0, u "D"), (4, u "twoToTheDoubleScaleUp"), (9, u "E"), (3, u "PI"), (2, u "TAU"), (2, u "DEGREES_TO_RADIANS"), (0, u "RADIANS_TO_DEGREES")] 94

def k2m0 : Method := { name := "<init>", desc := "()V", sig := { parameters := [], returnType := none }, accessFlags := 2, code := none }
def k2c1 : Code := { maxStack := 2, maxLocals := 2, code := jdk_29_method_65_code, exceptionTable := #[], attributes := #[] }
def k2m1 : Method := { name := "max", desc := "(II)I", sig := { parameters := [.int, .int], returnType := some .int }, accessFlags := 9, code := some k2c1 }
def k2c2 : Code := { maxStack := 2, maxLocals := 2, code := jdk_29_method_69_code, exceptionTable := #[], attributes := #[] }
def k2m2 : Method := { name := "min", desc := "(II)I", sig := { parameters := [.int, .int], returnType := some .int }, accessFlags := 9, code := some k2c2 }
/-- java/lang/Math -/
def k2 : Class := { plain "java/lang/Math" (some 0) with
  accessFlags := 49
  interfaces := #[]
  cf := some (fileOf pool2 1 #[.nestMembers #[98]] #[{ accessFlags := 2, nameIndex := 7, descriptorIndex := 8, attributes := #[] }, { accessFlags := 9, nameIndex := 198, descriptorIndex := 335, attributes := #[] }, { accessFlags := 9, nameIndex := 201, descriptorIndex := 335, attributes := #[] }] 49 4 #[] #[{ accessFlags := 25, nameIndex := 354, descriptorIndex := 339, attributes := #[] }, { accessFlags := 25, nameIndex := 358, descriptorIndex := 339, attributes := #[] }, { accessFlags := 25, nameIndex := 361, descriptorIndex := 339, attributes := #[] }, { accessFlags := 26, nameIndex := 364, descriptorIndex := 339, attributes := #[] }, { accessFlags := 26, nameIndex := 365, descriptorIndex := 339, attributes := #[] }, { accessFlags := 26, nameIndex := 172, descriptorIndex := 173, attributes := #[] }, { accessFlags := 26, nameIndex := 176, descriptorIndex := 173, attributes := #[] }, { accessFlags := 8, nameIndex := 344, descriptorIndex := 339, attributes := #[] }, { accessFlags := 8, nameIndex := 338, descriptorIndex := 339, attributes := #[] }, { accessFlags := 4120, nameIndex := 245, descriptorIndex := 246, attributes := #[] }])
  fields := #[{ name := "E", type := .double, accessFlags := 25, slot := 0, constantValue := 0 }, { name := "PI", type := .double, accessFlags := 25, slot := 1, constantValue := 0 }, { name := "TAU", type := .double, accessFlags := 25, slot := 2, constantValue := 0 }, { name := "DEGREES_TO_RADIANS", type := .double, accessFlags := 26, slot := 3, constantValue := 0 }, { name := "RADIANS_TO_DEGREES", type := .double, accessFlags := 26, slot := 4, constantValue := 0 }, { name := "negativeZeroFloatBits", type := .long, accessFlags := 26, slot := 5, constantValue := 0 }, { name := "negativeZeroDoubleBits", type := .long, accessFlags := 26, slot := 6, constantValue := 0 }, { name := "twoToTheDoubleScaleUp", type := .double, accessFlags := 8, slot := 7, constantValue := 0 }, { name := "twoToTheDoubleScaleDown", type := .double, accessFlags := 8, slot := 8, constantValue := 0 }, { name := "$assertionsDisabled", type := .boolean, accessFlags := 4120, slot := 9, constantValue := 0 }]
  methods := #[k2m0, k2m1, k2m2]
  instanceTypes := #[]
  staticTypes := #[.double, .double, .double, .double, .double, .long, .long, .double, .double, .boolean]
  resolved := Array.replicate 460 none
  statics := none }

def pool3 : Array CpInfo := pool [(1, .methodref 2 3), (0, .class_ 4), (0, .nameAndType 5 6), (0, u "java/lang/Object"), (0, u "<init>"), (0, u "()V"), (0, .fieldref 8 9), (0, .class_ 10), (0, .nameAndType 11 12), (0, u "org/pulsewire/oru/IntList"), (0, u "values"), (0, u "[I"), (0, .fieldref 8 14), (0, .nameAndType 15 16), (0, u "size"), (0, u "I"), (14, u "add"), (0, u "(I)V"), (2, u "(I)I"), (1, u "lastBelow")] 2

def k3c0 : Code := { maxStack := 2, maxLocals := 1, code := prog_114_method_1_code, exceptionTable := #[], attributes := #[] }
def k3m0 : Method := { name := "<init>", desc := "()V", sig := { parameters := [], returnType := none }, accessFlags := 0, code := some k3c0 }
def k3c1 : Code := { maxStack := 5, maxLocals := 2, code := prog_114_method_2_code, exceptionTable := #[], attributes := #[] }
def k3m1 : Method := { name := "add", desc := "(I)V", sig := { parameters := [.int], returnType := none }, accessFlags := 0, code := some k3c1 }
def k3c2 : Code := { maxStack := 2, maxLocals := 5, code := prog_114_method_5_code, exceptionTable := #[], attributes := #[] }
def k3m2 : Method := { name := "lastBelow", desc := "(I)I", sig := { parameters := [.int], returnType := some .int }, accessFlags := 0, code := some k3c2 }
/-- org/pulsewire/oru/IntList -/
def k3 : Class := { plain "org/pulsewire/oru/IntList" (some 0) with
  accessFlags := 48
  interfaces := #[]
  cf := some (fileOf pool3 8 #[] #[{ accessFlags := 0, nameIndex := 5, descriptorIndex := 6, attributes := #[] }, { accessFlags := 0, nameIndex := 31, descriptorIndex := 32, attributes := #[] }, { accessFlags := 0, nameIndex := 37, descriptorIndex := 35, attributes := #[] }] 48 2 #[] #[{ accessFlags := 2, nameIndex := 11, descriptorIndex := 12, attributes := #[] }, { accessFlags := 2, nameIndex := 15, descriptorIndex := 16, attributes := #[] }])
  fields := #[{ name := "values", type := (.array .int), accessFlags := 2, slot := 0, constantValue := 0 }, { name := "size", type := .int, accessFlags := 2, slot := 1, constantValue := 0 }]
  methods := #[k3m0, k3m1, k3m2]
  instanceTypes := #[(.array .int), .int]
  staticTypes := #[]
  resolved := Array.replicate 40 none
  statics := none }

def pool4 : Array CpInfo := pool [(1, u "java/lang/Cloneable"), (0, .class_ 1), (0, u "java/lang/Object"), (0, .class_ 3)] 3

/-- java/lang/Cloneable -/
def k4 : Class := { plain "java/lang/Cloneable" (some 0) with
  accessFlags := 1537
  interfaces := #[]
  cf := some (fileOf pool4 2 #[] #[] 1537 4 #[] #[])
  fields := #[]
  methods := #[]
  instanceTypes := #[]
  staticTypes := #[]
  resolved := Array.replicate 8 none
  statics := none }

def pool5 : Array CpInfo := pool [(1, u "java/io/Serializable"), (0, .class_ 1), (0, u "java/lang/Object"), (0, .class_ 3)] 3

/-- java/io/Serializable -/
def k5 : Class := { plain "java/io/Serializable" (some 0) with
  accessFlags := 1537
  interfaces := #[]
  cf := some (fileOf pool5 2 #[] #[] 1537 4 #[] #[])
  fields := #[]
  methods := #[]
  instanceTypes := #[]
  staticTypes := #[]
  resolved := Array.replicate 8 none
  statics := none }

/-- the primitive byte -/
def k6 : Class := { plain "byte" none with kind := .primitive 'B', accessFlags := 0x411 }
/-- [B -/
def k7 : Class := { plain "[B" (some 0) with kind := .array 6 .byte, interfaces := #[4, 5], accessFlags := 1041 }

/-- the primitive int -/
def k8 : Class := { plain "int" none with kind := .primitive 'I', accessFlags := 0x411 }
/-- [I -/
def k9 : Class := { plain "[I" (some 0) with kind := .array 8 .int, interfaces := #[4, 5], accessFlags := 1041 }

def heap : Heap := #[]
def classes : Array Class := #[k0, k1, k2, k3, k4, k5, k6, k7, k8, k9]
def interned : List (Array UInt16 × Addr) := []
def slotsUsed : Nat := 0
def theMethod : MethodId := ⟨1, 1⟩
def args0 : Array Value := #[.int 1, .int 2, .int 3, .int 4, .int 5, .int 6]
def aboutOver (below : List Frame) : State where
  vm := { classes := classes, interned := interned.toArray }
  heap := heap
  slotsUsed := slotsUsed
  threads := #[{ frames := .invoking theMethod args0 :: below }]
def below0 : List Frame := [.native { method := ⟨0, 0⟩, args := #[] }]
def about1 : State := aboutOver below0
def p0 : Program := .bare "" "" ""
def e0 : Env := launch0.env 0 0 0
theorem w_frames : about1.frames = Frame.invoking theMethod args0 :: below0 := rfl
set_option maxRecDepth 65536 in
theorem w_args : argsFit about1.vm theMethod args0 = true := by decide +kernel
set_option maxRecDepth 65536 in
theorem w_heap : heapFits about1 = true := by decide +kernel
set_option maxRecDepth 65536 in
theorem w_runnable : about1.curStatus? = some .runnable := by decide +kernel
set_option maxRecDepth 65536 in
theorem w_alone : about1.alone = true := by decide +kernel
set_option maxRecDepth 65536 in
theorem w_named : about1.methodNamed? x = some theMethod := by decide +kernel
set_option maxRecDepth 65536 in
theorem w_hears : about1.hears theMethod below0 = true := by decide +kernel
set_option maxRecDepth 65536 in
theorem w_ripe : about1.ripe theMethod args0 below0 = true := by decide +kernel
theorem w_running : about1.status = .running := rfl
set_option maxRecDepth 65536 in
theorem w_room : about1.hasRoom e0.platform room_1 = true :=
  launch0.hasRoom_least _ room_1 (by decide +kernel) (by decide +kernel) (by decide +kernel) (by decide +kernel) (by decide +kernel) (by decide +kernel)
theorem allAtoms_all (ts : List Jvm.Cond) (a : Array Jvm.Value) (st : Jvm.State) : (allAtoms ts).before a st = ts.all (fun c => c.before a st) := by
  induction ts with
  | nil => rfl
  | cons c t ih =>
    show (Jvm.Cond.and c (allAtoms t)).before a st = _
    rw [Jvm.Cond.before_and, ih, List.all_cons]
def words1 : List Jvm.Cond := Jvm.Cond.code x code maxLocals ret :: tables_1
/-- a 'code' word, met by the world's own term for the bytes: nothing is compared byte by byte -/
theorem code_word {y : MethodName} {bytes : ByteArray} {mx : Nat} {rt : Option FieldType} {a : Array Value} {s : State} {m : MethodId} {meth : Method} {c : Code} (h1 : s.methodNamed? y = some m) (h2 : s.vm.method? m = some meth) (h3 : meth.code = some c) (h4 : c.code = bytes)
    (h5 : (c.maxLocals == mx && c.exceptionTable.isEmpty && decide (c.maxStack ≤ mostOperands) && decide (meth.sig.returnType = rt) && !meth.locks && decide (parseMethodDescriptor y.desc = some meth.sig)) = true) : (Jvm.Cond.code y bytes mx rt).before a s = true := by
  simp only [Bool.and_eq_true, beq_iff_eq, Bool.not_eq_true', decide_eq_true_eq] at h5
  obtain ⟨⟨⟨⟨⟨g1, g2⟩, g3⟩, g4⟩, g5⟩, g6⟩ := h5
  simp [Cond.before, Cond.holds, Cond.value, h1, h2, h3, h4, g1, g2, g3, g4, g5, g6]
def isCode : Jvm.Cond → Bool
  | .code _ _ _ _ => true
  | _ => false
theorem all_split {L : List Jvm.Cond} {P : Jvm.Cond → Bool} (h1 : L.all (fun c => isCode c || P c) = true) (h2 : ∀ c ∈ L.filter isCode, P c = true) : L.all P = true := by
  refine List.all_eq_true.mpr fun c hc => ?_
  have h := List.all_eq_true.mp h1 c hc
  rcases Bool.eq_false_or_eq_true (isCode c) with hi | hi
  · exact h2 c (List.mem_filter.mpr ⟨hc, hi⟩)
  · simpa [hi] using h
set_option maxRecDepth 65536 in
theorem w_c0 : (Jvm.Cond.code x code maxLocals ret).before args0 about1 = true := code_word (m := ⟨1, 1⟩) (meth := k1m1) (c := k1c1) (by decide +kernel) rfl rfl rfl (by decide +kernel)
set_option maxRecDepth 65536 in
theorem w_c1 : (Jvm.Cond.code ({ cls := "java/lang/Math", name := "min", desc := "(II)I" } : Jvm.MethodName) jdk_29_method_69_code (2 : Nat) (Option.some Jvm.ClassFile.FieldType.int)).before args0 about1 = true := code_word (m := ⟨2, 2⟩) (meth := k2m2) (c := k2c2) (by decide +kernel) rfl rfl rfl (by decide +kernel)
set_option maxRecDepth 65536 in
theorem w_c2 : (Jvm.Cond.code ({ cls := "java/lang/Math", name := "max", desc := "(II)I" } : Jvm.MethodName) jdk_29_method_65_code (2 : Nat) (Option.some Jvm.ClassFile.FieldType.int)).before args0 about1 = true := code_word (m := ⟨2, 1⟩) (meth := k2m1) (c := k2c1) (by decide +kernel) rfl rfl rfl (by decide +kernel)
set_option maxRecDepth 65536 in
theorem w_c3 : (Jvm.Cond.code ({ cls := "org/pulsewire/oru/IntList", name := "<init>", desc := "()V" } : Jvm.MethodName) prog_114_method_1_code (1 : Nat) (Option.none : Option Jvm.ClassFile.FieldType)).before args0 about1 = true := code_word (m := ⟨3, 0⟩) (meth := k3m0) (c := k3c0) (by decide +kernel) rfl rfl rfl (by decide +kernel)
set_option maxRecDepth 65536 in
theorem w_c4 : (Jvm.Cond.code ({ cls := "java/lang/Object", name := "<init>", desc := "()V" } : Jvm.MethodName) object_method_1_code (1 : Nat) (Option.none : Option Jvm.ClassFile.FieldType)).before args0 about1 = true := code_word (m := ⟨0, 0⟩) (meth := k0m0) (c := k0c0) (by decide +kernel) rfl rfl rfl (by decide +kernel)
set_option maxRecDepth 65536 in
theorem w_c5 : (Jvm.Cond.code ({ cls := "org/pulsewire/oru/IntList", name := "add", desc := "(I)V" } : Jvm.MethodName) prog_114_method_2_code (2 : Nat) (Option.none : Option Jvm.ClassFile.FieldType)).before args0 about1 = true := code_word (m := ⟨3, 1⟩) (meth := k3m1) (c := k3c1) (by decide +kernel) rfl rfl rfl (by decide +kernel)
set_option maxRecDepth 65536 in
theorem w_c6 : (Jvm.Cond.code ({ cls := "org/pulsewire/oru/IntList", name := "lastBelow", desc := "(I)I" } : Jvm.MethodName) prog_114_method_5_code (5 : Nat) (Option.some Jvm.ClassFile.FieldType.int)).before args0 about1 = true := code_word (m := ⟨3, 2⟩) (meth := k3m2) (c := k3c2) (by decide +kernel) rfl rfl rfl (by decide +kernel)
def codes1 : List Jvm.Cond := [Jvm.Cond.code x code maxLocals ret, Jvm.Cond.code ({ cls := "java/lang/Math", name := "min", desc := "(II)I" } : Jvm.MethodName) jdk_29_method_69_code (2 : Nat) (Option.some Jvm.ClassFile.FieldType.int), Jvm.Cond.code ({ cls := "java/lang/Math", name := "max", desc := "(II)I" } : Jvm.MethodName) jdk_29_method_65_code (2 : Nat) (Option.some Jvm.ClassFile.FieldType.int), Jvm.Cond.code ({ cls := "org/pulsewire/oru/IntList", name := "<init>", desc := "()V" } : Jvm.MethodName) prog_114_method_1_code (1 : Nat) (Option.none : Option Jvm.ClassFile.FieldType), Jvm.Cond.code ({ cls := "java/lang/Object", name := "<init>", desc := "()V" } : Jvm.MethodName) object_method_1_code (1 : Nat) (Option.none : Option Jvm.ClassFile.FieldType), Jvm.Cond.code ({ cls := "org/pulsewire/oru/IntList", name := "add", desc := "(I)V" } : Jvm.MethodName) prog_114_method_2_code (2 : Nat) (Option.none : Option Jvm.ClassFile.FieldType), Jvm.Cond.code ({ cls := "org/pulsewire/oru/IntList", name := "lastBelow", desc := "(I)I" } : Jvm.MethodName) prog_114_method_5_code (5 : Nat) (Option.some Jvm.ClassFile.FieldType.int)]
set_option maxRecDepth 65536 in
theorem codes_eq : words1.filter isCode = codes1 := rfl
theorem w_codes : ∀ c ∈ words1.filter isCode, c.before args0 about1 = true := by
  rw [codes_eq]
  intro c hc
  simp only [codes1, List.mem_cons, List.not_mem_nil, or_false] at hc
  rcases hc with rfl | rfl | rfl | rfl | rfl | rfl | rfl
  · exact w_c0
  · exact w_c1
  · exact w_c2
  · exact w_c3
  · exact w_c4
  · exact w_c5
  · exact w_c6
set_option maxRecDepth 65536 in
theorem w_t1 : (words1.take 24).all (fun c => isCode c || c.before args0 about1) = true := by decide +kernel
set_option maxRecDepth 65536 in
theorem w_t2 : (words1.drop 24).all (fun c => isCode c || c.before args0 about1) = true := by decide +kernel
theorem w_tables : (allAtoms (Jvm.Cond.code x code maxLocals ret :: tables_1)).before args0 about1 = true := by
  rw [allAtoms_all]
  show words1.all (fun c => c.before args0 about1) = true
  refine all_split ?_ w_codes
  rw [← List.take_append_drop 24 words1, List.all_append, w_t1, w_t2]
  rfl
set_option maxRecDepth 65536 in
theorem w_case : (Jvm.Cond.and given_1 narrow_1).before args0 about1 = true := by decide +kernel
theorem w_applies : (headSpec (Jvm.Cond.code x code maxLocals ret :: tables_1) room_1).applies x e0.platform about1 = true :=
  (Spec.applies_iff w_frames).mpr ⟨w_running, w_runnable, w_alone, w_named, w_hears, w_ripe, w_room, w_tables⟩
theorem atStart : AtStart classFile x code maxLocals ret World_1 tables_1 room_1 Calls_1 rest_1 Pre_1 launch0 p0 e0 about1 theMethod args0 below0 :=
  ⟨lists_1, trivial, launch0.admits_env _ _ _, launch0.least_env, fairChoices_fair.cas, fairChoices_fair.clock, w_frames, w_args, w_heap, w_applies, trivial, trivial, w_case⟩
end start1
theorem witness_1 : WitnessClaimed_1 := ⟨start1.p0, start1.e0, start1.about1, start1.theMethod, start1.args0, start1.below0, start1.atStart⟩
end Jvm.Pilot.@@N@@

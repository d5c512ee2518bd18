import JvmDerived
import JvmDerived.Pilot.@@N@@Statement
import JvmDerived.Pilot.@@N@@Code
set_option linter.unusedVariables false
set_option linter.unusedSimpArgs false
@@BLOCK:NumsL.lean.txt@@

namespace Jvm.OwnKit
open Sem ClassFile Op Lib Jvm.Stand Jvm.Free Jvm.LawKit Jvm.RoadKit
/-- where the run of one body stands: the heap h, cells and slots used at the most; nothing below n0 was written -/
def St (p : Program) (l : Launch) (e : Env) (R : Room) (s : State) (m : MethodId) (args : Array Value) (below : List Frame) (meth : Method) (c : Code) (Z : State) (code : ByteArray) (own : String) (ret : Option FieldType) (ml : Nat) (nm : String) (n0 : Nat) (T : State) (h : Heap) (cells slots : Nat) : Prop :=
  ∃ locs, Stand p l e R s m args below meth c T locs cells slots ∧ p.tables.exec = Jvm.exec ∧ Z.Warmed39 s.vm ∧ c.code = code ∧ s.vm.findClass own = some m.cls ∧ meth.sig.returnType = ret ∧ c.maxLocals = ml ∧ meth.name = nm ∧ meth.locks = false ∧ T.heap = h ∧ Fr n0 locs ∧ n0 ≤ s.heap.size
/-- the run from T with the top frame f ends, and returns as Q says -/
def Ends (p : Program) (e : Env) (below : List Frame) (s : State) (n0 C S : Nat) (Q : Option Value → Heap → Prop) (T : State) (f : JFrame) : Prop :=
  ∃ s₂ o, Steps p.tables e below (T.setTop f) s₂ ∧ s₂.status = .running ∧ Ended s₂ below o ∧ ∃ v L, o = .returned v ∧ (Q v s₂.heap ∧ Fr n0 L) ∧ FrameEnd s o s₂ L C S
/-- the contract of a body: called with 'as' at the heap h it returns as Q says -/
def Con (l : Launch) (y : MethodName) (bytes : ByteArray) (maxL : Nat) (ret : Option FieldType) (rm : Room) (C S : Nat) (Z : State) (n0 : Nat) (as : Array Value) (h : Heap) (Q : Option Value → Heap → Prop) : Prop :=
  ∀ ws, MetFree l y (head1 (Cond.code y bytes maxL ret :: ws) rm) (fun a U => a = as ∧ Z.Warmed39 U.vm ∧ U.heap = h) (fun _ _ _ _ _ => True) (fun _ U o U' => ∃ v L, o = .returned v ∧ (Q v U'.heap ∧ Fr n0 L) ∧ FrameEnd U o U' L C S)
theorem Ends.by {p : Program} {e : Env} {below : List Frame} {s : State} {n0 C S : Nat} {Q : Option Value → Heap → Prop} {T T' : State} {f f' : JFrame} (st : ∀ target, Steps p.tables e below (T'.setTop f') target → Steps p.tables e below (T.setTop f) target) (k : Ends p e below s n0 C S Q T' f') : Ends p e below s n0 C S Q T f := by
  obtain ⟨s₂, o, h1, r⟩ := k
  exact ⟨s₂, o, st _ h1, r⟩
theorem Con.body {l : Launch} {y : MethodName} {bytes : ByteArray} {maxL : Nat} {ret : Option FieldType} {rm : Room} {C S : Nat} {Z : State} {n0 : Nat} {as : Array Value} {h : Heap} {Q : Option Value → Heap → Prop} {own nm : String} (ho : y.cls = own) (hnm0 : y.name = nm) (hpl : plainFor y = true) (hn : n0 ≤ h.size)
    (B : ∀ (p : Program) (e : Env) (s : State) (m : MethodId) (below : List Frame) (meth : Method) (c : Code) (T : State), St p l e rm s m as below meth c Z bytes own ret maxL nm n0 T h 0 0 → Ends p e below s n0 C S Q T (entryFrame m as maxL)) : Con l y bytes maxL ret rm C S Z n0 as h Q := by
  subst ho hnm0
  intro ws
  refine MetFree.of_bodySF hpl hisR ?_
  intro p e s m args below meth c s₁ Bd hml0 hP hK
  obtain ⟨rfl, hZ, hh⟩ := hP
  have hnm := (name_of_methodNamed Bd.named Bd.method).1
  exact B p e s m below meth c s₁ ⟨[], Stand.of_body Bd, Bd.exec, hZ, Bd.bytes, findClass_of_methodNamed Bd.named, Bd.returns, hml0, hnm, Bd.notSynchronized, by rw [← hh, Bd.state]; rfl, Fr.nil n0, hh ▸ hn⟩

/-! plain facts on numbers -/
theorem own_len32 {n : Nat} (h : n < 2147483648) : n.toInt32.toNatClampNeg = n := by
  have e1 : (n.toInt32).toInt = n := len_toInt (by omega)
  simp only [Int32.toNatClampNeg, e1]; omega
theorem own_ofNat {n : Nat} (h : n < 2147483648) : (Int32.ofNat n).toInt = n := Int32.toInt_ofNat_of_lt (by omega)
theorem own_natOf {x : Int32} (h : 0 ≤ x.toInt) : x = Int32.ofNat x.toInt.toNat := by
  have r := rng32 x
  apply Int32.toInt_inj.mp
  rw [own_ofNat (by omega)]; omega
theorem own_maskN (x m : Int32) (k : Nat) (hk : k < 32) (hm : m.toBitVec.toNat = 2 ^ k - 1) : ∃ n : Nat, n < 2 ^ k ∧ (x &&& m) = Int32.ofNat n := by
  have e := Jvm.Kit.i32_mask x m (k := k) hk hm
  have p : (0 : Int) < 2 ^ k := Int.pow_pos (by decide)
  have a := Int.emod_nonneg x.toInt (Int.ne_of_gt p)
  have b := Int.emod_lt_of_pos x.toInt p
  refine ⟨(x &&& m).toInt.toNat, ?_, own_natOf (by omega)⟩
  rw [e]
  have c : ((x.toInt % 2 ^ k).toNat : Int) < ((2 ^ k : Nat) : Int) := by rw [Int.toNat_of_nonneg a]; simpa using b
  exact_mod_cast c
theorem own_rem (x m : Int32) (q : Nat) (hm : m.toInt = q) (h1 : 0 < q) : ∃ n : Nat, n < q ∧ (x &&& 2147483647) % m = Int32.ofNat n := by
  have e := Jvm.Kit.i32_mask x 2147483647 (k := 31) (by decide) (by decide)
  have p : 0 ≤ (x &&& 2147483647).toInt := by omega
  have e2 := Jvm.Kit.i32_rem_nonneg (y := m) p
  have hp : (0 : Int) < m.toInt := by omega
  have a := Int.emod_nonneg (x &&& 2147483647).toInt (Int.ne_of_gt hp)
  have b := Int.emod_lt_of_pos (x &&& 2147483647).toInt hp
  exact ⟨((x &&& 2147483647) % m).toInt.toNat, by omega, own_natOf (by omega)⟩
theorem own_m3 {x z : Int32} (h : x &&& (3 : Int32) = z) : z = 0 ∨ z = 1 ∨ z = 2 ∨ z = 3 := by
  obtain ⟨n, hn, e⟩ := own_maskN x 3 2 (by decide) (by decide)
  rw [← h, e]
  have : ∀ i : Fin 4, Int32.ofNat i = 0 ∨ Int32.ofNat i = 1 ∨ Int32.ofNat i = 2 ∨ Int32.ofNat i = 3 := by decide +kernel
  exact this ⟨n, hn⟩
theorem own_m1 {x z : Int32} (h : x &&& (1 : Int32) = z) : z = 0 ∨ z = 1 := by
  obtain ⟨n, hn, e⟩ := own_maskN x 1 1 (by decide) (by decide)
  rw [← h, e]
  have : ∀ i : Fin 2, Int32.ofNat i = 0 ∨ Int32.ofNat i = 1 := by decide +kernel
  exact this ⟨n, hn⟩
section Laws
variable {p : Program} {l : Launch} {e : Env} {R : Room} {s : State} {m : MethodId} {args : Array Value} {below : List Frame} {meth : Method} {c : Code} {Z : State} {code : ByteArray} {own : String} {ret : Option FieldType} {ml : Nat} {nm : String} {n0 : Nat} {T : State} {h : Heap} {cells slots : Nat} {C S : Nat} {Q : Option Value → Heap → Prop} {pc pc' : Nat} {Ls : Array Slot} {stk : List Value}
theorem St.more (X : St p l e R s m args below meth c Z code own ret ml nm n0 T h cells slots) {cells' slots' : Nat} (h1 : cells ≤ cells') (h2 : slots ≤ slots') : St p l e R s m args below meth c Z code own ret ml nm n0 T h cells' slots' := by
  obtain ⟨locs, Y, r⟩ := X
  exact ⟨locs, Y.more h1 h2, r⟩
theorem St.size (X : St p l e R s m args below meth c Z code own ret ml nm n0 T h cells slots) : n0 ≤ h.size := by
  obtain ⟨locs, Y, hx, hZ, hc, ho, hr, hm, hn, hk, rfl, hF, h0⟩ := X
  exact Nat.le_trans h0 (Y.same.2.1 : s.heap.size ≤ T.heap.size)

theorem F_iloadN (X : St p l e R s m args below meth c Z code own ret ml nm n0 T h cells slots) {k : Fin 4} {v : Int32} (hd : decode code pc = .ok (.iload_n k, 1)) (hl : Ls[k.val]? = some (.val (.int v))) (hp : pc + 1 = pc') (k : Ends p e below s n0 C S Q T (mkF m pc' Ls (.int v :: stk))) : Ends p e below s n0 C S Q T (mkF m pc Ls stk) := by
  obtain ⟨locs, Y, hx, hZ, hc, ho, hr, hm, hn, hk, hh, hF, h0⟩ := X
  subst hp
  exact k.by fun _ kt => XS.iloadN Y.here hx rfl (hb hc hd) hl kt
theorem F_iload (X : St p l e R s m args below meth c Z code own ret ml nm n0 T h cells slots) {k : Nat} {v : Int32} (hd : decode code pc = .ok (.iload k, 2)) (hl : Ls[k]? = some (.val (.int v))) (hp : pc + 2 = pc') (k : Ends p e below s n0 C S Q T (mkF m pc' Ls (.int v :: stk))) : Ends p e below s n0 C S Q T (mkF m pc Ls stk) := by
  obtain ⟨locs, Y, hx, hZ, hc, ho, hr, hm, hn, hk, hh, hF, h0⟩ := X
  subst hp
  exact k.by fun _ kt => XS.iload Y.here hx rfl (hb hc hd) hl kt
theorem F_istoreN (X : St p l e R s m args below meth c Z code own ret ml nm n0 T h cells slots) {k : Fin 4} {v : Int32} {Ls' : Array Slot} (hd : decode code pc = .ok (.istore_n k, 1)) (hl : storeLocals Ls k.val (.int v) = some Ls') (hp : pc + 1 = pc') (k : Ends p e below s n0 C S Q T (mkF m pc' Ls' stk)) : Ends p e below s n0 C S Q T (mkF m pc Ls (.int v :: stk)) := by
  obtain ⟨locs, Y, hx, hZ, hc, ho, hr, hm, hn, hk, hh, hF, h0⟩ := X
  subst hp
  exact k.by fun _ kt => XS.istoreN Y.here hx rfl (hb hc hd) rfl hl kt
theorem F_istore (X : St p l e R s m args below meth c Z code own ret ml nm n0 T h cells slots) {k : Nat} {v : Int32} {Ls' : Array Slot} (hd : decode code pc = .ok (.istore k, 2)) (hl : storeLocals Ls k (.int v) = some Ls') (hp : pc + 2 = pc') (k : Ends p e below s n0 C S Q T (mkF m pc' Ls' stk)) : Ends p e below s n0 C S Q T (mkF m pc Ls (.int v :: stk)) := by
  obtain ⟨locs, Y, hx, hZ, hc, ho, hr, hm, hn, hk, hh, hF, h0⟩ := X
  subst hp
  exact k.by fun _ kt => XS.istore Y.here hx rfl (hb hc hd) rfl hl kt
theorem F_lloadN (X : St p l e R s m args below meth c Z code own ret ml nm n0 T h cells slots) {k : Fin 4} {v : Int64} (hd : decode code pc = .ok (.lload_n k, 1)) (hl : Ls[k.val]? = some (.val (.long v))) (hp : pc + 1 = pc') (k : Ends p e below s n0 C S Q T (mkF m pc' Ls (.long v :: stk))) : Ends p e below s n0 C S Q T (mkF m pc Ls stk) := by
  obtain ⟨locs, Y, hx, hZ, hc, ho, hr, hm, hn, hk, hh, hF, h0⟩ := X
  subst hp
  exact k.by fun _ kt => XS.lloadN Y.here hx rfl (hb hc hd) hl kt
theorem F_lload (X : St p l e R s m args below meth c Z code own ret ml nm n0 T h cells slots) {k : Nat} {v : Int64} (hd : decode code pc = .ok (.lload k, 2)) (hl : Ls[k]? = some (.val (.long v))) (hp : pc + 2 = pc') (k : Ends p e below s n0 C S Q T (mkF m pc' Ls (.long v :: stk))) : Ends p e below s n0 C S Q T (mkF m pc Ls stk) := by
  obtain ⟨locs, Y, hx, hZ, hc, ho, hr, hm, hn, hk, hh, hF, h0⟩ := X
  subst hp
  exact k.by fun _ kt => XS.lload Y.here hx rfl (hb hc hd) hl kt
theorem F_lstoreN (X : St p l e R s m args below meth c Z code own ret ml nm n0 T h cells slots) {k : Fin 4} {v : Int64} {Ls' : Array Slot} (hd : decode code pc = .ok (.lstore_n k, 1)) (hl : storeLocals Ls k.val (.long v) = some Ls') (hp : pc + 1 = pc') (k : Ends p e below s n0 C S Q T (mkF m pc' Ls' stk)) : Ends p e below s n0 C S Q T (mkF m pc Ls (.long v :: stk)) := by
  obtain ⟨locs, Y, hx, hZ, hc, ho, hr, hm, hn, hk, hh, hF, h0⟩ := X
  subst hp
  exact k.by fun _ kt => XS.lstoreN Y.here hx rfl (hb hc hd) rfl hl kt
theorem F_lstore (X : St p l e R s m args below meth c Z code own ret ml nm n0 T h cells slots) {k : Nat} {v : Int64} {Ls' : Array Slot} (hd : decode code pc = .ok (.lstore k, 2)) (hl : storeLocals Ls k (.long v) = some Ls') (hp : pc + 2 = pc') (k : Ends p e below s n0 C S Q T (mkF m pc' Ls' stk)) : Ends p e below s n0 C S Q T (mkF m pc Ls (.long v :: stk)) := by
  obtain ⟨locs, Y, hx, hZ, hc, ho, hr, hm, hn, hk, hh, hF, h0⟩ := X
  subst hp
  exact k.by fun _ kt => XS.lstore Y.here hx rfl (hb hc hd) rfl hl kt
theorem F_aloadN (X : St p l e R s m args below meth c Z code own ret ml nm n0 T h cells slots) {k : Fin 4} {v : Value} (hd : decode code pc = .ok (.aload_n k, 1)) (hl : Ls[k.val]? = some (.val v)) (hv : v.isRef = true) (hp : pc + 1 = pc') (k : Ends p e below s n0 C S Q T (mkF m pc' Ls (v :: stk))) : Ends p e below s n0 C S Q T (mkF m pc Ls stk) := by
  obtain ⟨locs, Y, hx, hZ, hc, ho, hr, hm, hn, hk, hh, hF, h0⟩ := X
  subst hp
  exact k.by fun _ kt => XS.aloadN Y.here hx rfl (hb hc hd) hl hv kt
theorem F_aload (X : St p l e R s m args below meth c Z code own ret ml nm n0 T h cells slots) {k : Nat} {v : Value} (hd : decode code pc = .ok (.aload k, 2)) (hl : Ls[k]? = some (.val v)) (hv : v.isRef = true) (hp : pc + 2 = pc') (k : Ends p e below s n0 C S Q T (mkF m pc' Ls (v :: stk))) : Ends p e below s n0 C S Q T (mkF m pc Ls stk) := by
  obtain ⟨locs, Y, hx, hZ, hc, ho, hr, hm, hn, hk, hh, hF, h0⟩ := X
  subst hp
  exact k.by fun _ kt => XS.aload Y.here hx rfl (hb hc hd) hl hv kt
theorem F_astoreN (X : St p l e R s m args below meth c Z code own ret ml nm n0 T h cells slots) {k : Fin 4} {v : Value} {Ls' : Array Slot} (hd : decode code pc = .ok (.astore_n k, 1)) (hv : v.isRef = true) (hl : storeLocals Ls k.val v = some Ls') (hp : pc + 1 = pc') (k : Ends p e below s n0 C S Q T (mkF m pc' Ls' stk)) : Ends p e below s n0 C S Q T (mkF m pc Ls (v :: stk)) := by
  obtain ⟨locs, Y, hx, hZ, hc, ho, hr, hm, hn, hk, hh, hF, h0⟩ := X
  subst hp
  exact k.by fun _ kt => XS.astoreN Y.here hx rfl (hb hc hd) rfl hv hl kt
theorem F_astore (X : St p l e R s m args below meth c Z code own ret ml nm n0 T h cells slots) {k : Nat} {v : Value} {Ls' : Array Slot} (hd : decode code pc = .ok (.astore k, 2)) (hv : v.isRef = true) (hl : storeLocals Ls k v = some Ls') (hp : pc + 2 = pc') (k : Ends p e below s n0 C S Q T (mkF m pc' Ls' stk)) : Ends p e below s n0 C S Q T (mkF m pc Ls (v :: stk)) := by
  obtain ⟨locs, Y, hx, hZ, hc, ho, hr, hm, hn, hk, hh, hF, h0⟩ := X
  subst hp
  exact k.by fun _ kt => XS.astore Y.here hx rfl (hb hc hd) rfl hv hl kt
theorem F_iconst (X : St p l e R s m args below meth c Z code own ret ml nm n0 T h cells slots) {i : Int} {z : Int32} (hd : decode code pc = .ok (.iconst i, 1)) (hz : Int32.ofInt i = z) (hp : pc + 1 = pc') (k : Ends p e below s n0 C S Q T (mkF m pc' Ls (.int z :: stk))) : Ends p e below s n0 C S Q T (mkF m pc Ls stk) := by
  obtain ⟨locs, Y, hx, hZ, hc, ho, hr, hm, hn, hk, hh, hF, h0⟩ := X
  subst hp
  exact k.by fun _ kt => XS.iconst Y.here hx rfl (hb hc hd) (hz ▸ kt)
theorem F_bipush (X : St p l e R s m args below meth c Z code own ret ml nm n0 T h cells slots) {i : Int} {z : Int32} (hd : decode code pc = .ok (.bipush i, 2)) (hz : (Int8.ofInt i).toInt32 = z) (hp : pc + 2 = pc') (k : Ends p e below s n0 C S Q T (mkF m pc' Ls (.int z :: stk))) : Ends p e below s n0 C S Q T (mkF m pc Ls stk) := by
  obtain ⟨locs, Y, hx, hZ, hc, ho, hr, hm, hn, hk, hh, hF, h0⟩ := X
  subst hp
  exact k.by fun _ kt => XS.bipush Y.here hx rfl (hb hc hd) (hz ▸ kt)
theorem F_sipush (X : St p l e R s m args below meth c Z code own ret ml nm n0 T h cells slots) {i : Int} {z : Int32} (hd : decode code pc = .ok (.sipush i, 3)) (hz : (Int16.ofInt i).toInt32 = z) (hp : pc + 3 = pc') (k : Ends p e below s n0 C S Q T (mkF m pc' Ls (.int z :: stk))) : Ends p e below s n0 C S Q T (mkF m pc Ls stk) := by
  obtain ⟨locs, Y, hx, hZ, hc, ho, hr, hm, hn, hk, hh, hF, h0⟩ := X
  subst hp
  exact k.by fun _ kt => XS.sipush Y.here hx rfl (hb hc hd) (hz ▸ kt)
theorem F_lconst (X : St p l e R s m args below meth c Z code own ret ml nm n0 T h cells slots) {i : Fin 2} {z : Int64} (hd : decode code pc = .ok (.lconst i, 1)) (hz : Int64.ofNat i = z) (hp : pc + 1 = pc') (k : Ends p e below s n0 C S Q T (mkF m pc' Ls (.long z :: stk))) : Ends p e below s n0 C S Q T (mkF m pc Ls stk) := by
  obtain ⟨locs, Y, hx, hZ, hc, ho, hr, hm, hn, hk, hh, hF, h0⟩ := X
  subst hp
  exact k.by fun _ kt => XS.lconst Y.here hx rfl (hb hc hd) (hz ▸ kt)
theorem F_aconst_null (X : St p l e R s m args below meth c Z code own ret ml nm n0 T h cells slots)  (hd : decode code pc = .ok (.aconst_null, 1)) (hp : pc + 1 = pc') (k : Ends p e below s n0 C S Q T (mkF m pc' Ls (.null :: stk))) : Ends p e below s n0 C S Q T (mkF m pc Ls stk) := by
  obtain ⟨locs, Y, hx, hZ, hc, ho, hr, hm, hn, hk, hh, hF, h0⟩ := X
  subst hp
  exact k.by fun _ kt => XS.aconstNull Y.here hx rfl (hb hc hd) kt
theorem F_iadd (X : St p l e R s m args below meth c Z code own ret ml nm n0 T h cells slots) {x y z : Int32} (hd : decode code pc = .ok (.iadd, 1)) (hz : x + y = z) (hp : pc + 1 = pc') (k : Ends p e below s n0 C S Q T (mkF m pc' Ls (.int z :: stk))) : Ends p e below s n0 C S Q T (mkF m pc Ls (.int y :: .int x :: stk)) := by
  obtain ⟨locs, Y, hx, hZ, hc, ho, hr, hm, hn, hk, hh, hF, h0⟩ := X
  subst hp
  exact k.by fun _ kt => XS.iadd Y.here hx rfl (hb hc hd) rfl (hz ▸ kt)
theorem F_isub (X : St p l e R s m args below meth c Z code own ret ml nm n0 T h cells slots) {x y z : Int32} (hd : decode code pc = .ok (.isub, 1)) (hz : x - y = z) (hp : pc + 1 = pc') (k : Ends p e below s n0 C S Q T (mkF m pc' Ls (.int z :: stk))) : Ends p e below s n0 C S Q T (mkF m pc Ls (.int y :: .int x :: stk)) := by
  obtain ⟨locs, Y, hx, hZ, hc, ho, hr, hm, hn, hk, hh, hF, h0⟩ := X
  subst hp
  exact k.by fun _ kt => XS.isub Y.here hx rfl (hb hc hd) rfl (hz ▸ kt)
theorem F_imul (X : St p l e R s m args below meth c Z code own ret ml nm n0 T h cells slots) {x y z : Int32} (hd : decode code pc = .ok (.imul, 1)) (hz : x * y = z) (hp : pc + 1 = pc') (k : Ends p e below s n0 C S Q T (mkF m pc' Ls (.int z :: stk))) : Ends p e below s n0 C S Q T (mkF m pc Ls (.int y :: .int x :: stk)) := by
  obtain ⟨locs, Y, hx, hZ, hc, ho, hr, hm, hn, hk, hh, hF, h0⟩ := X
  subst hp
  exact k.by fun _ kt => XS.imul Y.here hx rfl (hb hc hd) rfl (hz ▸ kt)
theorem F_iand (X : St p l e R s m args below meth c Z code own ret ml nm n0 T h cells slots) {x y z : Int32} (hd : decode code pc = .ok (.iand, 1)) (hz : x &&& y = z) (hp : pc + 1 = pc') (k : Ends p e below s n0 C S Q T (mkF m pc' Ls (.int z :: stk))) : Ends p e below s n0 C S Q T (mkF m pc Ls (.int y :: .int x :: stk)) := by
  obtain ⟨locs, Y, hx, hZ, hc, ho, hr, hm, hn, hk, hh, hF, h0⟩ := X
  subst hp
  exact k.by fun _ kt => XS.iand Y.here hx rfl (hb hc hd) rfl (hz ▸ kt)
theorem F_ior (X : St p l e R s m args below meth c Z code own ret ml nm n0 T h cells slots) {x y z : Int32} (hd : decode code pc = .ok (.ior, 1)) (hz : x ||| y = z) (hp : pc + 1 = pc') (k : Ends p e below s n0 C S Q T (mkF m pc' Ls (.int z :: stk))) : Ends p e below s n0 C S Q T (mkF m pc Ls (.int y :: .int x :: stk)) := by
  obtain ⟨locs, Y, hx, hZ, hc, ho, hr, hm, hn, hk, hh, hF, h0⟩ := X
  subst hp
  exact k.by fun _ kt => XS.ior Y.here hx rfl (hb hc hd) rfl (hz ▸ kt)
theorem F_ixor (X : St p l e R s m args below meth c Z code own ret ml nm n0 T h cells slots) {x y z : Int32} (hd : decode code pc = .ok (.ixor, 1)) (hz : x ^^^ y = z) (hp : pc + 1 = pc') (k : Ends p e below s n0 C S Q T (mkF m pc' Ls (.int z :: stk))) : Ends p e below s n0 C S Q T (mkF m pc Ls (.int y :: .int x :: stk)) := by
  obtain ⟨locs, Y, hx, hZ, hc, ho, hr, hm, hn, hk, hh, hF, h0⟩ := X
  subst hp
  exact k.by fun _ kt => XS.ixor Y.here hx rfl (hb hc hd) rfl (hz ▸ kt)
theorem F_ishl (X : St p l e R s m args below meth c Z code own ret ml nm n0 T h cells slots) {x y z : Int32} (hd : decode code pc = .ok (.ishl, 1)) (hz : x <<< (y &&& 31) = z) (hp : pc + 1 = pc') (k : Ends p e below s n0 C S Q T (mkF m pc' Ls (.int z :: stk))) : Ends p e below s n0 C S Q T (mkF m pc Ls (.int y :: .int x :: stk)) := by
  obtain ⟨locs, Y, hx, hZ, hc, ho, hr, hm, hn, hk, hh, hF, h0⟩ := X
  subst hp
  exact k.by fun _ kt => XS.ishl Y.here hx rfl (hb hc hd) rfl (hz ▸ kt)
theorem F_ishr (X : St p l e R s m args below meth c Z code own ret ml nm n0 T h cells slots) {x y z : Int32} (hd : decode code pc = .ok (.ishr, 1)) (hz : x >>> (y &&& 31) = z) (hp : pc + 1 = pc') (k : Ends p e below s n0 C S Q T (mkF m pc' Ls (.int z :: stk))) : Ends p e below s n0 C S Q T (mkF m pc Ls (.int y :: .int x :: stk)) := by
  obtain ⟨locs, Y, hx, hZ, hc, ho, hr, hm, hn, hk, hh, hF, h0⟩ := X
  subst hp
  exact k.by fun _ kt => XS.ishr Y.here hx rfl (hb hc hd) rfl (hz ▸ kt)
theorem F_iushr (X : St p l e R s m args below meth c Z code own ret ml nm n0 T h cells slots) {x y z : Int32} (hd : decode code pc = .ok (.iushr, 1)) (hz : (x.toUInt32 >>> (y &&& 31).toUInt32).toInt32 = z) (hp : pc + 1 = pc') (k : Ends p e below s n0 C S Q T (mkF m pc' Ls (.int z :: stk))) : Ends p e below s n0 C S Q T (mkF m pc Ls (.int y :: .int x :: stk)) := by
  obtain ⟨locs, Y, hx, hZ, hc, ho, hr, hm, hn, hk, hh, hF, h0⟩ := X
  subst hp
  exact k.by fun _ kt => XS.iushr Y.here hx rfl (hb hc hd) rfl (hz ▸ kt)
theorem F_idiv (X : St p l e R s m args below meth c Z code own ret ml nm n0 T h cells slots) {x y z : Int32} (hd : decode code pc = .ok (.idiv, 1)) (hy : y ≠ 0) (hz : x / y = z) (hp : pc + 1 = pc') (k : Ends p e below s n0 C S Q T (mkF m pc' Ls (.int z :: stk))) : Ends p e below s n0 C S Q T (mkF m pc Ls (.int y :: .int x :: stk)) := by
  obtain ⟨locs, Y, hx, hZ, hc, ho, hr, hm, hn, hk, hh, hF, h0⟩ := X
  subst hp
  exact k.by fun _ kt => XS.idiv Y.here hx rfl (hb hc hd) rfl hy (hz ▸ kt)
theorem F_irem (X : St p l e R s m args below meth c Z code own ret ml nm n0 T h cells slots) {x y z : Int32} (hd : decode code pc = .ok (.irem, 1)) (hy : y ≠ 0) (hz : x % y = z) (hp : pc + 1 = pc') (k : Ends p e below s n0 C S Q T (mkF m pc' Ls (.int z :: stk))) : Ends p e below s n0 C S Q T (mkF m pc Ls (.int y :: .int x :: stk)) := by
  obtain ⟨locs, Y, hx, hZ, hc, ho, hr, hm, hn, hk, hh, hF, h0⟩ := X
  subst hp
  exact k.by fun _ kt => iremM Y hx rfl (hb hc hd) rfl hy (hz ▸ kt)
theorem F_ineg (X : St p l e R s m args below meth c Z code own ret ml nm n0 T h cells slots) {x z : Int32} (hd : decode code pc = .ok (.ineg, 1)) (hz : -x = z) (hp : pc + 1 = pc') (k : Ends p e below s n0 C S Q T (mkF m pc' Ls (.int z :: stk))) : Ends p e below s n0 C S Q T (mkF m pc Ls (.int x :: stk)) := by
  obtain ⟨locs, Y, hx, hZ, hc, ho, hr, hm, hn, hk, hh, hF, h0⟩ := X
  subst hp
  exact k.by fun _ kt => XS.ineg Y.here hx rfl (hb hc hd) rfl (hz ▸ kt)
theorem F_ladd (X : St p l e R s m args below meth c Z code own ret ml nm n0 T h cells slots) {x y z : Int64} (hd : decode code pc = .ok (.ladd, 1)) (hz : x + y = z) (hp : pc + 1 = pc') (k : Ends p e below s n0 C S Q T (mkF m pc' Ls (.long z :: stk))) : Ends p e below s n0 C S Q T (mkF m pc Ls (.long y :: .long x :: stk)) := by
  obtain ⟨locs, Y, hx, hZ, hc, ho, hr, hm, hn, hk, hh, hF, h0⟩ := X
  subst hp
  exact k.by fun _ kt => XS.ladd Y.here hx rfl (hb hc hd) rfl (hz ▸ kt)
theorem F_lsub (X : St p l e R s m args below meth c Z code own ret ml nm n0 T h cells slots) {x y z : Int64} (hd : decode code pc = .ok (.lsub, 1)) (hz : x - y = z) (hp : pc + 1 = pc') (k : Ends p e below s n0 C S Q T (mkF m pc' Ls (.long z :: stk))) : Ends p e below s n0 C S Q T (mkF m pc Ls (.long y :: .long x :: stk)) := by
  obtain ⟨locs, Y, hx, hZ, hc, ho, hr, hm, hn, hk, hh, hF, h0⟩ := X
  subst hp
  exact k.by fun _ kt => XS.lsub Y.here hx rfl (hb hc hd) rfl (hz ▸ kt)
theorem F_lmul (X : St p l e R s m args below meth c Z code own ret ml nm n0 T h cells slots) {x y z : Int64} (hd : decode code pc = .ok (.lmul, 1)) (hz : x * y = z) (hp : pc + 1 = pc') (k : Ends p e below s n0 C S Q T (mkF m pc' Ls (.long z :: stk))) : Ends p e below s n0 C S Q T (mkF m pc Ls (.long y :: .long x :: stk)) := by
  obtain ⟨locs, Y, hx, hZ, hc, ho, hr, hm, hn, hk, hh, hF, h0⟩ := X
  subst hp
  exact k.by fun _ kt => XS.lmul Y.here hx rfl (hb hc hd) rfl (hz ▸ kt)
theorem F_land (X : St p l e R s m args below meth c Z code own ret ml nm n0 T h cells slots) {x y z : Int64} (hd : decode code pc = .ok (.land, 1)) (hz : x &&& y = z) (hp : pc + 1 = pc') (k : Ends p e below s n0 C S Q T (mkF m pc' Ls (.long z :: stk))) : Ends p e below s n0 C S Q T (mkF m pc Ls (.long y :: .long x :: stk)) := by
  obtain ⟨locs, Y, hx, hZ, hc, ho, hr, hm, hn, hk, hh, hF, h0⟩ := X
  subst hp
  exact k.by fun _ kt => XS.land Y.here hx rfl (hb hc hd) rfl (hz ▸ kt)
theorem F_lor (X : St p l e R s m args below meth c Z code own ret ml nm n0 T h cells slots) {x y z : Int64} (hd : decode code pc = .ok (.lor, 1)) (hz : x ||| y = z) (hp : pc + 1 = pc') (k : Ends p e below s n0 C S Q T (mkF m pc' Ls (.long z :: stk))) : Ends p e below s n0 C S Q T (mkF m pc Ls (.long y :: .long x :: stk)) := by
  obtain ⟨locs, Y, hx, hZ, hc, ho, hr, hm, hn, hk, hh, hF, h0⟩ := X
  subst hp
  exact k.by fun _ kt => XS.lor Y.here hx rfl (hb hc hd) rfl (hz ▸ kt)
theorem F_lxor (X : St p l e R s m args below meth c Z code own ret ml nm n0 T h cells slots) {x y z : Int64} (hd : decode code pc = .ok (.lxor, 1)) (hz : x ^^^ y = z) (hp : pc + 1 = pc') (k : Ends p e below s n0 C S Q T (mkF m pc' Ls (.long z :: stk))) : Ends p e below s n0 C S Q T (mkF m pc Ls (.long y :: .long x :: stk)) := by
  obtain ⟨locs, Y, hx, hZ, hc, ho, hr, hm, hn, hk, hh, hF, h0⟩ := X
  subst hp
  exact k.by fun _ kt => XS.lxor Y.here hx rfl (hb hc hd) rfl (hz ▸ kt)
theorem F_lshl (X : St p l e R s m args below meth c Z code own ret ml nm n0 T h cells slots) {x z : Int64} {y : Int32} (hd : decode code pc = .ok (.lshl, 1)) (hz : x <<< (y &&& 0x3f).toInt64 = z) (hp : pc + 1 = pc') (k : Ends p e below s n0 C S Q T (mkF m pc' Ls (.long z :: stk))) : Ends p e below s n0 C S Q T (mkF m pc Ls (.int y :: .long x :: stk)) := by
  obtain ⟨locs, Y, hx, hZ, hc, ho, hr, hm, hn, hk, hh, hF, h0⟩ := X
  subst hp
  exact k.by fun _ kt => XS.lshl Y.here hx rfl (hb hc hd) rfl (hz ▸ kt)
theorem F_lshr (X : St p l e R s m args below meth c Z code own ret ml nm n0 T h cells slots) {x z : Int64} {y : Int32} (hd : decode code pc = .ok (.lshr, 1)) (hz : x >>> (y &&& 0x3f).toInt64 = z) (hp : pc + 1 = pc') (k : Ends p e below s n0 C S Q T (mkF m pc' Ls (.long z :: stk))) : Ends p e below s n0 C S Q T (mkF m pc Ls (.int y :: .long x :: stk)) := by
  obtain ⟨locs, Y, hx, hZ, hc, ho, hr, hm, hn, hk, hh, hF, h0⟩ := X
  subst hp
  exact k.by fun _ kt => XS.lshr Y.here hx rfl (hb hc hd) rfl (hz ▸ kt)
theorem F_lushr (X : St p l e R s m args below meth c Z code own ret ml nm n0 T h cells slots) {x z : Int64} {y : Int32} (hd : decode code pc = .ok (.lushr, 1)) (hz : (x.toUInt64 >>> (y &&& 0x3f).toInt64.toUInt64).toInt64 = z) (hp : pc + 1 = pc') (k : Ends p e below s n0 C S Q T (mkF m pc' Ls (.long z :: stk))) : Ends p e below s n0 C S Q T (mkF m pc Ls (.int y :: .long x :: stk)) := by
  obtain ⟨locs, Y, hx, hZ, hc, ho, hr, hm, hn, hk, hh, hF, h0⟩ := X
  subst hp
  exact k.by fun _ kt => XS.lushr Y.here hx rfl (hb hc hd) rfl (hz ▸ kt)
theorem F_ldiv (X : St p l e R s m args below meth c Z code own ret ml nm n0 T h cells slots) {x y z : Int64} (hd : decode code pc = .ok (.ldiv, 1)) (hy : y ≠ 0) (hz : x / y = z) (hp : pc + 1 = pc') (k : Ends p e below s n0 C S Q T (mkF m pc' Ls (.long z :: stk))) : Ends p e below s n0 C S Q T (mkF m pc Ls (.long y :: .long x :: stk)) := by
  obtain ⟨locs, Y, hx, hZ, hc, ho, hr, hm, hn, hk, hh, hF, h0⟩ := X
  subst hp
  exact k.by fun _ kt => XS.ldiv Y.here hx rfl (hb hc hd) rfl hy (hz ▸ kt)
theorem F_lrem (X : St p l e R s m args below meth c Z code own ret ml nm n0 T h cells slots) {x y z : Int64} (hd : decode code pc = .ok (.lrem, 1)) (hy : y ≠ 0) (hz : x - (x / y) * y = z) (hp : pc + 1 = pc') (k : Ends p e below s n0 C S Q T (mkF m pc' Ls (.long z :: stk))) : Ends p e below s n0 C S Q T (mkF m pc Ls (.long y :: .long x :: stk)) := by
  obtain ⟨locs, Y, hx, hZ, hc, ho, hr, hm, hn, hk, hh, hF, h0⟩ := X
  subst hp
  exact k.by fun _ kt => XS.lrem Y.here hx rfl (hb hc hd) rfl hy (hz ▸ kt)
theorem F_i2l (X : St p l e R s m args below meth c Z code own ret ml nm n0 T h cells slots) {x : Int32} {z : Int64} (hd : decode code pc = .ok (.i2l, 1)) (hz : x.toInt64 = z) (hp : pc + 1 = pc') (k : Ends p e below s n0 C S Q T (mkF m pc' Ls (.long z :: stk))) : Ends p e below s n0 C S Q T (mkF m pc Ls (.int x :: stk)) := by
  obtain ⟨locs, Y, hx, hZ, hc, ho, hr, hm, hn, hk, hh, hF, h0⟩ := X
  subst hp
  exact k.by fun _ kt => XS.i2l Y.here hx rfl (hb hc hd) rfl (hz ▸ kt)
theorem F_l2i (X : St p l e R s m args below meth c Z code own ret ml nm n0 T h cells slots) {x : Int64} {z : Int32} (hd : decode code pc = .ok (.l2i, 1)) (hz : x.toInt32 = z) (hp : pc + 1 = pc') (k : Ends p e below s n0 C S Q T (mkF m pc' Ls (.int z :: stk))) : Ends p e below s n0 C S Q T (mkF m pc Ls (.long x :: stk)) := by
  obtain ⟨locs, Y, hx, hZ, hc, ho, hr, hm, hn, hk, hh, hF, h0⟩ := X
  subst hp
  exact k.by fun _ kt => XS.l2i Y.here hx rfl (hb hc hd) rfl (hz ▸ kt)
theorem F_i2b (X : St p l e R s m args below meth c Z code own ret ml nm n0 T h cells slots) {x : Int32} {z : Int32} (hd : decode code pc = .ok (.i2b, 1)) (hz : x.toInt8.toInt32 = z) (hp : pc + 1 = pc') (k : Ends p e below s n0 C S Q T (mkF m pc' Ls (.int z :: stk))) : Ends p e below s n0 C S Q T (mkF m pc Ls (.int x :: stk)) := by
  obtain ⟨locs, Y, hx, hZ, hc, ho, hr, hm, hn, hk, hh, hF, h0⟩ := X
  subst hp
  exact k.by fun _ kt => XS.i2b Y.here hx rfl (hb hc hd) rfl (hz ▸ kt)
theorem F_i2c (X : St p l e R s m args below meth c Z code own ret ml nm n0 T h cells slots) {x : Int32} {z : Int32} (hd : decode code pc = .ok (.i2c, 1)) (hz : x.toUInt32.toUInt16.toUInt32.toInt32 = z) (hp : pc + 1 = pc') (k : Ends p e below s n0 C S Q T (mkF m pc' Ls (.int z :: stk))) : Ends p e below s n0 C S Q T (mkF m pc Ls (.int x :: stk)) := by
  obtain ⟨locs, Y, hx, hZ, hc, ho, hr, hm, hn, hk, hh, hF, h0⟩ := X
  subst hp
  exact k.by fun _ kt => XS.i2c Y.here hx rfl (hb hc hd) rfl (hz ▸ kt)
theorem F_i2s (X : St p l e R s m args below meth c Z code own ret ml nm n0 T h cells slots) {x : Int32} {z : Int32} (hd : decode code pc = .ok (.i2s, 1)) (hz : x.toInt16.toInt32 = z) (hp : pc + 1 = pc') (k : Ends p e below s n0 C S Q T (mkF m pc' Ls (.int z :: stk))) : Ends p e below s n0 C S Q T (mkF m pc Ls (.int x :: stk)) := by
  obtain ⟨locs, Y, hx, hZ, hc, ho, hr, hm, hn, hk, hh, hF, h0⟩ := X
  subst hp
  exact k.by fun _ kt => XS.i2s Y.here hx rfl (hb hc hd) rfl (hz ▸ kt)
theorem F_iinc (X : St p l e R s m args below meth c Z code own ret ml nm n0 T h cells slots) {k : Nat} {i : Int} {v : Int32} {Ls' : Array Slot} (hd : decode code pc = .ok (.iinc k i, 3)) (hl : Ls[k]? = some (.val (.int v))) (hl' : storeLocals Ls k (.int (v + Int32.ofInt i)) = some Ls') (hp : pc + 3 = pc') (k : Ends p e below s n0 C S Q T (mkF m pc' Ls' stk)) : Ends p e below s n0 C S Q T (mkF m pc Ls stk) := by
  obtain ⟨locs, Y, hx, hZ, hc, ho, hr, hm, hn, hk, hh, hF, h0⟩ := X
  subst hp
  exact k.by fun _ kt => XS.iinc Y.here hx rfl (hb hc hd) hl hl' kt
theorem F_dup (X : St p l e R s m args below meth c Z code own ret ml nm n0 T h cells slots) {v : Value} (hd : decode code pc = .ok (.dup, 1)) (hv : v.category = 1) (hp : pc + 1 = pc') (k : Ends p e below s n0 C S Q T (mkF m pc' Ls (v :: v :: stk))) : Ends p e below s n0 C S Q T (mkF m pc Ls (v :: stk)) := by
  obtain ⟨locs, Y, hx, hZ, hc, ho, hr, hm, hn, hk, hh, hF, h0⟩ := X
  subst hp
  exact k.by fun _ kt => XS.dup Y.here hx rfl (hb hc hd) rfl hv kt
theorem F_dup_x1 (X : St p l e R s m args below meth c Z code own ret ml nm n0 T h cells slots) {v w : Value} (hd : decode code pc = .ok (.dup_x1, 1)) (hv : v.category = 1) (hw : w.category = 1) (hp : pc + 1 = pc') (k : Ends p e below s n0 C S Q T (mkF m pc' Ls (v :: w :: v :: stk))) : Ends p e below s n0 C S Q T (mkF m pc Ls (v :: w :: stk)) := by
  obtain ⟨locs, Y, hx, hZ, hc, ho, hr, hm, hn, hk, hh, hF, h0⟩ := X
  subst hp
  exact k.by fun _ kt => XS.dupX1 Y.here hx rfl (hb hc hd) rfl hv hw kt
theorem F_dup2 (X : St p l e R s m args below meth c Z code own ret ml nm n0 T h cells slots) {v w : Value} (hd : decode code pc = .ok (.dup2, 1)) (hv : v.category = 1) (hw : w.category = 1) (hp : pc + 1 = pc') (k : Ends p e below s n0 C S Q T (mkF m pc' Ls (v :: w :: v :: w :: stk))) : Ends p e below s n0 C S Q T (mkF m pc Ls (v :: w :: stk)) := by
  obtain ⟨locs, Y, hx, hZ, hc, ho, hr, hm, hn, hk, hh, hF, h0⟩ := X
  subst hp
  exact k.by fun _ kt => XT.dup2 Y.here hx rfl (hb hc hd) rfl hv hw kt
theorem F_pop (X : St p l e R s m args below meth c Z code own ret ml nm n0 T h cells slots) {v : Value} (hd : decode code pc = .ok (.pop, 1)) (hv : v.category = 1) (hp : pc + 1 = pc') (k : Ends p e below s n0 C S Q T (mkF m pc' Ls stk)) : Ends p e below s n0 C S Q T (mkF m pc Ls (v :: stk)) := by
  obtain ⟨locs, Y, hx, hZ, hc, ho, hr, hm, hn, hk, hh, hF, h0⟩ := X
  subst hp
  exact k.by fun _ kt => XS.pop Y.here hx rfl (hb hc hd) rfl hv kt
theorem F_lcmp (X : St p l e R s m args below meth c Z code own ret ml nm n0 T h cells slots) {x y : Int64} (hd : decode code pc = .ok (.lcmp, 1)) (hp : pc + 1 = pc') (k : Ends p e below s n0 C S Q T (mkF m pc' Ls (.int (lcmpW x y) :: stk))) : Ends p e below s n0 C S Q T (mkF m pc Ls (.long y :: .long x :: stk)) := by
  obtain ⟨locs, Y, hx, hZ, hc, ho, hr, hm, hn, hk, hh, hF, h0⟩ := X
  subst hp
  exact k.by fun _ kt => XS.lcmp Y.here hx rfl (hb hc hd) rfl kt
theorem F_goto (X : St p l e R s m args below meth c Z code own ret ml nm n0 T h cells slots) {o : Int} (hd : decode code pc = .ok (.goto o, 3)) (hof : 0 ≤ (pc : Int) + o) (hp : ((pc : Int) + o).toNat = pc') (k : Ends p e below s n0 C S Q T (mkF m pc' Ls stk)) : Ends p e below s n0 C S Q T (mkF m pc Ls stk) := by
  obtain ⟨locs, Y, hx, hZ, hc, ho, hr, hm, hn, hk, hh, hF, h0⟩ := X
  exact k.by fun _ kt => XS.goto Y.here hx rfl rfl (hb hc hd) hof hp kt
theorem F_icmp_lt (X : St p l e R s m args below meth c Z code own ret ml nm n0 T h cells slots) {x y : Int32} {o : Int} {pt : Nat} (hd : decode code pc = .ok (.if_icmp .lt o, 3)) (hof : 0 ≤ (pc : Int) + o) (hp : ((pc : Int) + o).toNat = pt) (hq : pc + 3 = pc') (kt : (x < y) → Ends p e below s n0 C S Q T (mkF m pt Ls stk)) (kf : ¬ (x < y) → Ends p e below s n0 C S Q T (mkF m pc' Ls stk)) : Ends p e below s n0 C S Q T (mkF m pc Ls (.int y :: .int x :: stk)) := by
  obtain ⟨locs, Y, hx, hZ, hc, ho, hr, hm, hn, hk, hh, hF, h0⟩ := X
  subst hq
  by_cases q : x < y
  · exact (kt q).by fun _ z => XS.icmpYes Y.here hx rfl rfl (hb hc hd) rfl (tlt q).1 hof hp z
  · exact (kf q).by fun _ z => XS.icmpNo Y.here hx rfl (hb hc hd) rfl (flt q).1 z
theorem F_if_lt (X : St p l e R s m args below meth c Z code own ret ml nm n0 T h cells slots) {x : Int32} {o : Int} {pt : Nat} (hd : decode code pc = .ok (.ifCond .lt o, 3)) (hof : 0 ≤ (pc : Int) + o) (hp : ((pc : Int) + o).toNat = pt) (hq : pc + 3 = pc') (kt : (x < 0) → Ends p e below s n0 C S Q T (mkF m pt Ls stk)) (kf : ¬ (x < 0) → Ends p e below s n0 C S Q T (mkF m pc' Ls stk)) : Ends p e below s n0 C S Q T (mkF m pc Ls (.int x :: stk)) := by
  obtain ⟨locs, Y, hx, hZ, hc, ho, hr, hm, hn, hk, hh, hF, h0⟩ := X
  subst hq
  by_cases q : x < 0
  · exact (kt q).by fun _ z => XS.ifYes Y.here hx rfl rfl (hb hc hd) rfl ((if0 _ _).trans (tlt q).1) hof hp z
  · exact (kf q).by fun _ z => XS.ifNo Y.here hx rfl (hb hc hd) rfl ((if0 _ _).trans (flt q).1) z
theorem F_lif_lt (X : St p l e R s m args below meth c Z code own ret ml nm n0 T h cells slots) {x y : Int64} {o : Int} {pt : Nat} (hd : decode code pc = .ok (.ifCond .lt o, 3)) (hof : 0 ≤ (pc : Int) + o) (hp : ((pc : Int) + o).toNat = pt) (hq : pc + 3 = pc') (kt : (x < y) → Ends p e below s n0 C S Q T (mkF m pt Ls stk)) (kf : ¬ (x < y) → Ends p e below s n0 C S Q T (mkF m pc' Ls stk)) : Ends p e below s n0 C S Q T (mkF m pc Ls (.int (lcmpW x y) :: stk)) := by
  obtain ⟨locs, Y, hx, hZ, hc, ho, hr, hm, hn, hk, hh, hF, h0⟩ := X
  subst hq
  by_cases q : x < y
  · exact (kt q).by fun _ z => XS.ifYes Y.here hx rfl rfl (hb hc hd) rfl ((if0 _ _).trans (tlt ((lw_lt _ _).mpr q)).1) hof hp z
  · exact (kf q).by fun _ z => XS.ifNo Y.here hx rfl (hb hc hd) rfl ((if0 _ _).trans (flt (fun z => q ((lw_lt _ _).mp z))).1) z
theorem F_icmp_ge (X : St p l e R s m args below meth c Z code own ret ml nm n0 T h cells slots) {x y : Int32} {o : Int} {pt : Nat} (hd : decode code pc = .ok (.if_icmp .ge o, 3)) (hof : 0 ≤ (pc : Int) + o) (hp : ((pc : Int) + o).toNat = pt) (hq : pc + 3 = pc') (kt : ¬ (x < y) → Ends p e below s n0 C S Q T (mkF m pt Ls stk)) (kf : (x < y) → Ends p e below s n0 C S Q T (mkF m pc' Ls stk)) : Ends p e below s n0 C S Q T (mkF m pc Ls (.int y :: .int x :: stk)) := by
  obtain ⟨locs, Y, hx, hZ, hc, ho, hr, hm, hn, hk, hh, hF, h0⟩ := X
  subst hq
  by_cases q : x < y
  · exact (kf q).by fun _ z => XS.icmpNo Y.here hx rfl (hb hc hd) rfl (tlt q).2.1 z
  · exact (kt q).by fun _ z => XS.icmpYes Y.here hx rfl rfl (hb hc hd) rfl (flt q).2.1 hof hp z
theorem F_if_ge (X : St p l e R s m args below meth c Z code own ret ml nm n0 T h cells slots) {x : Int32} {o : Int} {pt : Nat} (hd : decode code pc = .ok (.ifCond .ge o, 3)) (hof : 0 ≤ (pc : Int) + o) (hp : ((pc : Int) + o).toNat = pt) (hq : pc + 3 = pc') (kt : ¬ (x < 0) → Ends p e below s n0 C S Q T (mkF m pt Ls stk)) (kf : (x < 0) → Ends p e below s n0 C S Q T (mkF m pc' Ls stk)) : Ends p e below s n0 C S Q T (mkF m pc Ls (.int x :: stk)) := by
  obtain ⟨locs, Y, hx, hZ, hc, ho, hr, hm, hn, hk, hh, hF, h0⟩ := X
  subst hq
  by_cases q : x < 0
  · exact (kf q).by fun _ z => XS.ifNo Y.here hx rfl (hb hc hd) rfl ((if0 _ _).trans (tlt q).2.1) z
  · exact (kt q).by fun _ z => XS.ifYes Y.here hx rfl rfl (hb hc hd) rfl ((if0 _ _).trans (flt q).2.1) hof hp z
theorem F_lif_ge (X : St p l e R s m args below meth c Z code own ret ml nm n0 T h cells slots) {x y : Int64} {o : Int} {pt : Nat} (hd : decode code pc = .ok (.ifCond .ge o, 3)) (hof : 0 ≤ (pc : Int) + o) (hp : ((pc : Int) + o).toNat = pt) (hq : pc + 3 = pc') (kt : ¬ (x < y) → Ends p e below s n0 C S Q T (mkF m pt Ls stk)) (kf : (x < y) → Ends p e below s n0 C S Q T (mkF m pc' Ls stk)) : Ends p e below s n0 C S Q T (mkF m pc Ls (.int (lcmpW x y) :: stk)) := by
  obtain ⟨locs, Y, hx, hZ, hc, ho, hr, hm, hn, hk, hh, hF, h0⟩ := X
  subst hq
  by_cases q : x < y
  · exact (kf q).by fun _ z => XS.ifNo Y.here hx rfl (hb hc hd) rfl ((if0 _ _).trans (tlt ((lw_lt _ _).mpr q)).2.1) z
  · exact (kt q).by fun _ z => XS.ifYes Y.here hx rfl rfl (hb hc hd) rfl ((if0 _ _).trans (flt (fun z => q ((lw_lt _ _).mp z))).2.1) hof hp z
theorem F_icmp_gt (X : St p l e R s m args below meth c Z code own ret ml nm n0 T h cells slots) {x y : Int32} {o : Int} {pt : Nat} (hd : decode code pc = .ok (.if_icmp .gt o, 3)) (hof : 0 ≤ (pc : Int) + o) (hp : ((pc : Int) + o).toNat = pt) (hq : pc + 3 = pc') (kt : (y < x) → Ends p e below s n0 C S Q T (mkF m pt Ls stk)) (kf : ¬ (y < x) → Ends p e below s n0 C S Q T (mkF m pc' Ls stk)) : Ends p e below s n0 C S Q T (mkF m pc Ls (.int y :: .int x :: stk)) := by
  obtain ⟨locs, Y, hx, hZ, hc, ho, hr, hm, hn, hk, hh, hF, h0⟩ := X
  subst hq
  by_cases q : y < x
  · exact (kt q).by fun _ z => XS.icmpYes Y.here hx rfl rfl (hb hc hd) rfl (tlt q).2.2.1 hof hp z
  · exact (kf q).by fun _ z => XS.icmpNo Y.here hx rfl (hb hc hd) rfl (flt q).2.2.1 z
theorem F_if_gt (X : St p l e R s m args below meth c Z code own ret ml nm n0 T h cells slots) {x : Int32} {o : Int} {pt : Nat} (hd : decode code pc = .ok (.ifCond .gt o, 3)) (hof : 0 ≤ (pc : Int) + o) (hp : ((pc : Int) + o).toNat = pt) (hq : pc + 3 = pc') (kt : (0 < x) → Ends p e below s n0 C S Q T (mkF m pt Ls stk)) (kf : ¬ (0 < x) → Ends p e below s n0 C S Q T (mkF m pc' Ls stk)) : Ends p e below s n0 C S Q T (mkF m pc Ls (.int x :: stk)) := by
  obtain ⟨locs, Y, hx, hZ, hc, ho, hr, hm, hn, hk, hh, hF, h0⟩ := X
  subst hq
  by_cases q : 0 < x
  · exact (kt q).by fun _ z => XS.ifYes Y.here hx rfl rfl (hb hc hd) rfl ((if0 _ _).trans (tlt q).2.2.1) hof hp z
  · exact (kf q).by fun _ z => XS.ifNo Y.here hx rfl (hb hc hd) rfl ((if0 _ _).trans (flt q).2.2.1) z
theorem F_lif_gt (X : St p l e R s m args below meth c Z code own ret ml nm n0 T h cells slots) {x y : Int64} {o : Int} {pt : Nat} (hd : decode code pc = .ok (.ifCond .gt o, 3)) (hof : 0 ≤ (pc : Int) + o) (hp : ((pc : Int) + o).toNat = pt) (hq : pc + 3 = pc') (kt : (y < x) → Ends p e below s n0 C S Q T (mkF m pt Ls stk)) (kf : ¬ (y < x) → Ends p e below s n0 C S Q T (mkF m pc' Ls stk)) : Ends p e below s n0 C S Q T (mkF m pc Ls (.int (lcmpW x y) :: stk)) := by
  obtain ⟨locs, Y, hx, hZ, hc, ho, hr, hm, hn, hk, hh, hF, h0⟩ := X
  subst hq
  by_cases q : y < x
  · exact (kt q).by fun _ z => XS.ifYes Y.here hx rfl rfl (hb hc hd) rfl ((if0 _ _).trans (tlt ((lw_gt _ _).mpr q)).2.2.1) hof hp z
  · exact (kf q).by fun _ z => XS.ifNo Y.here hx rfl (hb hc hd) rfl ((if0 _ _).trans (flt (fun z => q ((lw_gt _ _).mp z))).2.2.1) z
theorem F_icmp_le (X : St p l e R s m args below meth c Z code own ret ml nm n0 T h cells slots) {x y : Int32} {o : Int} {pt : Nat} (hd : decode code pc = .ok (.if_icmp .le o, 3)) (hof : 0 ≤ (pc : Int) + o) (hp : ((pc : Int) + o).toNat = pt) (hq : pc + 3 = pc') (kt : ¬ (y < x) → Ends p e below s n0 C S Q T (mkF m pt Ls stk)) (kf : (y < x) → Ends p e below s n0 C S Q T (mkF m pc' Ls stk)) : Ends p e below s n0 C S Q T (mkF m pc Ls (.int y :: .int x :: stk)) := by
  obtain ⟨locs, Y, hx, hZ, hc, ho, hr, hm, hn, hk, hh, hF, h0⟩ := X
  subst hq
  by_cases q : y < x
  · exact (kf q).by fun _ z => XS.icmpNo Y.here hx rfl (hb hc hd) rfl (tlt q).2.2.2 z
  · exact (kt q).by fun _ z => XS.icmpYes Y.here hx rfl rfl (hb hc hd) rfl (flt q).2.2.2 hof hp z
theorem F_if_le (X : St p l e R s m args below meth c Z code own ret ml nm n0 T h cells slots) {x : Int32} {o : Int} {pt : Nat} (hd : decode code pc = .ok (.ifCond .le o, 3)) (hof : 0 ≤ (pc : Int) + o) (hp : ((pc : Int) + o).toNat = pt) (hq : pc + 3 = pc') (kt : ¬ (0 < x) → Ends p e below s n0 C S Q T (mkF m pt Ls stk)) (kf : (0 < x) → Ends p e below s n0 C S Q T (mkF m pc' Ls stk)) : Ends p e below s n0 C S Q T (mkF m pc Ls (.int x :: stk)) := by
  obtain ⟨locs, Y, hx, hZ, hc, ho, hr, hm, hn, hk, hh, hF, h0⟩ := X
  subst hq
  by_cases q : 0 < x
  · exact (kf q).by fun _ z => XS.ifNo Y.here hx rfl (hb hc hd) rfl ((if0 _ _).trans (tlt q).2.2.2) z
  · exact (kt q).by fun _ z => XS.ifYes Y.here hx rfl rfl (hb hc hd) rfl ((if0 _ _).trans (flt q).2.2.2) hof hp z
theorem F_lif_le (X : St p l e R s m args below meth c Z code own ret ml nm n0 T h cells slots) {x y : Int64} {o : Int} {pt : Nat} (hd : decode code pc = .ok (.ifCond .le o, 3)) (hof : 0 ≤ (pc : Int) + o) (hp : ((pc : Int) + o).toNat = pt) (hq : pc + 3 = pc') (kt : ¬ (y < x) → Ends p e below s n0 C S Q T (mkF m pt Ls stk)) (kf : (y < x) → Ends p e below s n0 C S Q T (mkF m pc' Ls stk)) : Ends p e below s n0 C S Q T (mkF m pc Ls (.int (lcmpW x y) :: stk)) := by
  obtain ⟨locs, Y, hx, hZ, hc, ho, hr, hm, hn, hk, hh, hF, h0⟩ := X
  subst hq
  by_cases q : y < x
  · exact (kf q).by fun _ z => XS.ifNo Y.here hx rfl (hb hc hd) rfl ((if0 _ _).trans (tlt ((lw_gt _ _).mpr q)).2.2.2) z
  · exact (kt q).by fun _ z => XS.ifYes Y.here hx rfl rfl (hb hc hd) rfl ((if0 _ _).trans (flt (fun z => q ((lw_gt _ _).mp z))).2.2.2) hof hp z
theorem F_icmp_eq (X : St p l e R s m args below meth c Z code own ret ml nm n0 T h cells slots) {x y : Int32} {o : Int} {pt : Nat} (hd : decode code pc = .ok (.if_icmp .eq o, 3)) (hof : 0 ≤ (pc : Int) + o) (hp : ((pc : Int) + o).toNat = pt) (hq : pc + 3 = pc') (kt : (x = y) → Ends p e below s n0 C S Q T (mkF m pt Ls stk)) (kf : ¬ (x = y) → Ends p e below s n0 C S Q T (mkF m pc' Ls stk)) : Ends p e below s n0 C S Q T (mkF m pc Ls (.int y :: .int x :: stk)) := by
  obtain ⟨locs, Y, hx, hZ, hc, ho, hr, hm, hn, hk, hh, hF, h0⟩ := X
  subst hq
  by_cases q : x = y
  · exact (kt q).by fun _ z => XS.icmpYes Y.here hx rfl rfl (hb hc hd) rfl (teq q).1 hof hp z
  · exact (kf q).by fun _ z => XS.icmpNo Y.here hx rfl (hb hc hd) rfl (feq q).1 z
theorem F_if_eq (X : St p l e R s m args below meth c Z code own ret ml nm n0 T h cells slots) {x : Int32} {o : Int} {pt : Nat} (hd : decode code pc = .ok (.ifCond .eq o, 3)) (hof : 0 ≤ (pc : Int) + o) (hp : ((pc : Int) + o).toNat = pt) (hq : pc + 3 = pc') (kt : (x = 0) → Ends p e below s n0 C S Q T (mkF m pt Ls stk)) (kf : ¬ (x = 0) → Ends p e below s n0 C S Q T (mkF m pc' Ls stk)) : Ends p e below s n0 C S Q T (mkF m pc Ls (.int x :: stk)) := by
  obtain ⟨locs, Y, hx, hZ, hc, ho, hr, hm, hn, hk, hh, hF, h0⟩ := X
  subst hq
  by_cases q : x = 0
  · exact (kt q).by fun _ z => XS.ifYes Y.here hx rfl rfl (hb hc hd) rfl ((if0 _ _).trans (teq q).1) hof hp z
  · exact (kf q).by fun _ z => XS.ifNo Y.here hx rfl (hb hc hd) rfl ((if0 _ _).trans (feq q).1) z
theorem F_lif_eq (X : St p l e R s m args below meth c Z code own ret ml nm n0 T h cells slots) {x y : Int64} {o : Int} {pt : Nat} (hd : decode code pc = .ok (.ifCond .eq o, 3)) (hof : 0 ≤ (pc : Int) + o) (hp : ((pc : Int) + o).toNat = pt) (hq : pc + 3 = pc') (kt : (x = y) → Ends p e below s n0 C S Q T (mkF m pt Ls stk)) (kf : ¬ (x = y) → Ends p e below s n0 C S Q T (mkF m pc' Ls stk)) : Ends p e below s n0 C S Q T (mkF m pc Ls (.int (lcmpW x y) :: stk)) := by
  obtain ⟨locs, Y, hx, hZ, hc, ho, hr, hm, hn, hk, hh, hF, h0⟩ := X
  subst hq
  by_cases q : x = y
  · exact (kt q).by fun _ z => XS.ifYes Y.here hx rfl rfl (hb hc hd) rfl ((if0 _ _).trans (teq ((lw_eq _ _).mpr q)).1) hof hp z
  · exact (kf q).by fun _ z => XS.ifNo Y.here hx rfl (hb hc hd) rfl ((if0 _ _).trans (feq (fun z => q ((lw_eq _ _).mp z))).1) z
theorem F_icmp_ne (X : St p l e R s m args below meth c Z code own ret ml nm n0 T h cells slots) {x y : Int32} {o : Int} {pt : Nat} (hd : decode code pc = .ok (.if_icmp .ne o, 3)) (hof : 0 ≤ (pc : Int) + o) (hp : ((pc : Int) + o).toNat = pt) (hq : pc + 3 = pc') (kt : ¬ (x = y) → Ends p e below s n0 C S Q T (mkF m pt Ls stk)) (kf : (x = y) → Ends p e below s n0 C S Q T (mkF m pc' Ls stk)) : Ends p e below s n0 C S Q T (mkF m pc Ls (.int y :: .int x :: stk)) := by
  obtain ⟨locs, Y, hx, hZ, hc, ho, hr, hm, hn, hk, hh, hF, h0⟩ := X
  subst hq
  by_cases q : x = y
  · exact (kf q).by fun _ z => XS.icmpNo Y.here hx rfl (hb hc hd) rfl (teq q).2 z
  · exact (kt q).by fun _ z => XS.icmpYes Y.here hx rfl rfl (hb hc hd) rfl (feq q).2 hof hp z
theorem F_if_ne (X : St p l e R s m args below meth c Z code own ret ml nm n0 T h cells slots) {x : Int32} {o : Int} {pt : Nat} (hd : decode code pc = .ok (.ifCond .ne o, 3)) (hof : 0 ≤ (pc : Int) + o) (hp : ((pc : Int) + o).toNat = pt) (hq : pc + 3 = pc') (kt : ¬ (x = 0) → Ends p e below s n0 C S Q T (mkF m pt Ls stk)) (kf : (x = 0) → Ends p e below s n0 C S Q T (mkF m pc' Ls stk)) : Ends p e below s n0 C S Q T (mkF m pc Ls (.int x :: stk)) := by
  obtain ⟨locs, Y, hx, hZ, hc, ho, hr, hm, hn, hk, hh, hF, h0⟩ := X
  subst hq
  by_cases q : x = 0
  · exact (kf q).by fun _ z => XS.ifNo Y.here hx rfl (hb hc hd) rfl ((if0 _ _).trans (teq q).2) z
  · exact (kt q).by fun _ z => XS.ifYes Y.here hx rfl rfl (hb hc hd) rfl ((if0 _ _).trans (feq q).2) hof hp z
theorem F_lif_ne (X : St p l e R s m args below meth c Z code own ret ml nm n0 T h cells slots) {x y : Int64} {o : Int} {pt : Nat} (hd : decode code pc = .ok (.ifCond .ne o, 3)) (hof : 0 ≤ (pc : Int) + o) (hp : ((pc : Int) + o).toNat = pt) (hq : pc + 3 = pc') (kt : ¬ (x = y) → Ends p e below s n0 C S Q T (mkF m pt Ls stk)) (kf : (x = y) → Ends p e below s n0 C S Q T (mkF m pc' Ls stk)) : Ends p e below s n0 C S Q T (mkF m pc Ls (.int (lcmpW x y) :: stk)) := by
  obtain ⟨locs, Y, hx, hZ, hc, ho, hr, hm, hn, hk, hh, hF, h0⟩ := X
  subst hq
  by_cases q : x = y
  · exact (kf q).by fun _ z => XS.ifNo Y.here hx rfl (hb hc hd) rfl ((if0 _ _).trans (teq ((lw_eq _ _).mpr q)).2) z
  · exact (kt q).by fun _ z => XS.ifYes Y.here hx rfl rfl (hb hc hd) rfl ((if0 _ _).trans (feq (fun z => q ((lw_eq _ _).mp z))).2) hof hp z
theorem F_ifnull_null (X : St p l e R s m args below meth c Z code own ret ml nm n0 T h cells slots) {o : Int} {pt : Nat} (hd : decode code pc = .ok (.ifnull o, 3)) (hof : 0 ≤ (pc : Int) + o) (hp : ((pc : Int) + o).toNat = pt) (k : Ends p e below s n0 C S Q T (mkF m pt Ls stk)) : Ends p e below s n0 C S Q T (mkF m pc Ls (.null :: stk)) := by
  obtain ⟨locs, Y, hx, hZ, hc, ho, hr, hm, hn, hk, hh, hF, h0⟩ := X
  exact k.by fun _ z => XS.ifnullYes Y.here hx rfl rfl (hb hc hd) rfl hof hp z
theorem F_ifnull_ref (X : St p l e R s m args below meth c Z code own ret ml nm n0 T h cells slots) {a : Addr} {o : Int} (hd : decode code pc = .ok (.ifnull o, 3)) (hq : pc + 3 = pc') (k : Ends p e below s n0 C S Q T (mkF m pc' Ls stk)) : Ends p e below s n0 C S Q T (mkF m pc Ls (.ref a :: stk)) := by
  obtain ⟨locs, Y, hx, hZ, hc, ho, hr, hm, hn, hk, hh, hF, h0⟩ := X
  subst hq
  exact k.by fun _ z => XS.ifnullNo Y.here hx rfl (hb hc hd) rfl z
theorem F_ifnonnull_null (X : St p l e R s m args below meth c Z code own ret ml nm n0 T h cells slots) {o : Int} (hd : decode code pc = .ok (.ifnonnull o, 3)) (hq : pc + 3 = pc') (k : Ends p e below s n0 C S Q T (mkF m pc' Ls stk)) : Ends p e below s n0 C S Q T (mkF m pc Ls (.null :: stk)) := by
  obtain ⟨locs, Y, hx, hZ, hc, ho, hr, hm, hn, hk, hh, hF, h0⟩ := X
  subst hq
  exact k.by fun _ z => XS.ifnonnullNo Y.here hx rfl (hb hc hd) rfl z
theorem F_ifnonnull_ref (X : St p l e R s m args below meth c Z code own ret ml nm n0 T h cells slots) {a : Addr} {o : Int} {pt : Nat} (hd : decode code pc = .ok (.ifnonnull o, 3)) (hof : 0 ≤ (pc : Int) + o) (hp : ((pc : Int) + o).toNat = pt) (k : Ends p e below s n0 C S Q T (mkF m pt Ls stk)) : Ends p e below s n0 C S Q T (mkF m pc Ls (.ref a :: stk)) := by
  obtain ⟨locs, Y, hx, hZ, hc, ho, hr, hm, hn, hk, hh, hF, h0⟩ := X
  exact k.by fun _ z => XS.ifnonnullYes Y.here hx rfl rfl (hb hc hd) rfl hof hp z
theorem F_acmp (X : St p l e R s m args below meth c Z code own ret ml nm n0 T h cells slots) {cd : ACond} {v w : Value} {o : Int} {same : Bool} (hd : decode code pc = .ok (.if_acmp cd o, 3)) (h1 : v.isRef = true) (h2 : w.isRef = true) (hq : decide (v = w) = same) (hof : 0 ≤ (pc : Int) + o) (hp : pc' = if acV cd same = true then ((pc : Int) + o).toNat else pc + 3) (k : Ends p e below s n0 C S Q T (mkF m pc' Ls stk)) : Ends p e below s n0 C S Q T (mkF m pc Ls (w :: v :: stk)) := by
  obtain ⟨locs, Y, hx, hZ, hc, ho, hr, hm, hn, hk, hh, hF, h0⟩ := X
  exact k.by fun _ z => Jvm.RoadKit.acmp Y hx rfl h1 h2 rfl (hb hc hd) rfl hq hof hp z
variable {a0 : Array Value}
theorem F_ldcInt (X : St p l e R s m args below meth c Z code own ret ml nm n0 T h cells slots) {idx : Nat} {v : Int32} (w : (Cond.constant own idx v).before a0 Z = true) (hd : decode code pc = .ok (.ldc idx, 2)) (hp : pc + 2 = pc') (k : Ends p e below s n0 C S Q T (mkF m pc' Ls (.int v :: stk))) : Ends p e below s n0 C S Q T (mkF m pc Ls stk) := by
  obtain ⟨locs, Y, hx, hZ, hc, ho, hr, hm, hn, hk, hh, hF, h0⟩ := X
  subst hp
  exact k.by (Y.ldcInt hx ho (mvT hZ w) (g := mkF m pc Ls stk) rfl (hb hc hd))
theorem F_ldcwInt (X : St p l e R s m args below meth c Z code own ret ml nm n0 T h cells slots) {idx : Nat} {v : Int32} (w : (Cond.constant own idx v).before a0 Z = true) (hd : decode code pc = .ok (.ldc_w idx, 3)) (hp : pc + 3 = pc') (k : Ends p e below s n0 C S Q T (mkF m pc' Ls (.int v :: stk))) : Ends p e below s n0 C S Q T (mkF m pc Ls stk) := by
  obtain ⟨locs, Y, hx, hZ, hc, ho, hr, hm, hn, hk, hh, hF, h0⟩ := X
  subst hp
  exact k.by (Y.ldcwInt hx ho (mvT hZ w) (g := mkF m pc Ls stk) rfl (hb hc hd))
theorem F_ldc2Long (X : St p l e R s m args below meth c Z code own ret ml nm n0 T h cells slots) {idx : Nat} {v : Int64} (w : (Cond.constantLong own idx v).before a0 Z = true) (hd : decode code pc = .ok (.ldc2_w idx, 3)) (hp : pc + 3 = pc') (k : Ends p e below s n0 C S Q T (mkF m pc' Ls (.long v :: stk))) : Ends p e below s n0 C S Q T (mkF m pc Ls stk) := by
  obtain ⟨locs, Y, hx, hZ, hc, ho, hr, hm, hn, hk, hh, hF, h0⟩ := X
  subst hp
  exact k.by (Y.ldc2Long hx ho (mvT hZ w) (g := mkF m pc Ls stk) rfl (hb hc hd))
theorem F_ldc2Double (X : St p l e R s m args below meth c Z code own ret ml nm n0 T h cells slots) {idx : Nat} {v : UInt64} (w : (Cond.constantDouble own idx v).before a0 Z = true) (hd : decode code pc = .ok (.ldc2_w idx, 3)) (hp : pc + 3 = pc') (k : Ends p e below s n0 C S Q T (mkF m pc' Ls (.double v :: stk))) : Ends p e below s n0 C S Q T (mkF m pc Ls stk) := by
  obtain ⟨locs, Y, hx, hZ, hc, ho, hr, hm, hn, hk, hh, hF, h0⟩ := X
  subst hp
  exact k.by (Y.ldc2DoubleC hx ho (mvT hZ w) (g := mkF m pc Ls stk) rfl (hb hc hd))
theorem F_ireturn (X : St p l e R s m args below meth c Z code own ret ml nm n0 T h cells slots) {z : Int32} (hd : decode code pc = .ok (.ireturn, 1)) (hret : ret = some .int) (hC : cells ≤ C) (hS : slots ≤ S) (hQ : Q (some (.int z)) h) : Ends p e below s n0 C S Q T (mkF m pc Ls (.int z :: stk)) := by
  obtain ⟨locs, Y, hx, hZ, hc, ho, hr, hm, hn, hk, hh, hF, h0⟩ := X
  obtain ⟨fs, hl, hrun, hend, hW, hsame⟩ := Y.leave (v := some (.int z)) (fun z => by rw [hr, hret] at z; cases z) hk
  refine ⟨_, _, retOut Y hx (hr.trans hret) rfl (Or.inl ⟨rfl, Or.inl rfl, _, rfl⟩) (hb hc hd) hl, hrun, hend, _, _, rfl, ⟨?_, hF⟩, ⟨_, rfl⟩, hW, hsame.mono hC hS⟩
  show Q _ T.heap
  rw [hh]; exact hQ
theorem F_ireturn_boolean (X : St p l e R s m args below meth c Z code own ret ml nm n0 T h cells slots) {z z' : Int32} (hz : nar .boolean z = z') (hd : decode code pc = .ok (.ireturn, 1)) (hret : ret = some .boolean) (hC : cells ≤ C) (hS : slots ≤ S) (hQ : Q (some (.int z')) h) : Ends p e below s n0 C S Q T (mkF m pc Ls (.int z :: stk)) := by
  obtain ⟨locs, Y, hx, hZ, hc, ho, hr, hm, hn, hk, hh, hF, h0⟩ := X
  obtain ⟨fs, hl, hrun, hend, hW, hsame⟩ := Y.leave (v := some (.int z')) (fun z => by rw [hr, hret] at z; cases z) hk
  refine ⟨_, _, retN Y hx (t := .boolean) (hr.trans hret) (by simp) (hb hc hd) (hz ▸ hl), hrun, hend, _, _, rfl, ⟨?_, hF⟩, ⟨_, rfl⟩, hW, hsame.mono hC hS⟩
  show Q _ T.heap
  rw [hh]; exact hQ
theorem F_ireturn_byte (X : St p l e R s m args below meth c Z code own ret ml nm n0 T h cells slots) {z z' : Int32} (hz : nar .byte z = z') (hd : decode code pc = .ok (.ireturn, 1)) (hret : ret = some .byte) (hC : cells ≤ C) (hS : slots ≤ S) (hQ : Q (some (.int z')) h) : Ends p e below s n0 C S Q T (mkF m pc Ls (.int z :: stk)) := by
  obtain ⟨locs, Y, hx, hZ, hc, ho, hr, hm, hn, hk, hh, hF, h0⟩ := X
  obtain ⟨fs, hl, hrun, hend, hW, hsame⟩ := Y.leave (v := some (.int z')) (fun z => by rw [hr, hret] at z; cases z) hk
  refine ⟨_, _, retN Y hx (t := .byte) (hr.trans hret) (by simp) (hb hc hd) (hz ▸ hl), hrun, hend, _, _, rfl, ⟨?_, hF⟩, ⟨_, rfl⟩, hW, hsame.mono hC hS⟩
  show Q _ T.heap
  rw [hh]; exact hQ
theorem F_ireturn_char (X : St p l e R s m args below meth c Z code own ret ml nm n0 T h cells slots) {z z' : Int32} (hz : nar .char z = z') (hd : decode code pc = .ok (.ireturn, 1)) (hret : ret = some .char) (hC : cells ≤ C) (hS : slots ≤ S) (hQ : Q (some (.int z')) h) : Ends p e below s n0 C S Q T (mkF m pc Ls (.int z :: stk)) := by
  obtain ⟨locs, Y, hx, hZ, hc, ho, hr, hm, hn, hk, hh, hF, h0⟩ := X
  obtain ⟨fs, hl, hrun, hend, hW, hsame⟩ := Y.leave (v := some (.int z')) (fun z => by rw [hr, hret] at z; cases z) hk
  refine ⟨_, _, retN Y hx (t := .char) (hr.trans hret) (by simp) (hb hc hd) (hz ▸ hl), hrun, hend, _, _, rfl, ⟨?_, hF⟩, ⟨_, rfl⟩, hW, hsame.mono hC hS⟩
  show Q _ T.heap
  rw [hh]; exact hQ
theorem F_ireturn_short (X : St p l e R s m args below meth c Z code own ret ml nm n0 T h cells slots) {z z' : Int32} (hz : nar .short z = z') (hd : decode code pc = .ok (.ireturn, 1)) (hret : ret = some .short) (hC : cells ≤ C) (hS : slots ≤ S) (hQ : Q (some (.int z')) h) : Ends p e below s n0 C S Q T (mkF m pc Ls (.int z :: stk)) := by
  obtain ⟨locs, Y, hx, hZ, hc, ho, hr, hm, hn, hk, hh, hF, h0⟩ := X
  obtain ⟨fs, hl, hrun, hend, hW, hsame⟩ := Y.leave (v := some (.int z')) (fun z => by rw [hr, hret] at z; cases z) hk
  refine ⟨_, _, retN Y hx (t := .short) (hr.trans hret) (by simp) (hb hc hd) (hz ▸ hl), hrun, hend, _, _, rfl, ⟨?_, hF⟩, ⟨_, rfl⟩, hW, hsame.mono hC hS⟩
  show Q _ T.heap
  rw [hh]; exact hQ
theorem F_return (X : St p l e R s m args below meth c Z code own ret ml nm n0 T h cells slots)  (hd : decode code pc = .ok (.return_, 1)) (hret : ret = none) (hC : cells ≤ C) (hS : slots ≤ S) (hQ : Q (none) h) : Ends p e below s n0 C S Q T (mkF m pc Ls ([])) := by
  obtain ⟨locs, Y, hx, hZ, hc, ho, hr, hm, hn, hk, hh, hF, h0⟩ := X
  obtain ⟨fs, hl, hrun, hend, hW, hsame⟩ := Y.leave (v := none) (fun _ => rfl) hk
  refine ⟨_, _, Y.returnOut hx (hr.trans hret) (hb hc hd) hl, hrun, hend, _, _, rfl, ⟨?_, hF⟩, ⟨_, rfl⟩, hW, hsame.mono hC hS⟩
  show Q _ T.heap
  rw [hh]; exact hQ
theorem F_lreturn (X : St p l e R s m args below meth c Z code own ret ml nm n0 T h cells slots) {z : Int64} (hd : decode code pc = .ok (.lreturn, 1)) (hret : ret = some .long) (hC : cells ≤ C) (hS : slots ≤ S) (hQ : Q (some (.long z)) h) : Ends p e below s n0 C S Q T (mkF m pc Ls ([.long z])) := by
  obtain ⟨locs, Y, hx, hZ, hc, ho, hr, hm, hn, hk, hh, hF, h0⟩ := X
  obtain ⟨fs, hl, hrun, hend, hW, hsame⟩ := Y.leave (v := some (.long z)) (fun z => by rw [hr, hret] at z; cases z) hk
  refine ⟨_, _, Y.lreturnOut hx (hr.trans hret) (hb hc hd) hl, hrun, hend, _, _, rfl, ⟨?_, hF⟩, ⟨_, rfl⟩, hW, hsame.mono hC hS⟩
  show Q _ T.heap
  rw [hh]; exact hQ
theorem F_areturn (X : St p l e R s m args below meth c Z code own ret ml nm n0 T h cells slots) {v : Value} {t : FieldType} (ht : t.isReference = true) (hv : v.isRef = true) (hn' : narrow t v = v) (hd : decode code pc = .ok (.areturn, 1)) (hret : ret = some t) (hC : cells ≤ C) (hS : slots ≤ S) (hQ : Q (some v) h) : Ends p e below s n0 C S Q T (mkF m pc Ls (v :: stk)) := by
  obtain ⟨locs, Y, hx, hZ, hc, ho, hr, hm, hn, hk, hh, hF, h0⟩ := X
  obtain ⟨fs, hl, hrun, hend, hW, hsame⟩ := Y.leave (v := some v) (fun z => by rw [hr, hret] at z; cases z) hk
  refine ⟨_, _, retOut Y hx (hr.trans hret) hn' (Or.inr (Or.inr (Or.inr (Or.inr ⟨rfl, ht, hv⟩)))) (hb hc hd) hl, hrun, hend, _, _, rfl, ⟨?_, hF⟩, ⟨_, rfl⟩, hW, hsame.mono hC hS⟩
  show Q _ T.heap
  rw [hh]; exact hQ
theorem F_callS (X : St p l e R s m args below meth c Z code own ret ml nm n0 T h cells slots) {y : MethodName} {bytes : ByteArray} {maxL : Nat} {rt : Option FieldType} {rm : Room} {Q' : Option Value → Heap → Prop} {idx : Nat} (w1 : (Cond.methodLink own idx y).before a0 Z = true) (w2 : (Cond.static y).before a0 Z = true) (w3 : (Cond.initialized y.cls).before a0 Z = true) (w4 : (Cond.code y bytes maxL rt).before a0 Z = true) (hy : y.cls ≠ "java/lang/invoke/MethodHandle" ∧ y.cls ≠ "java/lang/invoke/VarHandle")
    {argsL : List Value} (K : Con l y bytes maxL rt rm rm.cells rm.slots Z n0 argsL.toArray h Q') (r1 : rm.frames + 1 ≤ R.frames) {W : Nat} (hW : (stk.map fun v => v.category).sum ≤ W) (r2 : W + (maxL + 11) + rm.locals ≤ R.locals) (r3 : cells + rm.cells ≤ R.cells) (r4 : slots + rm.slots ≤ R.slots) (hls : Ls.size = ml) (hlen : ∀ sig, parseMethodDescriptor y.desc = some sig → argsL.length = sig.parameters.length) {stk0 : List Value} (hst : stk0 = argsL.reverse ++ stk) (hd : decode code pc = .ok (.invokestatic idx, 3)) (hp : pc + 3 = pc')
    (k : ∀ (T' : State) (v : Option Value) (h' : Heap), St p l e R s m args below meth c Z code own ret ml nm n0 T' h' (cells + rm.cells) (slots + rm.slots) → Q' v h' → Ends p e below s n0 C S Q T' (mkF m pc' Ls (v.toList ++ stk))) : Ends p e below s n0 C S Q T (mkF m pc Ls stk0) := by
  obtain ⟨locs, Y, hx, hZ, hc, ho, hr, hm, hn, hk, hh, hF, h0⟩ := X
  subst hp hst
  obtain ⟨v, vm1, ⟨T', L', k', n'⟩, -, Y', ⟨L, q1, q2, q3, q4⟩, st⟩ := Jvm.LawKit.callS Y hx (y := y) ho (mvT hZ w1) (mvT hZ w2) (mvT hZ w3) (mvT hZ w4) hy (backOf (W := W) (Q := fun v h' L => Q' v h' ∧ Fr n0 L) (K []) hZ w4 w3 r1 r2) (g := mkF m pc Ls (argsL.reverse ++ stk)) rfl (by rw [hm]; exact hls) (argsL := argsL) (rest := stk) hlen rfl (by show 2 * 0 + _ ≤ _; omega) (hb hc hd) (fun _ _ => ⟨rfl, hh, r3, r4⟩)
  dsimp only [Pt.U, Pt.locs, Pt.cells, Pt.slots] at Y' q2 q3 q4 st q1
  subst q2 q3 q4
  obtain ⟨q1, q5⟩ := q1
  exact (k T' v T'.heap ⟨_, Y', hx, hZ, hc, ho, hr, hm, hn, hk, rfl, Fr.app hF q5, h0⟩ q1).by st
theorem F_init (X : St p l e R s m args below meth c Z code own ret ml nm n0 T h cells slots) {y : MethodName} {bytes : ByteArray} {maxL : Nat} {rm : Room} {Q' : Option Value → Heap → Prop} {idx : Nat} (hy1 : y.name = "<init>") (w1 : (Cond.methodLink own idx y).before a0 Z = true) (w2 : (Cond.instanceMethod y).before a0 Z = true) (w3 : (Cond.initialized y.cls).before a0 Z = true) (w4 : (Cond.code y bytes maxL none).before a0 Z = true) (hy : y.cls ≠ "java/lang/invoke/MethodHandle" ∧ y.cls ≠ "java/lang/invoke/VarHandle")
    {a : Addr} {argsL : List Value} (K : Con l y bytes maxL none rm rm.cells rm.slots Z n0 (.ref a :: argsL).toArray h Q') (r1 : rm.frames + 1 ≤ R.frames) {W : Nat} (hW : (stk.map fun v => v.category).sum ≤ W) (r2 : W + (maxL + 11) + rm.locals ≤ R.locals) (r3 : cells + rm.cells ≤ R.cells) (r4 : slots + rm.slots ≤ R.slots) (hls : Ls.size = ml) (hlen : ∀ sig, parseMethodDescriptor y.desc = some sig → argsL.length = sig.parameters.length) {stk0 : List Value} (hst : stk0 = argsL.reverse ++ .ref a :: stk) (hd : decode code pc = .ok (.invokespecial idx, 3)) (hp : pc + 3 = pc')
    (k : ∀ (T' : State) (v : Option Value) (h' : Heap), St p l e R s m args below meth c Z code own ret ml nm n0 T' h' (cells + rm.cells) (slots + rm.slots) → Q' v h' → Ends p e below s n0 C S Q T' (mkF m pc' Ls (v.toList ++ stk))) : Ends p e below s n0 C S Q T (mkF m pc Ls stk0) := by
  obtain ⟨locs, Y, hx, hZ, hc, ho, hr, hm, hn, hk, hh, hF, h0⟩ := X
  subst hp hst
  obtain ⟨v, vm1, ⟨T', L', k', n'⟩, -, Y', ⟨L, q1, q2, q3, q4⟩, st⟩ := Y.specialBack hx (y := y) hy1 ho (mvT hZ w1) (mvT hZ w2) (mvT hZ w4) hy (backOf (W := W) (Q := fun v h' L => Q' v h' ∧ Fr n0 L) (K []) hZ w4 w3 r1 r2) (g := mkF m pc Ls (argsL.reverse ++ .ref a :: stk)) rfl (by rw [hm]; exact hls) (Steps.refl _) (a := a) (argsL := argsL) (rest := stk) hlen rfl (by show 2 * 0 + _ ≤ _; omega) (hb hc hd) (fun _ _ => ⟨rfl, hh, r3, r4⟩)
  dsimp only [Pt.U, Pt.locs, Pt.cells, Pt.slots] at Y' q2 q3 q4 st q1
  subst q2 q3 q4
  obtain ⟨q1, q5⟩ := q1
  exact (k T' v T'.heap ⟨_, Y', hx, hZ, hc, ho, hr, hm, hn, hk, rfl, Fr.app hF q5, h0⟩ q1).by fun _ z => st.trans z
theorem F_callV (X : St p l e R s m args below meth c Z code own ret ml nm n0 T h cells slots) {y : MethodName} {bytes : ByteArray} {maxL : Nat} {rt : Option FieldType} {rm : Room} {Q' : Option Value → Heap → Prop} {idx : Nat} (w1 : (Cond.methodLink own idx y).before a0 Z = true) (w5 : (Cond.declares y).before a0 Z = true) (w6 : (Cond.selects y.cls y y).before a0 Z = true) (w2 : (Cond.instanceMethod y).before a0 Z = true) (w3 : (Cond.initialized y.cls).before a0 Z = true) (w4 : (Cond.code y bytes maxL rt).before a0 Z = true) (hy : y.cls ≠ "java/lang/invoke/MethodHandle" ∧ y.cls ≠ "java/lang/invoke/VarHandle")
    {a : Addr} (E : Exa Z h a y.cls) {argsL : List Value} (K : Con l y bytes maxL rt rm rm.cells rm.slots Z n0 (.ref a :: argsL).toArray h Q') (r1 : rm.frames + 1 ≤ R.frames) {W : Nat} (hW : (stk.map fun v => v.category).sum ≤ W) (r2 : W + (maxL + 11) + rm.locals ≤ R.locals) (r3 : cells + rm.cells ≤ R.cells) (r4 : slots + rm.slots ≤ R.slots) (hls : Ls.size = ml) (hlen : ∀ sig, parseMethodDescriptor y.desc = some sig → argsL.length = sig.parameters.length) {stk0 : List Value} (hst : stk0 = argsL.reverse ++ .ref a :: stk) (hd : decode code pc = .ok (.invokevirtual idx, 3)) (hp : pc + 3 = pc')
    (k : ∀ (T' : State) (v : Option Value) (h' : Heap), St p l e R s m args below meth c Z code own ret ml nm n0 T' h' (cells + rm.cells) (slots + rm.slots) → Q' v h' → Ends p e below s n0 C S Q T' (mkF m pc' Ls (v.toList ++ stk))) : Ends p e below s n0 C S Q T (mkF m pc Ls stk0) := by
  obtain ⟨locs, Y, hx, hZ, hc, ho, hr, hm, hn, hk, hh, hF, h0⟩ := X
  subst hp hst
  obtain ⟨cq, kq, qa, qb, qc⟩ := isOf hZ hh E
  obtain ⟨v, vm1, ⟨T', L', k', n'⟩, -, Y', ⟨L, q1, q2, q3, q4⟩, st⟩ := Y.virtualBack hx (y := y) (z := y) ho (mvT hZ w1) (mvT hZ w5) (notFace_of_selects (args := #[]) (mvT hZ w6)) (mvT hZ w6) (mvT hZ w2) hy (backOf (W := W) (Q := fun v h' L => Q' v h' ∧ Fr n0 L) (K []) hZ w4 w3 r1 r2) qa qc (g := mkF m pc Ls (argsL.reverse ++ .ref a :: stk)) rfl (by rw [hm]; exact hls) (Steps.refl _) (argsL := argsL) (rest := stk) hlen rfl (by show 2 * 0 + _ ≤ _; omega) (hb hc hd) (fun _ _ => ⟨rfl, hh, r3, r4⟩)
  dsimp only [Pt.U, Pt.locs, Pt.cells, Pt.slots] at Y' q2 q3 q4 st q1
  subst q2 q3 q4
  obtain ⟨q1, q5⟩ := q1
  exact (k T' v T'.heap ⟨_, Y', hx, hZ, hc, ho, hr, hm, hn, hk, rfl, Fr.app hF q5, h0⟩ q1).by fun _ z => st.trans z
theorem F_callP (X : St p l e R s m args below meth c Z code own ret ml nm n0 T h cells slots) {y : MethodName} {bytes : ByteArray} {maxL : Nat} {rt : Option FieldType} {rm : Room} {Q' : Option Value → Heap → Prop} {idx : Nat} {kk : Nat} (w1 : (Cond.methodLink own idx y).before a0 Z = true) (wp : (Cond.privateMethod y).before a0 Z = true) (wi : (Cond.instantiable y.cls kk).before a0 Z = true) (w2 : (Cond.instanceMethod y).before a0 Z = true) (w3 : (Cond.initialized y.cls).before a0 Z = true) (w4 : (Cond.code y bytes maxL rt).before a0 Z = true) (hy : y.cls ≠ "java/lang/invoke/MethodHandle" ∧ y.cls ≠ "java/lang/invoke/VarHandle")
    {a : Addr} (E : Exa Z h a y.cls) {argsL : List Value} (K : Con l y bytes maxL rt rm rm.cells rm.slots Z n0 (.ref a :: argsL).toArray h Q') (r1 : rm.frames + 1 ≤ R.frames) {W : Nat} (hW : (stk.map fun v => v.category).sum ≤ W) (r2 : W + (maxL + 11) + rm.locals ≤ R.locals) (r3 : cells + rm.cells ≤ R.cells) (r4 : slots + rm.slots ≤ R.slots) (hls : Ls.size = ml) (hlen : ∀ sig, parseMethodDescriptor y.desc = some sig → argsL.length = sig.parameters.length) {stk0 : List Value} (hst : stk0 = argsL.reverse ++ .ref a :: stk) (hd : decode code pc = .ok (.invokevirtual idx, 3)) (hp : pc + 3 = pc')
    (k : ∀ (T' : State) (v : Option Value) (h' : Heap), St p l e R s m args below meth c Z code own ret ml nm n0 T' h' (cells + rm.cells) (slots + rm.slots) → Q' v h' → Ends p e below s n0 C S Q T' (mkF m pc' Ls (v.toList ++ stk))) : Ends p e below s n0 C S Q T (mkF m pc Ls stk0) := by
  obtain ⟨locs, Y, hx, hZ, hc, ho, hr, hm, hn, hk, hh, hF, h0⟩ := X
  subst hp hst
  obtain ⟨cq, q, q'⟩ := E.cell
  have wi' : (Cond.instantiable y.cls kk).before args s = true := mvT hZ wi
  obtain ⟨c1, k1, i1, i2, -, i4, -⟩ := Cond.instantiable_spec wi'
  have hpr := Cond.privateMethod_at (mvP hZ wp (args := #[]))
  have hsel : (Cond.selects y.cls y y).before args s = true := selects_self_of_private i1 i2 (by simp at i4; exact i4.1) hpr (mvT hZ w2) hy
  obtain ⟨v, vm1, ⟨T', L', k', n'⟩, -, Y', ⟨L, q1, q2, q3, q4⟩, st⟩ := Y.privateBack hx (y := y) ho (mvT hZ w1) (mvT hZ w2) hsel hpr (mvT hZ w4) hy (backOf (W := W) (Q := fun v h' L => Q' v h' ∧ Fr n0 L) (K []) hZ w4 w3 r1 r2) (g := mkF m pc Ls (argsL.reverse ++ .ref a :: stk)) rfl (by rw [hm]; exact hls) (Steps.refl _) (a := a) (by rw [hh]; exact q) q' (argsL := argsL) (rest := stk) hlen rfl (by show 2 * 0 + _ ≤ _; omega) (hb hc hd) (fun _ _ => ⟨rfl, hh, r3, r4⟩)
  dsimp only [Pt.U, Pt.locs, Pt.cells, Pt.slots] at Y' q2 q3 q4 st q1
  subst q2 q3 q4
  obtain ⟨q1, q5⟩ := q1
  exact (k T' v T'.heap ⟨_, Y', hx, hZ, hc, ho, hr, hm, hn, hk, rfl, Fr.app hF q5, h0⟩ q1).by fun _ z => st.trans z
theorem F_objInit (X : St p l e R s m args below meth c Z code own ret ml nm n0 T h cells slots) {idx : Nat} {a : Addr} (w1 : (Cond.methodLink own idx Lib.objectInit).before a0 Z = true) (w2 : (Cond.instanceMethod Lib.objectInit).before a0 Z = true) (w3 : (Cond.code Lib.objectInit ⟨#[0xb1]⟩ 1 none).before a0 Z = true) (r1 : 1 ≤ R.frames) {W : Nat} (hW : (stk.map fun v => v.category).sum ≤ W) (r2 : W + 12 ≤ R.locals) (hls : Ls.size = ml) (hd : decode code pc = .ok (.invokespecial idx, 3)) (hp : pc + 3 = pc')
    (k : ∀ T' : State, St p l e R s m args below meth c Z code own ret ml nm n0 T' h cells slots → Ends p e below s n0 C S Q T' (mkF m pc' Ls stk)) : Ends p e below s n0 C S Q T (mkF m pc Ls (.ref a :: stk)) := by
  obtain ⟨locs, Y, hx, hZ, hc, ho, hr, hm, hn, hk, hh, hF, h0⟩ := X
  subst hp
  obtain ⟨T', Y', e', st⟩ := initO Y hx hZ ho w1 w2 w3 hh (g := mkF m pc Ls (.ref a :: stk)) rfl (by rw [hm]; exact hls) rfl (hb hc hd) r1 (W := W) (by show 2 * 0 + _ ≤ _; omega) r2
  exact (k T' ⟨_, Y', hx, hZ, hc, ho, hr, hm, hn, hk, e', hF, h0⟩).by st
theorem F_new (X : St p l e R s m args below meth c Z code own ret ml nm n0 T h cells slots) {idx n : Nat} {K : String} (w : (Cond.classLink own idx K).before a0 Z = true) (wi : (Cond.instantiable K n).before a0 Z = true) (wz : (Cond.initialized K).before a0 Z = true) (r3 : cells + 1 ≤ R.cells) (r4 : slots + n ≤ R.slots) (hd : decode code pc = .ok (.new idx, 3)) (hp : pc + 3 = pc')
    (k : ∀ (T' : State) (h' : Heap) (a : Addr), St p l e R s m args below meth c Z code own ret ml nm n0 T' h' (cells + 1) (slots + n) → Ext h h' → a = h.size → n0 ≤ a → Exa Z h' a K → (∀ {O nm d : String} {ty : FieldType}, Laid Z a0 K O nm d → parseFieldDescriptor d = some ty → Fld Z h' a O nm d (defaultValue ty)) → Ends p e below s n0 C S Q T' (mkF m pc' Ls (.ref a :: stk))) : Ends p e below s n0 C S Q T (mkF m pc Ls stk) := by
  have hsz := X.size
  obtain ⟨locs, Y, hx, hZ, hc, ho, hr, hm, hn, hk, hh, hF, h0⟩ := X
  subst hp
  obtain ⟨T', h', Y', e', E, A, D, -, st⟩ := newO Y hx hZ ho w wi wz hh (g := mkF m pc Ls stk) rfl (hb hc hd) r3 r4
  exact (k T' h' _ ⟨_, Y', hx, hZ, hc, ho, hr, hm, hn, hk, e', hF, h0⟩ E rfl hsz A D).by st
theorem F_getfield (X : St p l e R s m args below meth c Z code own ret ml nm n0 T h cells slots) {idx : Nat} {K f d : String} {a : Addr} {v : Value} (w : (Cond.fieldLink own idx K f d).before a0 Z = true) (F : Fld Z h a K f d v) (hd : decode code pc = .ok (.getfield idx, 3)) (hp : pc + 3 = pc')
    (k : ∀ T' : State, St p l e R s m args below meth c Z code own ret ml nm n0 T' h cells slots → Ends p e below s n0 C S Q T' (mkF m pc' Ls (v :: stk))) : Ends p e below s n0 C S Q T (mkF m pc Ls (.ref a :: stk)) := by
  obtain ⟨locs, Y, hx, hZ, hc, ho, hr, hm, hn, hk, hh, hF, h0⟩ := X
  subst hp
  obtain ⟨T', Y', e', st⟩ := getF Y hx hZ ho (host := "") (Or.inl w) Via.refl hh F (g := mkF m pc Ls (.ref a :: stk)) rfl rfl (hb hc hd)
  exact (k T' ⟨_, Y', hx, hZ, hc, ho, hr, hm, hn, hk, e', hF, h0⟩).by st
theorem F_putfield (X : St p l e R s m args below meth c Z code own ret ml nm n0 T h cells slots) {idx kk : Nat} {K f d : String} {a : Addr} {v old : Value} {ty : FieldType} (w : (Cond.fieldLink own idx K f d).before a0 Z = true) (F : Fld Z h a K f d old) (E : Exa Z h a K) (L : (Cond.lays K K f d).before a0 Z = true ∨ ((Cond.laysFinal K K f d).before a0 Z = true ∧ own = K ∧ nm = "<init>")) (wi : (Cond.instantiable K kk).before a0 Z = true) (hty : parseFieldDescriptor d = some ty) (hnr : narrow ty v = v) (hft : fits ty v = true) (ge : n0 ≤ a) (hd : decode code pc = .ok (.putfield idx, 3)) (hp : pc + 3 = pc')
    (k : ∀ (T' : State) (h' : Heap), St p l e R s m args below meth c Z code own ret ml nm n0 T' h' cells slots → Wr h h' a (Jvm.RoadKit.slotOf Z K f d) v → Ends p e below s n0 C S Q T' (mkF m pc' Ls stk)) : Ends p e below s n0 C S Q T (mkF m pc Ls (v :: .ref a :: stk)) := by
  obtain ⟨locs, Y, hx, hZ, hc, ho, hr, hm, hn, hk, hh, hF, h0⟩ := X
  subst hp
  obtain ⟨T', h', Y', e', W, st⟩ := putF Y hx hZ ho (host := "") (Or.inl w) Via.refl hh F E (L.imp id fun q => ⟨q.1, q.2.1, hn.trans q.2.2⟩) wi hty hnr hft (g := mkF m pc Ls (v :: .ref a :: stk)) rfl rfl (hb hc hd)
  exact (k T' h' ⟨_, Y', hx, hZ, hc, ho, hr, hm, hn, hk, e', Fr.snoc Y' hF ge, h0⟩ W).by st
theorem F_putfieldN (X : St p l e R s m args below meth c Z code own ret ml nm n0 T h cells slots) {idx kk : Nat} {K f d : String} {a : Addr} {v v' old : Value} {ty : FieldType} (w : (Cond.fieldLink own idx K f d).before a0 Z = true) (F : Fld Z h a K f d old) (E : Exa Z h a K) (L : (Cond.lays K K f d).before a0 Z = true ∨ ((Cond.laysFinal K K f d).before a0 Z = true ∧ own = K ∧ nm = "<init>")) (wi : (Cond.instantiable K kk).before a0 Z = true) (hty : parseFieldDescriptor d = some ty) (hnr : narrow ty v = v') (hft : fits ty v' = true) (ge : n0 ≤ a) (hd : decode code pc = .ok (.putfield idx, 3)) (hp : pc + 3 = pc')
    (k : ∀ (T' : State) (h' : Heap), St p l e R s m args below meth c Z code own ret ml nm n0 T' h' cells slots → Wr h h' a (Jvm.RoadKit.slotOf Z K f d) v' → Ends p e below s n0 C S Q T' (mkF m pc' Ls stk)) : Ends p e below s n0 C S Q T (mkF m pc Ls (v :: .ref a :: stk)) := by
  obtain ⟨locs, Y, hx, hZ, hc, ho, hr, hm, hn, hk, hh, hF, h0⟩ := X
  subst hp
  obtain ⟨T', h', Y', e', W, st⟩ := putFN Y hx hZ ho w Via.refl hh F E (L.imp id fun q => ⟨q.1, q.2.1, hn.trans q.2.2⟩) wi hty hnr hft (g := mkF m pc Ls (v :: .ref a :: stk)) rfl rfl (hb hc hd)
  exact (k T' h' ⟨_, Y', hx, hZ, hc, ho, hr, hm, hn, hk, e', Fr.snoc Y' hF ge, h0⟩ W).by st
/-- the array at a, of the component kind ty, holds just the values vs -/
def AV (Z : State) (h : Heap) (a : Addr) (ty : FieldType) (vs : List Value) : Prop := ∃ cl : Cell, Arr Z h a cl ty ∧ cl.slots.toList = vs ∧ vs.length < 2147483648 ∧ ∀ v ∈ vs, fits ty v = true
theorem AV.lt {a : Addr} {ty : FieldType} {vs : List Value} (A : AV Z h a ty vs) : a < h.size := by obtain ⟨cl, A, -⟩ := A; exact A.lt
theorem AV.ext {h' : Heap} {a : Addr} {ty : FieldType} {vs : List Value} (A : AV Z h a ty vs) (E : Ext h h') : AV Z h' a ty vs := by obtain ⟨cl, A, r⟩ := A; exact ⟨cl, A.ext E, r⟩
theorem AV.other {h' : Heap} {a b : Addr} {sl : Nat} {v : Value} {ty : FieldType} {vs : List Value} (A : AV Z h a ty vs) (W : Wr h h' b sl v) (q : a ≠ b) : AV Z h' a ty vs := by obtain ⟨cl, A, r⟩ := A; exact ⟨cl, A.other W q, r⟩
theorem AV.keep {h' : Heap} {a : Addr} {ws : List Addr} {ty : FieldType} {vs : List Value} (A : AV Z h a ty vs) (K : Keep h h' ws) (q : a ∉ ws) : AV Z h' a ty vs := by obtain ⟨cl, A, r⟩ := A; exact ⟨cl, ⟨K.2.1 a cl A.1 q, A.2⟩, r⟩
theorem AV.same {h' : Heap} {a : Addr} {j : Nat} {v : Value} {ty : FieldType} {vs : List Value} (A : AV Z h a ty vs) (W : Wr h h' a j v) (hf : fits ty v = true) : AV Z h' a ty (vs.set j v) := by
  obtain ⟨cl, A, r1, r2, r3⟩ := A
  refine ⟨cl.setSlot j v, A.same W, ?_, by simpa using r2, fun u hu => ?_⟩
  · rw [← r1]; simp [Cell.setSlot]
  · rcases List.mem_or_eq_of_mem_set hu with q | q
    · exact r3 u q
    · exact q ▸ hf
theorem idx_ok {cl : Cell} {vs : List Value} {v : Value} {j : Int32} (r1 : cl.slots.toList = vs) (hj : ¬ j < 0) (hv : vs[j.toNatClampNeg]? = some v) : ¬ (j < 0 ∨ cl.slots.size ≤ j.toNatClampNeg) ∧ cl.slots[j.toNatClampNeg]? = some v := by
  subst r1
  rw [Array.getElem?_toList] at hv
  exact ⟨fun q => q.elim hj fun q => (by rw [Array.getElem?_eq_none q] at hv; cases hv), hv⟩

theorem F_iaload (X : St p l e R s m args below meth c Z code own ret ml nm n0 T h cells slots) {a : Addr} {vs : List Value} {j : Int32} {v : Int32} (A : AV Z h a .int vs) (hj : ¬ j < 0) (hv : vs[j.toNatClampNeg]? = some (.int v)) (hd : decode code pc = .ok (.iaload, 1)) (hp : pc + 1 = pc') (k : Ends p e below s n0 C S Q T (mkF m pc' Ls (.int v :: stk))) : Ends p e below s n0 C S Q T (mkF m pc Ls (.int j :: .ref a :: stk)) := by
  obtain ⟨locs, Y, hx, hZ, hc, ho, hr, hm, hn, hk, hh, hF, h0⟩ := X
  subst hp
  obtain ⟨cl, A, r1, r2, r3⟩ := A
  obtain ⟨q1, q2⟩ := idx_ok r1 hj hv
  exact k.by fun _ z => Y.iaload hx (j := j) (by rw [hh]; exact A.1) (State.isArrayOf_alike hZ.alike A.2.1) A.2.2 q1 q2 (g := mkF m pc Ls (.int j :: .ref a :: stk)) rfl rfl (hb hc hd) _ z
theorem F_laload (X : St p l e R s m args below meth c Z code own ret ml nm n0 T h cells slots) {a : Addr} {vs : List Value} {j : Int32} {v : Int64} (A : AV Z h a .long vs) (hj : ¬ j < 0) (hv : vs[j.toNatClampNeg]? = some (.long v)) (hd : decode code pc = .ok (.laload, 1)) (hp : pc + 1 = pc') (k : Ends p e below s n0 C S Q T (mkF m pc' Ls (.long v :: stk))) : Ends p e below s n0 C S Q T (mkF m pc Ls (.int j :: .ref a :: stk)) := by
  obtain ⟨locs, Y, hx, hZ, hc, ho, hr, hm, hn, hk, hh, hF, h0⟩ := X
  subst hp
  obtain ⟨cl, A, r1, r2, r3⟩ := A
  obtain ⟨q1, q2⟩ := idx_ok r1 hj hv
  exact k.by fun _ z => Y.laload hx (j := j) (by rw [hh]; exact A.1) (State.isArrayOf_alike hZ.alike A.2.1) A.2.2 q1 q2 (g := mkF m pc Ls (.int j :: .ref a :: stk)) rfl rfl (hb hc hd) _ z
theorem F_baload (X : St p l e R s m args below meth c Z code own ret ml nm n0 T h cells slots) {a : Addr} {vs : List Value} {j : Int32} {v : Int32} (A : AV Z h a .byte vs) (hj : ¬ j < 0) (hv : vs[j.toNatClampNeg]? = some (.int v)) (hd : decode code pc = .ok (.baload, 1)) (hp : pc + 1 = pc') (k : Ends p e below s n0 C S Q T (mkF m pc' Ls (.int v :: stk))) : Ends p e below s n0 C S Q T (mkF m pc Ls (.int j :: .ref a :: stk)) := by
  obtain ⟨locs, Y, hx, hZ, hc, ho, hr, hm, hn, hk, hh, hF, h0⟩ := X
  subst hp
  obtain ⟨cl, A, r1, r2, r3⟩ := A
  obtain ⟨q1, q2⟩ := idx_ok r1 hj hv
  exact k.by fun _ z => Y.baloadBytes hx (j := j) (by rw [hh]; exact A.1) (State.isArrayOf_alike hZ.alike A.2.1) A.2.2 q1 q2 (g := mkF m pc Ls (.int j :: .ref a :: stk)) rfl rfl (hb hc hd) _ z
theorem F_arraylength (X : St p l e R s m args below meth c Z code own ret ml nm n0 T h cells slots) {a : Addr} {ty : FieldType} {vs : List Value} {z : Int32} (A : AV Z h a ty vs) (hz : vs.length.toInt32 = z) (hd : decode code pc = .ok (.arraylength, 1)) (hp : pc + 1 = pc') (k : Ends p e below s n0 C S Q T (mkF m pc' Ls (.int z :: stk))) : Ends p e below s n0 C S Q T (mkF m pc Ls (.ref a :: stk)) := by
  obtain ⟨locs, Y, hx, hZ, hc, ho, hr, hm, hn, hk, hh, hF, h0⟩ := X
  subst hp
  obtain ⟨cl, A, r1, r2, r3⟩ := A
  subst hz r1
  exact k.by fun _ z => Y.arraylength hx (by rw [hh]; exact A.1) (State.isArrayOf_alike hZ.alike A.2.1) (g := mkF m pc Ls (.ref a :: stk)) rfl rfl (hb hc hd) _ (by simpa using z)
theorem F_iastore (X : St p l e R s m args below meth c Z code own ret ml nm n0 T h cells slots) {a : Addr} {vs : List Value} {j : Int32} {x : Int32} {i : Nat} (A : AV Z h a .int vs) (hj : ¬ j < 0) (hi : j.toNatClampNeg = i) (hlt : i < vs.length) (ge : n0 ≤ a) (hd : decode code pc = .ok (.iastore, 1)) (hp : pc + 1 = pc')
    (k : ∀ (T' : State) (h' : Heap), St p l e R s m args below meth c Z code own ret ml nm n0 T' h' cells slots → Wr h h' a i (.int x) → AV Z h' a .int (vs.set i (.int x)) → Ends p e below s n0 C S Q T' (mkF m pc' Ls stk)) : Ends p e below s n0 C S Q T (mkF m pc Ls (.int x :: .int j :: .ref a :: stk)) := by
  obtain ⟨locs, Y, hx, hZ, hc, ho, hr, hm, hn, hk, hh, hF, h0⟩ := X
  subst hp hi
  have A0 := A
  obtain ⟨cl, A, r1, r2, r3⟩ := A
  subst r1
  obtain ⟨T', h', Y', e', W, st⟩ := stI Y hx hZ hh A (j := j) (x := x) (fun q => q.elim hj fun q => by simp at hlt; omega) (g := mkF m pc Ls (.int x :: .int j :: .ref a :: stk)) rfl rfl (hb hc hd)
  exact (k T' h' ⟨_, Y', hx, hZ, hc, ho, hr, hm, hn, hk, e', Fr.snoc Y' hF ge, h0⟩ W (A0.same W rfl)).by st
theorem F_lastore (X : St p l e R s m args below meth c Z code own ret ml nm n0 T h cells slots) {a : Addr} {vs : List Value} {j : Int32} {x : Int64} {i : Nat} (A : AV Z h a .long vs) (hj : ¬ j < 0) (hi : j.toNatClampNeg = i) (hlt : i < vs.length) (ge : n0 ≤ a) (hd : decode code pc = .ok (.lastore, 1)) (hp : pc + 1 = pc')
    (k : ∀ (T' : State) (h' : Heap), St p l e R s m args below meth c Z code own ret ml nm n0 T' h' cells slots → Wr h h' a i (.long x) → AV Z h' a .long (vs.set i (.long x)) → Ends p e below s n0 C S Q T' (mkF m pc' Ls stk)) : Ends p e below s n0 C S Q T (mkF m pc Ls (.long x :: .int j :: .ref a :: stk)) := by
  obtain ⟨locs, Y, hx, hZ, hc, ho, hr, hm, hn, hk, hh, hF, h0⟩ := X
  subst hp hi
  have A0 := A
  obtain ⟨cl, A, r1, r2, r3⟩ := A
  subst r1
  obtain ⟨T', h', Y', e', W, st⟩ := stJ Y hx hZ hh A (j := j) (x := x) (fun q => q.elim hj fun q => by simp at hlt; omega) (g := mkF m pc Ls (.long x :: .int j :: .ref a :: stk)) rfl rfl (hb hc hd)
  exact (k T' h' ⟨_, Y', hx, hZ, hc, ho, hr, hm, hn, hk, e', Fr.snoc Y' hF ge, h0⟩ W (A0.same W rfl)).by st
theorem F_bastore (X : St p l e R s m args below meth c Z code own ret ml nm n0 T h cells slots) {a : Addr} {vs : List Value} {j : Int32} {x : Int32} {i : Nat} (A : AV Z h a .byte vs) (hj : ¬ j < 0) (hi : j.toNatClampNeg = i) (hlt : i < vs.length) (ge : n0 ≤ a) {z : Int32} (hz : x.toInt8.toInt32 = z) (hd : decode code pc = .ok (.bastore, 1)) (hp : pc + 1 = pc')
    (k : ∀ (T' : State) (h' : Heap), St p l e R s m args below meth c Z code own ret ml nm n0 T' h' cells slots → Wr h h' a i (.int z) → AV Z h' a .byte (vs.set i (.int z)) → Ends p e below s n0 C S Q T' (mkF m pc' Ls stk)) : Ends p e below s n0 C S Q T (mkF m pc Ls (.int x :: .int j :: .ref a :: stk)) := by
  obtain ⟨locs, Y, hx, hZ, hc, ho, hr, hm, hn, hk, hh, hF, h0⟩ := X
  subst hp hi
  have A0 := A
  obtain ⟨cl, A, r1, r2, r3⟩ := A
  subst r1
  obtain ⟨T', h', Y', e', W, st⟩ := stB Y hx hZ hh A (j := j) (x := x) (fun q => q.elim hj fun q => by simp at hlt; omega) (g := mkF m pc Ls (.int x :: .int j :: .ref a :: stk)) rfl rfl (hb hc hd)
  subst hz
  exact (k T' h' ⟨_, Y', hx, hZ, hc, ho, hr, hm, hn, hk, e', Fr.snoc Y' hF ge, h0⟩ W (A0.same W (fits_nar_byte _))).by st
theorem F_newarray (X : St p l e R s m args below meth c Z code own ret ml nm n0 T h cells slots) {aty : ArrayType} {n : Int32} {cap : Nat} {ad : String} (w : (Cond.arrayClass (newarray.typeOf aty)).before a0 Z = true) (hn0 : ¬ n < 0) (hcap : n.toNatClampNeg = cap) (hbig : cap * 8 ≤ 536870912) (r3 : cells + 1 ≤ R.cells) (r4 : slots + cap ≤ R.slots) (had : "[" ++ (newarray.typeOf aty).toString = ad) (hd : decode code pc = .ok (.newarray aty, 2)) (hp : pc + 2 = pc')
    (k : ∀ (T' : State) (h' : Heap) (a : Addr), St p l e R s m args below meth c Z code own ret ml nm n0 T' h' (cells + 1) (slots + cap) → Ext h h' → a = h.size → n0 ≤ a → Exa Z h' a ad → AV Z h' a (newarray.typeOf aty) (List.replicate cap (defaultValue (newarray.typeOf aty))) → Ends p e below s n0 C S Q T' (mkF m pc' Ls (.ref a :: stk))) : Ends p e below s n0 C S Q T (mkF m pc Ls (.int n :: stk)) := by
  have hsz := X.size
  obtain ⟨locs, Y, hx, hZ, hc, ho, hr, hm, hn, hk, hh, hF, h0⟩ := X
  subst hp
  obtain ⟨T', h', cA, Y', e', E, A, EX, st⟩ := newPE Y hx hZ w hh (g := mkF m pc Ls (.int n :: stk)) rfl (hb hc hd) rfl hn0 (Nat.le_of_eq hcap) hbig r3 r4 had
  refine (k T' h' _ ⟨_, Y', hx, hZ, hc, ho, hr, hm, hn, hk, e', hF, h0⟩ E rfl hsz EX ⟨_, A, by simp [newA, hcap], by simp; omega, fun v hv => ?_⟩).by st
  rw [(List.mem_replicate.mp hv).2]
  cases aty <;> rfl
theorem AV.arv {a : Addr} {ty : FieldType} {vs : List Value} (A : AV Z h a ty vs) (dv : Value) : ∃ k, Arv Z h a k ty vs.length.toInt32 vs dv := by
  obtain ⟨cl, A, r1, r2, r3⟩ := A
  have e1 : (vs.length.toInt32).toInt = vs.length := len_toInt (by omega)
  have e2 : vs.length.toInt32.toNatClampNeg = vs.length := by simp only [Int32.toNatClampNeg, e1]; omega
  have sz : cl.slots.size = vs.length := by rw [← r1]; simp
  have g : ∀ i, i < vs.length → vs[i]? = some (vs.getD i dv) := fun i hi => by simp [List.getD_eq_getElem?_getD, hi]
  refine ⟨cl.cls, cl, A, rfl, by rw [e2]; exact sz, by simp only [Int32.lt_iff_toInt_lt, e1, Int32.reduceToInt]; omega, fun i hi => ?_, fun i hi => ?_⟩
  · rw [← Array.getElem?_toList, r1]; exact g i (sz ▸ hi)
  · exact r3 _ (List.mem_of_getElem? (g i (sz ▸ hi)))
theorem AV.of_arv {a : Addr} {ty : FieldType} {vs : List Value} {k : ClassId} {z : Int32} {dv : Value} (A : Arv Z h a k ty z vs dv) (hz : z.toNatClampNeg = vs.length) : AV Z h a ty vs := by
  obtain ⟨cl, A, r1, r2, r3, H, G⟩ := A
  have sz : cl.slots.size = vs.length := r2.trans hz
  have e : cl.slots.toList = vs := by
    apply List.ext_getElem?
    intro i
    rw [Array.getElem?_toList]
    by_cases hi : i < vs.length
    · rw [H i (by rw [sz]; exact hi)]; simp [List.getD_eq_getElem?_getD, hi]
    · rw [Array.getElem?_eq_none (by omega), List.getElem?_eq_none (by omega)]
  refine ⟨cl, A, e, by have := (back32 r3).2; omega, fun v hv => ?_⟩
  obtain ⟨i, hi, rfl⟩ := List.getElem_of_mem hv
  have q := G i (by rw [sz]; exact hi)
  simpa [List.getD_eq_getElem?_getD, hi] using q

theorem F_arraycopy (X : St p l e R s m args below meth c Z code own ret ml nm n0 T h cells slots) {idx : Nat} {a b : Addr} {ty : FieldType} {vs vd us vr : List Value} {sp dp nn : Int32} (w1 : (Cond.methodLink own idx Jvm.Stand.acN).before a0 Z = true) (w2 : (Cond.native Jvm.Stand.acN).before a0 Z = true) (w3 : (Cond.static Jvm.Stand.acN).before a0 Z = true) (w4 : (Cond.initialized "java/lang/System").before a0 Z = true)
    (A : AV Z h a ty vs) (B : AV Z h b ty vd) (dv : Value) (hty : refKind ty = false) (h1 : ¬ sp < 0) (h2 : ¬ dp < 0) (h3 : ¬ nn < 0) (h4 : sp.toNatClampNeg + nn.toNatClampNeg ≤ vs.length) (h5 : dp.toNatClampNeg + nn.toNatClampNeg ≤ vd.length)
    (hus : us = (List.range nn.toNatClampNeg).map fun i => vs.getD (sp.toNatClampNeg + i) dv) (hvr : vd.take dp.toNatClampNeg ++ us ++ vd.drop (dp.toNatClampNeg + nn.toNatClampNeg) = vr) (ge : n0 ≤ b) (hls : Ls.size = ml) (r1 : 1 ≤ R.frames) {W : Nat} (hW : (stk.map fun v => v.category).sum ≤ W) (r2 : W + (nativeFrameWords "java/lang/System" "arraycopy" 5 + 11) ≤ R.locals) (hd : decode code pc = .ok (.invokestatic idx, 3)) (hp : pc + 3 = pc')
    (k : ∀ (T' : State) (h' : Heap), St p l e R s m args below meth c Z code own ret ml nm n0 T' h' cells slots → Keep h h' [b] → AV Z h' b ty vr → Ends p e below s n0 C S Q T' (mkF m pc' Ls stk)) : Ends p e below s n0 C S Q T (mkF m pc Ls (.int nn :: .int dp :: .ref b :: .int sp :: .ref a :: stk)) := by
  obtain ⟨locs, Y, hx, hZ, hc, ho, hr, hm, hn, hk, hh, hF, h0⟩ := X
  have hla : vs.length < 2147483648 := by obtain ⟨_, _, _, q, _⟩ := A; exact q
  have hlb : vd.length < 2147483648 := by obtain ⟨_, _, _, q, _⟩ := B; exact q
  subst hp
  obtain ⟨ka, A⟩ := A.arv dv
  obtain ⟨kb, B0⟩ := B.arv dv
  obtain ⟨T', h', L, Y', e', N', K', B', st⟩ := cpA Y hx hZ ho w1 w2 w3 w4 hh A B0 (Or.inl ⟨rfl, hty⟩) h1 h2 h3 (by rw [own_len32 hla]; exact h4) (by rw [own_len32 hlb]; exact h5) hus h5 hF ge (g := mkF m pc Ls (.int nn :: .int dp :: .ref b :: .int sp :: .ref a :: stk)) rfl (by rw [hm]; exact hls) rfl (hb hc hd) r1 (W := W) (by show 2 * 0 + _ ≤ _; omega) r2
  rw [hvr] at B'
  exact (k T' h' ⟨_, Y', hx, hZ, hc, ho, hr, hm, hn, hk, e', N', h0⟩ K' (AV.of_arv B' (by rw [own_len32 hlb, ← hvr, hus]; simp; omega))).by st
theorem F_clone (X : St p l e R s m args below meth c Z code own ret ml nm n0 T h cells slots) {idx : Nat} {a : Addr} {ty : FieldType} {vs : List Value} {ad : String} {cap : Nat} (w1 : (Cond.methodLink own idx ⟨ad, "clone", "()Ljava/lang/Object;"⟩).before a0 Z = true) (w2 : (Cond.sameMethod ad "java/lang/Object" "clone" "()Ljava/lang/Object;").before a0 Z = true) (w3 : (Cond.native ⟨"java/lang/Object", "clone", "()Ljava/lang/Object;"⟩).before a0 Z = true)
    (w4 : (Cond.instanceMethod ⟨"java/lang/Object", "clone", "()Ljava/lang/Object;"⟩).before a0 Z = true) (w5 : (Cond.selects ad ⟨ad, "clone", "()Ljava/lang/Object;"⟩ ⟨"java/lang/Object", "clone", "()Ljava/lang/Object;"⟩).before a0 Z = true) (w6 : (Cond.castable ad "java/lang/Cloneable").before a0 Z = true)
    (A : AV Z h a ty vs) (E : Exa Z h a ad) (hls : Ls.size = ml) (r1 : 1 ≤ R.frames) {W : Nat} (hW : (stk.map fun v => v.category).sum ≤ W) (r2 : W + 14 ≤ R.locals) (hcap : vs.length ≤ cap) (r3 : cells + 1 ≤ R.cells) (r4 : slots + cap ≤ R.slots) (hd : decode code pc = .ok (.invokevirtual idx, 3)) (hp : pc + 3 = pc')
    (k : ∀ (T' : State) (h' : Heap) (b : Addr), St p l e R s m args below meth c Z code own ret ml nm n0 T' h' (cells + 1) (slots + cap) → Ext h h' → b = h.size → n0 ≤ b → Exa Z h' b ad → AV Z h' b ty vs → Ends p e below s n0 C S Q T' (mkF m pc' Ls (.ref b :: stk))) : Ends p e below s n0 C S Q T (mkF m pc Ls (.ref a :: stk)) := by
  have hsz := X.size
  obtain ⟨locs, Y, hx, hZ, hc, ho, hr, hm, hn, hk, hh, hF, h0⟩ := X
  subst hp
  obtain ⟨cl, A, q1, q2, q3⟩ := A
  have FC : FitC Z cl := fitC_of A fun i hi v hv => q3 v (by rw [← q1]; exact List.mem_of_getElem? (i := i) (by rw [Array.getElem?_toList]; exact hv))
  obtain ⟨T', h', Y', e', E', A', EX, st⟩ := cloneA Y hx hZ ho w1 w2 w3 w4 w5 w6 hh A E FC (g := mkF m pc Ls (.ref a :: stk)) rfl (by rw [hm]; exact hls) rfl (hb hc hd) r1 (W := W) (by show 2 * 0 + _ ≤ _; omega) r2 (cap := cap) (by rw [← q1] at hcap; simpa using hcap) r3 r4
  exact (k T' h' _ ⟨_, Y', hx, hZ, hc, ho, hr, hm, hn, hk, e', hF, h0⟩ E' rfl hsz EX ⟨_, A', q1, q2, q3⟩).by st
theorem F_checkcast (X : St p l e R s m args below meth c Z code own ret ml nm n0 T h cells slots) {idx : Nat} {a : Addr} {K : String} (w : (Cond.classLink own idx K).before a0 Z = true) (E : Exa Z h a K) (hd : decode code pc = .ok (.checkcast idx, 3)) (hp : pc + 3 = pc')
    (k : ∀ T' : State, St p l e R s m args below meth c Z code own ret ml nm n0 T' h cells slots → Ends p e below s n0 C S Q T' (mkF m pc' Ls (.ref a :: stk))) : Ends p e below s n0 C S Q T (mkF m pc Ls (.ref a :: stk)) := by
  obtain ⟨locs, Y, hx, hZ, hc, ho, hr, hm, hn, hk, hh, hF, h0⟩ := X
  subst hp
  obtain ⟨T', Y', e', st⟩ := castY Y hx hZ ho w hh (Ins.self E) (g := mkF m pc Ls (.ref a :: stk)) rfl rfl (hb hc hd)
  exact (k T' ⟨_, Y', hx, hZ, hc, ho, hr, hm, hn, hk, e', hF, h0⟩).by st
end Laws
end Jvm.OwnKit

namespace Jvm.Pilot.@@N@@
open Jvm Jvm.ClassFile Sem Op Lib Jvm.Free Jvm.Stand Jvm.LawKit Jvm.RoadKit Jvm.OwnKit Bundle Jvm.Pilot.@@N@@.Jvm.D
theorem wd0 {a0 : Array Value} {Z : State} (hw : ∀ d ∈ tables_1, d.before a0 Z = true) : (Jvm.Cond.arrayClass Jvm.ClassFile.FieldType.byte).before a0 Z = true := hw _ (List.mem_of_getElem? (i := 0) rfl)
theorem wd1 {a0 : Array Value} {Z : State} (hw : ∀ d ∈ tables_1, d.before a0 Z = true) : (Jvm.Cond.classLink "com/example/libdeleg/libdeleg/proof/PermissionVoucherPinLaw" (7 : Nat) "com/example/libdeleg/libdeleg/proof/Permission").before a0 Z = true := hw _ (List.mem_of_getElem? (i := 1) rfl)
theorem wd2 {a0 : Array Value} {Z : State} (hw : ∀ d ∈ tables_1, d.before a0 Z = true) : (Jvm.Cond.instantiable "com/example/libdeleg/libdeleg/proof/Permission" (2 : Nat)).before a0 Z = true := hw _ (List.mem_of_getElem? (i := 2) rfl)
theorem wd3 {a0 : Array Value} {Z : State} (hw : ∀ d ∈ tables_1, d.before a0 Z = true) : (Jvm.Cond.initialized "com/example/libdeleg/libdeleg/proof/Permission").before a0 Z = true := hw _ (List.mem_of_getElem? (i := 3) rfl)
theorem wd4 {a0 : Array Value} {Z : State} (hw : ∀ d ∈ tables_1, d.before a0 Z = true) : (Jvm.Cond.methodLink "com/example/libdeleg/libdeleg/proof/PermissionVoucherPinLaw" (9 : Nat) ({ cls := "com/example/libdeleg/libdeleg/proof/Permission", name := "<init>", desc := "([B[B)V" } : Jvm.MethodName)).before a0 Z = true := hw _ (List.mem_of_getElem? (i := 4) rfl)
theorem wd5 {a0 : Array Value} {Z : State} (hw : ∀ d ∈ tables_1, d.before a0 Z = true) : (Jvm.Cond.instanceMethod ({ cls := "com/example/libdeleg/libdeleg/proof/Permission", name := "<init>", desc := "([B[B)V" } : Jvm.MethodName)).before a0 Z = true := hw _ (List.mem_of_getElem? (i := 5) rfl)
theorem wd6 {a0 : Array Value} {Z : State} (hw : ∀ d ∈ tables_1, d.before a0 Z = true) : (Jvm.Cond.code ({ cls := "com/example/libdeleg/libdeleg/proof/Permission", name := "<init>", desc := "([B[B)V" } : Jvm.MethodName) prog_39_method_2_code (3 : Nat) (Option.none : Option Jvm.ClassFile.FieldType)).before a0 Z = true := hw _ (List.mem_of_getElem? (i := 6) rfl)
theorem wd7 {a0 : Array Value} {Z : State} (hw : ∀ d ∈ tables_1, d.before a0 Z = true) : (Jvm.Cond.methodLink "com/example/libdeleg/libdeleg/proof/Permission" (7 : Nat) ({ cls := "java/lang/Object", name := "<init>", desc := "()V" } : Jvm.MethodName)).before a0 Z = true := hw _ (List.mem_of_getElem? (i := 7) rfl)
theorem wd8 {a0 : Array Value} {Z : State} (hw : ∀ d ∈ tables_1, d.before a0 Z = true) : (Jvm.Cond.instanceMethod ({ cls := "java/lang/Object", name := "<init>", desc := "()V" } : Jvm.MethodName)).before a0 Z = true := hw _ (List.mem_of_getElem? (i := 8) rfl)
theorem wd9 {a0 : Array Value} {Z : State} (hw : ∀ d ∈ tables_1, d.before a0 Z = true) : (Jvm.Cond.code ({ cls := "java/lang/Object", name := "<init>", desc := "()V" } : Jvm.MethodName) object_method_1_code (1 : Nat) (Option.none : Option Jvm.ClassFile.FieldType)).before a0 Z = true := hw _ (List.mem_of_getElem? (i := 9) rfl)
theorem wd10 {a0 : Array Value} {Z : State} (hw : ∀ d ∈ tables_1, d.before a0 Z = true) : (Jvm.Cond.methodLink "com/example/libdeleg/libdeleg/proof/Permission" (19 : Nat) ({ cls := "[B", name := "clone", desc := "()Ljava/lang/Object;" } : Jvm.MethodName)).before a0 Z = true := hw _ (List.mem_of_getElem? (i := 10) rfl)
theorem wd11 {a0 : Array Value} {Z : State} (hw : ∀ d ∈ tables_1, d.before a0 Z = true) : (Jvm.Cond.sameMethod "[B" "java/lang/Object" "clone" "()Ljava/lang/Object;").before a0 Z = true := hw _ (List.mem_of_getElem? (i := 11) rfl)
theorem wd13 {a0 : Array Value} {Z : State} (hw : ∀ d ∈ tables_1, d.before a0 Z = true) : (Jvm.Cond.instanceMethod ({ cls := "java/lang/Object", name := "clone", desc := "()Ljava/lang/Object;" } : Jvm.MethodName)).before a0 Z = true := hw _ (List.mem_of_getElem? (i := 13) rfl)
theorem wd14 {a0 : Array Value} {Z : State} (hw : ∀ d ∈ tables_1, d.before a0 Z = true) : (Jvm.Cond.selects "[B" ({ cls := "[B", name := "clone", desc := "()Ljava/lang/Object;" } : Jvm.MethodName) ({ cls := "java/lang/Object", name := "clone", desc := "()Ljava/lang/Object;" } : Jvm.MethodName)).before a0 Z = true := hw _ (List.mem_of_getElem? (i := 14) rfl)
theorem wd15 {a0 : Array Value} {Z : State} (hw : ∀ d ∈ tables_1, d.before a0 Z = true) : (Jvm.Cond.native ({ cls := "java/lang/Object", name := "clone", desc := "()Ljava/lang/Object;" } : Jvm.MethodName)).before a0 Z = true := hw _ (List.mem_of_getElem? (i := 15) rfl)
theorem wd16 {a0 : Array Value} {Z : State} (hw : ∀ d ∈ tables_1, d.before a0 Z = true) : (Jvm.Cond.castable "[B" "java/lang/Cloneable").before a0 Z = true := hw _ (List.mem_of_getElem? (i := 16) rfl)
theorem wd17 {a0 : Array Value} {Z : State} (hw : ∀ d ∈ tables_1, d.before a0 Z = true) : (Jvm.Cond.classLink "com/example/libdeleg/libdeleg/proof/Permission" (20 : Nat) "[B").before a0 Z = true := hw _ (List.mem_of_getElem? (i := 17) rfl)
theorem wd19 {a0 : Array Value} {Z : State} (hw : ∀ d ∈ tables_1, d.before a0 Z = true) : (Jvm.Cond.fieldLink "com/example/libdeleg/libdeleg/proof/Permission" (25 : Nat) "com/example/libdeleg/libdeleg/proof/Permission" "proof" "[B").before a0 Z = true := hw _ (List.mem_of_getElem? (i := 19) rfl)
theorem wd20 {a0 : Array Value} {Z : State} (hw : ∀ d ∈ tables_1, d.before a0 Z = true) : (Jvm.Cond.laysFinal "com/example/libdeleg/libdeleg/proof/Permission" "com/example/libdeleg/libdeleg/proof/Permission" "proof" "[B").before a0 Z = true := hw _ (List.mem_of_getElem? (i := 20) rfl)
theorem wd21 {a0 : Array Value} {Z : State} (hw : ∀ d ∈ tables_1, d.before a0 Z = true) : (Jvm.Cond.fieldLink "com/example/libdeleg/libdeleg/proof/Permission" (28 : Nat) "com/example/libdeleg/libdeleg/proof/Permission" "voucher" "[B").before a0 Z = true := hw _ (List.mem_of_getElem? (i := 21) rfl)
theorem wd22 {a0 : Array Value} {Z : State} (hw : ∀ d ∈ tables_1, d.before a0 Z = true) : (Jvm.Cond.laysFinal "com/example/libdeleg/libdeleg/proof/Permission" "com/example/libdeleg/libdeleg/proof/Permission" "voucher" "[B").before a0 Z = true := hw _ (List.mem_of_getElem? (i := 22) rfl)
theorem wd23 {a0 : Array Value} {Z : State} (hw : ∀ d ∈ tables_1, d.before a0 Z = true) : (Jvm.Cond.methodLink "com/example/libdeleg/libdeleg/proof/PermissionVoucherPinLaw" (12 : Nat) ({ cls := "com/example/libdeleg/libdeleg/proof/Permission", name := "voucher", desc := "()[B" } : Jvm.MethodName)).before a0 Z = true := hw _ (List.mem_of_getElem? (i := 23) rfl)
theorem wd24 {a0 : Array Value} {Z : State} (hw : ∀ d ∈ tables_1, d.before a0 Z = true) : (Jvm.Cond.declares ({ cls := "com/example/libdeleg/libdeleg/proof/Permission", name := "voucher", desc := "()[B" } : Jvm.MethodName)).before a0 Z = true := hw _ (List.mem_of_getElem? (i := 24) rfl)
theorem wd25 {a0 : Array Value} {Z : State} (hw : ∀ d ∈ tables_1, d.before a0 Z = true) : (Jvm.Cond.instanceMethod ({ cls := "com/example/libdeleg/libdeleg/proof/Permission", name := "voucher", desc := "()[B" } : Jvm.MethodName)).before a0 Z = true := hw _ (List.mem_of_getElem? (i := 25) rfl)
theorem wd26 {a0 : Array Value} {Z : State} (hw : ∀ d ∈ tables_1, d.before a0 Z = true) : (Jvm.Cond.selects "com/example/libdeleg/libdeleg/proof/Permission" ({ cls := "com/example/libdeleg/libdeleg/proof/Permission", name := "voucher", desc := "()[B" } : Jvm.MethodName) ({ cls := "com/example/libdeleg/libdeleg/proof/Permission", name := "voucher", desc := "()[B" } : Jvm.MethodName)).before a0 Z = true := hw _ (List.mem_of_getElem? (i := 26) rfl)
theorem wd27 {a0 : Array Value} {Z : State} (hw : ∀ d ∈ tables_1, d.before a0 Z = true) : (Jvm.Cond.code ({ cls := "com/example/libdeleg/libdeleg/proof/Permission", name := "voucher", desc := "()[B" } : Jvm.MethodName) prog_39_method_4_code (1 : Nat) (Option.some (Jvm.ClassFile.FieldType.array Jvm.ClassFile.FieldType.byte))).before a0 Z = true := hw _ (List.mem_of_getElem? (i := 27) rfl)
theorem wd28 {a0 : Array Value} {Z : State} (hw : ∀ d ∈ tables_1, d.before a0 Z = true) : (Jvm.Cond.methodLink "com/example/libdeleg/libdeleg/proof/PermissionVoucherPinLaw" (16 : Nat) ({ cls := "com/example/libdeleg/libdeleg/proof/PermissionVoucherPinLaw", name := "same", desc := "([BIIII)Z" } : Jvm.MethodName)).before a0 Z = true := hw _ (List.mem_of_getElem? (i := 28) rfl)
theorem wd29 {a0 : Array Value} {Z : State} (hw : ∀ d ∈ tables_1, d.before a0 Z = true) : (Jvm.Cond.static ({ cls := "com/example/libdeleg/libdeleg/proof/PermissionVoucherPinLaw", name := "same", desc := "([BIIII)Z" } : Jvm.MethodName)).before a0 Z = true := hw _ (List.mem_of_getElem? (i := 29) rfl)
theorem wd30 {a0 : Array Value} {Z : State} (hw : ∀ d ∈ tables_1, d.before a0 Z = true) : (Jvm.Cond.initialized "com/example/libdeleg/libdeleg/proof/PermissionVoucherPinLaw").before a0 Z = true := hw _ (List.mem_of_getElem? (i := 30) rfl)
theorem wd31 {a0 : Array Value} {Z : State} (hw : ∀ d ∈ tables_1, d.before a0 Z = true) : (Jvm.Cond.code ({ cls := "com/example/libdeleg/libdeleg/proof/PermissionVoucherPinLaw", name := "same", desc := "([BIIII)Z" } : Jvm.MethodName) method_3_code (5 : Nat) (Option.some Jvm.ClassFile.FieldType.boolean)).before a0 Z = true := hw _ (List.mem_of_getElem? (i := 31) rfl)
theorem pd0 : parseMethodDescriptor "([B[B)V" = some ⟨[(.array .byte), (.array .byte)], none⟩ := by decide +kernel
theorem pd1 : parseMethodDescriptor "()[B" = some ⟨[], some (.array .byte)⟩ := by decide +kernel
theorem pd2 : parseMethodDescriptor "([BIIII)Z" = some ⟨[(.array .byte), .int, .int, .int, .int], some .boolean⟩ := by decide +kernel
theorem own_bb (x : Int32) : x.toInt8.toInt32.toInt8.toInt32 = x.toInt8.toInt32 := by simp

theorem d1_0 : decode prog_39_method_2_code 0 = .ok (.aload_n 0, 1) := by decide +kernel
theorem d1_1 : decode prog_39_method_2_code 1 = .ok (.invokespecial 7, 3) := by decide +kernel
theorem d1_4 : decode prog_39_method_2_code 4 = .ok (.aload_n 1, 1) := by decide +kernel
theorem d1_5 : decode prog_39_method_2_code 5 = .ok (.ifnonnull 13, 3) := by decide +kernel
theorem d1_18 : decode prog_39_method_2_code 18 = .ok (.aload_n 0, 1) := by decide +kernel
theorem d1_19 : decode prog_39_method_2_code 19 = .ok (.aload_n 1, 1) := by decide +kernel
theorem d1_20 : decode prog_39_method_2_code 20 = .ok (.invokevirtual 19, 3) := by decide +kernel
theorem d1_23 : decode prog_39_method_2_code 23 = .ok (.checkcast 20, 3) := by decide +kernel
theorem d1_26 : decode prog_39_method_2_code 26 = .ok (.putfield 25, 3) := by decide +kernel
theorem d1_29 : decode prog_39_method_2_code 29 = .ok (.aload_n 0, 1) := by decide +kernel
theorem d1_30 : decode prog_39_method_2_code 30 = .ok (.aload_n 2, 1) := by decide +kernel
theorem d1_31 : decode prog_39_method_2_code 31 = .ok (.ifnonnull 7, 3) := by decide +kernel
theorem d1_38 : decode prog_39_method_2_code 38 = .ok (.aload_n 2, 1) := by decide +kernel
theorem d1_39 : decode prog_39_method_2_code 39 = .ok (.invokevirtual 19, 3) := by decide +kernel
theorem d1_42 : decode prog_39_method_2_code 42 = .ok (.checkcast 20, 3) := by decide +kernel
theorem d1_45 : decode prog_39_method_2_code 45 = .ok (.putfield 28, 3) := by decide +kernel
theorem d1_48 : decode prog_39_method_2_code 48 = .ok (.return_, 1) := by decide +kernel
theorem pn1 : plainName "com/example/libdeleg/libdeleg/proof/Permission" = true := by first | (simp [plainName, overriddenIn]; done) | decide +kernel
theorem ef_conI (m : MethodId) (x0 : Addr) (x1 : Addr) (x2 : Addr) : entryFrame m #[(.ref x0), (.ref x1), (.ref x2)] 3 = mkF m 0 #[.val (.ref x0), .val (.ref x1), .val (.ref x2)] [] := by first | (simp [entryFrame, mkF, argsToLocals, Value.category]; done) | rfl
set_option maxRecDepth 65536 in
set_option maxHeartbeats 40000000 in
theorem conI (l : Launch) (Z : State) (a0 : Array Value) (hw : ∀ d ∈ tables_1, d.before a0 Z = true) (n0 : Nat) (h : Heap) (hn0 : n0 ≤ h.size) (o1 : Addr) (o2 : Addr) (o3 : Addr) (vp : List Value) (vs : List Value) (E_o1 : Exa Z h o1 "com/example/libdeleg/libdeleg/proof/Permission") (E_o2 : Exa Z h o2 "[B") (E_o3 : Exa Z h o3 "[B") (F_proof_o1 : Fld Z h o1 "com/example/libdeleg/libdeleg/proof/Permission" "proof" "[B" .null) (F_voucher_o1 : Fld Z h o1 "com/example/libdeleg/libdeleg/proof/Permission" "voucher" "[B" .null) (A_o2 : AV Z h o2 .byte vp) (A_o3 : AV Z h o3 .byte vs) (ge_o1 : n0 ≤ o1) (ne_o1_o2 : o1 ≠ o2) (ne_o1_o3 : o1 ≠ o3) (hl1 : vp.length ≤ 3) (hl2 : vs.length ≤ 3) :
    Con l (⟨"com/example/libdeleg/libdeleg/proof/Permission", "<init>", "([B[B)V"⟩ : MethodName) prog_39_method_2_code 3 none ({ frames := 1, cells := 2, slots := 6, locals := 15 } : Room) 2 6 Z n0 #[(.ref o1), (.ref o2), (.ref o3)] h (fun v h' => ∃ fb : Addr, v = none ∧ h.size ≤ fb ∧ Keep h h' [o1] ∧ Exa Z h' o1 "com/example/libdeleg/libdeleg/proof/Permission" ∧ Exa Z h' fb "[B" ∧ Fld Z h' o1 "com/example/libdeleg/libdeleg/proof/Permission" "voucher" "[B" (.ref fb) ∧ AV Z h' fb .byte vs) := by
  refine Con.body (own := "com/example/libdeleg/libdeleg/proof/Permission") (nm := "<init>") rfl rfl (plainFor_of_name pn1) hn0 ?_
  intro p e s m below meth c T0 X0
  rw [ef_conI]
  refine F_aloadN X0 d1_0 rfl rfl (pc' := 1) rfl ?_
  refine F_objInit X0 (wd7 hw) (wd8 hw) (wd9 hw) (by decide) (W := 0) (Nat.le_of_ble_eq_true rfl) (by decide) rfl d1_1 (pc' := 4) rfl fun T1 X1 => ?_
  refine F_aloadN X1 d1_4 rfl rfl (pc' := 5) rfl ?_
  refine F_ifnonnull_ref X1 d1_5 (by decide) (pt := 18) (by decide) ?_
  refine F_aloadN X1 d1_18 rfl rfl (pc' := 19) rfl ?_
  refine F_aloadN X1 d1_19 rfl rfl (pc' := 20) rfl ?_
  refine F_clone X1 (wd10 hw) (wd11 hw) (wd15 hw) (wd13 hw) (wd14 hw) (wd16 hw) A_o2 E_o2 rfl (by decide) (W := 1) (Nat.le_of_ble_eq_true rfl) (by decide) (cap := 3) (by assumption) (by decide) (by decide) d1_20 (pc' := 23) rfl fun T2 h2 b2 X2 Ex2 g2 ge2 E_b2 A2 => ?_
  have ne_o1_b2 : o1 ≠ b2 := Nat.ne_of_lt (Nat.lt_of_lt_of_le E_o1.lt (Nat.le_of_eq g2.symm))
  have ne_o2_b2 : o2 ≠ b2 := Nat.ne_of_lt (Nat.lt_of_lt_of_le E_o2.lt (Nat.le_of_eq g2.symm))
  have ne_o3_b2 : o3 ≠ b2 := Nat.ne_of_lt (Nat.lt_of_lt_of_le E_o3.lt (Nat.le_of_eq g2.symm))
  have E2_o1 := E_o1.ext Ex2
  have E2_o2 := E_o2.ext Ex2
  have E2_o3 := E_o3.ext Ex2
  have F2_proof_o1 := F_proof_o1.ext Ex2
  have F2_voucher_o1 := F_voucher_o1.ext Ex2
  have A2_o2 := A_o2.ext Ex2
  have A2_o3 := A_o3.ext Ex2
  have sz_b2 : h.size ≤ b2 := Nat.le_trans (Keep.refl h [o1]).1 (Nat.le_of_eq g2.symm)
  have K3 := (Keep.refl h [o1]).ext Ex2
  replace X2 := X2.more (cells' := 1) (slots' := 3) (by decide) (by decide)
  refine F_checkcast X2 (wd17 hw) E_b2 d1_23 (pc' := 26) rfl fun T4 X4 => ?_
  refine F_putfield X4 (wd19 hw) F2_proof_o1 E2_o1 (Or.inr ⟨(wd20 hw), rfl, rfl⟩) (wd2 hw) (ty := (.array .byte)) (by decide) rfl rfl ge_o1 d1_26 (pc' := 29) rfl fun T5 h5 X5 W5 => ?_
  have F5_proof_o1 := F2_proof_o1.same W5
  have E5_o1 := E2_o1.wr W5
  have E5_o2 := E2_o2.wr W5
  have E5_o3 := E2_o3.wr W5
  have E5_b2 := E_b2.wr W5
  have F5_voucher_o1 := F2_voucher_o1.other W5 (Or.inr (slot_ne (Or.inr (wd22 hw)) (Or.inr (wd20 hw)) (by decide) (t := (.array .byte)) (t' := (.array .byte)) (by decide) (by decide)))
  have A5_o2 := A2_o2.other W5 (Ne.symm ne_o1_o2)
  have A5_o3 := A2_o3.other W5 (Ne.symm ne_o1_o3)
  have A5_b2 := A2.other W5 (Ne.symm ne_o1_b2)
  have K6 := K3.wr W5 (Or.inl (List.mem_of_getElem? (i := 0) rfl))
  refine F_aloadN X5 d1_29 rfl rfl (pc' := 30) rfl ?_
  refine F_aloadN X5 d1_30 rfl rfl (pc' := 31) rfl ?_
  refine F_ifnonnull_ref X5 d1_31 (by decide) (pt := 38) (by decide) ?_
  refine F_aloadN X5 d1_38 rfl rfl (pc' := 39) rfl ?_
  refine F_clone X5 (wd10 hw) (wd11 hw) (wd15 hw) (wd13 hw) (wd14 hw) (wd16 hw) A5_o3 E5_o3 rfl (by decide) (W := 1) (Nat.le_of_ble_eq_true rfl) (by decide) (cap := 3) (by assumption) (by decide) (by decide) d1_39 (pc' := 42) rfl fun T7 h7 b7 X7 Ex7 g7 ge7 E_b7 A7 => ?_
  have ne_o1_b7 : o1 ≠ b7 := Nat.ne_of_lt (Nat.lt_of_lt_of_le E5_o1.lt (Nat.le_of_eq g7.symm))
  have ne_o2_b7 : o2 ≠ b7 := Nat.ne_of_lt (Nat.lt_of_lt_of_le E5_o2.lt (Nat.le_of_eq g7.symm))
  have ne_o3_b7 : o3 ≠ b7 := Nat.ne_of_lt (Nat.lt_of_lt_of_le E5_o3.lt (Nat.le_of_eq g7.symm))
  have ne_b2_b7 : b2 ≠ b7 := Nat.ne_of_lt (Nat.lt_of_lt_of_le E5_b2.lt (Nat.le_of_eq g7.symm))
  have E7_o1 := E5_o1.ext Ex7
  have E7_o2 := E5_o2.ext Ex7
  have E7_o3 := E5_o3.ext Ex7
  have E7_b2 := E5_b2.ext Ex7
  have F7_proof_o1 := F5_proof_o1.ext Ex7
  have F7_voucher_o1 := F5_voucher_o1.ext Ex7
  have A7_o2 := A5_o2.ext Ex7
  have A7_o3 := A5_o3.ext Ex7
  have A7_b2 := A5_b2.ext Ex7
  have sz_b7 : h.size ≤ b7 := Nat.le_trans K6.1 (Nat.le_of_eq g7.symm)
  have K8 := K6.ext Ex7
  replace X7 := X7.more (cells' := 2) (slots' := 6) (by decide) (by decide)
  refine F_checkcast X7 (wd17 hw) E_b7 d1_42 (pc' := 45) rfl fun T9 X9 => ?_
  refine F_putfield X9 (wd21 hw) F7_voucher_o1 E7_o1 (Or.inr ⟨(wd22 hw), rfl, rfl⟩) (wd2 hw) (ty := (.array .byte)) (by decide) rfl rfl ge_o1 d1_45 (pc' := 48) rfl fun T10 h10 X10 W10 => ?_
  have F10_voucher_o1 := F7_voucher_o1.same W10
  have E10_o1 := E7_o1.wr W10
  have E10_o2 := E7_o2.wr W10
  have E10_o3 := E7_o3.wr W10
  have E10_b2 := E7_b2.wr W10
  have E10_b7 := E_b7.wr W10
  have F10_proof_o1 := F7_proof_o1.other W10 (Or.inr (slot_ne (Or.inr (wd20 hw)) (Or.inr (wd22 hw)) (by decide) (t := (.array .byte)) (t' := (.array .byte)) (by decide) (by decide)))
  have A10_o2 := A7_o2.other W10 (Ne.symm ne_o1_o2)
  have A10_o3 := A7_o3.other W10 (Ne.symm ne_o1_o3)
  have A10_b2 := A7_b2.other W10 (Ne.symm ne_o1_b2)
  have A10_b7 := A7.other W10 (Ne.symm ne_o1_b7)
  have K11 := K8.wr W10 (Or.inl (List.mem_of_getElem? (i := 0) rfl))
  refine F_return X10 d1_48 rfl (by decide) (by decide) ?_
  exact ⟨_, rfl, sz_b7, K11, E10_o1, E10_b7, F10_voucher_o1, A10_b7⟩
theorem d1_34 : decode prog_39_method_2_code 34 = .ok (.aconst_null, 1) := by decide +kernel
theorem d1_35 : decode prog_39_method_2_code 35 = .ok (.goto 10, 3) := by decide +kernel
theorem ef_conI0 (m : MethodId) (x0 : Addr) (x1 : Addr) : entryFrame m #[(.ref x0), (.ref x1), .null] 3 = mkF m 0 #[.val (.ref x0), .val (.ref x1), .val .null] [] := by first | (simp [entryFrame, mkF, argsToLocals, Value.category]; done) | rfl
set_option maxRecDepth 65536 in
set_option maxHeartbeats 40000000 in
theorem conI0 (l : Launch) (Z : State) (a0 : Array Value) (hw : ∀ d ∈ tables_1, d.before a0 Z = true) (n0 : Nat) (h : Heap) (hn0 : n0 ≤ h.size) (o1 : Addr) (o2 : Addr) (vp : List Value) (E_o1 : Exa Z h o1 "com/example/libdeleg/libdeleg/proof/Permission") (E_o2 : Exa Z h o2 "[B") (F_proof_o1 : Fld Z h o1 "com/example/libdeleg/libdeleg/proof/Permission" "proof" "[B" .null) (F_voucher_o1 : Fld Z h o1 "com/example/libdeleg/libdeleg/proof/Permission" "voucher" "[B" .null) (A_o2 : AV Z h o2 .byte vp) (ge_o1 : n0 ≤ o1) (ne_o1_o2 : o1 ≠ o2) (hl1 : vp.length ≤ 3) :
    Con l (⟨"com/example/libdeleg/libdeleg/proof/Permission", "<init>", "([B[B)V"⟩ : MethodName) prog_39_method_2_code 3 none ({ frames := 1, cells := 1, slots := 3, locals := 15 } : Room) 1 3 Z n0 #[(.ref o1), (.ref o2), .null] h (fun v h' => v = none ∧ Keep h h' [o1] ∧ Exa Z h' o1 "com/example/libdeleg/libdeleg/proof/Permission" ∧ Fld Z h' o1 "com/example/libdeleg/libdeleg/proof/Permission" "voucher" "[B" .null) := by
  refine Con.body (own := "com/example/libdeleg/libdeleg/proof/Permission") (nm := "<init>") rfl rfl (plainFor_of_name pn1) hn0 ?_
  intro p e s m below meth c T0 X0
  rw [ef_conI0]
  refine F_aloadN X0 d1_0 rfl rfl (pc' := 1) rfl ?_
  refine F_objInit X0 (wd7 hw) (wd8 hw) (wd9 hw) (by decide) (W := 0) (Nat.le_of_ble_eq_true rfl) (by decide) rfl d1_1 (pc' := 4) rfl fun T1 X1 => ?_
  refine F_aloadN X1 d1_4 rfl rfl (pc' := 5) rfl ?_
  refine F_ifnonnull_ref X1 d1_5 (by decide) (pt := 18) (by decide) ?_
  refine F_aloadN X1 d1_18 rfl rfl (pc' := 19) rfl ?_
  refine F_aloadN X1 d1_19 rfl rfl (pc' := 20) rfl ?_
  refine F_clone X1 (wd10 hw) (wd11 hw) (wd15 hw) (wd13 hw) (wd14 hw) (wd16 hw) A_o2 E_o2 rfl (by decide) (W := 1) (Nat.le_of_ble_eq_true rfl) (by decide) (cap := 3) (by assumption) (by decide) (by decide) d1_20 (pc' := 23) rfl fun T2 h2 b2 X2 Ex2 g2 ge2 E_b2 A2 => ?_
  have ne_o1_b2 : o1 ≠ b2 := Nat.ne_of_lt (Nat.lt_of_lt_of_le E_o1.lt (Nat.le_of_eq g2.symm))
  have ne_o2_b2 : o2 ≠ b2 := Nat.ne_of_lt (Nat.lt_of_lt_of_le E_o2.lt (Nat.le_of_eq g2.symm))
  have E2_o1 := E_o1.ext Ex2
  have E2_o2 := E_o2.ext Ex2
  have F2_proof_o1 := F_proof_o1.ext Ex2
  have F2_voucher_o1 := F_voucher_o1.ext Ex2
  have A2_o2 := A_o2.ext Ex2
  have sz_b2 : h.size ≤ b2 := Nat.le_trans (Keep.refl h [o1]).1 (Nat.le_of_eq g2.symm)
  have K3 := (Keep.refl h [o1]).ext Ex2
  replace X2 := X2.more (cells' := 1) (slots' := 3) (by decide) (by decide)
  refine F_checkcast X2 (wd17 hw) E_b2 d1_23 (pc' := 26) rfl fun T4 X4 => ?_
  refine F_putfield X4 (wd19 hw) F2_proof_o1 E2_o1 (Or.inr ⟨(wd20 hw), rfl, rfl⟩) (wd2 hw) (ty := (.array .byte)) (by decide) rfl rfl ge_o1 d1_26 (pc' := 29) rfl fun T5 h5 X5 W5 => ?_
  have F5_proof_o1 := F2_proof_o1.same W5
  have E5_o1 := E2_o1.wr W5
  have E5_o2 := E2_o2.wr W5
  have E5_b2 := E_b2.wr W5
  have F5_voucher_o1 := F2_voucher_o1.other W5 (Or.inr (slot_ne (Or.inr (wd22 hw)) (Or.inr (wd20 hw)) (by decide) (t := (.array .byte)) (t' := (.array .byte)) (by decide) (by decide)))
  have A5_o2 := A2_o2.other W5 (Ne.symm ne_o1_o2)
  have A5_b2 := A2.other W5 (Ne.symm ne_o1_b2)
  have K6 := K3.wr W5 (Or.inl (List.mem_of_getElem? (i := 0) rfl))
  refine F_aloadN X5 d1_29 rfl rfl (pc' := 30) rfl ?_
  refine F_aloadN X5 d1_30 rfl rfl (pc' := 31) rfl ?_
  refine F_ifnonnull_null X5 d1_31 (pc' := 34) rfl ?_
  refine F_aconst_null X5 d1_34 (pc' := 35) rfl ?_
  refine F_goto X5 d1_35 (by decide) (pc' := 45) (by decide) ?_
  refine F_putfield X5 (wd21 hw) F5_voucher_o1 E5_o1 (Or.inr ⟨(wd22 hw), rfl, rfl⟩) (wd2 hw) (ty := (.array .byte)) (by decide) rfl rfl ge_o1 d1_45 (pc' := 48) rfl fun T7 h7 X7 W7 => ?_
  have F7_voucher_o1 := F5_voucher_o1.same W7
  have E7_o1 := E5_o1.wr W7
  have E7_o2 := E5_o2.wr W7
  have E7_b2 := E5_b2.wr W7
  have F7_proof_o1 := F5_proof_o1.other W7 (Or.inr (slot_ne (Or.inr (wd20 hw)) (Or.inr (wd22 hw)) (by decide) (t := (.array .byte)) (t' := (.array .byte)) (by decide) (by decide)))
  have A7_o2 := A5_o2.other W7 (Ne.symm ne_o1_o2)
  have A7_b2 := A5_b2.other W7 (Ne.symm ne_o1_b2)
  have K8 := K6.wr W7 (Or.inl (List.mem_of_getElem? (i := 0) rfl))
  refine F_return X7 d1_48 rfl (by decide) (by decide) ?_
  exact ⟨rfl, K8, E7_o1, F7_voucher_o1⟩
theorem d3_0 : decode prog_39_method_4_code 0 = .ok (.aload_n 0, 1) := by decide +kernel
theorem d3_1 : decode prog_39_method_4_code 1 = .ok (.getfield 28, 3) := by decide +kernel
theorem d3_4 : decode prog_39_method_4_code 4 = .ok (.ifnonnull 7, 3) := by decide +kernel
theorem d3_11 : decode prog_39_method_4_code 11 = .ok (.aload_n 0, 1) := by decide +kernel
theorem d3_12 : decode prog_39_method_4_code 12 = .ok (.getfield 28, 3) := by decide +kernel
theorem d3_15 : decode prog_39_method_4_code 15 = .ok (.invokevirtual 19, 3) := by decide +kernel
theorem d3_18 : decode prog_39_method_4_code 18 = .ok (.checkcast 20, 3) := by decide +kernel
theorem d3_21 : decode prog_39_method_4_code 21 = .ok (.areturn, 1) := by decide +kernel
theorem pn3 : plainName "com/example/libdeleg/libdeleg/proof/Permission" = true := by first | (simp [plainName, overriddenIn]; done) | decide +kernel
theorem ef_conV (m : MethodId) (x0 : Addr) : entryFrame m #[(.ref x0)] 1 = mkF m 0 #[.val (.ref x0)] [] := by first | (simp [entryFrame, mkF, argsToLocals, Value.category]; done) | rfl
set_option maxRecDepth 65536 in
set_option maxHeartbeats 40000000 in
theorem conV (l : Launch) (Z : State) (a0 : Array Value) (hw : ∀ d ∈ tables_1, d.before a0 Z = true) (n0 : Nat) (h : Heap) (hn0 : n0 ≤ h.size) (o1 : Addr) (o2 : Addr) (vs : List Value) (E_o2 : Exa Z h o2 "[B") (F_voucher_o1 : Fld Z h o1 "com/example/libdeleg/libdeleg/proof/Permission" "voucher" "[B" (.ref o2)) (A_o2 : AV Z h o2 .byte vs) (hl2 : vs.length ≤ 3) :
    Con l (⟨"com/example/libdeleg/libdeleg/proof/Permission", "voucher", "()[B"⟩ : MethodName) prog_39_method_4_code 1 (some (.array .byte)) ({ frames := 1, cells := 1, slots := 3, locals := 14 } : Room) 1 3 Z n0 #[(.ref o1)] h (fun v h' => ∃ fb : Addr, v = some (.ref fb) ∧ h.size ≤ fb ∧ Keep h h' [] ∧ Exa Z h' fb "[B" ∧ AV Z h' fb .byte vs) := by
  refine Con.body (own := "com/example/libdeleg/libdeleg/proof/Permission") (nm := "voucher") rfl rfl (plainFor_of_name pn3) hn0 ?_
  intro p e s m below meth c T0 X0
  rw [ef_conV]
  refine F_aloadN X0 d3_0 rfl rfl (pc' := 1) rfl ?_
  refine F_getfield X0 (wd21 hw) F_voucher_o1 d3_1 (pc' := 4) rfl fun T1 X1 => ?_
  refine F_ifnonnull_ref X1 d3_4 (by decide) (pt := 11) (by decide) ?_
  refine F_aloadN X1 d3_11 rfl rfl (pc' := 12) rfl ?_
  refine F_getfield X1 (wd21 hw) F_voucher_o1 d3_12 (pc' := 15) rfl fun T2 X2 => ?_
  refine F_clone X2 (wd10 hw) (wd11 hw) (wd15 hw) (wd13 hw) (wd14 hw) (wd16 hw) A_o2 E_o2 rfl (by decide) (W := 0) (Nat.le_of_ble_eq_true rfl) (by decide) (cap := 3) (by assumption) (by decide) (by decide) d3_15 (pc' := 18) rfl fun T3 h3 b3 X3 Ex3 g3 ge3 E_b3 A3 => ?_
  have ne_o2_b3 : o2 ≠ b3 := Nat.ne_of_lt (Nat.lt_of_lt_of_le E_o2.lt (Nat.le_of_eq g3.symm))
  have ne_o1_b3 : o1 ≠ b3 := Nat.ne_of_lt (Nat.lt_of_lt_of_le F_voucher_o1.lt (Nat.le_of_eq g3.symm))
  have E3_o2 := E_o2.ext Ex3
  have F3_voucher_o1 := F_voucher_o1.ext Ex3
  have A3_o2 := A_o2.ext Ex3
  have sz_b3 : h.size ≤ b3 := Nat.le_trans (Keep.refl h []).1 (Nat.le_of_eq g3.symm)
  have K4 := (Keep.refl h []).ext Ex3
  replace X3 := X3.more (cells' := 1) (slots' := 3) (by decide) (by decide)
  refine F_checkcast X3 (wd17 hw) E_b3 d3_18 (pc' := 21) rfl fun T5 X5 => ?_
  refine F_areturn X5 (t := (.array .byte)) rfl rfl rfl d3_21 rfl (by decide) (by decide) ?_
  exact ⟨_, rfl, sz_b3, K4, E_b3, A3⟩
theorem d3_7 : decode prog_39_method_4_code 7 = .ok (.aconst_null, 1) := by decide +kernel
theorem d3_8 : decode prog_39_method_4_code 8 = .ok (.goto 13, 3) := by decide +kernel
theorem ef_conV0 (m : MethodId) (x0 : Addr) : entryFrame m #[(.ref x0)] 1 = mkF m 0 #[.val (.ref x0)] [] := by first | (simp [entryFrame, mkF, argsToLocals, Value.category]; done) | rfl
set_option maxRecDepth 65536 in
set_option maxHeartbeats 40000000 in
theorem conV0 (l : Launch) (Z : State) (a0 : Array Value) (hw : ∀ d ∈ tables_1, d.before a0 Z = true) (n0 : Nat) (h : Heap) (hn0 : n0 ≤ h.size) (o1 : Addr) (F_voucher_o1 : Fld Z h o1 "com/example/libdeleg/libdeleg/proof/Permission" "voucher" "[B" .null) :
    Con l (⟨"com/example/libdeleg/libdeleg/proof/Permission", "voucher", "()[B"⟩ : MethodName) prog_39_method_4_code 1 (some (.array .byte)) ({ frames := 0, cells := 0, slots := 0, locals := 0 } : Room) 0 0 Z n0 #[(.ref o1)] h (fun v h' => v = some .null ∧ h = h') := by
  refine Con.body (own := "com/example/libdeleg/libdeleg/proof/Permission") (nm := "voucher") rfl rfl (plainFor_of_name pn3) hn0 ?_
  intro p e s m below meth c T0 X0
  rw [ef_conV0]
  refine F_aloadN X0 d3_0 rfl rfl (pc' := 1) rfl ?_
  refine F_getfield X0 (wd21 hw) F_voucher_o1 d3_1 (pc' := 4) rfl fun T1 X1 => ?_
  refine F_ifnonnull_null X1 d3_4 (pc' := 7) rfl ?_
  refine F_aconst_null X1 d3_7 (pc' := 8) rfl ?_
  refine F_goto X1 d3_8 (by decide) (pc' := 21) (by decide) ?_
  refine F_areturn X1 (t := (.array .byte)) rfl rfl rfl d3_21 rfl (by decide) (by decide) ?_
  exact ⟨rfl, rfl⟩
theorem d4_0 : decode method_3_code 0 = .ok (.iload_n 1, 1) := by decide +kernel
theorem d4_1 : decode method_3_code 1 = .ok (.ifCond .le 13, 3) := by decide +kernel
theorem d4_14 : decode method_3_code 14 = .ok (.iload_n 1, 1) := by decide +kernel
theorem d4_15 : decode method_3_code 15 = .ok (.iconst 1, 1) := by decide +kernel
theorem d4_16 : decode method_3_code 16 = .ok (.if_icmp .le 13, 3) := by decide +kernel
theorem d4_29 : decode method_3_code 29 = .ok (.iload_n 1, 1) := by decide +kernel
theorem d4_30 : decode method_3_code 30 = .ok (.iconst 2, 1) := by decide +kernel
theorem d4_31 : decode method_3_code 31 = .ok (.if_icmp .le 14, 3) := by decide +kernel
theorem d4_45 : decode method_3_code 45 = .ok (.iconst 1, 1) := by decide +kernel
theorem d4_46 : decode method_3_code 46 = .ok (.ireturn, 1) := by decide +kernel
theorem pn4 : plainName "com/example/libdeleg/libdeleg/proof/PermissionVoucherPinLaw" = true := by first | (simp [plainName, overriddenIn]; done) | decide +kernel
theorem ef_conS0 (m : MethodId) (x0 : Addr) (x2 : Int32) (x3 : Int32) (x4 : Int32) : entryFrame m #[(.ref x0), (.int (0 : Int32)), (.int x2), (.int x3), (.int x4)] 5 = mkF m 0 #[.val (.ref x0), .val (.int (0 : Int32)), .val (.int x2), .val (.int x3), .val (.int x4)] [] := by first | (simp [entryFrame, mkF, argsToLocals, Value.category]; done) | rfl
set_option maxRecDepth 65536 in
set_option maxHeartbeats 40000000 in
theorem conS0 (l : Launch) (Z : State) (a0 : Array Value) (hw : ∀ d ∈ tables_1, d.before a0 Z = true) (n0 : Nat) (h : Heap) (hn0 : n0 ≤ h.size) (o1 : Addr) (u3 : Int32) (u4 : Int32) (u5 : Int32) (A_o1 : AV Z h o1 .byte []) :
    Con l (⟨"com/example/libdeleg/libdeleg/proof/PermissionVoucherPinLaw", "same", "([BIIII)Z"⟩ : MethodName) method_3_code 5 (some .boolean) ({ frames := 0, cells := 0, slots := 0, locals := 0 } : Room) 0 0 Z n0 #[(.ref o1), (.int (0 : Int32)), (.int u3), (.int u4), (.int u5)] h (fun v h' => v = some (.int (1 : Int32)) ∧ h = h') := by
  refine Con.body (own := "com/example/libdeleg/libdeleg/proof/PermissionVoucherPinLaw") (nm := "same") rfl rfl (plainFor_of_name pn4) hn0 ?_
  intro p e s m below meth c T0 X0
  rw [ef_conS0]
  refine F_iloadN X0 d4_0 rfl (pc' := 1) rfl ?_
  refine F_if_le X0 d4_1 (by decide) (pt := 14) (by decide) (pc' := 4) rfl (fun _ => ?_) (fun q => absurd q (by decide))
  refine F_iloadN X0 d4_14 rfl (pc' := 15) rfl ?_
  refine F_iconst X0 d4_15 (z := (1 : Int32)) (by decide) (pc' := 16) rfl ?_
  refine F_icmp_le X0 d4_16 (by decide) (pt := 29) (by decide) (pc' := 19) rfl (fun _ => ?_) (fun q => absurd q (by decide))
  refine F_iloadN X0 d4_29 rfl (pc' := 30) rfl ?_
  refine F_iconst X0 d4_30 (z := (2 : Int32)) (by decide) (pc' := 31) rfl ?_
  refine F_icmp_le X0 d4_31 (by decide) (pt := 45) (by decide) (pc' := 34) rfl (fun _ => ?_) (fun q => absurd q (by decide))
  refine F_iconst X0 d4_45 (z := (1 : Int32)) (by decide) (pc' := 46) rfl ?_
  refine F_ireturn_boolean (z' := (1 : Int32)) X0 (by decide) d4_46 rfl (by decide) (by decide) ?_
  exact ⟨rfl, rfl⟩
theorem d4_4 : decode method_3_code 4 = .ok (.aload_n 0, 1) := by decide +kernel
theorem d4_5 : decode method_3_code 5 = .ok (.iconst 0, 1) := by decide +kernel
theorem d4_6 : decode method_3_code 6 = .ok (.baload, 1) := by decide +kernel
theorem d4_7 : decode method_3_code 7 = .ok (.iload_n 2, 1) := by decide +kernel
theorem d4_8 : decode method_3_code 8 = .ok (.i2b, 1) := by decide +kernel
theorem d4_9 : decode method_3_code 9 = .ok (.if_icmp .eq 5, 3) := by decide +kernel
theorem ef_conS1 (m : MethodId) (x0 : Addr) (x2 : Int32) (x3 : Int32) (x4 : Int32) : entryFrame m #[(.ref x0), (.int (1 : Int32)), (.int x2), (.int x3), (.int x4)] 5 = mkF m 0 #[.val (.ref x0), .val (.int (1 : Int32)), .val (.int x2), .val (.int x3), .val (.int x4)] [] := by first | (simp [entryFrame, mkF, argsToLocals, Value.category]; done) | rfl
set_option maxRecDepth 65536 in
set_option maxHeartbeats 40000000 in
theorem conS1 (l : Launch) (Z : State) (a0 : Array Value) (hw : ∀ d ∈ tables_1, d.before a0 Z = true) (n0 : Nat) (h : Heap) (hn0 : n0 ≤ h.size) (o1 : Addr) (u3 : Int32) (u4 : Int32) (u5 : Int32) (A_o1 : AV Z h o1 .byte [(.int (u3.toInt8.toInt32))]) :
    Con l (⟨"com/example/libdeleg/libdeleg/proof/PermissionVoucherPinLaw", "same", "([BIIII)Z"⟩ : MethodName) method_3_code 5 (some .boolean) ({ frames := 0, cells := 0, slots := 0, locals := 0 } : Room) 0 0 Z n0 #[(.ref o1), (.int (1 : Int32)), (.int u3), (.int u4), (.int u5)] h (fun v h' => v = some (.int (1 : Int32)) ∧ h = h') := by
  refine Con.body (own := "com/example/libdeleg/libdeleg/proof/PermissionVoucherPinLaw") (nm := "same") rfl rfl (plainFor_of_name pn4) hn0 ?_
  intro p e s m below meth c T0 X0
  rw [ef_conS1]
  refine F_iloadN X0 d4_0 rfl (pc' := 1) rfl ?_
  refine F_if_le X0 d4_1 (by decide) (pt := 14) (by decide) (pc' := 4) rfl (fun q => absurd q (by decide)) (fun _ => ?_)
  refine F_aloadN X0 d4_4 rfl rfl (pc' := 5) rfl ?_
  refine F_iconst X0 d4_5 (z := (0 : Int32)) (by decide) (pc' := 6) rfl ?_
  refine F_baload X0 A_o1 (by decide) rfl d4_6 (pc' := 7) rfl ?_
  refine F_iloadN X0 d4_7 rfl (pc' := 8) rfl ?_
  refine F_i2b X0 d4_8 rfl (pc' := 9) rfl ?_
  refine F_icmp_eq X0 d4_9 (by decide) (pt := 14) (by decide) (pc' := 12) rfl (fun _ => ?_) (fun q => absurd rfl q)
  refine F_iloadN X0 d4_14 rfl (pc' := 15) rfl ?_
  refine F_iconst X0 d4_15 (z := (1 : Int32)) (by decide) (pc' := 16) rfl ?_
  refine F_icmp_le X0 d4_16 (by decide) (pt := 29) (by decide) (pc' := 19) rfl (fun _ => ?_) (fun q => absurd q (by decide))
  refine F_iloadN X0 d4_29 rfl (pc' := 30) rfl ?_
  refine F_iconst X0 d4_30 (z := (2 : Int32)) (by decide) (pc' := 31) rfl ?_
  refine F_icmp_le X0 d4_31 (by decide) (pt := 45) (by decide) (pc' := 34) rfl (fun _ => ?_) (fun q => absurd q (by decide))
  refine F_iconst X0 d4_45 (z := (1 : Int32)) (by decide) (pc' := 46) rfl ?_
  refine F_ireturn_boolean (z' := (1 : Int32)) X0 (by decide) d4_46 rfl (by decide) (by decide) ?_
  exact ⟨rfl, rfl⟩
theorem d4_19 : decode method_3_code 19 = .ok (.aload_n 0, 1) := by decide +kernel
theorem d4_20 : decode method_3_code 20 = .ok (.iconst 1, 1) := by decide +kernel
theorem d4_21 : decode method_3_code 21 = .ok (.baload, 1) := by decide +kernel
theorem d4_22 : decode method_3_code 22 = .ok (.iload_n 3, 1) := by decide +kernel
theorem d4_23 : decode method_3_code 23 = .ok (.i2b, 1) := by decide +kernel
theorem d4_24 : decode method_3_code 24 = .ok (.if_icmp .eq 5, 3) := by decide +kernel
theorem ef_conS2 (m : MethodId) (x0 : Addr) (x2 : Int32) (x3 : Int32) (x4 : Int32) : entryFrame m #[(.ref x0), (.int (2 : Int32)), (.int x2), (.int x3), (.int x4)] 5 = mkF m 0 #[.val (.ref x0), .val (.int (2 : Int32)), .val (.int x2), .val (.int x3), .val (.int x4)] [] := by first | (simp [entryFrame, mkF, argsToLocals, Value.category]; done) | rfl
set_option maxRecDepth 65536 in
set_option maxHeartbeats 40000000 in
theorem conS2 (l : Launch) (Z : State) (a0 : Array Value) (hw : ∀ d ∈ tables_1, d.before a0 Z = true) (n0 : Nat) (h : Heap) (hn0 : n0 ≤ h.size) (o1 : Addr) (u3 : Int32) (u4 : Int32) (u5 : Int32) (A_o1 : AV Z h o1 .byte [(.int (u3.toInt8.toInt32)), (.int (u4.toInt8.toInt32))]) :
    Con l (⟨"com/example/libdeleg/libdeleg/proof/PermissionVoucherPinLaw", "same", "([BIIII)Z"⟩ : MethodName) method_3_code 5 (some .boolean) ({ frames := 0, cells := 0, slots := 0, locals := 0 } : Room) 0 0 Z n0 #[(.ref o1), (.int (2 : Int32)), (.int u3), (.int u4), (.int u5)] h (fun v h' => v = some (.int (1 : Int32)) ∧ h = h') := by
  refine Con.body (own := "com/example/libdeleg/libdeleg/proof/PermissionVoucherPinLaw") (nm := "same") rfl rfl (plainFor_of_name pn4) hn0 ?_
  intro p e s m below meth c T0 X0
  rw [ef_conS2]
  refine F_iloadN X0 d4_0 rfl (pc' := 1) rfl ?_
  refine F_if_le X0 d4_1 (by decide) (pt := 14) (by decide) (pc' := 4) rfl (fun q => absurd q (by decide)) (fun _ => ?_)
  refine F_aloadN X0 d4_4 rfl rfl (pc' := 5) rfl ?_
  refine F_iconst X0 d4_5 (z := (0 : Int32)) (by decide) (pc' := 6) rfl ?_
  refine F_baload X0 A_o1 (by decide) rfl d4_6 (pc' := 7) rfl ?_
  refine F_iloadN X0 d4_7 rfl (pc' := 8) rfl ?_
  refine F_i2b X0 d4_8 rfl (pc' := 9) rfl ?_
  refine F_icmp_eq X0 d4_9 (by decide) (pt := 14) (by decide) (pc' := 12) rfl (fun _ => ?_) (fun q => absurd rfl q)
  refine F_iloadN X0 d4_14 rfl (pc' := 15) rfl ?_
  refine F_iconst X0 d4_15 (z := (1 : Int32)) (by decide) (pc' := 16) rfl ?_
  refine F_icmp_le X0 d4_16 (by decide) (pt := 29) (by decide) (pc' := 19) rfl (fun q => absurd q (by decide)) (fun _ => ?_)
  refine F_aloadN X0 d4_19 rfl rfl (pc' := 20) rfl ?_
  refine F_iconst X0 d4_20 (z := (1 : Int32)) (by decide) (pc' := 21) rfl ?_
  refine F_baload X0 A_o1 (by decide) rfl d4_21 (pc' := 22) rfl ?_
  refine F_iloadN X0 d4_22 rfl (pc' := 23) rfl ?_
  refine F_i2b X0 d4_23 rfl (pc' := 24) rfl ?_
  refine F_icmp_eq X0 d4_24 (by decide) (pt := 29) (by decide) (pc' := 27) rfl (fun _ => ?_) (fun q => absurd rfl q)
  refine F_iloadN X0 d4_29 rfl (pc' := 30) rfl ?_
  refine F_iconst X0 d4_30 (z := (2 : Int32)) (by decide) (pc' := 31) rfl ?_
  refine F_icmp_le X0 d4_31 (by decide) (pt := 45) (by decide) (pc' := 34) rfl (fun _ => ?_) (fun q => absurd q (by decide))
  refine F_iconst X0 d4_45 (z := (1 : Int32)) (by decide) (pc' := 46) rfl ?_
  refine F_ireturn_boolean (z' := (1 : Int32)) X0 (by decide) d4_46 rfl (by decide) (by decide) ?_
  exact ⟨rfl, rfl⟩
theorem d4_34 : decode method_3_code 34 = .ok (.aload_n 0, 1) := by decide +kernel
theorem d4_35 : decode method_3_code 35 = .ok (.iconst 2, 1) := by decide +kernel
theorem d4_36 : decode method_3_code 36 = .ok (.baload, 1) := by decide +kernel
theorem d4_37 : decode method_3_code 37 = .ok (.iload 4, 2) := by decide +kernel
theorem d4_39 : decode method_3_code 39 = .ok (.i2b, 1) := by decide +kernel
theorem d4_40 : decode method_3_code 40 = .ok (.if_icmp .eq 5, 3) := by decide +kernel
theorem ef_conS3 (m : MethodId) (x0 : Addr) (x2 : Int32) (x3 : Int32) (x4 : Int32) : entryFrame m #[(.ref x0), (.int (3 : Int32)), (.int x2), (.int x3), (.int x4)] 5 = mkF m 0 #[.val (.ref x0), .val (.int (3 : Int32)), .val (.int x2), .val (.int x3), .val (.int x4)] [] := by first | (simp [entryFrame, mkF, argsToLocals, Value.category]; done) | rfl
set_option maxRecDepth 65536 in
set_option maxHeartbeats 40000000 in
theorem conS3 (l : Launch) (Z : State) (a0 : Array Value) (hw : ∀ d ∈ tables_1, d.before a0 Z = true) (n0 : Nat) (h : Heap) (hn0 : n0 ≤ h.size) (o1 : Addr) (u3 : Int32) (u4 : Int32) (u5 : Int32) (A_o1 : AV Z h o1 .byte [(.int (u3.toInt8.toInt32)), (.int (u4.toInt8.toInt32)), (.int (u5.toInt8.toInt32))]) :
    Con l (⟨"com/example/libdeleg/libdeleg/proof/PermissionVoucherPinLaw", "same", "([BIIII)Z"⟩ : MethodName) method_3_code 5 (some .boolean) ({ frames := 0, cells := 0, slots := 0, locals := 0 } : Room) 0 0 Z n0 #[(.ref o1), (.int (3 : Int32)), (.int u3), (.int u4), (.int u5)] h (fun v h' => v = some (.int (1 : Int32)) ∧ h = h') := by
  refine Con.body (own := "com/example/libdeleg/libdeleg/proof/PermissionVoucherPinLaw") (nm := "same") rfl rfl (plainFor_of_name pn4) hn0 ?_
  intro p e s m below meth c T0 X0
  rw [ef_conS3]
  refine F_iloadN X0 d4_0 rfl (pc' := 1) rfl ?_
  refine F_if_le X0 d4_1 (by decide) (pt := 14) (by decide) (pc' := 4) rfl (fun q => absurd q (by decide)) (fun _ => ?_)
  refine F_aloadN X0 d4_4 rfl rfl (pc' := 5) rfl ?_
  refine F_iconst X0 d4_5 (z := (0 : Int32)) (by decide) (pc' := 6) rfl ?_
  refine F_baload X0 A_o1 (by decide) rfl d4_6 (pc' := 7) rfl ?_
  refine F_iloadN X0 d4_7 rfl (pc' := 8) rfl ?_
  refine F_i2b X0 d4_8 rfl (pc' := 9) rfl ?_
  refine F_icmp_eq X0 d4_9 (by decide) (pt := 14) (by decide) (pc' := 12) rfl (fun _ => ?_) (fun q => absurd rfl q)
  refine F_iloadN X0 d4_14 rfl (pc' := 15) rfl ?_
  refine F_iconst X0 d4_15 (z := (1 : Int32)) (by decide) (pc' := 16) rfl ?_
  refine F_icmp_le X0 d4_16 (by decide) (pt := 29) (by decide) (pc' := 19) rfl (fun q => absurd q (by decide)) (fun _ => ?_)
  refine F_aloadN X0 d4_19 rfl rfl (pc' := 20) rfl ?_
  refine F_iconst X0 d4_20 (z := (1 : Int32)) (by decide) (pc' := 21) rfl ?_
  refine F_baload X0 A_o1 (by decide) rfl d4_21 (pc' := 22) rfl ?_
  refine F_iloadN X0 d4_22 rfl (pc' := 23) rfl ?_
  refine F_i2b X0 d4_23 rfl (pc' := 24) rfl ?_
  refine F_icmp_eq X0 d4_24 (by decide) (pt := 29) (by decide) (pc' := 27) rfl (fun _ => ?_) (fun q => absurd rfl q)
  refine F_iloadN X0 d4_29 rfl (pc' := 30) rfl ?_
  refine F_iconst X0 d4_30 (z := (2 : Int32)) (by decide) (pc' := 31) rfl ?_
  refine F_icmp_le X0 d4_31 (by decide) (pt := 45) (by decide) (pc' := 34) rfl (fun q => absurd q (by decide)) (fun _ => ?_)
  refine F_aloadN X0 d4_34 rfl rfl (pc' := 35) rfl ?_
  refine F_iconst X0 d4_35 (z := (2 : Int32)) (by decide) (pc' := 36) rfl ?_
  refine F_baload X0 A_o1 (by decide) rfl d4_36 (pc' := 37) rfl ?_
  refine F_iload X0 d4_37 rfl (pc' := 39) rfl ?_
  refine F_i2b X0 d4_39 rfl (pc' := 40) rfl ?_
  refine F_icmp_eq X0 d4_40 (by decide) (pt := 45) (by decide) (pc' := 43) rfl (fun _ => ?_) (fun q => absurd rfl q)
  refine F_iconst X0 d4_45 (z := (1 : Int32)) (by decide) (pc' := 46) rfl ?_
  refine F_ireturn_boolean (z' := (1 : Int32)) X0 (by decide) d4_46 rfl (by decide) (by decide) ?_
  exact ⟨rfl, rfl⟩
theorem pn0 : plainName "com/example/libdeleg/libdeleg/proof/PermissionVoucherPinLaw" = true := by first | (simp [plainName, overriddenIn]; done) | decide +kernel
theorem ef_con0 (m : MethodId) (x0 : Int32) (x1 : Int32) (x2 : Int32) (x3 : Int32) (x4 : Int32) : entryFrame m #[(.int x0), (.int x1), (.int x2), (.int x3), (.int x4)] maxLocals = mkF m 0 #[.val (.int x0), .val (.int x1), .val (.int x2), .val (.int x3), .val (.int x4), .unset, .unset, .unset, .unset, .unset, .unset, .unset] [] := by first | (simp [entryFrame, mkF, argsToLocals, Value.category, maxLocals]; done) | rfl
set_option maxRecDepth 65536 in
set_option maxHeartbeats 40000000 in
theorem con0 (l : Launch) (Z : State) (a0 : Array Value) (hw : ∀ d ∈ tables_1, d.before a0 Z = true) (n0 : Nat) (h : Heap) (hn0 : n0 ≤ h.size) (u1 : Int32) (u2 : Int32) (u3 : Int32) (u4 : Int32) (u5 : Int32) :
    Con l x code maxLocals ret room_1 24 128 Z n0 #[(.int u1), (.int u2), (.int u3), (.int u4), (.int u5)] h (fun v h' => v = some (.int (1 : Int32))) := by
  refine Con.body (own := "com/example/libdeleg/libdeleg/proof/PermissionVoucherPinLaw") (nm := "law") rfl rfl (plainFor_of_name pn0) hn0 ?_
  intro p e s m below meth c T0 X0
  rw [ef_con0]
  refine F_iloadN X0 at_0 rfl (pc' := 1) rfl ?_
  refine F_iconst X0 at_1 (z := (1 : Int32)) (by decide) (pc' := 2) rfl ?_
  refine F_iand X0 at_2 rfl (pc' := 3) rfl ?_
  refine F_if_eq X0 at_3 (by decide) (pt := 10) (by decide) (pc' := 6) rfl (fun hc3_1 => ?_) (fun hc3_1 => ?_)
  · refine F_iconst X0 at_10 (z := (0 : Int32)) (by decide) (pc' := 11) rfl ?_
    refine F_istore X0 at_11 (Ls' := #[.val (.int u1), .val (.int u2), .val (.int u3), .val (.int u4), .val (.int u5), .val (.int (0 : Int32)), .unset, .unset, .unset, .unset, .unset, .unset]) rfl (pc' := 13) rfl ?_
    refine F_iloadN X0 at_13 rfl (pc' := 14) rfl ?_
    refine F_iconst X0 at_14 (z := (1 : Int32)) (by decide) (pc' := 15) rfl ?_
    refine F_iushr X0 at_15 rfl (pc' := 16) rfl ?_
    refine F_iconst X0 at_16 (z := (3 : Int32)) (by decide) (pc' := 17) rfl ?_
    obtain ⟨ln, hln⟩ : ∃ z : Int32, ((u1.toUInt32 >>> ((1 : Int32) &&& 31).toUInt32).toInt32) &&& (3 : Int32) = z := ⟨_, rfl⟩
    refine F_iand X0 at_17 (z := ln) hln (pc' := 18) rfl ?_
    rcases (own_m3 hln) with rfl | rfl | rfl | rfl
    · refine F_istore X0 at_18 (Ls' := #[.val (.int u1), .val (.int u2), .val (.int u3), .val (.int u4), .val (.int u5), .val (.int (0 : Int32)), .val (.int (0 : Int32)), .unset, .unset, .unset, .unset, .unset]) rfl (pc' := 20) rfl ?_
      refine F_iload X0 at_20 rfl (pc' := 22) rfl ?_
      refine F_newarray X0 (aty := .byte) (wd0 hw) (by decide) (cap := 0) (by decide) (by decide) (by decide) (by decide) (ad := "[B") rfl at_22 (pc' := 24) rfl fun T2 h2 b2 X2 Ex2 g2 ge2 E_b2 A2 => ?_
      replace A2 : AV Z h2 b2 .byte [] := A2
      replace X2 := X2.more (cells' := 1) (slots' := 0) (by decide) (by decide)
      refine F_astore X2 at_24 rfl (Ls' := #[.val (.int u1), .val (.int u2), .val (.int u3), .val (.int u4), .val (.int u5), .val (.int (0 : Int32)), .val (.int (0 : Int32)), .val (.ref b2), .unset, .unset, .unset, .unset]) rfl (pc' := 26) rfl ?_
      refine F_iload X2 at_26 rfl (pc' := 28) rfl ?_
      refine F_if_le X2 at_28 (by decide) (pt := 37) (by decide) (pc' := 31) rfl (fun _ => ?_) (fun q => absurd q (by decide))
      refine F_iload X2 at_37 rfl (pc' := 39) rfl ?_
      refine F_iconst X2 at_39 (z := (1 : Int32)) (by decide) (pc' := 40) rfl ?_
      refine F_icmp_le X2 at_40 (by decide) (pt := 49) (by decide) (pc' := 43) rfl (fun _ => ?_) (fun q => absurd q (by decide))
      refine F_iload X2 at_49 rfl (pc' := 51) rfl ?_
      refine F_iconst X2 at_51 (z := (2 : Int32)) (by decide) (pc' := 52) rfl ?_
      refine F_icmp_le X2 at_52 (by decide) (pt := 62) (by decide) (pc' := 55) rfl (fun _ => ?_) (fun q => absurd q (by decide))
      refine F_iconst X2 at_62 (z := (1 : Int32)) (by decide) (pc' := 63) rfl ?_
      refine F_newarray X2 (aty := .byte) (wd0 hw) (by decide) (cap := 1) (by decide) (by decide) (by decide) (by decide) (ad := "[B") rfl at_63 (pc' := 65) rfl fun T3 h3 b3 X3 Ex3 g3 ge3 E_b3 A3 => ?_
      replace A3 : AV Z h3 b3 .byte [(.int (0 : Int32))] := A3
      have ne_b2_b3 : b2 ≠ b3 := Nat.ne_of_lt (Nat.lt_of_lt_of_le E_b2.lt (Nat.le_of_eq g3.symm))
      have E3_b2 := E_b2.ext Ex3
      have A3_b2 := A2.ext Ex3
      replace X3 := X3.more (cells' := 2) (slots' := 1) (by decide) (by decide)
      refine F_dup X3 at_65 rfl (pc' := 66) rfl ?_
      refine F_iconst X3 at_66 (z := (0 : Int32)) (by decide) (pc' := 67) rfl ?_
      refine F_iloadN X3 at_67 rfl (pc' := 68) rfl ?_
      refine F_i2b X3 at_68 rfl (pc' := 69) rfl ?_
      refine F_bastore X3 A3 (by decide) (i := 0) (by decide) (Nat.le_of_ble_eq_true rfl) ge3 (z := (u2.toInt8.toInt32)) (own_bb _) at_69 (pc' := 70) rfl fun T4 h4 X4 W4 A4 => ?_
      replace A4 : AV Z h4 b3 .byte [(.int (u2.toInt8.toInt32))] := A4
      have E4_b2 := E3_b2.wr W4
      have E4_b3 := E_b3.wr W4
      have A4_b2 := A3_b2.other W4 ne_b2_b3
      refine F_astore X4 at_70 rfl (Ls' := #[.val (.int u1), .val (.int u2), .val (.int u3), .val (.int u4), .val (.int u5), .val (.int (0 : Int32)), .val (.int (0 : Int32)), .val (.ref b2), .val (.ref b3), .unset, .unset, .unset]) rfl (pc' := 72) rfl ?_
      refine F_new X4 (wd1 hw) (wd2 hw) (wd3 hw) (by decide) (by decide) at_72 (pc' := 75) rfl fun T5 h5 b5 X5 Ex5 g5 ge5 E_b5 D5 => ?_
      have ne_b2_b5 : b2 ≠ b5 := Nat.ne_of_lt (Nat.lt_of_lt_of_le E4_b2.lt (Nat.le_of_eq g5.symm))
      have ne_b3_b5 : b3 ≠ b5 := Nat.ne_of_lt (Nat.lt_of_lt_of_le E4_b3.lt (Nat.le_of_eq g5.symm))
      have E5_b2 := E4_b2.ext Ex5
      have E5_b3 := E4_b3.ext Ex5
      have A5_b2 := A4_b2.ext Ex5
      have A5_b3 := A4.ext Ex5
      have F5_proof_b5 : Fld Z h5 b5 "com/example/libdeleg/libdeleg/proof/Permission" "proof" "[B" .null := D5 (Or.inr (wd20 hw)) (ty := (.array .byte)) (by decide)
      have F5_voucher_b5 : Fld Z h5 b5 "com/example/libdeleg/libdeleg/proof/Permission" "voucher" "[B" .null := D5 (Or.inr (wd22 hw)) (ty := (.array .byte)) (by decide)
      replace X5 := X5.more (cells' := 3) (slots' := 3) (by decide) (by decide)
      refine F_dup X5 at_75 rfl (pc' := 76) rfl ?_
      refine F_aload X5 at_76 rfl rfl (pc' := 78) rfl ?_
      refine F_iload X5 at_78 rfl (pc' := 80) rfl ?_
      refine F_if_eq X5 at_80 (by decide) (pt := 88) (by decide) (pc' := 83) rfl (fun _ => ?_) (fun q => absurd q (by decide))
      refine F_aconst_null X5 at_88 (pc' := 89) rfl ?_
      refine F_init X5 (y := (⟨"com/example/libdeleg/libdeleg/proof/Permission", "<init>", "([B[B)V"⟩ : MethodName)) (stk := [(.ref b5)]) rfl (wd4 hw) (wd5 hw) (wd3 hw) (wd6 hw) (by decide) (a := b5) (argsL := [(.ref b3), .null]) (conI0 l Z a0 hw n0 h5 X5.size b5 b3 [(.int (u2.toInt8.toInt32))] E_b5 E5_b3 F5_proof_b5 F5_voucher_b5 A5_b3 ge5 (Ne.symm ne_b3_b5) (by exact Nat.le_of_ble_eq_true rfl)) (by decide) (W := 1) (Nat.le_of_ble_eq_true rfl) (by decide) (by decide) (by decide) rfl (lenOf pd0 rfl) rfl at_89 (pc' := 92) rfl fun T6 v6 h6 X6 q6 => ?_
      obtain ⟨rfl, Kp6, E6_b5, F6_voucher_b5⟩ := q6
      have E6k_b2 := E5_b2.keep Kp6
      have E6k_b3 := E5_b3.keep Kp6
      have E6k_b5 := E_b5.keep Kp6
      have A6k_b2 := A5_b2.keep Kp6 (ninS ne_b2_b5 nin0)
      have A6k_b3 := A5_b3.keep Kp6 (ninS ne_b3_b5 nin0)
      replace X6 := X6.more (cells' := 4) (slots' := 6) (by decide) (by decide)
      show Jvm.OwnKit.Ends p e below s n0 24 128 _ T6 (mkF m 92 #[.val (.int u1), .val (.int u2), .val (.int u3), .val (.int u4), .val (.int u5), .val (.int (0 : Int32)), .val (.int (0 : Int32)), .val (.ref b2), .val (.ref b3), .unset, .unset, .unset] [(.ref b5)])
      refine F_astore X6 at_92 rfl (Ls' := #[.val (.int u1), .val (.int u2), .val (.int u3), .val (.int u4), .val (.int u5), .val (.int (0 : Int32)), .val (.int (0 : Int32)), .val (.ref b2), .val (.ref b3), .val (.ref b5), .unset, .unset]) rfl (pc' := 94) rfl ?_
      refine F_iload X6 at_94 rfl (pc' := 96) rfl ?_
      refine F_if_le X6 at_96 (by decide) (pt := 107) (by decide) (pc' := 99) rfl (fun _ => ?_) (fun q => absurd q (by decide))
      refine F_iload X6 at_107 rfl (pc' := 109) rfl ?_
      refine F_iconst X6 at_109 (z := (1 : Int32)) (by decide) (pc' := 110) rfl ?_
      refine F_icmp_le X6 at_110 (by decide) (pt := 121) (by decide) (pc' := 113) rfl (fun _ => ?_) (fun q => absurd q (by decide))
      refine F_iload X6 at_121 rfl (pc' := 123) rfl ?_
      refine F_iconst X6 at_123 (z := (2 : Int32)) (by decide) (pc' := 124) rfl ?_
      refine F_icmp_le X6 at_124 (by decide) (pt := 136) (by decide) (pc' := 127) rfl (fun _ => ?_) (fun q => absurd q (by decide))
      refine F_aload X6 at_136 rfl rfl (pc' := 138) rfl ?_
      refine F_callV X6 (y := (⟨"com/example/libdeleg/libdeleg/proof/Permission", "voucher", "()[B"⟩ : MethodName)) (stk := []) (wd23 hw) (wd24 hw) (wd26 hw) (wd25 hw) (wd3 hw) (wd27 hw) (by decide) (a := b5) E6_b5 (argsL := []) (conV0 l Z a0 hw n0 h6 X6.size b5 F6_voucher_b5) (by decide) (W := 0) (Nat.le_of_ble_eq_true rfl) (by decide) (by decide) (by decide) rfl (lenOf pd1 rfl) rfl at_138 (pc' := 141) rfl fun T7 v7 h7 X7 q7 => ?_
      obtain ⟨rfl, rfl⟩ := q7
      replace X7 := X7.more (cells' := 4) (slots' := 6) (by decide) (by decide)
      show Jvm.OwnKit.Ends p e below s n0 24 128 _ T7 (mkF m 141 #[.val (.int u1), .val (.int u2), .val (.int u3), .val (.int u4), .val (.int u5), .val (.int (0 : Int32)), .val (.int (0 : Int32)), .val (.ref b2), .val (.ref b3), .val (.ref b5), .unset, .unset] [.null])
      refine F_astore X7 at_141 rfl (Ls' := #[.val (.int u1), .val (.int u2), .val (.int u3), .val (.int u4), .val (.int u5), .val (.int (0 : Int32)), .val (.int (0 : Int32)), .val (.ref b2), .val (.ref b3), .val (.ref b5), .val .null, .unset]) rfl (pc' := 143) rfl ?_
      refine F_iload X7 at_143 rfl (pc' := 145) rfl ?_
      refine F_if_ne X7 at_145 (by decide) (pt := 167) (by decide) (pc' := 148) rfl (fun q => absurd q (by decide)) (fun _ => ?_)
      refine F_aload X7 at_148 rfl rfl (pc' := 150) rfl ?_
      refine F_ifnonnull_null X7 at_150 (pc' := 153) rfl ?_
      refine F_aload X7 at_153 rfl rfl (pc' := 155) rfl ?_
      refine F_callV X7 (y := (⟨"com/example/libdeleg/libdeleg/proof/Permission", "voucher", "()[B"⟩ : MethodName)) (stk := []) (wd23 hw) (wd24 hw) (wd26 hw) (wd25 hw) (wd3 hw) (wd27 hw) (by decide) (a := b5) E6_b5 (argsL := []) (conV0 l Z a0 hw n0 h6 X7.size b5 F6_voucher_b5) (by decide) (W := 0) (Nat.le_of_ble_eq_true rfl) (by decide) (by decide) (by decide) rfl (lenOf pd1 rfl) rfl at_155 (pc' := 158) rfl fun T8 v8 h8 X8 q8 => ?_
      obtain ⟨rfl, rfl⟩ := q8
      replace X8 := X8.more (cells' := 4) (slots' := 6) (by decide) (by decide)
      show Jvm.OwnKit.Ends p e below s n0 24 128 _ T8 (mkF m 158 #[.val (.int u1), .val (.int u2), .val (.int u3), .val (.int u4), .val (.int u5), .val (.int (0 : Int32)), .val (.int (0 : Int32)), .val (.ref b2), .val (.ref b3), .val (.ref b5), .val .null, .unset] [.null])
      refine F_ifnonnull_null X8 at_158 (pc' := 161) rfl ?_
      refine F_iconst X8 at_161 (z := (1 : Int32)) (by decide) (pc' := 162) rfl ?_
      refine F_goto X8 at_162 (by decide) (pc' := 166) (by decide) ?_
      refine F_ireturn_boolean (z' := (1 : Int32)) X8 (by decide) at_166 rfl (by decide) (by decide) ?_
      exact rfl
    · refine F_istore X0 at_18 (Ls' := #[.val (.int u1), .val (.int u2), .val (.int u3), .val (.int u4), .val (.int u5), .val (.int (0 : Int32)), .val (.int (1 : Int32)), .unset, .unset, .unset, .unset, .unset]) rfl (pc' := 20) rfl ?_
      refine F_iload X0 at_20 rfl (pc' := 22) rfl ?_
      refine F_newarray X0 (aty := .byte) (wd0 hw) (by decide) (cap := 1) (by decide) (by decide) (by decide) (by decide) (ad := "[B") rfl at_22 (pc' := 24) rfl fun T9 h9 b9 X9 Ex9 g9 ge9 E_b9 A9 => ?_
      replace A9 : AV Z h9 b9 .byte [(.int (0 : Int32))] := A9
      replace X9 := X9.more (cells' := 1) (slots' := 1) (by decide) (by decide)
      refine F_astore X9 at_24 rfl (Ls' := #[.val (.int u1), .val (.int u2), .val (.int u3), .val (.int u4), .val (.int u5), .val (.int (0 : Int32)), .val (.int (1 : Int32)), .val (.ref b9), .unset, .unset, .unset, .unset]) rfl (pc' := 26) rfl ?_
      refine F_iload X9 at_26 rfl (pc' := 28) rfl ?_
      refine F_if_le X9 at_28 (by decide) (pt := 37) (by decide) (pc' := 31) rfl (fun q => absurd q (by decide)) (fun _ => ?_)
      refine F_aload X9 at_31 rfl rfl (pc' := 33) rfl ?_
      refine F_iconst X9 at_33 (z := (0 : Int32)) (by decide) (pc' := 34) rfl ?_
      refine F_iloadN X9 at_34 rfl (pc' := 35) rfl ?_
      refine F_i2b X9 at_35 rfl (pc' := 36) rfl ?_
      refine F_bastore X9 A9 (by decide) (i := 0) (by decide) (Nat.le_of_ble_eq_true rfl) ge9 (z := (u3.toInt8.toInt32)) (own_bb _) at_36 (pc' := 37) rfl fun T10 h10 X10 W10 A10 => ?_
      replace A10 : AV Z h10 b9 .byte [(.int (u3.toInt8.toInt32))] := A10
      have E10_b9 := E_b9.wr W10
      refine F_iload X10 at_37 rfl (pc' := 39) rfl ?_
      refine F_iconst X10 at_39 (z := (1 : Int32)) (by decide) (pc' := 40) rfl ?_
      refine F_icmp_le X10 at_40 (by decide) (pt := 49) (by decide) (pc' := 43) rfl (fun _ => ?_) (fun q => absurd q (by decide))
      refine F_iload X10 at_49 rfl (pc' := 51) rfl ?_
      refine F_iconst X10 at_51 (z := (2 : Int32)) (by decide) (pc' := 52) rfl ?_
      refine F_icmp_le X10 at_52 (by decide) (pt := 62) (by decide) (pc' := 55) rfl (fun _ => ?_) (fun q => absurd q (by decide))
      refine F_iconst X10 at_62 (z := (1 : Int32)) (by decide) (pc' := 63) rfl ?_
      refine F_newarray X10 (aty := .byte) (wd0 hw) (by decide) (cap := 1) (by decide) (by decide) (by decide) (by decide) (ad := "[B") rfl at_63 (pc' := 65) rfl fun T11 h11 b11 X11 Ex11 g11 ge11 E_b11 A11 => ?_
      replace A11 : AV Z h11 b11 .byte [(.int (0 : Int32))] := A11
      have ne_b9_b11 : b9 ≠ b11 := Nat.ne_of_lt (Nat.lt_of_lt_of_le E10_b9.lt (Nat.le_of_eq g11.symm))
      have E11_b9 := E10_b9.ext Ex11
      have A11_b9 := A10.ext Ex11
      replace X11 := X11.more (cells' := 2) (slots' := 2) (by decide) (by decide)
      refine F_dup X11 at_65 rfl (pc' := 66) rfl ?_
      refine F_iconst X11 at_66 (z := (0 : Int32)) (by decide) (pc' := 67) rfl ?_
      refine F_iloadN X11 at_67 rfl (pc' := 68) rfl ?_
      refine F_i2b X11 at_68 rfl (pc' := 69) rfl ?_
      refine F_bastore X11 A11 (by decide) (i := 0) (by decide) (Nat.le_of_ble_eq_true rfl) ge11 (z := (u2.toInt8.toInt32)) (own_bb _) at_69 (pc' := 70) rfl fun T12 h12 X12 W12 A12 => ?_
      replace A12 : AV Z h12 b11 .byte [(.int (u2.toInt8.toInt32))] := A12
      have E12_b9 := E11_b9.wr W12
      have E12_b11 := E_b11.wr W12
      have A12_b9 := A11_b9.other W12 ne_b9_b11
      refine F_astore X12 at_70 rfl (Ls' := #[.val (.int u1), .val (.int u2), .val (.int u3), .val (.int u4), .val (.int u5), .val (.int (0 : Int32)), .val (.int (1 : Int32)), .val (.ref b9), .val (.ref b11), .unset, .unset, .unset]) rfl (pc' := 72) rfl ?_
      refine F_new X12 (wd1 hw) (wd2 hw) (wd3 hw) (by decide) (by decide) at_72 (pc' := 75) rfl fun T13 h13 b13 X13 Ex13 g13 ge13 E_b13 D13 => ?_
      have ne_b9_b13 : b9 ≠ b13 := Nat.ne_of_lt (Nat.lt_of_lt_of_le E12_b9.lt (Nat.le_of_eq g13.symm))
      have ne_b11_b13 : b11 ≠ b13 := Nat.ne_of_lt (Nat.lt_of_lt_of_le E12_b11.lt (Nat.le_of_eq g13.symm))
      have E13_b9 := E12_b9.ext Ex13
      have E13_b11 := E12_b11.ext Ex13
      have A13_b9 := A12_b9.ext Ex13
      have A13_b11 := A12.ext Ex13
      have F13_proof_b13 : Fld Z h13 b13 "com/example/libdeleg/libdeleg/proof/Permission" "proof" "[B" .null := D13 (Or.inr (wd20 hw)) (ty := (.array .byte)) (by decide)
      have F13_voucher_b13 : Fld Z h13 b13 "com/example/libdeleg/libdeleg/proof/Permission" "voucher" "[B" .null := D13 (Or.inr (wd22 hw)) (ty := (.array .byte)) (by decide)
      replace X13 := X13.more (cells' := 3) (slots' := 4) (by decide) (by decide)
      refine F_dup X13 at_75 rfl (pc' := 76) rfl ?_
      refine F_aload X13 at_76 rfl rfl (pc' := 78) rfl ?_
      refine F_iload X13 at_78 rfl (pc' := 80) rfl ?_
      refine F_if_eq X13 at_80 (by decide) (pt := 88) (by decide) (pc' := 83) rfl (fun _ => ?_) (fun q => absurd q (by decide))
      refine F_aconst_null X13 at_88 (pc' := 89) rfl ?_
      refine F_init X13 (y := (⟨"com/example/libdeleg/libdeleg/proof/Permission", "<init>", "([B[B)V"⟩ : MethodName)) (stk := [(.ref b13)]) rfl (wd4 hw) (wd5 hw) (wd3 hw) (wd6 hw) (by decide) (a := b13) (argsL := [(.ref b11), .null]) (conI0 l Z a0 hw n0 h13 X13.size b13 b11 [(.int (u2.toInt8.toInt32))] E_b13 E13_b11 F13_proof_b13 F13_voucher_b13 A13_b11 ge13 (Ne.symm ne_b11_b13) (by exact Nat.le_of_ble_eq_true rfl)) (by decide) (W := 1) (Nat.le_of_ble_eq_true rfl) (by decide) (by decide) (by decide) rfl (lenOf pd0 rfl) rfl at_89 (pc' := 92) rfl fun T14 v14 h14 X14 q14 => ?_
      obtain ⟨rfl, Kp14, E14_b13, F14_voucher_b13⟩ := q14
      have E14k_b9 := E13_b9.keep Kp14
      have E14k_b11 := E13_b11.keep Kp14
      have E14k_b13 := E_b13.keep Kp14
      have A14k_b9 := A13_b9.keep Kp14 (ninS ne_b9_b13 nin0)
      have A14k_b11 := A13_b11.keep Kp14 (ninS ne_b11_b13 nin0)
      replace X14 := X14.more (cells' := 4) (slots' := 7) (by decide) (by decide)
      show Jvm.OwnKit.Ends p e below s n0 24 128 _ T14 (mkF m 92 #[.val (.int u1), .val (.int u2), .val (.int u3), .val (.int u4), .val (.int u5), .val (.int (0 : Int32)), .val (.int (1 : Int32)), .val (.ref b9), .val (.ref b11), .unset, .unset, .unset] [(.ref b13)])
      refine F_astore X14 at_92 rfl (Ls' := #[.val (.int u1), .val (.int u2), .val (.int u3), .val (.int u4), .val (.int u5), .val (.int (0 : Int32)), .val (.int (1 : Int32)), .val (.ref b9), .val (.ref b11), .val (.ref b13), .unset, .unset]) rfl (pc' := 94) rfl ?_
      refine F_iload X14 at_94 rfl (pc' := 96) rfl ?_
      refine F_if_le X14 at_96 (by decide) (pt := 107) (by decide) (pc' := 99) rfl (fun q => absurd q (by decide)) (fun _ => ?_)
      refine F_aload X14 at_99 rfl rfl (pc' := 101) rfl ?_
      refine F_iconst X14 at_101 (z := (0 : Int32)) (by decide) (pc' := 102) rfl ?_
      refine F_iloadN X14 at_102 rfl (pc' := 103) rfl ?_
      refine F_iconst X14 at_103 (z := (1 : Int32)) (by decide) (pc' := 104) rfl ?_
      refine F_ixor X14 at_104 rfl (pc' := 105) rfl ?_
      refine F_i2b X14 at_105 rfl (pc' := 106) rfl ?_
      refine F_bastore X14 A14k_b9 (by decide) (i := 0) (by decide) (Nat.le_of_ble_eq_true rfl) ge9 (z := ((u3 ^^^ (1 : Int32)).toInt8.toInt32)) (own_bb _) at_106 (pc' := 107) rfl fun T15 h15 X15 W15 A15 => ?_
      replace A15 : AV Z h15 b9 .byte [(.int ((u3 ^^^ (1 : Int32)).toInt8.toInt32))] := A15
      have E15_b9 := E14k_b9.wr W15
      have E15_b11 := E14k_b11.wr W15
      have E15_b13 := E14_b13.wr W15
      have F15_voucher_b13 := F14_voucher_b13.other W15 (Or.inl (Ne.symm ne_b9_b13))
      have A15_b11 := A14k_b11.other W15 (Ne.symm ne_b9_b11)
      refine F_iload X15 at_107 rfl (pc' := 109) rfl ?_
      refine F_iconst X15 at_109 (z := (1 : Int32)) (by decide) (pc' := 110) rfl ?_
      refine F_icmp_le X15 at_110 (by decide) (pt := 121) (by decide) (pc' := 113) rfl (fun _ => ?_) (fun q => absurd q (by decide))
      refine F_iload X15 at_121 rfl (pc' := 123) rfl ?_
      refine F_iconst X15 at_123 (z := (2 : Int32)) (by decide) (pc' := 124) rfl ?_
      refine F_icmp_le X15 at_124 (by decide) (pt := 136) (by decide) (pc' := 127) rfl (fun _ => ?_) (fun q => absurd q (by decide))
      refine F_aload X15 at_136 rfl rfl (pc' := 138) rfl ?_
      refine F_callV X15 (y := (⟨"com/example/libdeleg/libdeleg/proof/Permission", "voucher", "()[B"⟩ : MethodName)) (stk := []) (wd23 hw) (wd24 hw) (wd26 hw) (wd25 hw) (wd3 hw) (wd27 hw) (by decide) (a := b13) E15_b13 (argsL := []) (conV0 l Z a0 hw n0 h15 X15.size b13 F15_voucher_b13) (by decide) (W := 0) (Nat.le_of_ble_eq_true rfl) (by decide) (by decide) (by decide) rfl (lenOf pd1 rfl) rfl at_138 (pc' := 141) rfl fun T16 v16 h16 X16 q16 => ?_
      obtain ⟨rfl, rfl⟩ := q16
      replace X16 := X16.more (cells' := 4) (slots' := 7) (by decide) (by decide)
      show Jvm.OwnKit.Ends p e below s n0 24 128 _ T16 (mkF m 141 #[.val (.int u1), .val (.int u2), .val (.int u3), .val (.int u4), .val (.int u5), .val (.int (0 : Int32)), .val (.int (1 : Int32)), .val (.ref b9), .val (.ref b11), .val (.ref b13), .unset, .unset] [.null])
      refine F_astore X16 at_141 rfl (Ls' := #[.val (.int u1), .val (.int u2), .val (.int u3), .val (.int u4), .val (.int u5), .val (.int (0 : Int32)), .val (.int (1 : Int32)), .val (.ref b9), .val (.ref b11), .val (.ref b13), .val .null, .unset]) rfl (pc' := 143) rfl ?_
      refine F_iload X16 at_143 rfl (pc' := 145) rfl ?_
      refine F_if_ne X16 at_145 (by decide) (pt := 167) (by decide) (pc' := 148) rfl (fun q => absurd q (by decide)) (fun _ => ?_)
      refine F_aload X16 at_148 rfl rfl (pc' := 150) rfl ?_
      refine F_ifnonnull_null X16 at_150 (pc' := 153) rfl ?_
      refine F_aload X16 at_153 rfl rfl (pc' := 155) rfl ?_
      refine F_callV X16 (y := (⟨"com/example/libdeleg/libdeleg/proof/Permission", "voucher", "()[B"⟩ : MethodName)) (stk := []) (wd23 hw) (wd24 hw) (wd26 hw) (wd25 hw) (wd3 hw) (wd27 hw) (by decide) (a := b13) E15_b13 (argsL := []) (conV0 l Z a0 hw n0 h15 X16.size b13 F15_voucher_b13) (by decide) (W := 0) (Nat.le_of_ble_eq_true rfl) (by decide) (by decide) (by decide) rfl (lenOf pd1 rfl) rfl at_155 (pc' := 158) rfl fun T17 v17 h17 X17 q17 => ?_
      obtain ⟨rfl, rfl⟩ := q17
      replace X17 := X17.more (cells' := 4) (slots' := 7) (by decide) (by decide)
      show Jvm.OwnKit.Ends p e below s n0 24 128 _ T17 (mkF m 158 #[.val (.int u1), .val (.int u2), .val (.int u3), .val (.int u4), .val (.int u5), .val (.int (0 : Int32)), .val (.int (1 : Int32)), .val (.ref b9), .val (.ref b11), .val (.ref b13), .val .null, .unset] [.null])
      refine F_ifnonnull_null X17 at_158 (pc' := 161) rfl ?_
      refine F_iconst X17 at_161 (z := (1 : Int32)) (by decide) (pc' := 162) rfl ?_
      refine F_goto X17 at_162 (by decide) (pc' := 166) (by decide) ?_
      refine F_ireturn_boolean (z' := (1 : Int32)) X17 (by decide) at_166 rfl (by decide) (by decide) ?_
      exact rfl
    · refine F_istore X0 at_18 (Ls' := #[.val (.int u1), .val (.int u2), .val (.int u3), .val (.int u4), .val (.int u5), .val (.int (0 : Int32)), .val (.int (2 : Int32)), .unset, .unset, .unset, .unset, .unset]) rfl (pc' := 20) rfl ?_
      refine F_iload X0 at_20 rfl (pc' := 22) rfl ?_
      refine F_newarray X0 (aty := .byte) (wd0 hw) (by decide) (cap := 2) (by decide) (by decide) (by decide) (by decide) (ad := "[B") rfl at_22 (pc' := 24) rfl fun T18 h18 b18 X18 Ex18 g18 ge18 E_b18 A18 => ?_
      replace A18 : AV Z h18 b18 .byte [(.int (0 : Int32)), (.int (0 : Int32))] := A18
      replace X18 := X18.more (cells' := 1) (slots' := 2) (by decide) (by decide)
      refine F_astore X18 at_24 rfl (Ls' := #[.val (.int u1), .val (.int u2), .val (.int u3), .val (.int u4), .val (.int u5), .val (.int (0 : Int32)), .val (.int (2 : Int32)), .val (.ref b18), .unset, .unset, .unset, .unset]) rfl (pc' := 26) rfl ?_
      refine F_iload X18 at_26 rfl (pc' := 28) rfl ?_
      refine F_if_le X18 at_28 (by decide) (pt := 37) (by decide) (pc' := 31) rfl (fun q => absurd q (by decide)) (fun _ => ?_)
      refine F_aload X18 at_31 rfl rfl (pc' := 33) rfl ?_
      refine F_iconst X18 at_33 (z := (0 : Int32)) (by decide) (pc' := 34) rfl ?_
      refine F_iloadN X18 at_34 rfl (pc' := 35) rfl ?_
      refine F_i2b X18 at_35 rfl (pc' := 36) rfl ?_
      refine F_bastore X18 A18 (by decide) (i := 0) (by decide) (Nat.le_of_ble_eq_true rfl) ge18 (z := (u3.toInt8.toInt32)) (own_bb _) at_36 (pc' := 37) rfl fun T19 h19 X19 W19 A19 => ?_
      replace A19 : AV Z h19 b18 .byte [(.int (u3.toInt8.toInt32)), (.int (0 : Int32))] := A19
      have E19_b18 := E_b18.wr W19
      refine F_iload X19 at_37 rfl (pc' := 39) rfl ?_
      refine F_iconst X19 at_39 (z := (1 : Int32)) (by decide) (pc' := 40) rfl ?_
      refine F_icmp_le X19 at_40 (by decide) (pt := 49) (by decide) (pc' := 43) rfl (fun q => absurd q (by decide)) (fun _ => ?_)
      refine F_aload X19 at_43 rfl rfl (pc' := 45) rfl ?_
      refine F_iconst X19 at_45 (z := (1 : Int32)) (by decide) (pc' := 46) rfl ?_
      refine F_iloadN X19 at_46 rfl (pc' := 47) rfl ?_
      refine F_i2b X19 at_47 rfl (pc' := 48) rfl ?_
      refine F_bastore X19 A19 (by decide) (i := 1) (by decide) (Nat.le_of_ble_eq_true rfl) ge18 (z := (u4.toInt8.toInt32)) (own_bb _) at_48 (pc' := 49) rfl fun T20 h20 X20 W20 A20 => ?_
      replace A20 : AV Z h20 b18 .byte [(.int (u3.toInt8.toInt32)), (.int (u4.toInt8.toInt32))] := A20
      have E20_b18 := E19_b18.wr W20
      refine F_iload X20 at_49 rfl (pc' := 51) rfl ?_
      refine F_iconst X20 at_51 (z := (2 : Int32)) (by decide) (pc' := 52) rfl ?_
      refine F_icmp_le X20 at_52 (by decide) (pt := 62) (by decide) (pc' := 55) rfl (fun _ => ?_) (fun q => absurd q (by decide))
      refine F_iconst X20 at_62 (z := (1 : Int32)) (by decide) (pc' := 63) rfl ?_
      refine F_newarray X20 (aty := .byte) (wd0 hw) (by decide) (cap := 1) (by decide) (by decide) (by decide) (by decide) (ad := "[B") rfl at_63 (pc' := 65) rfl fun T21 h21 b21 X21 Ex21 g21 ge21 E_b21 A21 => ?_
      replace A21 : AV Z h21 b21 .byte [(.int (0 : Int32))] := A21
      have ne_b18_b21 : b18 ≠ b21 := Nat.ne_of_lt (Nat.lt_of_lt_of_le E20_b18.lt (Nat.le_of_eq g21.symm))
      have E21_b18 := E20_b18.ext Ex21
      have A21_b18 := A20.ext Ex21
      replace X21 := X21.more (cells' := 2) (slots' := 3) (by decide) (by decide)
      refine F_dup X21 at_65 rfl (pc' := 66) rfl ?_
      refine F_iconst X21 at_66 (z := (0 : Int32)) (by decide) (pc' := 67) rfl ?_
      refine F_iloadN X21 at_67 rfl (pc' := 68) rfl ?_
      refine F_i2b X21 at_68 rfl (pc' := 69) rfl ?_
      refine F_bastore X21 A21 (by decide) (i := 0) (by decide) (Nat.le_of_ble_eq_true rfl) ge21 (z := (u2.toInt8.toInt32)) (own_bb _) at_69 (pc' := 70) rfl fun T22 h22 X22 W22 A22 => ?_
      replace A22 : AV Z h22 b21 .byte [(.int (u2.toInt8.toInt32))] := A22
      have E22_b18 := E21_b18.wr W22
      have E22_b21 := E_b21.wr W22
      have A22_b18 := A21_b18.other W22 ne_b18_b21
      refine F_astore X22 at_70 rfl (Ls' := #[.val (.int u1), .val (.int u2), .val (.int u3), .val (.int u4), .val (.int u5), .val (.int (0 : Int32)), .val (.int (2 : Int32)), .val (.ref b18), .val (.ref b21), .unset, .unset, .unset]) rfl (pc' := 72) rfl ?_
      refine F_new X22 (wd1 hw) (wd2 hw) (wd3 hw) (by decide) (by decide) at_72 (pc' := 75) rfl fun T23 h23 b23 X23 Ex23 g23 ge23 E_b23 D23 => ?_
      have ne_b18_b23 : b18 ≠ b23 := Nat.ne_of_lt (Nat.lt_of_lt_of_le E22_b18.lt (Nat.le_of_eq g23.symm))
      have ne_b21_b23 : b21 ≠ b23 := Nat.ne_of_lt (Nat.lt_of_lt_of_le E22_b21.lt (Nat.le_of_eq g23.symm))
      have E23_b18 := E22_b18.ext Ex23
      have E23_b21 := E22_b21.ext Ex23
      have A23_b18 := A22_b18.ext Ex23
      have A23_b21 := A22.ext Ex23
      have F23_proof_b23 : Fld Z h23 b23 "com/example/libdeleg/libdeleg/proof/Permission" "proof" "[B" .null := D23 (Or.inr (wd20 hw)) (ty := (.array .byte)) (by decide)
      have F23_voucher_b23 : Fld Z h23 b23 "com/example/libdeleg/libdeleg/proof/Permission" "voucher" "[B" .null := D23 (Or.inr (wd22 hw)) (ty := (.array .byte)) (by decide)
      replace X23 := X23.more (cells' := 3) (slots' := 5) (by decide) (by decide)
      refine F_dup X23 at_75 rfl (pc' := 76) rfl ?_
      refine F_aload X23 at_76 rfl rfl (pc' := 78) rfl ?_
      refine F_iload X23 at_78 rfl (pc' := 80) rfl ?_
      refine F_if_eq X23 at_80 (by decide) (pt := 88) (by decide) (pc' := 83) rfl (fun _ => ?_) (fun q => absurd q (by decide))
      refine F_aconst_null X23 at_88 (pc' := 89) rfl ?_
      refine F_init X23 (y := (⟨"com/example/libdeleg/libdeleg/proof/Permission", "<init>", "([B[B)V"⟩ : MethodName)) (stk := [(.ref b23)]) rfl (wd4 hw) (wd5 hw) (wd3 hw) (wd6 hw) (by decide) (a := b23) (argsL := [(.ref b21), .null]) (conI0 l Z a0 hw n0 h23 X23.size b23 b21 [(.int (u2.toInt8.toInt32))] E_b23 E23_b21 F23_proof_b23 F23_voucher_b23 A23_b21 ge23 (Ne.symm ne_b21_b23) (by exact Nat.le_of_ble_eq_true rfl)) (by decide) (W := 1) (Nat.le_of_ble_eq_true rfl) (by decide) (by decide) (by decide) rfl (lenOf pd0 rfl) rfl at_89 (pc' := 92) rfl fun T24 v24 h24 X24 q24 => ?_
      obtain ⟨rfl, Kp24, E24_b23, F24_voucher_b23⟩ := q24
      have E24k_b18 := E23_b18.keep Kp24
      have E24k_b21 := E23_b21.keep Kp24
      have E24k_b23 := E_b23.keep Kp24
      have A24k_b18 := A23_b18.keep Kp24 (ninS ne_b18_b23 nin0)
      have A24k_b21 := A23_b21.keep Kp24 (ninS ne_b21_b23 nin0)
      replace X24 := X24.more (cells' := 4) (slots' := 8) (by decide) (by decide)
      show Jvm.OwnKit.Ends p e below s n0 24 128 _ T24 (mkF m 92 #[.val (.int u1), .val (.int u2), .val (.int u3), .val (.int u4), .val (.int u5), .val (.int (0 : Int32)), .val (.int (2 : Int32)), .val (.ref b18), .val (.ref b21), .unset, .unset, .unset] [(.ref b23)])
      refine F_astore X24 at_92 rfl (Ls' := #[.val (.int u1), .val (.int u2), .val (.int u3), .val (.int u4), .val (.int u5), .val (.int (0 : Int32)), .val (.int (2 : Int32)), .val (.ref b18), .val (.ref b21), .val (.ref b23), .unset, .unset]) rfl (pc' := 94) rfl ?_
      refine F_iload X24 at_94 rfl (pc' := 96) rfl ?_
      refine F_if_le X24 at_96 (by decide) (pt := 107) (by decide) (pc' := 99) rfl (fun q => absurd q (by decide)) (fun _ => ?_)
      refine F_aload X24 at_99 rfl rfl (pc' := 101) rfl ?_
      refine F_iconst X24 at_101 (z := (0 : Int32)) (by decide) (pc' := 102) rfl ?_
      refine F_iloadN X24 at_102 rfl (pc' := 103) rfl ?_
      refine F_iconst X24 at_103 (z := (1 : Int32)) (by decide) (pc' := 104) rfl ?_
      refine F_ixor X24 at_104 rfl (pc' := 105) rfl ?_
      refine F_i2b X24 at_105 rfl (pc' := 106) rfl ?_
      refine F_bastore X24 A24k_b18 (by decide) (i := 0) (by decide) (Nat.le_of_ble_eq_true rfl) ge18 (z := ((u3 ^^^ (1 : Int32)).toInt8.toInt32)) (own_bb _) at_106 (pc' := 107) rfl fun T25 h25 X25 W25 A25 => ?_
      replace A25 : AV Z h25 b18 .byte [(.int ((u3 ^^^ (1 : Int32)).toInt8.toInt32)), (.int (u4.toInt8.toInt32))] := A25
      have E25_b18 := E24k_b18.wr W25
      have E25_b21 := E24k_b21.wr W25
      have E25_b23 := E24_b23.wr W25
      have F25_voucher_b23 := F24_voucher_b23.other W25 (Or.inl (Ne.symm ne_b18_b23))
      have A25_b21 := A24k_b21.other W25 (Ne.symm ne_b18_b21)
      refine F_iload X25 at_107 rfl (pc' := 109) rfl ?_
      refine F_iconst X25 at_109 (z := (1 : Int32)) (by decide) (pc' := 110) rfl ?_
      refine F_icmp_le X25 at_110 (by decide) (pt := 121) (by decide) (pc' := 113) rfl (fun q => absurd q (by decide)) (fun _ => ?_)
      refine F_aload X25 at_113 rfl rfl (pc' := 115) rfl ?_
      refine F_iconst X25 at_115 (z := (1 : Int32)) (by decide) (pc' := 116) rfl ?_
      refine F_iloadN X25 at_116 rfl (pc' := 117) rfl ?_
      refine F_iconst X25 at_117 (z := (1 : Int32)) (by decide) (pc' := 118) rfl ?_
      refine F_ixor X25 at_118 rfl (pc' := 119) rfl ?_
      refine F_i2b X25 at_119 rfl (pc' := 120) rfl ?_
      refine F_bastore X25 A25 (by decide) (i := 1) (by decide) (Nat.le_of_ble_eq_true rfl) ge18 (z := ((u4 ^^^ (1 : Int32)).toInt8.toInt32)) (own_bb _) at_120 (pc' := 121) rfl fun T26 h26 X26 W26 A26 => ?_
      replace A26 : AV Z h26 b18 .byte [(.int ((u3 ^^^ (1 : Int32)).toInt8.toInt32)), (.int ((u4 ^^^ (1 : Int32)).toInt8.toInt32))] := A26
      have E26_b18 := E25_b18.wr W26
      have E26_b21 := E25_b21.wr W26
      have E26_b23 := E25_b23.wr W26
      have F26_voucher_b23 := F25_voucher_b23.other W26 (Or.inl (Ne.symm ne_b18_b23))
      have A26_b21 := A25_b21.other W26 (Ne.symm ne_b18_b21)
      refine F_iload X26 at_121 rfl (pc' := 123) rfl ?_
      refine F_iconst X26 at_123 (z := (2 : Int32)) (by decide) (pc' := 124) rfl ?_
      refine F_icmp_le X26 at_124 (by decide) (pt := 136) (by decide) (pc' := 127) rfl (fun _ => ?_) (fun q => absurd q (by decide))
      refine F_aload X26 at_136 rfl rfl (pc' := 138) rfl ?_
      refine F_callV X26 (y := (⟨"com/example/libdeleg/libdeleg/proof/Permission", "voucher", "()[B"⟩ : MethodName)) (stk := []) (wd23 hw) (wd24 hw) (wd26 hw) (wd25 hw) (wd3 hw) (wd27 hw) (by decide) (a := b23) E26_b23 (argsL := []) (conV0 l Z a0 hw n0 h26 X26.size b23 F26_voucher_b23) (by decide) (W := 0) (Nat.le_of_ble_eq_true rfl) (by decide) (by decide) (by decide) rfl (lenOf pd1 rfl) rfl at_138 (pc' := 141) rfl fun T27 v27 h27 X27 q27 => ?_
      obtain ⟨rfl, rfl⟩ := q27
      replace X27 := X27.more (cells' := 4) (slots' := 8) (by decide) (by decide)
      show Jvm.OwnKit.Ends p e below s n0 24 128 _ T27 (mkF m 141 #[.val (.int u1), .val (.int u2), .val (.int u3), .val (.int u4), .val (.int u5), .val (.int (0 : Int32)), .val (.int (2 : Int32)), .val (.ref b18), .val (.ref b21), .val (.ref b23), .unset, .unset] [.null])
      refine F_astore X27 at_141 rfl (Ls' := #[.val (.int u1), .val (.int u2), .val (.int u3), .val (.int u4), .val (.int u5), .val (.int (0 : Int32)), .val (.int (2 : Int32)), .val (.ref b18), .val (.ref b21), .val (.ref b23), .val .null, .unset]) rfl (pc' := 143) rfl ?_
      refine F_iload X27 at_143 rfl (pc' := 145) rfl ?_
      refine F_if_ne X27 at_145 (by decide) (pt := 167) (by decide) (pc' := 148) rfl (fun q => absurd q (by decide)) (fun _ => ?_)
      refine F_aload X27 at_148 rfl rfl (pc' := 150) rfl ?_
      refine F_ifnonnull_null X27 at_150 (pc' := 153) rfl ?_
      refine F_aload X27 at_153 rfl rfl (pc' := 155) rfl ?_
      refine F_callV X27 (y := (⟨"com/example/libdeleg/libdeleg/proof/Permission", "voucher", "()[B"⟩ : MethodName)) (stk := []) (wd23 hw) (wd24 hw) (wd26 hw) (wd25 hw) (wd3 hw) (wd27 hw) (by decide) (a := b23) E26_b23 (argsL := []) (conV0 l Z a0 hw n0 h26 X27.size b23 F26_voucher_b23) (by decide) (W := 0) (Nat.le_of_ble_eq_true rfl) (by decide) (by decide) (by decide) rfl (lenOf pd1 rfl) rfl at_155 (pc' := 158) rfl fun T28 v28 h28 X28 q28 => ?_
      obtain ⟨rfl, rfl⟩ := q28
      replace X28 := X28.more (cells' := 4) (slots' := 8) (by decide) (by decide)
      show Jvm.OwnKit.Ends p e below s n0 24 128 _ T28 (mkF m 158 #[.val (.int u1), .val (.int u2), .val (.int u3), .val (.int u4), .val (.int u5), .val (.int (0 : Int32)), .val (.int (2 : Int32)), .val (.ref b18), .val (.ref b21), .val (.ref b23), .val .null, .unset] [.null])
      refine F_ifnonnull_null X28 at_158 (pc' := 161) rfl ?_
      refine F_iconst X28 at_161 (z := (1 : Int32)) (by decide) (pc' := 162) rfl ?_
      refine F_goto X28 at_162 (by decide) (pc' := 166) (by decide) ?_
      refine F_ireturn_boolean (z' := (1 : Int32)) X28 (by decide) at_166 rfl (by decide) (by decide) ?_
      exact rfl
    · refine F_istore X0 at_18 (Ls' := #[.val (.int u1), .val (.int u2), .val (.int u3), .val (.int u4), .val (.int u5), .val (.int (0 : Int32)), .val (.int (3 : Int32)), .unset, .unset, .unset, .unset, .unset]) rfl (pc' := 20) rfl ?_
      refine F_iload X0 at_20 rfl (pc' := 22) rfl ?_
      refine F_newarray X0 (aty := .byte) (wd0 hw) (by decide) (cap := 3) (by decide) (by decide) (by decide) (by decide) (ad := "[B") rfl at_22 (pc' := 24) rfl fun T29 h29 b29 X29 Ex29 g29 ge29 E_b29 A29 => ?_
      replace A29 : AV Z h29 b29 .byte [(.int (0 : Int32)), (.int (0 : Int32)), (.int (0 : Int32))] := A29
      replace X29 := X29.more (cells' := 1) (slots' := 3) (by decide) (by decide)
      refine F_astore X29 at_24 rfl (Ls' := #[.val (.int u1), .val (.int u2), .val (.int u3), .val (.int u4), .val (.int u5), .val (.int (0 : Int32)), .val (.int (3 : Int32)), .val (.ref b29), .unset, .unset, .unset, .unset]) rfl (pc' := 26) rfl ?_
      refine F_iload X29 at_26 rfl (pc' := 28) rfl ?_
      refine F_if_le X29 at_28 (by decide) (pt := 37) (by decide) (pc' := 31) rfl (fun q => absurd q (by decide)) (fun _ => ?_)
      refine F_aload X29 at_31 rfl rfl (pc' := 33) rfl ?_
      refine F_iconst X29 at_33 (z := (0 : Int32)) (by decide) (pc' := 34) rfl ?_
      refine F_iloadN X29 at_34 rfl (pc' := 35) rfl ?_
      refine F_i2b X29 at_35 rfl (pc' := 36) rfl ?_
      refine F_bastore X29 A29 (by decide) (i := 0) (by decide) (Nat.le_of_ble_eq_true rfl) ge29 (z := (u3.toInt8.toInt32)) (own_bb _) at_36 (pc' := 37) rfl fun T30 h30 X30 W30 A30 => ?_
      replace A30 : AV Z h30 b29 .byte [(.int (u3.toInt8.toInt32)), (.int (0 : Int32)), (.int (0 : Int32))] := A30
      have E30_b29 := E_b29.wr W30
      refine F_iload X30 at_37 rfl (pc' := 39) rfl ?_
      refine F_iconst X30 at_39 (z := (1 : Int32)) (by decide) (pc' := 40) rfl ?_
      refine F_icmp_le X30 at_40 (by decide) (pt := 49) (by decide) (pc' := 43) rfl (fun q => absurd q (by decide)) (fun _ => ?_)
      refine F_aload X30 at_43 rfl rfl (pc' := 45) rfl ?_
      refine F_iconst X30 at_45 (z := (1 : Int32)) (by decide) (pc' := 46) rfl ?_
      refine F_iloadN X30 at_46 rfl (pc' := 47) rfl ?_
      refine F_i2b X30 at_47 rfl (pc' := 48) rfl ?_
      refine F_bastore X30 A30 (by decide) (i := 1) (by decide) (Nat.le_of_ble_eq_true rfl) ge29 (z := (u4.toInt8.toInt32)) (own_bb _) at_48 (pc' := 49) rfl fun T31 h31 X31 W31 A31 => ?_
      replace A31 : AV Z h31 b29 .byte [(.int (u3.toInt8.toInt32)), (.int (u4.toInt8.toInt32)), (.int (0 : Int32))] := A31
      have E31_b29 := E30_b29.wr W31
      refine F_iload X31 at_49 rfl (pc' := 51) rfl ?_
      refine F_iconst X31 at_51 (z := (2 : Int32)) (by decide) (pc' := 52) rfl ?_
      refine F_icmp_le X31 at_52 (by decide) (pt := 62) (by decide) (pc' := 55) rfl (fun q => absurd q (by decide)) (fun _ => ?_)
      refine F_aload X31 at_55 rfl rfl (pc' := 57) rfl ?_
      refine F_iconst X31 at_57 (z := (2 : Int32)) (by decide) (pc' := 58) rfl ?_
      refine F_iload X31 at_58 rfl (pc' := 60) rfl ?_
      refine F_i2b X31 at_60 rfl (pc' := 61) rfl ?_
      refine F_bastore X31 A31 (by decide) (i := 2) (by decide) (Nat.le_of_ble_eq_true rfl) ge29 (z := (u5.toInt8.toInt32)) (own_bb _) at_61 (pc' := 62) rfl fun T32 h32 X32 W32 A32 => ?_
      replace A32 : AV Z h32 b29 .byte [(.int (u3.toInt8.toInt32)), (.int (u4.toInt8.toInt32)), (.int (u5.toInt8.toInt32))] := A32
      have E32_b29 := E31_b29.wr W32
      refine F_iconst X32 at_62 (z := (1 : Int32)) (by decide) (pc' := 63) rfl ?_
      refine F_newarray X32 (aty := .byte) (wd0 hw) (by decide) (cap := 1) (by decide) (by decide) (by decide) (by decide) (ad := "[B") rfl at_63 (pc' := 65) rfl fun T33 h33 b33 X33 Ex33 g33 ge33 E_b33 A33 => ?_
      replace A33 : AV Z h33 b33 .byte [(.int (0 : Int32))] := A33
      have ne_b29_b33 : b29 ≠ b33 := Nat.ne_of_lt (Nat.lt_of_lt_of_le E32_b29.lt (Nat.le_of_eq g33.symm))
      have E33_b29 := E32_b29.ext Ex33
      have A33_b29 := A32.ext Ex33
      replace X33 := X33.more (cells' := 2) (slots' := 4) (by decide) (by decide)
      refine F_dup X33 at_65 rfl (pc' := 66) rfl ?_
      refine F_iconst X33 at_66 (z := (0 : Int32)) (by decide) (pc' := 67) rfl ?_
      refine F_iloadN X33 at_67 rfl (pc' := 68) rfl ?_
      refine F_i2b X33 at_68 rfl (pc' := 69) rfl ?_
      refine F_bastore X33 A33 (by decide) (i := 0) (by decide) (Nat.le_of_ble_eq_true rfl) ge33 (z := (u2.toInt8.toInt32)) (own_bb _) at_69 (pc' := 70) rfl fun T34 h34 X34 W34 A34 => ?_
      replace A34 : AV Z h34 b33 .byte [(.int (u2.toInt8.toInt32))] := A34
      have E34_b29 := E33_b29.wr W34
      have E34_b33 := E_b33.wr W34
      have A34_b29 := A33_b29.other W34 ne_b29_b33
      refine F_astore X34 at_70 rfl (Ls' := #[.val (.int u1), .val (.int u2), .val (.int u3), .val (.int u4), .val (.int u5), .val (.int (0 : Int32)), .val (.int (3 : Int32)), .val (.ref b29), .val (.ref b33), .unset, .unset, .unset]) rfl (pc' := 72) rfl ?_
      refine F_new X34 (wd1 hw) (wd2 hw) (wd3 hw) (by decide) (by decide) at_72 (pc' := 75) rfl fun T35 h35 b35 X35 Ex35 g35 ge35 E_b35 D35 => ?_
      have ne_b29_b35 : b29 ≠ b35 := Nat.ne_of_lt (Nat.lt_of_lt_of_le E34_b29.lt (Nat.le_of_eq g35.symm))
      have ne_b33_b35 : b33 ≠ b35 := Nat.ne_of_lt (Nat.lt_of_lt_of_le E34_b33.lt (Nat.le_of_eq g35.symm))
      have E35_b29 := E34_b29.ext Ex35
      have E35_b33 := E34_b33.ext Ex35
      have A35_b29 := A34_b29.ext Ex35
      have A35_b33 := A34.ext Ex35
      have F35_proof_b35 : Fld Z h35 b35 "com/example/libdeleg/libdeleg/proof/Permission" "proof" "[B" .null := D35 (Or.inr (wd20 hw)) (ty := (.array .byte)) (by decide)
      have F35_voucher_b35 : Fld Z h35 b35 "com/example/libdeleg/libdeleg/proof/Permission" "voucher" "[B" .null := D35 (Or.inr (wd22 hw)) (ty := (.array .byte)) (by decide)
      replace X35 := X35.more (cells' := 3) (slots' := 6) (by decide) (by decide)
      refine F_dup X35 at_75 rfl (pc' := 76) rfl ?_
      refine F_aload X35 at_76 rfl rfl (pc' := 78) rfl ?_
      refine F_iload X35 at_78 rfl (pc' := 80) rfl ?_
      refine F_if_eq X35 at_80 (by decide) (pt := 88) (by decide) (pc' := 83) rfl (fun _ => ?_) (fun q => absurd q (by decide))
      refine F_aconst_null X35 at_88 (pc' := 89) rfl ?_
      refine F_init X35 (y := (⟨"com/example/libdeleg/libdeleg/proof/Permission", "<init>", "([B[B)V"⟩ : MethodName)) (stk := [(.ref b35)]) rfl (wd4 hw) (wd5 hw) (wd3 hw) (wd6 hw) (by decide) (a := b35) (argsL := [(.ref b33), .null]) (conI0 l Z a0 hw n0 h35 X35.size b35 b33 [(.int (u2.toInt8.toInt32))] E_b35 E35_b33 F35_proof_b35 F35_voucher_b35 A35_b33 ge35 (Ne.symm ne_b33_b35) (by exact Nat.le_of_ble_eq_true rfl)) (by decide) (W := 1) (Nat.le_of_ble_eq_true rfl) (by decide) (by decide) (by decide) rfl (lenOf pd0 rfl) rfl at_89 (pc' := 92) rfl fun T36 v36 h36 X36 q36 => ?_
      obtain ⟨rfl, Kp36, E36_b35, F36_voucher_b35⟩ := q36
      have E36k_b29 := E35_b29.keep Kp36
      have E36k_b33 := E35_b33.keep Kp36
      have E36k_b35 := E_b35.keep Kp36
      have A36k_b29 := A35_b29.keep Kp36 (ninS ne_b29_b35 nin0)
      have A36k_b33 := A35_b33.keep Kp36 (ninS ne_b33_b35 nin0)
      replace X36 := X36.more (cells' := 4) (slots' := 9) (by decide) (by decide)
      show Jvm.OwnKit.Ends p e below s n0 24 128 _ T36 (mkF m 92 #[.val (.int u1), .val (.int u2), .val (.int u3), .val (.int u4), .val (.int u5), .val (.int (0 : Int32)), .val (.int (3 : Int32)), .val (.ref b29), .val (.ref b33), .unset, .unset, .unset] [(.ref b35)])
      refine F_astore X36 at_92 rfl (Ls' := #[.val (.int u1), .val (.int u2), .val (.int u3), .val (.int u4), .val (.int u5), .val (.int (0 : Int32)), .val (.int (3 : Int32)), .val (.ref b29), .val (.ref b33), .val (.ref b35), .unset, .unset]) rfl (pc' := 94) rfl ?_
      refine F_iload X36 at_94 rfl (pc' := 96) rfl ?_
      refine F_if_le X36 at_96 (by decide) (pt := 107) (by decide) (pc' := 99) rfl (fun q => absurd q (by decide)) (fun _ => ?_)
      refine F_aload X36 at_99 rfl rfl (pc' := 101) rfl ?_
      refine F_iconst X36 at_101 (z := (0 : Int32)) (by decide) (pc' := 102) rfl ?_
      refine F_iloadN X36 at_102 rfl (pc' := 103) rfl ?_
      refine F_iconst X36 at_103 (z := (1 : Int32)) (by decide) (pc' := 104) rfl ?_
      refine F_ixor X36 at_104 rfl (pc' := 105) rfl ?_
      refine F_i2b X36 at_105 rfl (pc' := 106) rfl ?_
      refine F_bastore X36 A36k_b29 (by decide) (i := 0) (by decide) (Nat.le_of_ble_eq_true rfl) ge29 (z := ((u3 ^^^ (1 : Int32)).toInt8.toInt32)) (own_bb _) at_106 (pc' := 107) rfl fun T37 h37 X37 W37 A37 => ?_
      replace A37 : AV Z h37 b29 .byte [(.int ((u3 ^^^ (1 : Int32)).toInt8.toInt32)), (.int (u4.toInt8.toInt32)), (.int (u5.toInt8.toInt32))] := A37
      have E37_b29 := E36k_b29.wr W37
      have E37_b33 := E36k_b33.wr W37
      have E37_b35 := E36_b35.wr W37
      have F37_voucher_b35 := F36_voucher_b35.other W37 (Or.inl (Ne.symm ne_b29_b35))
      have A37_b33 := A36k_b33.other W37 (Ne.symm ne_b29_b33)
      refine F_iload X37 at_107 rfl (pc' := 109) rfl ?_
      refine F_iconst X37 at_109 (z := (1 : Int32)) (by decide) (pc' := 110) rfl ?_
      refine F_icmp_le X37 at_110 (by decide) (pt := 121) (by decide) (pc' := 113) rfl (fun q => absurd q (by decide)) (fun _ => ?_)
      refine F_aload X37 at_113 rfl rfl (pc' := 115) rfl ?_
      refine F_iconst X37 at_115 (z := (1 : Int32)) (by decide) (pc' := 116) rfl ?_
      refine F_iloadN X37 at_116 rfl (pc' := 117) rfl ?_
      refine F_iconst X37 at_117 (z := (1 : Int32)) (by decide) (pc' := 118) rfl ?_
      refine F_ixor X37 at_118 rfl (pc' := 119) rfl ?_
      refine F_i2b X37 at_119 rfl (pc' := 120) rfl ?_
      refine F_bastore X37 A37 (by decide) (i := 1) (by decide) (Nat.le_of_ble_eq_true rfl) ge29 (z := ((u4 ^^^ (1 : Int32)).toInt8.toInt32)) (own_bb _) at_120 (pc' := 121) rfl fun T38 h38 X38 W38 A38 => ?_
      replace A38 : AV Z h38 b29 .byte [(.int ((u3 ^^^ (1 : Int32)).toInt8.toInt32)), (.int ((u4 ^^^ (1 : Int32)).toInt8.toInt32)), (.int (u5.toInt8.toInt32))] := A38
      have E38_b29 := E37_b29.wr W38
      have E38_b33 := E37_b33.wr W38
      have E38_b35 := E37_b35.wr W38
      have F38_voucher_b35 := F37_voucher_b35.other W38 (Or.inl (Ne.symm ne_b29_b35))
      have A38_b33 := A37_b33.other W38 (Ne.symm ne_b29_b33)
      refine F_iload X38 at_121 rfl (pc' := 123) rfl ?_
      refine F_iconst X38 at_123 (z := (2 : Int32)) (by decide) (pc' := 124) rfl ?_
      refine F_icmp_le X38 at_124 (by decide) (pt := 136) (by decide) (pc' := 127) rfl (fun q => absurd q (by decide)) (fun _ => ?_)
      refine F_aload X38 at_127 rfl rfl (pc' := 129) rfl ?_
      refine F_iconst X38 at_129 (z := (2 : Int32)) (by decide) (pc' := 130) rfl ?_
      refine F_iload X38 at_130 rfl (pc' := 132) rfl ?_
      refine F_iconst X38 at_132 (z := (1 : Int32)) (by decide) (pc' := 133) rfl ?_
      refine F_ixor X38 at_133 rfl (pc' := 134) rfl ?_
      refine F_i2b X38 at_134 rfl (pc' := 135) rfl ?_
      refine F_bastore X38 A38 (by decide) (i := 2) (by decide) (Nat.le_of_ble_eq_true rfl) ge29 (z := ((u5 ^^^ (1 : Int32)).toInt8.toInt32)) (own_bb _) at_135 (pc' := 136) rfl fun T39 h39 X39 W39 A39 => ?_
      replace A39 : AV Z h39 b29 .byte [(.int ((u3 ^^^ (1 : Int32)).toInt8.toInt32)), (.int ((u4 ^^^ (1 : Int32)).toInt8.toInt32)), (.int ((u5 ^^^ (1 : Int32)).toInt8.toInt32))] := A39
      have E39_b29 := E38_b29.wr W39
      have E39_b33 := E38_b33.wr W39
      have E39_b35 := E38_b35.wr W39
      have F39_voucher_b35 := F38_voucher_b35.other W39 (Or.inl (Ne.symm ne_b29_b35))
      have A39_b33 := A38_b33.other W39 (Ne.symm ne_b29_b33)
      refine F_aload X39 at_136 rfl rfl (pc' := 138) rfl ?_
      refine F_callV X39 (y := (⟨"com/example/libdeleg/libdeleg/proof/Permission", "voucher", "()[B"⟩ : MethodName)) (stk := []) (wd23 hw) (wd24 hw) (wd26 hw) (wd25 hw) (wd3 hw) (wd27 hw) (by decide) (a := b35) E39_b35 (argsL := []) (conV0 l Z a0 hw n0 h39 X39.size b35 F39_voucher_b35) (by decide) (W := 0) (Nat.le_of_ble_eq_true rfl) (by decide) (by decide) (by decide) rfl (lenOf pd1 rfl) rfl at_138 (pc' := 141) rfl fun T40 v40 h40 X40 q40 => ?_
      obtain ⟨rfl, rfl⟩ := q40
      replace X40 := X40.more (cells' := 4) (slots' := 9) (by decide) (by decide)
      show Jvm.OwnKit.Ends p e below s n0 24 128 _ T40 (mkF m 141 #[.val (.int u1), .val (.int u2), .val (.int u3), .val (.int u4), .val (.int u5), .val (.int (0 : Int32)), .val (.int (3 : Int32)), .val (.ref b29), .val (.ref b33), .val (.ref b35), .unset, .unset] [.null])
      refine F_astore X40 at_141 rfl (Ls' := #[.val (.int u1), .val (.int u2), .val (.int u3), .val (.int u4), .val (.int u5), .val (.int (0 : Int32)), .val (.int (3 : Int32)), .val (.ref b29), .val (.ref b33), .val (.ref b35), .val .null, .unset]) rfl (pc' := 143) rfl ?_
      refine F_iload X40 at_143 rfl (pc' := 145) rfl ?_
      refine F_if_ne X40 at_145 (by decide) (pt := 167) (by decide) (pc' := 148) rfl (fun q => absurd q (by decide)) (fun _ => ?_)
      refine F_aload X40 at_148 rfl rfl (pc' := 150) rfl ?_
      refine F_ifnonnull_null X40 at_150 (pc' := 153) rfl ?_
      refine F_aload X40 at_153 rfl rfl (pc' := 155) rfl ?_
      refine F_callV X40 (y := (⟨"com/example/libdeleg/libdeleg/proof/Permission", "voucher", "()[B"⟩ : MethodName)) (stk := []) (wd23 hw) (wd24 hw) (wd26 hw) (wd25 hw) (wd3 hw) (wd27 hw) (by decide) (a := b35) E39_b35 (argsL := []) (conV0 l Z a0 hw n0 h39 X40.size b35 F39_voucher_b35) (by decide) (W := 0) (Nat.le_of_ble_eq_true rfl) (by decide) (by decide) (by decide) rfl (lenOf pd1 rfl) rfl at_155 (pc' := 158) rfl fun T41 v41 h41 X41 q41 => ?_
      obtain ⟨rfl, rfl⟩ := q41
      replace X41 := X41.more (cells' := 4) (slots' := 9) (by decide) (by decide)
      show Jvm.OwnKit.Ends p e below s n0 24 128 _ T41 (mkF m 158 #[.val (.int u1), .val (.int u2), .val (.int u3), .val (.int u4), .val (.int u5), .val (.int (0 : Int32)), .val (.int (3 : Int32)), .val (.ref b29), .val (.ref b33), .val (.ref b35), .val .null, .unset] [.null])
      refine F_ifnonnull_null X41 at_158 (pc' := 161) rfl ?_
      refine F_iconst X41 at_161 (z := (1 : Int32)) (by decide) (pc' := 162) rfl ?_
      refine F_goto X41 at_162 (by decide) (pc' := 166) (by decide) ?_
      refine F_ireturn_boolean (z' := (1 : Int32)) X41 (by decide) at_166 rfl (by decide) (by decide) ?_
      exact rfl
  · refine F_iconst X0 at_6 (z := (1 : Int32)) (by decide) (pc' := 7) rfl ?_
    refine F_goto X0 at_7 (by decide) (pc' := 11) (by decide) ?_
    refine F_istore X0 at_11 (Ls' := #[.val (.int u1), .val (.int u2), .val (.int u3), .val (.int u4), .val (.int u5), .val (.int (1 : Int32)), .unset, .unset, .unset, .unset, .unset, .unset]) rfl (pc' := 13) rfl ?_
    refine F_iloadN X0 at_13 rfl (pc' := 14) rfl ?_
    refine F_iconst X0 at_14 (z := (1 : Int32)) (by decide) (pc' := 15) rfl ?_
    refine F_iushr X0 at_15 rfl (pc' := 16) rfl ?_
    refine F_iconst X0 at_16 (z := (3 : Int32)) (by decide) (pc' := 17) rfl ?_
    obtain ⟨ln, hln⟩ : ∃ z : Int32, ((u1.toUInt32 >>> ((1 : Int32) &&& 31).toUInt32).toInt32) &&& (3 : Int32) = z := ⟨_, rfl⟩
    refine F_iand X0 at_17 (z := ln) hln (pc' := 18) rfl ?_
    rcases (own_m3 hln) with rfl | rfl | rfl | rfl
    · refine F_istore X0 at_18 (Ls' := #[.val (.int u1), .val (.int u2), .val (.int u3), .val (.int u4), .val (.int u5), .val (.int (1 : Int32)), .val (.int (0 : Int32)), .unset, .unset, .unset, .unset, .unset]) rfl (pc' := 20) rfl ?_
      refine F_iload X0 at_20 rfl (pc' := 22) rfl ?_
      refine F_newarray X0 (aty := .byte) (wd0 hw) (by decide) (cap := 0) (by decide) (by decide) (by decide) (by decide) (ad := "[B") rfl at_22 (pc' := 24) rfl fun T42 h42 b42 X42 Ex42 g42 ge42 E_b42 A42 => ?_
      replace A42 : AV Z h42 b42 .byte [] := A42
      replace X42 := X42.more (cells' := 1) (slots' := 0) (by decide) (by decide)
      refine F_astore X42 at_24 rfl (Ls' := #[.val (.int u1), .val (.int u2), .val (.int u3), .val (.int u4), .val (.int u5), .val (.int (1 : Int32)), .val (.int (0 : Int32)), .val (.ref b42), .unset, .unset, .unset, .unset]) rfl (pc' := 26) rfl ?_
      refine F_iload X42 at_26 rfl (pc' := 28) rfl ?_
      refine F_if_le X42 at_28 (by decide) (pt := 37) (by decide) (pc' := 31) rfl (fun _ => ?_) (fun q => absurd q (by decide))
      refine F_iload X42 at_37 rfl (pc' := 39) rfl ?_
      refine F_iconst X42 at_39 (z := (1 : Int32)) (by decide) (pc' := 40) rfl ?_
      refine F_icmp_le X42 at_40 (by decide) (pt := 49) (by decide) (pc' := 43) rfl (fun _ => ?_) (fun q => absurd q (by decide))
      refine F_iload X42 at_49 rfl (pc' := 51) rfl ?_
      refine F_iconst X42 at_51 (z := (2 : Int32)) (by decide) (pc' := 52) rfl ?_
      refine F_icmp_le X42 at_52 (by decide) (pt := 62) (by decide) (pc' := 55) rfl (fun _ => ?_) (fun q => absurd q (by decide))
      refine F_iconst X42 at_62 (z := (1 : Int32)) (by decide) (pc' := 63) rfl ?_
      refine F_newarray X42 (aty := .byte) (wd0 hw) (by decide) (cap := 1) (by decide) (by decide) (by decide) (by decide) (ad := "[B") rfl at_63 (pc' := 65) rfl fun T43 h43 b43 X43 Ex43 g43 ge43 E_b43 A43 => ?_
      replace A43 : AV Z h43 b43 .byte [(.int (0 : Int32))] := A43
      have ne_b42_b43 : b42 ≠ b43 := Nat.ne_of_lt (Nat.lt_of_lt_of_le E_b42.lt (Nat.le_of_eq g43.symm))
      have E43_b42 := E_b42.ext Ex43
      have A43_b42 := A42.ext Ex43
      replace X43 := X43.more (cells' := 2) (slots' := 1) (by decide) (by decide)
      refine F_dup X43 at_65 rfl (pc' := 66) rfl ?_
      refine F_iconst X43 at_66 (z := (0 : Int32)) (by decide) (pc' := 67) rfl ?_
      refine F_iloadN X43 at_67 rfl (pc' := 68) rfl ?_
      refine F_i2b X43 at_68 rfl (pc' := 69) rfl ?_
      refine F_bastore X43 A43 (by decide) (i := 0) (by decide) (Nat.le_of_ble_eq_true rfl) ge43 (z := (u2.toInt8.toInt32)) (own_bb _) at_69 (pc' := 70) rfl fun T44 h44 X44 W44 A44 => ?_
      replace A44 : AV Z h44 b43 .byte [(.int (u2.toInt8.toInt32))] := A44
      have E44_b42 := E43_b42.wr W44
      have E44_b43 := E_b43.wr W44
      have A44_b42 := A43_b42.other W44 ne_b42_b43
      refine F_astore X44 at_70 rfl (Ls' := #[.val (.int u1), .val (.int u2), .val (.int u3), .val (.int u4), .val (.int u5), .val (.int (1 : Int32)), .val (.int (0 : Int32)), .val (.ref b42), .val (.ref b43), .unset, .unset, .unset]) rfl (pc' := 72) rfl ?_
      refine F_new X44 (wd1 hw) (wd2 hw) (wd3 hw) (by decide) (by decide) at_72 (pc' := 75) rfl fun T45 h45 b45 X45 Ex45 g45 ge45 E_b45 D45 => ?_
      have ne_b42_b45 : b42 ≠ b45 := Nat.ne_of_lt (Nat.lt_of_lt_of_le E44_b42.lt (Nat.le_of_eq g45.symm))
      have ne_b43_b45 : b43 ≠ b45 := Nat.ne_of_lt (Nat.lt_of_lt_of_le E44_b43.lt (Nat.le_of_eq g45.symm))
      have E45_b42 := E44_b42.ext Ex45
      have E45_b43 := E44_b43.ext Ex45
      have A45_b42 := A44_b42.ext Ex45
      have A45_b43 := A44.ext Ex45
      have F45_proof_b45 : Fld Z h45 b45 "com/example/libdeleg/libdeleg/proof/Permission" "proof" "[B" .null := D45 (Or.inr (wd20 hw)) (ty := (.array .byte)) (by decide)
      have F45_voucher_b45 : Fld Z h45 b45 "com/example/libdeleg/libdeleg/proof/Permission" "voucher" "[B" .null := D45 (Or.inr (wd22 hw)) (ty := (.array .byte)) (by decide)
      replace X45 := X45.more (cells' := 3) (slots' := 3) (by decide) (by decide)
      refine F_dup X45 at_75 rfl (pc' := 76) rfl ?_
      refine F_aload X45 at_76 rfl rfl (pc' := 78) rfl ?_
      refine F_iload X45 at_78 rfl (pc' := 80) rfl ?_
      refine F_if_eq X45 at_80 (by decide) (pt := 88) (by decide) (pc' := 83) rfl (fun q => absurd q (by decide)) (fun _ => ?_)
      refine F_aload X45 at_83 rfl rfl (pc' := 85) rfl ?_
      refine F_goto X45 at_85 (by decide) (pc' := 89) (by decide) ?_
      refine F_init X45 (y := (⟨"com/example/libdeleg/libdeleg/proof/Permission", "<init>", "([B[B)V"⟩ : MethodName)) (stk := [(.ref b45)]) rfl (wd4 hw) (wd5 hw) (wd3 hw) (wd6 hw) (by decide) (a := b45) (argsL := [(.ref b43), (.ref b42)]) (conI l Z a0 hw n0 h45 X45.size b45 b43 b42 [(.int (u2.toInt8.toInt32))] [] E_b45 E45_b43 E45_b42 F45_proof_b45 F45_voucher_b45 A45_b43 A45_b42 ge45 (Ne.symm ne_b43_b45) (Ne.symm ne_b42_b45) (by exact Nat.le_of_ble_eq_true rfl) (by exact Nat.le_of_ble_eq_true rfl)) (by decide) (W := 1) (Nat.le_of_ble_eq_true rfl) (by decide) (by decide) (by decide) rfl (lenOf pd0 rfl) rfl at_89 (pc' := 92) rfl fun T46 v46 h46 X46 q46 => ?_
      obtain ⟨b46_fb, rfl, sz46_fb, Kp46, E46_b45, E46_b46_fb, F46_voucher_b45, A46_b46_fb⟩ := q46
      have ge_b46_fb : n0 ≤ b46_fb := Nat.le_trans X45.size sz46_fb
      have ne_b42_b46_fb : b42 ≠ b46_fb := Nat.ne_of_lt (Nat.lt_of_lt_of_le E45_b42.lt sz46_fb)
      have ne_b43_b46_fb : b43 ≠ b46_fb := Nat.ne_of_lt (Nat.lt_of_lt_of_le E45_b43.lt sz46_fb)
      have ne_b45_b46_fb : b45 ≠ b46_fb := Nat.ne_of_lt (Nat.lt_of_lt_of_le E_b45.lt sz46_fb)
      have E46k_b42 := E45_b42.keep Kp46
      have E46k_b43 := E45_b43.keep Kp46
      have E46k_b45 := E_b45.keep Kp46
      have A46k_b42 := A45_b42.keep Kp46 (ninS ne_b42_b45 nin0)
      have A46k_b43 := A45_b43.keep Kp46 (ninS ne_b43_b45 nin0)
      replace X46 := X46.more (cells' := 5) (slots' := 9) (by decide) (by decide)
      show Jvm.OwnKit.Ends p e below s n0 24 128 _ T46 (mkF m 92 #[.val (.int u1), .val (.int u2), .val (.int u3), .val (.int u4), .val (.int u5), .val (.int (1 : Int32)), .val (.int (0 : Int32)), .val (.ref b42), .val (.ref b43), .unset, .unset, .unset] [(.ref b45)])
      refine F_astore X46 at_92 rfl (Ls' := #[.val (.int u1), .val (.int u2), .val (.int u3), .val (.int u4), .val (.int u5), .val (.int (1 : Int32)), .val (.int (0 : Int32)), .val (.ref b42), .val (.ref b43), .val (.ref b45), .unset, .unset]) rfl (pc' := 94) rfl ?_
      refine F_iload X46 at_94 rfl (pc' := 96) rfl ?_
      refine F_if_le X46 at_96 (by decide) (pt := 107) (by decide) (pc' := 99) rfl (fun _ => ?_) (fun q => absurd q (by decide))
      refine F_iload X46 at_107 rfl (pc' := 109) rfl ?_
      refine F_iconst X46 at_109 (z := (1 : Int32)) (by decide) (pc' := 110) rfl ?_
      refine F_icmp_le X46 at_110 (by decide) (pt := 121) (by decide) (pc' := 113) rfl (fun _ => ?_) (fun q => absurd q (by decide))
      refine F_iload X46 at_121 rfl (pc' := 123) rfl ?_
      refine F_iconst X46 at_123 (z := (2 : Int32)) (by decide) (pc' := 124) rfl ?_
      refine F_icmp_le X46 at_124 (by decide) (pt := 136) (by decide) (pc' := 127) rfl (fun _ => ?_) (fun q => absurd q (by decide))
      refine F_aload X46 at_136 rfl rfl (pc' := 138) rfl ?_
      refine F_callV X46 (y := (⟨"com/example/libdeleg/libdeleg/proof/Permission", "voucher", "()[B"⟩ : MethodName)) (stk := []) (wd23 hw) (wd24 hw) (wd26 hw) (wd25 hw) (wd3 hw) (wd27 hw) (by decide) (a := b45) E46_b45 (argsL := []) (conV l Z a0 hw n0 h46 X46.size b45 b46_fb [] E46_b46_fb F46_voucher_b45 A46_b46_fb (by exact Nat.le_of_ble_eq_true rfl)) (by decide) (W := 0) (Nat.le_of_ble_eq_true rfl) (by decide) (by decide) (by decide) rfl (lenOf pd1 rfl) rfl at_138 (pc' := 141) rfl fun T47 v47 h47 X47 q47 => ?_
      obtain ⟨b47_fb, rfl, sz47_fb, Kp47, E47_b47_fb, A47_b47_fb⟩ := q47
      have ge_b47_fb : n0 ≤ b47_fb := Nat.le_trans X46.size sz47_fb
      have ne_b42_b47_fb : b42 ≠ b47_fb := Nat.ne_of_lt (Nat.lt_of_lt_of_le E46k_b42.lt sz47_fb)
      have ne_b43_b47_fb : b43 ≠ b47_fb := Nat.ne_of_lt (Nat.lt_of_lt_of_le E46k_b43.lt sz47_fb)
      have ne_b45_b47_fb : b45 ≠ b47_fb := Nat.ne_of_lt (Nat.lt_of_lt_of_le E46_b45.lt sz47_fb)
      have ne_b46_fb_b47_fb : b46_fb ≠ b47_fb := Nat.ne_of_lt (Nat.lt_of_lt_of_le E46_b46_fb.lt sz47_fb)
      have E47k_b42 := E46k_b42.keep Kp47
      have E47k_b43 := E46k_b43.keep Kp47
      have E47k_b45 := E46_b45.keep Kp47
      have E47k_b46_fb := E46_b46_fb.keep Kp47
      have F47k_voucher_b45 := F46_voucher_b45.keep Kp47 nin0
      have A47k_b42 := A46k_b42.keep Kp47 nin0
      have A47k_b43 := A46k_b43.keep Kp47 nin0
      have A47k_b46_fb := A46_b46_fb.keep Kp47 nin0
      replace X47 := X47.more (cells' := 6) (slots' := 12) (by decide) (by decide)
      show Jvm.OwnKit.Ends p e below s n0 24 128 _ T47 (mkF m 141 #[.val (.int u1), .val (.int u2), .val (.int u3), .val (.int u4), .val (.int u5), .val (.int (1 : Int32)), .val (.int (0 : Int32)), .val (.ref b42), .val (.ref b43), .val (.ref b45), .unset, .unset] [(.ref b47_fb)])
      refine F_astore X47 at_141 rfl (Ls' := #[.val (.int u1), .val (.int u2), .val (.int u3), .val (.int u4), .val (.int u5), .val (.int (1 : Int32)), .val (.int (0 : Int32)), .val (.ref b42), .val (.ref b43), .val (.ref b45), .val (.ref b47_fb), .unset]) rfl (pc' := 143) rfl ?_
      refine F_iload X47 at_143 rfl (pc' := 145) rfl ?_
      refine F_if_ne X47 at_145 (by decide) (pt := 167) (by decide) (pc' := 148) rfl (fun _ => ?_) (fun q => absurd q (by decide))
      refine F_aload X47 at_167 rfl rfl (pc' := 169) rfl ?_
      refine F_ifnull_ref X47 at_169 (pc' := 172) rfl ?_
      refine F_aload X47 at_172 rfl rfl (pc' := 174) rfl ?_
      refine F_aload X47 at_174 rfl rfl (pc' := 176) rfl ?_
      refine F_acmp X47 (same := false) at_176 rfl rfl (decide_eq_false fun q => (Ne.symm ne_b42_b47_fb) (Value.ref.inj q)) (by decide) (pc' := 179) (by decide) ?_
      refine F_aload X47 at_179 rfl rfl (pc' := 181) rfl ?_
      refine F_arraylength X47 A47_b47_fb (z := (0 : Int32)) rfl at_181 (pc' := 182) rfl ?_
      refine F_iload X47 at_182 rfl (pc' := 184) rfl ?_
      refine F_icmp_eq X47 at_184 (by decide) (pt := 189) (by decide) (pc' := 187) rfl (fun _ => ?_) (fun q => absurd q (by decide))
      refine F_aload X47 at_189 rfl rfl (pc' := 191) rfl ?_
      refine F_iload X47 at_191 rfl (pc' := 193) rfl ?_
      refine F_iloadN X47 at_193 rfl (pc' := 194) rfl ?_
      refine F_iloadN X47 at_194 rfl (pc' := 195) rfl ?_
      refine F_iload X47 at_195 rfl (pc' := 197) rfl ?_
      refine F_callS X47 (y := (⟨"com/example/libdeleg/libdeleg/proof/PermissionVoucherPinLaw", "same", "([BIIII)Z"⟩ : MethodName)) (stk := []) (wd28 hw) (wd29 hw) (wd30 hw) (wd31 hw) (by decide) (argsL := [(.ref b47_fb), (.int (0 : Int32)), (.int u3), (.int u4), (.int u5)]) (conS0 l Z a0 hw n0 h47 X47.size b47_fb u3 u4 u5 A47_b47_fb) (by decide) (W := 0) (Nat.le_of_ble_eq_true rfl) (by decide) (by decide) (by decide) rfl (lenOf pd2 rfl) rfl at_197 (pc' := 200) rfl fun T48 v48 h48 X48 q48 => ?_
      obtain ⟨rfl, rfl⟩ := q48
      replace X48 := X48.more (cells' := 6) (slots' := 12) (by decide) (by decide)
      show Jvm.OwnKit.Ends p e below s n0 24 128 _ T48 (mkF m 200 #[.val (.int u1), .val (.int u2), .val (.int u3), .val (.int u4), .val (.int u5), .val (.int (1 : Int32)), .val (.int (0 : Int32)), .val (.ref b42), .val (.ref b43), .val (.ref b45), .val (.ref b47_fb), .unset] [(.int (1 : Int32))])
      refine F_if_ne X48 at_200 (by decide) (pt := 205) (by decide) (pc' := 203) rfl (fun _ => ?_) (fun q => absurd q (by decide))
      refine F_iload X48 at_205 rfl (pc' := 207) rfl ?_
      refine F_if_le X48 at_207 (by decide) (pt := 218) (by decide) (pc' := 210) rfl (fun _ => ?_) (fun q => absurd q (by decide))
      refine F_iload X48 at_218 rfl (pc' := 220) rfl ?_
      refine F_iconst X48 at_220 (z := (1 : Int32)) (by decide) (pc' := 221) rfl ?_
      refine F_icmp_le X48 at_221 (by decide) (pt := 232) (by decide) (pc' := 224) rfl (fun _ => ?_) (fun q => absurd q (by decide))
      refine F_iload X48 at_232 rfl (pc' := 234) rfl ?_
      refine F_iconst X48 at_234 (z := (2 : Int32)) (by decide) (pc' := 235) rfl ?_
      refine F_icmp_le X48 at_235 (by decide) (pt := 247) (by decide) (pc' := 238) rfl (fun _ => ?_) (fun q => absurd q (by decide))
      refine F_aload X48 at_247 rfl rfl (pc' := 249) rfl ?_
      refine F_callV X48 (y := (⟨"com/example/libdeleg/libdeleg/proof/Permission", "voucher", "()[B"⟩ : MethodName)) (stk := []) (wd23 hw) (wd24 hw) (wd26 hw) (wd25 hw) (wd3 hw) (wd27 hw) (by decide) (a := b45) E47k_b45 (argsL := []) (conV l Z a0 hw n0 h47 X48.size b45 b46_fb [] E47k_b46_fb F47k_voucher_b45 A47k_b46_fb (by exact Nat.le_of_ble_eq_true rfl)) (by decide) (W := 0) (Nat.le_of_ble_eq_true rfl) (by decide) (by decide) (by decide) rfl (lenOf pd1 rfl) rfl at_249 (pc' := 252) rfl fun T49 v49 h49 X49 q49 => ?_
      obtain ⟨b49_fb, rfl, sz49_fb, Kp49, E49_b49_fb, A49_b49_fb⟩ := q49
      have ge_b49_fb : n0 ≤ b49_fb := Nat.le_trans X48.size sz49_fb
      have ne_b42_b49_fb : b42 ≠ b49_fb := Nat.ne_of_lt (Nat.lt_of_lt_of_le E47k_b42.lt sz49_fb)
      have ne_b43_b49_fb : b43 ≠ b49_fb := Nat.ne_of_lt (Nat.lt_of_lt_of_le E47k_b43.lt sz49_fb)
      have ne_b45_b49_fb : b45 ≠ b49_fb := Nat.ne_of_lt (Nat.lt_of_lt_of_le E47k_b45.lt sz49_fb)
      have ne_b46_fb_b49_fb : b46_fb ≠ b49_fb := Nat.ne_of_lt (Nat.lt_of_lt_of_le E47k_b46_fb.lt sz49_fb)
      have ne_b47_fb_b49_fb : b47_fb ≠ b49_fb := Nat.ne_of_lt (Nat.lt_of_lt_of_le E47_b47_fb.lt sz49_fb)
      have E49k_b42 := E47k_b42.keep Kp49
      have E49k_b43 := E47k_b43.keep Kp49
      have E49k_b45 := E47k_b45.keep Kp49
      have E49k_b46_fb := E47k_b46_fb.keep Kp49
      have E49k_b47_fb := E47_b47_fb.keep Kp49
      have F49k_voucher_b45 := F47k_voucher_b45.keep Kp49 nin0
      have A49k_b42 := A47k_b42.keep Kp49 nin0
      have A49k_b43 := A47k_b43.keep Kp49 nin0
      have A49k_b46_fb := A47k_b46_fb.keep Kp49 nin0
      have A49k_b47_fb := A47_b47_fb.keep Kp49 nin0
      replace X49 := X49.more (cells' := 7) (slots' := 15) (by decide) (by decide)
      show Jvm.OwnKit.Ends p e below s n0 24 128 _ T49 (mkF m 252 #[.val (.int u1), .val (.int u2), .val (.int u3), .val (.int u4), .val (.int u5), .val (.int (1 : Int32)), .val (.int (0 : Int32)), .val (.ref b42), .val (.ref b43), .val (.ref b45), .val (.ref b47_fb), .unset] [(.ref b49_fb)])
      refine F_astore X49 at_252 rfl (Ls' := #[.val (.int u1), .val (.int u2), .val (.int u3), .val (.int u4), .val (.int u5), .val (.int (1 : Int32)), .val (.int (0 : Int32)), .val (.ref b42), .val (.ref b43), .val (.ref b45), .val (.ref b47_fb), .val (.ref b49_fb)]) rfl (pc' := 254) rfl ?_
      refine F_aload X49 at_254 rfl rfl (pc' := 256) rfl ?_
      refine F_ifnull_ref X49 at_256 (pc' := 259) rfl ?_
      refine F_aload X49 at_259 rfl rfl (pc' := 261) rfl ?_
      refine F_aload X49 at_261 rfl rfl (pc' := 263) rfl ?_
      refine F_acmp X49 (same := false) at_263 rfl rfl (decide_eq_false fun q => (Ne.symm ne_b47_fb_b49_fb) (Value.ref.inj q)) (by decide) (pc' := 266) (by decide) ?_
      refine F_aload X49 at_266 rfl rfl (pc' := 268) rfl ?_
      refine F_aload X49 at_268 rfl rfl (pc' := 270) rfl ?_
      refine F_acmp X49 (same := false) at_270 rfl rfl (decide_eq_false fun q => (Ne.symm ne_b42_b49_fb) (Value.ref.inj q)) (by decide) (pc' := 273) (by decide) ?_
      refine F_aload X49 at_273 rfl rfl (pc' := 275) rfl ?_
      refine F_arraylength X49 A49_b49_fb (z := (0 : Int32)) rfl at_275 (pc' := 276) rfl ?_
      refine F_iload X49 at_276 rfl (pc' := 278) rfl ?_
      refine F_icmp_ne X49 at_278 (by decide) (pt := 299) (by decide) (pc' := 281) rfl (fun q => absurd q (by decide)) (fun _ => ?_)
      refine F_aload X49 at_281 rfl rfl (pc' := 283) rfl ?_
      refine F_iload X49 at_283 rfl (pc' := 285) rfl ?_
      refine F_iloadN X49 at_285 rfl (pc' := 286) rfl ?_
      refine F_iloadN X49 at_286 rfl (pc' := 287) rfl ?_
      refine F_iload X49 at_287 rfl (pc' := 289) rfl ?_
      refine F_callS X49 (y := (⟨"com/example/libdeleg/libdeleg/proof/PermissionVoucherPinLaw", "same", "([BIIII)Z"⟩ : MethodName)) (stk := []) (wd28 hw) (wd29 hw) (wd30 hw) (wd31 hw) (by decide) (argsL := [(.ref b49_fb), (.int (0 : Int32)), (.int u3), (.int u4), (.int u5)]) (conS0 l Z a0 hw n0 h49 X49.size b49_fb u3 u4 u5 A49_b49_fb) (by decide) (W := 0) (Nat.le_of_ble_eq_true rfl) (by decide) (by decide) (by decide) rfl (lenOf pd2 rfl) rfl at_289 (pc' := 292) rfl fun T50 v50 h50 X50 q50 => ?_
      obtain ⟨rfl, rfl⟩ := q50
      replace X50 := X50.more (cells' := 7) (slots' := 15) (by decide) (by decide)
      show Jvm.OwnKit.Ends p e below s n0 24 128 _ T50 (mkF m 292 #[.val (.int u1), .val (.int u2), .val (.int u3), .val (.int u4), .val (.int u5), .val (.int (1 : Int32)), .val (.int (0 : Int32)), .val (.ref b42), .val (.ref b43), .val (.ref b45), .val (.ref b47_fb), .val (.ref b49_fb)] [(.int (1 : Int32))])
      refine F_if_eq X50 at_292 (by decide) (pt := 299) (by decide) (pc' := 295) rfl (fun q => absurd q (by decide)) (fun _ => ?_)
      refine F_iconst X50 at_295 (z := (1 : Int32)) (by decide) (pc' := 296) rfl ?_
      refine F_goto X50 at_296 (by decide) (pc' := 300) (by decide) ?_
      refine F_ireturn_boolean (z' := (1 : Int32)) X50 (by decide) at_300 rfl (by decide) (by decide) ?_
      exact rfl
    · refine F_istore X0 at_18 (Ls' := #[.val (.int u1), .val (.int u2), .val (.int u3), .val (.int u4), .val (.int u5), .val (.int (1 : Int32)), .val (.int (1 : Int32)), .unset, .unset, .unset, .unset, .unset]) rfl (pc' := 20) rfl ?_
      refine F_iload X0 at_20 rfl (pc' := 22) rfl ?_
      refine F_newarray X0 (aty := .byte) (wd0 hw) (by decide) (cap := 1) (by decide) (by decide) (by decide) (by decide) (ad := "[B") rfl at_22 (pc' := 24) rfl fun T51 h51 b51 X51 Ex51 g51 ge51 E_b51 A51 => ?_
      replace A51 : AV Z h51 b51 .byte [(.int (0 : Int32))] := A51
      replace X51 := X51.more (cells' := 1) (slots' := 1) (by decide) (by decide)
      refine F_astore X51 at_24 rfl (Ls' := #[.val (.int u1), .val (.int u2), .val (.int u3), .val (.int u4), .val (.int u5), .val (.int (1 : Int32)), .val (.int (1 : Int32)), .val (.ref b51), .unset, .unset, .unset, .unset]) rfl (pc' := 26) rfl ?_
      refine F_iload X51 at_26 rfl (pc' := 28) rfl ?_
      refine F_if_le X51 at_28 (by decide) (pt := 37) (by decide) (pc' := 31) rfl (fun q => absurd q (by decide)) (fun _ => ?_)
      refine F_aload X51 at_31 rfl rfl (pc' := 33) rfl ?_
      refine F_iconst X51 at_33 (z := (0 : Int32)) (by decide) (pc' := 34) rfl ?_
      refine F_iloadN X51 at_34 rfl (pc' := 35) rfl ?_
      refine F_i2b X51 at_35 rfl (pc' := 36) rfl ?_
      refine F_bastore X51 A51 (by decide) (i := 0) (by decide) (Nat.le_of_ble_eq_true rfl) ge51 (z := (u3.toInt8.toInt32)) (own_bb _) at_36 (pc' := 37) rfl fun T52 h52 X52 W52 A52 => ?_
      replace A52 : AV Z h52 b51 .byte [(.int (u3.toInt8.toInt32))] := A52
      have E52_b51 := E_b51.wr W52
      refine F_iload X52 at_37 rfl (pc' := 39) rfl ?_
      refine F_iconst X52 at_39 (z := (1 : Int32)) (by decide) (pc' := 40) rfl ?_
      refine F_icmp_le X52 at_40 (by decide) (pt := 49) (by decide) (pc' := 43) rfl (fun _ => ?_) (fun q => absurd q (by decide))
      refine F_iload X52 at_49 rfl (pc' := 51) rfl ?_
      refine F_iconst X52 at_51 (z := (2 : Int32)) (by decide) (pc' := 52) rfl ?_
      refine F_icmp_le X52 at_52 (by decide) (pt := 62) (by decide) (pc' := 55) rfl (fun _ => ?_) (fun q => absurd q (by decide))
      refine F_iconst X52 at_62 (z := (1 : Int32)) (by decide) (pc' := 63) rfl ?_
      refine F_newarray X52 (aty := .byte) (wd0 hw) (by decide) (cap := 1) (by decide) (by decide) (by decide) (by decide) (ad := "[B") rfl at_63 (pc' := 65) rfl fun T53 h53 b53 X53 Ex53 g53 ge53 E_b53 A53 => ?_
      replace A53 : AV Z h53 b53 .byte [(.int (0 : Int32))] := A53
      have ne_b51_b53 : b51 ≠ b53 := Nat.ne_of_lt (Nat.lt_of_lt_of_le E52_b51.lt (Nat.le_of_eq g53.symm))
      have E53_b51 := E52_b51.ext Ex53
      have A53_b51 := A52.ext Ex53
      replace X53 := X53.more (cells' := 2) (slots' := 2) (by decide) (by decide)
      refine F_dup X53 at_65 rfl (pc' := 66) rfl ?_
      refine F_iconst X53 at_66 (z := (0 : Int32)) (by decide) (pc' := 67) rfl ?_
      refine F_iloadN X53 at_67 rfl (pc' := 68) rfl ?_
      refine F_i2b X53 at_68 rfl (pc' := 69) rfl ?_
      refine F_bastore X53 A53 (by decide) (i := 0) (by decide) (Nat.le_of_ble_eq_true rfl) ge53 (z := (u2.toInt8.toInt32)) (own_bb _) at_69 (pc' := 70) rfl fun T54 h54 X54 W54 A54 => ?_
      replace A54 : AV Z h54 b53 .byte [(.int (u2.toInt8.toInt32))] := A54
      have E54_b51 := E53_b51.wr W54
      have E54_b53 := E_b53.wr W54
      have A54_b51 := A53_b51.other W54 ne_b51_b53
      refine F_astore X54 at_70 rfl (Ls' := #[.val (.int u1), .val (.int u2), .val (.int u3), .val (.int u4), .val (.int u5), .val (.int (1 : Int32)), .val (.int (1 : Int32)), .val (.ref b51), .val (.ref b53), .unset, .unset, .unset]) rfl (pc' := 72) rfl ?_
      refine F_new X54 (wd1 hw) (wd2 hw) (wd3 hw) (by decide) (by decide) at_72 (pc' := 75) rfl fun T55 h55 b55 X55 Ex55 g55 ge55 E_b55 D55 => ?_
      have ne_b51_b55 : b51 ≠ b55 := Nat.ne_of_lt (Nat.lt_of_lt_of_le E54_b51.lt (Nat.le_of_eq g55.symm))
      have ne_b53_b55 : b53 ≠ b55 := Nat.ne_of_lt (Nat.lt_of_lt_of_le E54_b53.lt (Nat.le_of_eq g55.symm))
      have E55_b51 := E54_b51.ext Ex55
      have E55_b53 := E54_b53.ext Ex55
      have A55_b51 := A54_b51.ext Ex55
      have A55_b53 := A54.ext Ex55
      have F55_proof_b55 : Fld Z h55 b55 "com/example/libdeleg/libdeleg/proof/Permission" "proof" "[B" .null := D55 (Or.inr (wd20 hw)) (ty := (.array .byte)) (by decide)
      have F55_voucher_b55 : Fld Z h55 b55 "com/example/libdeleg/libdeleg/proof/Permission" "voucher" "[B" .null := D55 (Or.inr (wd22 hw)) (ty := (.array .byte)) (by decide)
      replace X55 := X55.more (cells' := 3) (slots' := 4) (by decide) (by decide)
      refine F_dup X55 at_75 rfl (pc' := 76) rfl ?_
      refine F_aload X55 at_76 rfl rfl (pc' := 78) rfl ?_
      refine F_iload X55 at_78 rfl (pc' := 80) rfl ?_
      refine F_if_eq X55 at_80 (by decide) (pt := 88) (by decide) (pc' := 83) rfl (fun q => absurd q (by decide)) (fun _ => ?_)
      refine F_aload X55 at_83 rfl rfl (pc' := 85) rfl ?_
      refine F_goto X55 at_85 (by decide) (pc' := 89) (by decide) ?_
      refine F_init X55 (y := (⟨"com/example/libdeleg/libdeleg/proof/Permission", "<init>", "([B[B)V"⟩ : MethodName)) (stk := [(.ref b55)]) rfl (wd4 hw) (wd5 hw) (wd3 hw) (wd6 hw) (by decide) (a := b55) (argsL := [(.ref b53), (.ref b51)]) (conI l Z a0 hw n0 h55 X55.size b55 b53 b51 [(.int (u2.toInt8.toInt32))] [(.int (u3.toInt8.toInt32))] E_b55 E55_b53 E55_b51 F55_proof_b55 F55_voucher_b55 A55_b53 A55_b51 ge55 (Ne.symm ne_b53_b55) (Ne.symm ne_b51_b55) (by exact Nat.le_of_ble_eq_true rfl) (by exact Nat.le_of_ble_eq_true rfl)) (by decide) (W := 1) (Nat.le_of_ble_eq_true rfl) (by decide) (by decide) (by decide) rfl (lenOf pd0 rfl) rfl at_89 (pc' := 92) rfl fun T56 v56 h56 X56 q56 => ?_
      obtain ⟨b56_fb, rfl, sz56_fb, Kp56, E56_b55, E56_b56_fb, F56_voucher_b55, A56_b56_fb⟩ := q56
      have ge_b56_fb : n0 ≤ b56_fb := Nat.le_trans X55.size sz56_fb
      have ne_b51_b56_fb : b51 ≠ b56_fb := Nat.ne_of_lt (Nat.lt_of_lt_of_le E55_b51.lt sz56_fb)
      have ne_b53_b56_fb : b53 ≠ b56_fb := Nat.ne_of_lt (Nat.lt_of_lt_of_le E55_b53.lt sz56_fb)
      have ne_b55_b56_fb : b55 ≠ b56_fb := Nat.ne_of_lt (Nat.lt_of_lt_of_le E_b55.lt sz56_fb)
      have E56k_b51 := E55_b51.keep Kp56
      have E56k_b53 := E55_b53.keep Kp56
      have E56k_b55 := E_b55.keep Kp56
      have A56k_b51 := A55_b51.keep Kp56 (ninS ne_b51_b55 nin0)
      have A56k_b53 := A55_b53.keep Kp56 (ninS ne_b53_b55 nin0)
      replace X56 := X56.more (cells' := 5) (slots' := 10) (by decide) (by decide)
      show Jvm.OwnKit.Ends p e below s n0 24 128 _ T56 (mkF m 92 #[.val (.int u1), .val (.int u2), .val (.int u3), .val (.int u4), .val (.int u5), .val (.int (1 : Int32)), .val (.int (1 : Int32)), .val (.ref b51), .val (.ref b53), .unset, .unset, .unset] [(.ref b55)])
      refine F_astore X56 at_92 rfl (Ls' := #[.val (.int u1), .val (.int u2), .val (.int u3), .val (.int u4), .val (.int u5), .val (.int (1 : Int32)), .val (.int (1 : Int32)), .val (.ref b51), .val (.ref b53), .val (.ref b55), .unset, .unset]) rfl (pc' := 94) rfl ?_
      refine F_iload X56 at_94 rfl (pc' := 96) rfl ?_
      refine F_if_le X56 at_96 (by decide) (pt := 107) (by decide) (pc' := 99) rfl (fun q => absurd q (by decide)) (fun _ => ?_)
      refine F_aload X56 at_99 rfl rfl (pc' := 101) rfl ?_
      refine F_iconst X56 at_101 (z := (0 : Int32)) (by decide) (pc' := 102) rfl ?_
      refine F_iloadN X56 at_102 rfl (pc' := 103) rfl ?_
      refine F_iconst X56 at_103 (z := (1 : Int32)) (by decide) (pc' := 104) rfl ?_
      refine F_ixor X56 at_104 rfl (pc' := 105) rfl ?_
      refine F_i2b X56 at_105 rfl (pc' := 106) rfl ?_
      refine F_bastore X56 A56k_b51 (by decide) (i := 0) (by decide) (Nat.le_of_ble_eq_true rfl) ge51 (z := ((u3 ^^^ (1 : Int32)).toInt8.toInt32)) (own_bb _) at_106 (pc' := 107) rfl fun T57 h57 X57 W57 A57 => ?_
      replace A57 : AV Z h57 b51 .byte [(.int ((u3 ^^^ (1 : Int32)).toInt8.toInt32))] := A57
      have E57_b51 := E56k_b51.wr W57
      have E57_b53 := E56k_b53.wr W57
      have E57_b55 := E56_b55.wr W57
      have E57_b56_fb := E56_b56_fb.wr W57
      have F57_voucher_b55 := F56_voucher_b55.other W57 (Or.inl (Ne.symm ne_b51_b55))
      have A57_b53 := A56k_b53.other W57 (Ne.symm ne_b51_b53)
      have A57_b56_fb := A56_b56_fb.other W57 (Ne.symm ne_b51_b56_fb)
      refine F_iload X57 at_107 rfl (pc' := 109) rfl ?_
      refine F_iconst X57 at_109 (z := (1 : Int32)) (by decide) (pc' := 110) rfl ?_
      refine F_icmp_le X57 at_110 (by decide) (pt := 121) (by decide) (pc' := 113) rfl (fun _ => ?_) (fun q => absurd q (by decide))
      refine F_iload X57 at_121 rfl (pc' := 123) rfl ?_
      refine F_iconst X57 at_123 (z := (2 : Int32)) (by decide) (pc' := 124) rfl ?_
      refine F_icmp_le X57 at_124 (by decide) (pt := 136) (by decide) (pc' := 127) rfl (fun _ => ?_) (fun q => absurd q (by decide))
      refine F_aload X57 at_136 rfl rfl (pc' := 138) rfl ?_
      refine F_callV X57 (y := (⟨"com/example/libdeleg/libdeleg/proof/Permission", "voucher", "()[B"⟩ : MethodName)) (stk := []) (wd23 hw) (wd24 hw) (wd26 hw) (wd25 hw) (wd3 hw) (wd27 hw) (by decide) (a := b55) E57_b55 (argsL := []) (conV l Z a0 hw n0 h57 X57.size b55 b56_fb [(.int (u3.toInt8.toInt32))] E57_b56_fb F57_voucher_b55 A57_b56_fb (by exact Nat.le_of_ble_eq_true rfl)) (by decide) (W := 0) (Nat.le_of_ble_eq_true rfl) (by decide) (by decide) (by decide) rfl (lenOf pd1 rfl) rfl at_138 (pc' := 141) rfl fun T58 v58 h58 X58 q58 => ?_
      obtain ⟨b58_fb, rfl, sz58_fb, Kp58, E58_b58_fb, A58_b58_fb⟩ := q58
      have ge_b58_fb : n0 ≤ b58_fb := Nat.le_trans X57.size sz58_fb
      have ne_b51_b58_fb : b51 ≠ b58_fb := Nat.ne_of_lt (Nat.lt_of_lt_of_le E57_b51.lt sz58_fb)
      have ne_b53_b58_fb : b53 ≠ b58_fb := Nat.ne_of_lt (Nat.lt_of_lt_of_le E57_b53.lt sz58_fb)
      have ne_b55_b58_fb : b55 ≠ b58_fb := Nat.ne_of_lt (Nat.lt_of_lt_of_le E57_b55.lt sz58_fb)
      have ne_b56_fb_b58_fb : b56_fb ≠ b58_fb := Nat.ne_of_lt (Nat.lt_of_lt_of_le E57_b56_fb.lt sz58_fb)
      have E58k_b51 := E57_b51.keep Kp58
      have E58k_b53 := E57_b53.keep Kp58
      have E58k_b55 := E57_b55.keep Kp58
      have E58k_b56_fb := E57_b56_fb.keep Kp58
      have F58k_voucher_b55 := F57_voucher_b55.keep Kp58 nin0
      have A58k_b53 := A57_b53.keep Kp58 nin0
      have A58k_b56_fb := A57_b56_fb.keep Kp58 nin0
      have A58k_b51 := A57.keep Kp58 nin0
      replace X58 := X58.more (cells' := 6) (slots' := 13) (by decide) (by decide)
      show Jvm.OwnKit.Ends p e below s n0 24 128 _ T58 (mkF m 141 #[.val (.int u1), .val (.int u2), .val (.int u3), .val (.int u4), .val (.int u5), .val (.int (1 : Int32)), .val (.int (1 : Int32)), .val (.ref b51), .val (.ref b53), .val (.ref b55), .unset, .unset] [(.ref b58_fb)])
      refine F_astore X58 at_141 rfl (Ls' := #[.val (.int u1), .val (.int u2), .val (.int u3), .val (.int u4), .val (.int u5), .val (.int (1 : Int32)), .val (.int (1 : Int32)), .val (.ref b51), .val (.ref b53), .val (.ref b55), .val (.ref b58_fb), .unset]) rfl (pc' := 143) rfl ?_
      refine F_iload X58 at_143 rfl (pc' := 145) rfl ?_
      refine F_if_ne X58 at_145 (by decide) (pt := 167) (by decide) (pc' := 148) rfl (fun _ => ?_) (fun q => absurd q (by decide))
      refine F_aload X58 at_167 rfl rfl (pc' := 169) rfl ?_
      refine F_ifnull_ref X58 at_169 (pc' := 172) rfl ?_
      refine F_aload X58 at_172 rfl rfl (pc' := 174) rfl ?_
      refine F_aload X58 at_174 rfl rfl (pc' := 176) rfl ?_
      refine F_acmp X58 (same := false) at_176 rfl rfl (decide_eq_false fun q => (Ne.symm ne_b51_b58_fb) (Value.ref.inj q)) (by decide) (pc' := 179) (by decide) ?_
      refine F_aload X58 at_179 rfl rfl (pc' := 181) rfl ?_
      refine F_arraylength X58 A58_b58_fb (z := (1 : Int32)) rfl at_181 (pc' := 182) rfl ?_
      refine F_iload X58 at_182 rfl (pc' := 184) rfl ?_
      refine F_icmp_eq X58 at_184 (by decide) (pt := 189) (by decide) (pc' := 187) rfl (fun _ => ?_) (fun q => absurd q (by decide))
      refine F_aload X58 at_189 rfl rfl (pc' := 191) rfl ?_
      refine F_iload X58 at_191 rfl (pc' := 193) rfl ?_
      refine F_iloadN X58 at_193 rfl (pc' := 194) rfl ?_
      refine F_iloadN X58 at_194 rfl (pc' := 195) rfl ?_
      refine F_iload X58 at_195 rfl (pc' := 197) rfl ?_
      refine F_callS X58 (y := (⟨"com/example/libdeleg/libdeleg/proof/PermissionVoucherPinLaw", "same", "([BIIII)Z"⟩ : MethodName)) (stk := []) (wd28 hw) (wd29 hw) (wd30 hw) (wd31 hw) (by decide) (argsL := [(.ref b58_fb), (.int (1 : Int32)), (.int u3), (.int u4), (.int u5)]) (conS1 l Z a0 hw n0 h58 X58.size b58_fb u3 u4 u5 A58_b58_fb) (by decide) (W := 0) (Nat.le_of_ble_eq_true rfl) (by decide) (by decide) (by decide) rfl (lenOf pd2 rfl) rfl at_197 (pc' := 200) rfl fun T59 v59 h59 X59 q59 => ?_
      obtain ⟨rfl, rfl⟩ := q59
      replace X59 := X59.more (cells' := 6) (slots' := 13) (by decide) (by decide)
      show Jvm.OwnKit.Ends p e below s n0 24 128 _ T59 (mkF m 200 #[.val (.int u1), .val (.int u2), .val (.int u3), .val (.int u4), .val (.int u5), .val (.int (1 : Int32)), .val (.int (1 : Int32)), .val (.ref b51), .val (.ref b53), .val (.ref b55), .val (.ref b58_fb), .unset] [(.int (1 : Int32))])
      refine F_if_ne X59 at_200 (by decide) (pt := 205) (by decide) (pc' := 203) rfl (fun _ => ?_) (fun q => absurd q (by decide))
      refine F_iload X59 at_205 rfl (pc' := 207) rfl ?_
      refine F_if_le X59 at_207 (by decide) (pt := 218) (by decide) (pc' := 210) rfl (fun q => absurd q (by decide)) (fun _ => ?_)
      refine F_aload X59 at_210 rfl rfl (pc' := 212) rfl ?_
      refine F_iconst X59 at_212 (z := (0 : Int32)) (by decide) (pc' := 213) rfl ?_
      refine F_iloadN X59 at_213 rfl (pc' := 214) rfl ?_
      refine F_iconst X59 at_214 (z := (1 : Int32)) (by decide) (pc' := 215) rfl ?_
      refine F_ixor X59 at_215 rfl (pc' := 216) rfl ?_
      refine F_i2b X59 at_216 rfl (pc' := 217) rfl ?_
      refine F_bastore X59 A58_b58_fb (by decide) (i := 0) (by decide) (Nat.le_of_ble_eq_true rfl) ge_b58_fb (z := ((u3 ^^^ (1 : Int32)).toInt8.toInt32)) (own_bb _) at_217 (pc' := 218) rfl fun T60 h60 X60 W60 A60 => ?_
      replace A60 : AV Z h60 b58_fb .byte [(.int ((u3 ^^^ (1 : Int32)).toInt8.toInt32))] := A60
      have E60_b51 := E58k_b51.wr W60
      have E60_b53 := E58k_b53.wr W60
      have E60_b55 := E58k_b55.wr W60
      have E60_b56_fb := E58k_b56_fb.wr W60
      have E60_b58_fb := E58_b58_fb.wr W60
      have F60_voucher_b55 := F58k_voucher_b55.other W60 (Or.inl ne_b55_b58_fb)
      have A60_b53 := A58k_b53.other W60 ne_b53_b58_fb
      have A60_b56_fb := A58k_b56_fb.other W60 ne_b56_fb_b58_fb
      have A60_b51 := A58k_b51.other W60 ne_b51_b58_fb
      refine F_iload X60 at_218 rfl (pc' := 220) rfl ?_
      refine F_iconst X60 at_220 (z := (1 : Int32)) (by decide) (pc' := 221) rfl ?_
      refine F_icmp_le X60 at_221 (by decide) (pt := 232) (by decide) (pc' := 224) rfl (fun _ => ?_) (fun q => absurd q (by decide))
      refine F_iload X60 at_232 rfl (pc' := 234) rfl ?_
      refine F_iconst X60 at_234 (z := (2 : Int32)) (by decide) (pc' := 235) rfl ?_
      refine F_icmp_le X60 at_235 (by decide) (pt := 247) (by decide) (pc' := 238) rfl (fun _ => ?_) (fun q => absurd q (by decide))
      refine F_aload X60 at_247 rfl rfl (pc' := 249) rfl ?_
      refine F_callV X60 (y := (⟨"com/example/libdeleg/libdeleg/proof/Permission", "voucher", "()[B"⟩ : MethodName)) (stk := []) (wd23 hw) (wd24 hw) (wd26 hw) (wd25 hw) (wd3 hw) (wd27 hw) (by decide) (a := b55) E60_b55 (argsL := []) (conV l Z a0 hw n0 h60 X60.size b55 b56_fb [(.int (u3.toInt8.toInt32))] E60_b56_fb F60_voucher_b55 A60_b56_fb (by exact Nat.le_of_ble_eq_true rfl)) (by decide) (W := 0) (Nat.le_of_ble_eq_true rfl) (by decide) (by decide) (by decide) rfl (lenOf pd1 rfl) rfl at_249 (pc' := 252) rfl fun T61 v61 h61 X61 q61 => ?_
      obtain ⟨b61_fb, rfl, sz61_fb, Kp61, E61_b61_fb, A61_b61_fb⟩ := q61
      have ge_b61_fb : n0 ≤ b61_fb := Nat.le_trans X60.size sz61_fb
      have ne_b51_b61_fb : b51 ≠ b61_fb := Nat.ne_of_lt (Nat.lt_of_lt_of_le E60_b51.lt sz61_fb)
      have ne_b53_b61_fb : b53 ≠ b61_fb := Nat.ne_of_lt (Nat.lt_of_lt_of_le E60_b53.lt sz61_fb)
      have ne_b55_b61_fb : b55 ≠ b61_fb := Nat.ne_of_lt (Nat.lt_of_lt_of_le E60_b55.lt sz61_fb)
      have ne_b56_fb_b61_fb : b56_fb ≠ b61_fb := Nat.ne_of_lt (Nat.lt_of_lt_of_le E60_b56_fb.lt sz61_fb)
      have ne_b58_fb_b61_fb : b58_fb ≠ b61_fb := Nat.ne_of_lt (Nat.lt_of_lt_of_le E60_b58_fb.lt sz61_fb)
      have E61k_b51 := E60_b51.keep Kp61
      have E61k_b53 := E60_b53.keep Kp61
      have E61k_b55 := E60_b55.keep Kp61
      have E61k_b56_fb := E60_b56_fb.keep Kp61
      have E61k_b58_fb := E60_b58_fb.keep Kp61
      have F61k_voucher_b55 := F60_voucher_b55.keep Kp61 nin0
      have A61k_b53 := A60_b53.keep Kp61 nin0
      have A61k_b56_fb := A60_b56_fb.keep Kp61 nin0
      have A61k_b51 := A60_b51.keep Kp61 nin0
      have A61k_b58_fb := A60.keep Kp61 nin0
      replace X61 := X61.more (cells' := 7) (slots' := 16) (by decide) (by decide)
      show Jvm.OwnKit.Ends p e below s n0 24 128 _ T61 (mkF m 252 #[.val (.int u1), .val (.int u2), .val (.int u3), .val (.int u4), .val (.int u5), .val (.int (1 : Int32)), .val (.int (1 : Int32)), .val (.ref b51), .val (.ref b53), .val (.ref b55), .val (.ref b58_fb), .unset] [(.ref b61_fb)])
      refine F_astore X61 at_252 rfl (Ls' := #[.val (.int u1), .val (.int u2), .val (.int u3), .val (.int u4), .val (.int u5), .val (.int (1 : Int32)), .val (.int (1 : Int32)), .val (.ref b51), .val (.ref b53), .val (.ref b55), .val (.ref b58_fb), .val (.ref b61_fb)]) rfl (pc' := 254) rfl ?_
      refine F_aload X61 at_254 rfl rfl (pc' := 256) rfl ?_
      refine F_ifnull_ref X61 at_256 (pc' := 259) rfl ?_
      refine F_aload X61 at_259 rfl rfl (pc' := 261) rfl ?_
      refine F_aload X61 at_261 rfl rfl (pc' := 263) rfl ?_
      refine F_acmp X61 (same := false) at_263 rfl rfl (decide_eq_false fun q => (Ne.symm ne_b58_fb_b61_fb) (Value.ref.inj q)) (by decide) (pc' := 266) (by decide) ?_
      refine F_aload X61 at_266 rfl rfl (pc' := 268) rfl ?_
      refine F_aload X61 at_268 rfl rfl (pc' := 270) rfl ?_
      refine F_acmp X61 (same := false) at_270 rfl rfl (decide_eq_false fun q => (Ne.symm ne_b51_b61_fb) (Value.ref.inj q)) (by decide) (pc' := 273) (by decide) ?_
      refine F_aload X61 at_273 rfl rfl (pc' := 275) rfl ?_
      refine F_arraylength X61 A61_b61_fb (z := (1 : Int32)) rfl at_275 (pc' := 276) rfl ?_
      refine F_iload X61 at_276 rfl (pc' := 278) rfl ?_
      refine F_icmp_ne X61 at_278 (by decide) (pt := 299) (by decide) (pc' := 281) rfl (fun q => absurd q (by decide)) (fun _ => ?_)
      refine F_aload X61 at_281 rfl rfl (pc' := 283) rfl ?_
      refine F_iload X61 at_283 rfl (pc' := 285) rfl ?_
      refine F_iloadN X61 at_285 rfl (pc' := 286) rfl ?_
      refine F_iloadN X61 at_286 rfl (pc' := 287) rfl ?_
      refine F_iload X61 at_287 rfl (pc' := 289) rfl ?_
      refine F_callS X61 (y := (⟨"com/example/libdeleg/libdeleg/proof/PermissionVoucherPinLaw", "same", "([BIIII)Z"⟩ : MethodName)) (stk := []) (wd28 hw) (wd29 hw) (wd30 hw) (wd31 hw) (by decide) (argsL := [(.ref b61_fb), (.int (1 : Int32)), (.int u3), (.int u4), (.int u5)]) (conS1 l Z a0 hw n0 h61 X61.size b61_fb u3 u4 u5 A61_b61_fb) (by decide) (W := 0) (Nat.le_of_ble_eq_true rfl) (by decide) (by decide) (by decide) rfl (lenOf pd2 rfl) rfl at_289 (pc' := 292) rfl fun T62 v62 h62 X62 q62 => ?_
      obtain ⟨rfl, rfl⟩ := q62
      replace X62 := X62.more (cells' := 7) (slots' := 16) (by decide) (by decide)
      show Jvm.OwnKit.Ends p e below s n0 24 128 _ T62 (mkF m 292 #[.val (.int u1), .val (.int u2), .val (.int u3), .val (.int u4), .val (.int u5), .val (.int (1 : Int32)), .val (.int (1 : Int32)), .val (.ref b51), .val (.ref b53), .val (.ref b55), .val (.ref b58_fb), .val (.ref b61_fb)] [(.int (1 : Int32))])
      refine F_if_eq X62 at_292 (by decide) (pt := 299) (by decide) (pc' := 295) rfl (fun q => absurd q (by decide)) (fun _ => ?_)
      refine F_iconst X62 at_295 (z := (1 : Int32)) (by decide) (pc' := 296) rfl ?_
      refine F_goto X62 at_296 (by decide) (pc' := 300) (by decide) ?_
      refine F_ireturn_boolean (z' := (1 : Int32)) X62 (by decide) at_300 rfl (by decide) (by decide) ?_
      exact rfl
    · refine F_istore X0 at_18 (Ls' := #[.val (.int u1), .val (.int u2), .val (.int u3), .val (.int u4), .val (.int u5), .val (.int (1 : Int32)), .val (.int (2 : Int32)), .unset, .unset, .unset, .unset, .unset]) rfl (pc' := 20) rfl ?_
      refine F_iload X0 at_20 rfl (pc' := 22) rfl ?_
      refine F_newarray X0 (aty := .byte) (wd0 hw) (by decide) (cap := 2) (by decide) (by decide) (by decide) (by decide) (ad := "[B") rfl at_22 (pc' := 24) rfl fun T63 h63 b63 X63 Ex63 g63 ge63 E_b63 A63 => ?_
      replace A63 : AV Z h63 b63 .byte [(.int (0 : Int32)), (.int (0 : Int32))] := A63
      replace X63 := X63.more (cells' := 1) (slots' := 2) (by decide) (by decide)
      refine F_astore X63 at_24 rfl (Ls' := #[.val (.int u1), .val (.int u2), .val (.int u3), .val (.int u4), .val (.int u5), .val (.int (1 : Int32)), .val (.int (2 : Int32)), .val (.ref b63), .unset, .unset, .unset, .unset]) rfl (pc' := 26) rfl ?_
      refine F_iload X63 at_26 rfl (pc' := 28) rfl ?_
      refine F_if_le X63 at_28 (by decide) (pt := 37) (by decide) (pc' := 31) rfl (fun q => absurd q (by decide)) (fun _ => ?_)
      refine F_aload X63 at_31 rfl rfl (pc' := 33) rfl ?_
      refine F_iconst X63 at_33 (z := (0 : Int32)) (by decide) (pc' := 34) rfl ?_
      refine F_iloadN X63 at_34 rfl (pc' := 35) rfl ?_
      refine F_i2b X63 at_35 rfl (pc' := 36) rfl ?_
      refine F_bastore X63 A63 (by decide) (i := 0) (by decide) (Nat.le_of_ble_eq_true rfl) ge63 (z := (u3.toInt8.toInt32)) (own_bb _) at_36 (pc' := 37) rfl fun T64 h64 X64 W64 A64 => ?_
      replace A64 : AV Z h64 b63 .byte [(.int (u3.toInt8.toInt32)), (.int (0 : Int32))] := A64
      have E64_b63 := E_b63.wr W64
      refine F_iload X64 at_37 rfl (pc' := 39) rfl ?_
      refine F_iconst X64 at_39 (z := (1 : Int32)) (by decide) (pc' := 40) rfl ?_
      refine F_icmp_le X64 at_40 (by decide) (pt := 49) (by decide) (pc' := 43) rfl (fun q => absurd q (by decide)) (fun _ => ?_)
      refine F_aload X64 at_43 rfl rfl (pc' := 45) rfl ?_
      refine F_iconst X64 at_45 (z := (1 : Int32)) (by decide) (pc' := 46) rfl ?_
      refine F_iloadN X64 at_46 rfl (pc' := 47) rfl ?_
      refine F_i2b X64 at_47 rfl (pc' := 48) rfl ?_
      refine F_bastore X64 A64 (by decide) (i := 1) (by decide) (Nat.le_of_ble_eq_true rfl) ge63 (z := (u4.toInt8.toInt32)) (own_bb _) at_48 (pc' := 49) rfl fun T65 h65 X65 W65 A65 => ?_
      replace A65 : AV Z h65 b63 .byte [(.int (u3.toInt8.toInt32)), (.int (u4.toInt8.toInt32))] := A65
      have E65_b63 := E64_b63.wr W65
      refine F_iload X65 at_49 rfl (pc' := 51) rfl ?_
      refine F_iconst X65 at_51 (z := (2 : Int32)) (by decide) (pc' := 52) rfl ?_
      refine F_icmp_le X65 at_52 (by decide) (pt := 62) (by decide) (pc' := 55) rfl (fun _ => ?_) (fun q => absurd q (by decide))
      refine F_iconst X65 at_62 (z := (1 : Int32)) (by decide) (pc' := 63) rfl ?_
      refine F_newarray X65 (aty := .byte) (wd0 hw) (by decide) (cap := 1) (by decide) (by decide) (by decide) (by decide) (ad := "[B") rfl at_63 (pc' := 65) rfl fun T66 h66 b66 X66 Ex66 g66 ge66 E_b66 A66 => ?_
      replace A66 : AV Z h66 b66 .byte [(.int (0 : Int32))] := A66
      have ne_b63_b66 : b63 ≠ b66 := Nat.ne_of_lt (Nat.lt_of_lt_of_le E65_b63.lt (Nat.le_of_eq g66.symm))
      have E66_b63 := E65_b63.ext Ex66
      have A66_b63 := A65.ext Ex66
      replace X66 := X66.more (cells' := 2) (slots' := 3) (by decide) (by decide)
      refine F_dup X66 at_65 rfl (pc' := 66) rfl ?_
      refine F_iconst X66 at_66 (z := (0 : Int32)) (by decide) (pc' := 67) rfl ?_
      refine F_iloadN X66 at_67 rfl (pc' := 68) rfl ?_
      refine F_i2b X66 at_68 rfl (pc' := 69) rfl ?_
      refine F_bastore X66 A66 (by decide) (i := 0) (by decide) (Nat.le_of_ble_eq_true rfl) ge66 (z := (u2.toInt8.toInt32)) (own_bb _) at_69 (pc' := 70) rfl fun T67 h67 X67 W67 A67 => ?_
      replace A67 : AV Z h67 b66 .byte [(.int (u2.toInt8.toInt32))] := A67
      have E67_b63 := E66_b63.wr W67
      have E67_b66 := E_b66.wr W67
      have A67_b63 := A66_b63.other W67 ne_b63_b66
      refine F_astore X67 at_70 rfl (Ls' := #[.val (.int u1), .val (.int u2), .val (.int u3), .val (.int u4), .val (.int u5), .val (.int (1 : Int32)), .val (.int (2 : Int32)), .val (.ref b63), .val (.ref b66), .unset, .unset, .unset]) rfl (pc' := 72) rfl ?_
      refine F_new X67 (wd1 hw) (wd2 hw) (wd3 hw) (by decide) (by decide) at_72 (pc' := 75) rfl fun T68 h68 b68 X68 Ex68 g68 ge68 E_b68 D68 => ?_
      have ne_b63_b68 : b63 ≠ b68 := Nat.ne_of_lt (Nat.lt_of_lt_of_le E67_b63.lt (Nat.le_of_eq g68.symm))
      have ne_b66_b68 : b66 ≠ b68 := Nat.ne_of_lt (Nat.lt_of_lt_of_le E67_b66.lt (Nat.le_of_eq g68.symm))
      have E68_b63 := E67_b63.ext Ex68
      have E68_b66 := E67_b66.ext Ex68
      have A68_b63 := A67_b63.ext Ex68
      have A68_b66 := A67.ext Ex68
      have F68_proof_b68 : Fld Z h68 b68 "com/example/libdeleg/libdeleg/proof/Permission" "proof" "[B" .null := D68 (Or.inr (wd20 hw)) (ty := (.array .byte)) (by decide)
      have F68_voucher_b68 : Fld Z h68 b68 "com/example/libdeleg/libdeleg/proof/Permission" "voucher" "[B" .null := D68 (Or.inr (wd22 hw)) (ty := (.array .byte)) (by decide)
      replace X68 := X68.more (cells' := 3) (slots' := 5) (by decide) (by decide)
      refine F_dup X68 at_75 rfl (pc' := 76) rfl ?_
      refine F_aload X68 at_76 rfl rfl (pc' := 78) rfl ?_
      refine F_iload X68 at_78 rfl (pc' := 80) rfl ?_
      refine F_if_eq X68 at_80 (by decide) (pt := 88) (by decide) (pc' := 83) rfl (fun q => absurd q (by decide)) (fun _ => ?_)
      refine F_aload X68 at_83 rfl rfl (pc' := 85) rfl ?_
      refine F_goto X68 at_85 (by decide) (pc' := 89) (by decide) ?_
      refine F_init X68 (y := (⟨"com/example/libdeleg/libdeleg/proof/Permission", "<init>", "([B[B)V"⟩ : MethodName)) (stk := [(.ref b68)]) rfl (wd4 hw) (wd5 hw) (wd3 hw) (wd6 hw) (by decide) (a := b68) (argsL := [(.ref b66), (.ref b63)]) (conI l Z a0 hw n0 h68 X68.size b68 b66 b63 [(.int (u2.toInt8.toInt32))] [(.int (u3.toInt8.toInt32)), (.int (u4.toInt8.toInt32))] E_b68 E68_b66 E68_b63 F68_proof_b68 F68_voucher_b68 A68_b66 A68_b63 ge68 (Ne.symm ne_b66_b68) (Ne.symm ne_b63_b68) (by exact Nat.le_of_ble_eq_true rfl) (by exact Nat.le_of_ble_eq_true rfl)) (by decide) (W := 1) (Nat.le_of_ble_eq_true rfl) (by decide) (by decide) (by decide) rfl (lenOf pd0 rfl) rfl at_89 (pc' := 92) rfl fun T69 v69 h69 X69 q69 => ?_
      obtain ⟨b69_fb, rfl, sz69_fb, Kp69, E69_b68, E69_b69_fb, F69_voucher_b68, A69_b69_fb⟩ := q69
      have ge_b69_fb : n0 ≤ b69_fb := Nat.le_trans X68.size sz69_fb
      have ne_b63_b69_fb : b63 ≠ b69_fb := Nat.ne_of_lt (Nat.lt_of_lt_of_le E68_b63.lt sz69_fb)
      have ne_b66_b69_fb : b66 ≠ b69_fb := Nat.ne_of_lt (Nat.lt_of_lt_of_le E68_b66.lt sz69_fb)
      have ne_b68_b69_fb : b68 ≠ b69_fb := Nat.ne_of_lt (Nat.lt_of_lt_of_le E_b68.lt sz69_fb)
      have E69k_b63 := E68_b63.keep Kp69
      have E69k_b66 := E68_b66.keep Kp69
      have E69k_b68 := E_b68.keep Kp69
      have A69k_b63 := A68_b63.keep Kp69 (ninS ne_b63_b68 nin0)
      have A69k_b66 := A68_b66.keep Kp69 (ninS ne_b66_b68 nin0)
      replace X69 := X69.more (cells' := 5) (slots' := 11) (by decide) (by decide)
      show Jvm.OwnKit.Ends p e below s n0 24 128 _ T69 (mkF m 92 #[.val (.int u1), .val (.int u2), .val (.int u3), .val (.int u4), .val (.int u5), .val (.int (1 : Int32)), .val (.int (2 : Int32)), .val (.ref b63), .val (.ref b66), .unset, .unset, .unset] [(.ref b68)])
      refine F_astore X69 at_92 rfl (Ls' := #[.val (.int u1), .val (.int u2), .val (.int u3), .val (.int u4), .val (.int u5), .val (.int (1 : Int32)), .val (.int (2 : Int32)), .val (.ref b63), .val (.ref b66), .val (.ref b68), .unset, .unset]) rfl (pc' := 94) rfl ?_
      refine F_iload X69 at_94 rfl (pc' := 96) rfl ?_
      refine F_if_le X69 at_96 (by decide) (pt := 107) (by decide) (pc' := 99) rfl (fun q => absurd q (by decide)) (fun _ => ?_)
      refine F_aload X69 at_99 rfl rfl (pc' := 101) rfl ?_
      refine F_iconst X69 at_101 (z := (0 : Int32)) (by decide) (pc' := 102) rfl ?_
      refine F_iloadN X69 at_102 rfl (pc' := 103) rfl ?_
      refine F_iconst X69 at_103 (z := (1 : Int32)) (by decide) (pc' := 104) rfl ?_
      refine F_ixor X69 at_104 rfl (pc' := 105) rfl ?_
      refine F_i2b X69 at_105 rfl (pc' := 106) rfl ?_
      refine F_bastore X69 A69k_b63 (by decide) (i := 0) (by decide) (Nat.le_of_ble_eq_true rfl) ge63 (z := ((u3 ^^^ (1 : Int32)).toInt8.toInt32)) (own_bb _) at_106 (pc' := 107) rfl fun T70 h70 X70 W70 A70 => ?_
      replace A70 : AV Z h70 b63 .byte [(.int ((u3 ^^^ (1 : Int32)).toInt8.toInt32)), (.int (u4.toInt8.toInt32))] := A70
      have E70_b63 := E69k_b63.wr W70
      have E70_b66 := E69k_b66.wr W70
      have E70_b68 := E69_b68.wr W70
      have E70_b69_fb := E69_b69_fb.wr W70
      have F70_voucher_b68 := F69_voucher_b68.other W70 (Or.inl (Ne.symm ne_b63_b68))
      have A70_b66 := A69k_b66.other W70 (Ne.symm ne_b63_b66)
      have A70_b69_fb := A69_b69_fb.other W70 (Ne.symm ne_b63_b69_fb)
      refine F_iload X70 at_107 rfl (pc' := 109) rfl ?_
      refine F_iconst X70 at_109 (z := (1 : Int32)) (by decide) (pc' := 110) rfl ?_
      refine F_icmp_le X70 at_110 (by decide) (pt := 121) (by decide) (pc' := 113) rfl (fun q => absurd q (by decide)) (fun _ => ?_)
      refine F_aload X70 at_113 rfl rfl (pc' := 115) rfl ?_
      refine F_iconst X70 at_115 (z := (1 : Int32)) (by decide) (pc' := 116) rfl ?_
      refine F_iloadN X70 at_116 rfl (pc' := 117) rfl ?_
      refine F_iconst X70 at_117 (z := (1 : Int32)) (by decide) (pc' := 118) rfl ?_
      refine F_ixor X70 at_118 rfl (pc' := 119) rfl ?_
      refine F_i2b X70 at_119 rfl (pc' := 120) rfl ?_
      refine F_bastore X70 A70 (by decide) (i := 1) (by decide) (Nat.le_of_ble_eq_true rfl) ge63 (z := ((u4 ^^^ (1 : Int32)).toInt8.toInt32)) (own_bb _) at_120 (pc' := 121) rfl fun T71 h71 X71 W71 A71 => ?_
      replace A71 : AV Z h71 b63 .byte [(.int ((u3 ^^^ (1 : Int32)).toInt8.toInt32)), (.int ((u4 ^^^ (1 : Int32)).toInt8.toInt32))] := A71
      have E71_b63 := E70_b63.wr W71
      have E71_b66 := E70_b66.wr W71
      have E71_b68 := E70_b68.wr W71
      have E71_b69_fb := E70_b69_fb.wr W71
      have F71_voucher_b68 := F70_voucher_b68.other W71 (Or.inl (Ne.symm ne_b63_b68))
      have A71_b66 := A70_b66.other W71 (Ne.symm ne_b63_b66)
      have A71_b69_fb := A70_b69_fb.other W71 (Ne.symm ne_b63_b69_fb)
      refine F_iload X71 at_121 rfl (pc' := 123) rfl ?_
      refine F_iconst X71 at_123 (z := (2 : Int32)) (by decide) (pc' := 124) rfl ?_
      refine F_icmp_le X71 at_124 (by decide) (pt := 136) (by decide) (pc' := 127) rfl (fun _ => ?_) (fun q => absurd q (by decide))
      refine F_aload X71 at_136 rfl rfl (pc' := 138) rfl ?_
      refine F_callV X71 (y := (⟨"com/example/libdeleg/libdeleg/proof/Permission", "voucher", "()[B"⟩ : MethodName)) (stk := []) (wd23 hw) (wd24 hw) (wd26 hw) (wd25 hw) (wd3 hw) (wd27 hw) (by decide) (a := b68) E71_b68 (argsL := []) (conV l Z a0 hw n0 h71 X71.size b68 b69_fb [(.int (u3.toInt8.toInt32)), (.int (u4.toInt8.toInt32))] E71_b69_fb F71_voucher_b68 A71_b69_fb (by exact Nat.le_of_ble_eq_true rfl)) (by decide) (W := 0) (Nat.le_of_ble_eq_true rfl) (by decide) (by decide) (by decide) rfl (lenOf pd1 rfl) rfl at_138 (pc' := 141) rfl fun T72 v72 h72 X72 q72 => ?_
      obtain ⟨b72_fb, rfl, sz72_fb, Kp72, E72_b72_fb, A72_b72_fb⟩ := q72
      have ge_b72_fb : n0 ≤ b72_fb := Nat.le_trans X71.size sz72_fb
      have ne_b63_b72_fb : b63 ≠ b72_fb := Nat.ne_of_lt (Nat.lt_of_lt_of_le E71_b63.lt sz72_fb)
      have ne_b66_b72_fb : b66 ≠ b72_fb := Nat.ne_of_lt (Nat.lt_of_lt_of_le E71_b66.lt sz72_fb)
      have ne_b68_b72_fb : b68 ≠ b72_fb := Nat.ne_of_lt (Nat.lt_of_lt_of_le E71_b68.lt sz72_fb)
      have ne_b69_fb_b72_fb : b69_fb ≠ b72_fb := Nat.ne_of_lt (Nat.lt_of_lt_of_le E71_b69_fb.lt sz72_fb)
      have E72k_b63 := E71_b63.keep Kp72
      have E72k_b66 := E71_b66.keep Kp72
      have E72k_b68 := E71_b68.keep Kp72
      have E72k_b69_fb := E71_b69_fb.keep Kp72
      have F72k_voucher_b68 := F71_voucher_b68.keep Kp72 nin0
      have A72k_b66 := A71_b66.keep Kp72 nin0
      have A72k_b69_fb := A71_b69_fb.keep Kp72 nin0
      have A72k_b63 := A71.keep Kp72 nin0
      replace X72 := X72.more (cells' := 6) (slots' := 14) (by decide) (by decide)
      show Jvm.OwnKit.Ends p e below s n0 24 128 _ T72 (mkF m 141 #[.val (.int u1), .val (.int u2), .val (.int u3), .val (.int u4), .val (.int u5), .val (.int (1 : Int32)), .val (.int (2 : Int32)), .val (.ref b63), .val (.ref b66), .val (.ref b68), .unset, .unset] [(.ref b72_fb)])
      refine F_astore X72 at_141 rfl (Ls' := #[.val (.int u1), .val (.int u2), .val (.int u3), .val (.int u4), .val (.int u5), .val (.int (1 : Int32)), .val (.int (2 : Int32)), .val (.ref b63), .val (.ref b66), .val (.ref b68), .val (.ref b72_fb), .unset]) rfl (pc' := 143) rfl ?_
      refine F_iload X72 at_143 rfl (pc' := 145) rfl ?_
      refine F_if_ne X72 at_145 (by decide) (pt := 167) (by decide) (pc' := 148) rfl (fun _ => ?_) (fun q => absurd q (by decide))
      refine F_aload X72 at_167 rfl rfl (pc' := 169) rfl ?_
      refine F_ifnull_ref X72 at_169 (pc' := 172) rfl ?_
      refine F_aload X72 at_172 rfl rfl (pc' := 174) rfl ?_
      refine F_aload X72 at_174 rfl rfl (pc' := 176) rfl ?_
      refine F_acmp X72 (same := false) at_176 rfl rfl (decide_eq_false fun q => (Ne.symm ne_b63_b72_fb) (Value.ref.inj q)) (by decide) (pc' := 179) (by decide) ?_
      refine F_aload X72 at_179 rfl rfl (pc' := 181) rfl ?_
      refine F_arraylength X72 A72_b72_fb (z := (2 : Int32)) rfl at_181 (pc' := 182) rfl ?_
      refine F_iload X72 at_182 rfl (pc' := 184) rfl ?_
      refine F_icmp_eq X72 at_184 (by decide) (pt := 189) (by decide) (pc' := 187) rfl (fun _ => ?_) (fun q => absurd q (by decide))
      refine F_aload X72 at_189 rfl rfl (pc' := 191) rfl ?_
      refine F_iload X72 at_191 rfl (pc' := 193) rfl ?_
      refine F_iloadN X72 at_193 rfl (pc' := 194) rfl ?_
      refine F_iloadN X72 at_194 rfl (pc' := 195) rfl ?_
      refine F_iload X72 at_195 rfl (pc' := 197) rfl ?_
      refine F_callS X72 (y := (⟨"com/example/libdeleg/libdeleg/proof/PermissionVoucherPinLaw", "same", "([BIIII)Z"⟩ : MethodName)) (stk := []) (wd28 hw) (wd29 hw) (wd30 hw) (wd31 hw) (by decide) (argsL := [(.ref b72_fb), (.int (2 : Int32)), (.int u3), (.int u4), (.int u5)]) (conS2 l Z a0 hw n0 h72 X72.size b72_fb u3 u4 u5 A72_b72_fb) (by decide) (W := 0) (Nat.le_of_ble_eq_true rfl) (by decide) (by decide) (by decide) rfl (lenOf pd2 rfl) rfl at_197 (pc' := 200) rfl fun T73 v73 h73 X73 q73 => ?_
      obtain ⟨rfl, rfl⟩ := q73
      replace X73 := X73.more (cells' := 6) (slots' := 14) (by decide) (by decide)
      show Jvm.OwnKit.Ends p e below s n0 24 128 _ T73 (mkF m 200 #[.val (.int u1), .val (.int u2), .val (.int u3), .val (.int u4), .val (.int u5), .val (.int (1 : Int32)), .val (.int (2 : Int32)), .val (.ref b63), .val (.ref b66), .val (.ref b68), .val (.ref b72_fb), .unset] [(.int (1 : Int32))])
      refine F_if_ne X73 at_200 (by decide) (pt := 205) (by decide) (pc' := 203) rfl (fun _ => ?_) (fun q => absurd q (by decide))
      refine F_iload X73 at_205 rfl (pc' := 207) rfl ?_
      refine F_if_le X73 at_207 (by decide) (pt := 218) (by decide) (pc' := 210) rfl (fun q => absurd q (by decide)) (fun _ => ?_)
      refine F_aload X73 at_210 rfl rfl (pc' := 212) rfl ?_
      refine F_iconst X73 at_212 (z := (0 : Int32)) (by decide) (pc' := 213) rfl ?_
      refine F_iloadN X73 at_213 rfl (pc' := 214) rfl ?_
      refine F_iconst X73 at_214 (z := (1 : Int32)) (by decide) (pc' := 215) rfl ?_
      refine F_ixor X73 at_215 rfl (pc' := 216) rfl ?_
      refine F_i2b X73 at_216 rfl (pc' := 217) rfl ?_
      refine F_bastore X73 A72_b72_fb (by decide) (i := 0) (by decide) (Nat.le_of_ble_eq_true rfl) ge_b72_fb (z := ((u3 ^^^ (1 : Int32)).toInt8.toInt32)) (own_bb _) at_217 (pc' := 218) rfl fun T74 h74 X74 W74 A74 => ?_
      replace A74 : AV Z h74 b72_fb .byte [(.int ((u3 ^^^ (1 : Int32)).toInt8.toInt32)), (.int (u4.toInt8.toInt32))] := A74
      have E74_b63 := E72k_b63.wr W74
      have E74_b66 := E72k_b66.wr W74
      have E74_b68 := E72k_b68.wr W74
      have E74_b69_fb := E72k_b69_fb.wr W74
      have E74_b72_fb := E72_b72_fb.wr W74
      have F74_voucher_b68 := F72k_voucher_b68.other W74 (Or.inl ne_b68_b72_fb)
      have A74_b66 := A72k_b66.other W74 ne_b66_b72_fb
      have A74_b69_fb := A72k_b69_fb.other W74 ne_b69_fb_b72_fb
      have A74_b63 := A72k_b63.other W74 ne_b63_b72_fb
      refine F_iload X74 at_218 rfl (pc' := 220) rfl ?_
      refine F_iconst X74 at_220 (z := (1 : Int32)) (by decide) (pc' := 221) rfl ?_
      refine F_icmp_le X74 at_221 (by decide) (pt := 232) (by decide) (pc' := 224) rfl (fun q => absurd q (by decide)) (fun _ => ?_)
      refine F_aload X74 at_224 rfl rfl (pc' := 226) rfl ?_
      refine F_iconst X74 at_226 (z := (1 : Int32)) (by decide) (pc' := 227) rfl ?_
      refine F_iloadN X74 at_227 rfl (pc' := 228) rfl ?_
      refine F_iconst X74 at_228 (z := (1 : Int32)) (by decide) (pc' := 229) rfl ?_
      refine F_ixor X74 at_229 rfl (pc' := 230) rfl ?_
      refine F_i2b X74 at_230 rfl (pc' := 231) rfl ?_
      refine F_bastore X74 A74 (by decide) (i := 1) (by decide) (Nat.le_of_ble_eq_true rfl) ge_b72_fb (z := ((u4 ^^^ (1 : Int32)).toInt8.toInt32)) (own_bb _) at_231 (pc' := 232) rfl fun T75 h75 X75 W75 A75 => ?_
      replace A75 : AV Z h75 b72_fb .byte [(.int ((u3 ^^^ (1 : Int32)).toInt8.toInt32)), (.int ((u4 ^^^ (1 : Int32)).toInt8.toInt32))] := A75
      have E75_b63 := E74_b63.wr W75
      have E75_b66 := E74_b66.wr W75
      have E75_b68 := E74_b68.wr W75
      have E75_b69_fb := E74_b69_fb.wr W75
      have E75_b72_fb := E74_b72_fb.wr W75
      have F75_voucher_b68 := F74_voucher_b68.other W75 (Or.inl ne_b68_b72_fb)
      have A75_b66 := A74_b66.other W75 ne_b66_b72_fb
      have A75_b69_fb := A74_b69_fb.other W75 ne_b69_fb_b72_fb
      have A75_b63 := A74_b63.other W75 ne_b63_b72_fb
      refine F_iload X75 at_232 rfl (pc' := 234) rfl ?_
      refine F_iconst X75 at_234 (z := (2 : Int32)) (by decide) (pc' := 235) rfl ?_
      refine F_icmp_le X75 at_235 (by decide) (pt := 247) (by decide) (pc' := 238) rfl (fun _ => ?_) (fun q => absurd q (by decide))
      refine F_aload X75 at_247 rfl rfl (pc' := 249) rfl ?_
      refine F_callV X75 (y := (⟨"com/example/libdeleg/libdeleg/proof/Permission", "voucher", "()[B"⟩ : MethodName)) (stk := []) (wd23 hw) (wd24 hw) (wd26 hw) (wd25 hw) (wd3 hw) (wd27 hw) (by decide) (a := b68) E75_b68 (argsL := []) (conV l Z a0 hw n0 h75 X75.size b68 b69_fb [(.int (u3.toInt8.toInt32)), (.int (u4.toInt8.toInt32))] E75_b69_fb F75_voucher_b68 A75_b69_fb (by exact Nat.le_of_ble_eq_true rfl)) (by decide) (W := 0) (Nat.le_of_ble_eq_true rfl) (by decide) (by decide) (by decide) rfl (lenOf pd1 rfl) rfl at_249 (pc' := 252) rfl fun T76 v76 h76 X76 q76 => ?_
      obtain ⟨b76_fb, rfl, sz76_fb, Kp76, E76_b76_fb, A76_b76_fb⟩ := q76
      have ge_b76_fb : n0 ≤ b76_fb := Nat.le_trans X75.size sz76_fb
      have ne_b63_b76_fb : b63 ≠ b76_fb := Nat.ne_of_lt (Nat.lt_of_lt_of_le E75_b63.lt sz76_fb)
      have ne_b66_b76_fb : b66 ≠ b76_fb := Nat.ne_of_lt (Nat.lt_of_lt_of_le E75_b66.lt sz76_fb)
      have ne_b68_b76_fb : b68 ≠ b76_fb := Nat.ne_of_lt (Nat.lt_of_lt_of_le E75_b68.lt sz76_fb)
      have ne_b69_fb_b76_fb : b69_fb ≠ b76_fb := Nat.ne_of_lt (Nat.lt_of_lt_of_le E75_b69_fb.lt sz76_fb)
      have ne_b72_fb_b76_fb : b72_fb ≠ b76_fb := Nat.ne_of_lt (Nat.lt_of_lt_of_le E75_b72_fb.lt sz76_fb)
      have E76k_b63 := E75_b63.keep Kp76
      have E76k_b66 := E75_b66.keep Kp76
      have E76k_b68 := E75_b68.keep Kp76
      have E76k_b69_fb := E75_b69_fb.keep Kp76
      have E76k_b72_fb := E75_b72_fb.keep Kp76
      have F76k_voucher_b68 := F75_voucher_b68.keep Kp76 nin0
      have A76k_b66 := A75_b66.keep Kp76 nin0
      have A76k_b69_fb := A75_b69_fb.keep Kp76 nin0
      have A76k_b63 := A75_b63.keep Kp76 nin0
      have A76k_b72_fb := A75.keep Kp76 nin0
      replace X76 := X76.more (cells' := 7) (slots' := 17) (by decide) (by decide)
      show Jvm.OwnKit.Ends p e below s n0 24 128 _ T76 (mkF m 252 #[.val (.int u1), .val (.int u2), .val (.int u3), .val (.int u4), .val (.int u5), .val (.int (1 : Int32)), .val (.int (2 : Int32)), .val (.ref b63), .val (.ref b66), .val (.ref b68), .val (.ref b72_fb), .unset] [(.ref b76_fb)])
      refine F_astore X76 at_252 rfl (Ls' := #[.val (.int u1), .val (.int u2), .val (.int u3), .val (.int u4), .val (.int u5), .val (.int (1 : Int32)), .val (.int (2 : Int32)), .val (.ref b63), .val (.ref b66), .val (.ref b68), .val (.ref b72_fb), .val (.ref b76_fb)]) rfl (pc' := 254) rfl ?_
      refine F_aload X76 at_254 rfl rfl (pc' := 256) rfl ?_
      refine F_ifnull_ref X76 at_256 (pc' := 259) rfl ?_
      refine F_aload X76 at_259 rfl rfl (pc' := 261) rfl ?_
      refine F_aload X76 at_261 rfl rfl (pc' := 263) rfl ?_
      refine F_acmp X76 (same := false) at_263 rfl rfl (decide_eq_false fun q => (Ne.symm ne_b72_fb_b76_fb) (Value.ref.inj q)) (by decide) (pc' := 266) (by decide) ?_
      refine F_aload X76 at_266 rfl rfl (pc' := 268) rfl ?_
      refine F_aload X76 at_268 rfl rfl (pc' := 270) rfl ?_
      refine F_acmp X76 (same := false) at_270 rfl rfl (decide_eq_false fun q => (Ne.symm ne_b63_b76_fb) (Value.ref.inj q)) (by decide) (pc' := 273) (by decide) ?_
      refine F_aload X76 at_273 rfl rfl (pc' := 275) rfl ?_
      refine F_arraylength X76 A76_b76_fb (z := (2 : Int32)) rfl at_275 (pc' := 276) rfl ?_
      refine F_iload X76 at_276 rfl (pc' := 278) rfl ?_
      refine F_icmp_ne X76 at_278 (by decide) (pt := 299) (by decide) (pc' := 281) rfl (fun q => absurd q (by decide)) (fun _ => ?_)
      refine F_aload X76 at_281 rfl rfl (pc' := 283) rfl ?_
      refine F_iload X76 at_283 rfl (pc' := 285) rfl ?_
      refine F_iloadN X76 at_285 rfl (pc' := 286) rfl ?_
      refine F_iloadN X76 at_286 rfl (pc' := 287) rfl ?_
      refine F_iload X76 at_287 rfl (pc' := 289) rfl ?_
      refine F_callS X76 (y := (⟨"com/example/libdeleg/libdeleg/proof/PermissionVoucherPinLaw", "same", "([BIIII)Z"⟩ : MethodName)) (stk := []) (wd28 hw) (wd29 hw) (wd30 hw) (wd31 hw) (by decide) (argsL := [(.ref b76_fb), (.int (2 : Int32)), (.int u3), (.int u4), (.int u5)]) (conS2 l Z a0 hw n0 h76 X76.size b76_fb u3 u4 u5 A76_b76_fb) (by decide) (W := 0) (Nat.le_of_ble_eq_true rfl) (by decide) (by decide) (by decide) rfl (lenOf pd2 rfl) rfl at_289 (pc' := 292) rfl fun T77 v77 h77 X77 q77 => ?_
      obtain ⟨rfl, rfl⟩ := q77
      replace X77 := X77.more (cells' := 7) (slots' := 17) (by decide) (by decide)
      show Jvm.OwnKit.Ends p e below s n0 24 128 _ T77 (mkF m 292 #[.val (.int u1), .val (.int u2), .val (.int u3), .val (.int u4), .val (.int u5), .val (.int (1 : Int32)), .val (.int (2 : Int32)), .val (.ref b63), .val (.ref b66), .val (.ref b68), .val (.ref b72_fb), .val (.ref b76_fb)] [(.int (1 : Int32))])
      refine F_if_eq X77 at_292 (by decide) (pt := 299) (by decide) (pc' := 295) rfl (fun q => absurd q (by decide)) (fun _ => ?_)
      refine F_iconst X77 at_295 (z := (1 : Int32)) (by decide) (pc' := 296) rfl ?_
      refine F_goto X77 at_296 (by decide) (pc' := 300) (by decide) ?_
      refine F_ireturn_boolean (z' := (1 : Int32)) X77 (by decide) at_300 rfl (by decide) (by decide) ?_
      exact rfl
    · refine F_istore X0 at_18 (Ls' := #[.val (.int u1), .val (.int u2), .val (.int u3), .val (.int u4), .val (.int u5), .val (.int (1 : Int32)), .val (.int (3 : Int32)), .unset, .unset, .unset, .unset, .unset]) rfl (pc' := 20) rfl ?_
      refine F_iload X0 at_20 rfl (pc' := 22) rfl ?_
      refine F_newarray X0 (aty := .byte) (wd0 hw) (by decide) (cap := 3) (by decide) (by decide) (by decide) (by decide) (ad := "[B") rfl at_22 (pc' := 24) rfl fun T78 h78 b78 X78 Ex78 g78 ge78 E_b78 A78 => ?_
      replace A78 : AV Z h78 b78 .byte [(.int (0 : Int32)), (.int (0 : Int32)), (.int (0 : Int32))] := A78
      replace X78 := X78.more (cells' := 1) (slots' := 3) (by decide) (by decide)
      refine F_astore X78 at_24 rfl (Ls' := #[.val (.int u1), .val (.int u2), .val (.int u3), .val (.int u4), .val (.int u5), .val (.int (1 : Int32)), .val (.int (3 : Int32)), .val (.ref b78), .unset, .unset, .unset, .unset]) rfl (pc' := 26) rfl ?_
      refine F_iload X78 at_26 rfl (pc' := 28) rfl ?_
      refine F_if_le X78 at_28 (by decide) (pt := 37) (by decide) (pc' := 31) rfl (fun q => absurd q (by decide)) (fun _ => ?_)
      refine F_aload X78 at_31 rfl rfl (pc' := 33) rfl ?_
      refine F_iconst X78 at_33 (z := (0 : Int32)) (by decide) (pc' := 34) rfl ?_
      refine F_iloadN X78 at_34 rfl (pc' := 35) rfl ?_
      refine F_i2b X78 at_35 rfl (pc' := 36) rfl ?_
      refine F_bastore X78 A78 (by decide) (i := 0) (by decide) (Nat.le_of_ble_eq_true rfl) ge78 (z := (u3.toInt8.toInt32)) (own_bb _) at_36 (pc' := 37) rfl fun T79 h79 X79 W79 A79 => ?_
      replace A79 : AV Z h79 b78 .byte [(.int (u3.toInt8.toInt32)), (.int (0 : Int32)), (.int (0 : Int32))] := A79
      have E79_b78 := E_b78.wr W79
      refine F_iload X79 at_37 rfl (pc' := 39) rfl ?_
      refine F_iconst X79 at_39 (z := (1 : Int32)) (by decide) (pc' := 40) rfl ?_
      refine F_icmp_le X79 at_40 (by decide) (pt := 49) (by decide) (pc' := 43) rfl (fun q => absurd q (by decide)) (fun _ => ?_)
      refine F_aload X79 at_43 rfl rfl (pc' := 45) rfl ?_
      refine F_iconst X79 at_45 (z := (1 : Int32)) (by decide) (pc' := 46) rfl ?_
      refine F_iloadN X79 at_46 rfl (pc' := 47) rfl ?_
      refine F_i2b X79 at_47 rfl (pc' := 48) rfl ?_
      refine F_bastore X79 A79 (by decide) (i := 1) (by decide) (Nat.le_of_ble_eq_true rfl) ge78 (z := (u4.toInt8.toInt32)) (own_bb _) at_48 (pc' := 49) rfl fun T80 h80 X80 W80 A80 => ?_
      replace A80 : AV Z h80 b78 .byte [(.int (u3.toInt8.toInt32)), (.int (u4.toInt8.toInt32)), (.int (0 : Int32))] := A80
      have E80_b78 := E79_b78.wr W80
      refine F_iload X80 at_49 rfl (pc' := 51) rfl ?_
      refine F_iconst X80 at_51 (z := (2 : Int32)) (by decide) (pc' := 52) rfl ?_
      refine F_icmp_le X80 at_52 (by decide) (pt := 62) (by decide) (pc' := 55) rfl (fun q => absurd q (by decide)) (fun _ => ?_)
      refine F_aload X80 at_55 rfl rfl (pc' := 57) rfl ?_
      refine F_iconst X80 at_57 (z := (2 : Int32)) (by decide) (pc' := 58) rfl ?_
      refine F_iload X80 at_58 rfl (pc' := 60) rfl ?_
      refine F_i2b X80 at_60 rfl (pc' := 61) rfl ?_
      refine F_bastore X80 A80 (by decide) (i := 2) (by decide) (Nat.le_of_ble_eq_true rfl) ge78 (z := (u5.toInt8.toInt32)) (own_bb _) at_61 (pc' := 62) rfl fun T81 h81 X81 W81 A81 => ?_
      replace A81 : AV Z h81 b78 .byte [(.int (u3.toInt8.toInt32)), (.int (u4.toInt8.toInt32)), (.int (u5.toInt8.toInt32))] := A81
      have E81_b78 := E80_b78.wr W81
      refine F_iconst X81 at_62 (z := (1 : Int32)) (by decide) (pc' := 63) rfl ?_
      refine F_newarray X81 (aty := .byte) (wd0 hw) (by decide) (cap := 1) (by decide) (by decide) (by decide) (by decide) (ad := "[B") rfl at_63 (pc' := 65) rfl fun T82 h82 b82 X82 Ex82 g82 ge82 E_b82 A82 => ?_
      replace A82 : AV Z h82 b82 .byte [(.int (0 : Int32))] := A82
      have ne_b78_b82 : b78 ≠ b82 := Nat.ne_of_lt (Nat.lt_of_lt_of_le E81_b78.lt (Nat.le_of_eq g82.symm))
      have E82_b78 := E81_b78.ext Ex82
      have A82_b78 := A81.ext Ex82
      replace X82 := X82.more (cells' := 2) (slots' := 4) (by decide) (by decide)
      refine F_dup X82 at_65 rfl (pc' := 66) rfl ?_
      refine F_iconst X82 at_66 (z := (0 : Int32)) (by decide) (pc' := 67) rfl ?_
      refine F_iloadN X82 at_67 rfl (pc' := 68) rfl ?_
      refine F_i2b X82 at_68 rfl (pc' := 69) rfl ?_
      refine F_bastore X82 A82 (by decide) (i := 0) (by decide) (Nat.le_of_ble_eq_true rfl) ge82 (z := (u2.toInt8.toInt32)) (own_bb _) at_69 (pc' := 70) rfl fun T83 h83 X83 W83 A83 => ?_
      replace A83 : AV Z h83 b82 .byte [(.int (u2.toInt8.toInt32))] := A83
      have E83_b78 := E82_b78.wr W83
      have E83_b82 := E_b82.wr W83
      have A83_b78 := A82_b78.other W83 ne_b78_b82
      refine F_astore X83 at_70 rfl (Ls' := #[.val (.int u1), .val (.int u2), .val (.int u3), .val (.int u4), .val (.int u5), .val (.int (1 : Int32)), .val (.int (3 : Int32)), .val (.ref b78), .val (.ref b82), .unset, .unset, .unset]) rfl (pc' := 72) rfl ?_
      refine F_new X83 (wd1 hw) (wd2 hw) (wd3 hw) (by decide) (by decide) at_72 (pc' := 75) rfl fun T84 h84 b84 X84 Ex84 g84 ge84 E_b84 D84 => ?_
      have ne_b78_b84 : b78 ≠ b84 := Nat.ne_of_lt (Nat.lt_of_lt_of_le E83_b78.lt (Nat.le_of_eq g84.symm))
      have ne_b82_b84 : b82 ≠ b84 := Nat.ne_of_lt (Nat.lt_of_lt_of_le E83_b82.lt (Nat.le_of_eq g84.symm))
      have E84_b78 := E83_b78.ext Ex84
      have E84_b82 := E83_b82.ext Ex84
      have A84_b78 := A83_b78.ext Ex84
      have A84_b82 := A83.ext Ex84
      have F84_proof_b84 : Fld Z h84 b84 "com/example/libdeleg/libdeleg/proof/Permission" "proof" "[B" .null := D84 (Or.inr (wd20 hw)) (ty := (.array .byte)) (by decide)
      have F84_voucher_b84 : Fld Z h84 b84 "com/example/libdeleg/libdeleg/proof/Permission" "voucher" "[B" .null := D84 (Or.inr (wd22 hw)) (ty := (.array .byte)) (by decide)
      replace X84 := X84.more (cells' := 3) (slots' := 6) (by decide) (by decide)
      refine F_dup X84 at_75 rfl (pc' := 76) rfl ?_
      refine F_aload X84 at_76 rfl rfl (pc' := 78) rfl ?_
      refine F_iload X84 at_78 rfl (pc' := 80) rfl ?_
      refine F_if_eq X84 at_80 (by decide) (pt := 88) (by decide) (pc' := 83) rfl (fun q => absurd q (by decide)) (fun _ => ?_)
      refine F_aload X84 at_83 rfl rfl (pc' := 85) rfl ?_
      refine F_goto X84 at_85 (by decide) (pc' := 89) (by decide) ?_
      refine F_init X84 (y := (⟨"com/example/libdeleg/libdeleg/proof/Permission", "<init>", "([B[B)V"⟩ : MethodName)) (stk := [(.ref b84)]) rfl (wd4 hw) (wd5 hw) (wd3 hw) (wd6 hw) (by decide) (a := b84) (argsL := [(.ref b82), (.ref b78)]) (conI l Z a0 hw n0 h84 X84.size b84 b82 b78 [(.int (u2.toInt8.toInt32))] [(.int (u3.toInt8.toInt32)), (.int (u4.toInt8.toInt32)), (.int (u5.toInt8.toInt32))] E_b84 E84_b82 E84_b78 F84_proof_b84 F84_voucher_b84 A84_b82 A84_b78 ge84 (Ne.symm ne_b82_b84) (Ne.symm ne_b78_b84) (by exact Nat.le_of_ble_eq_true rfl) (by exact Nat.le_of_ble_eq_true rfl)) (by decide) (W := 1) (Nat.le_of_ble_eq_true rfl) (by decide) (by decide) (by decide) rfl (lenOf pd0 rfl) rfl at_89 (pc' := 92) rfl fun T85 v85 h85 X85 q85 => ?_
      obtain ⟨b85_fb, rfl, sz85_fb, Kp85, E85_b84, E85_b85_fb, F85_voucher_b84, A85_b85_fb⟩ := q85
      have ge_b85_fb : n0 ≤ b85_fb := Nat.le_trans X84.size sz85_fb
      have ne_b78_b85_fb : b78 ≠ b85_fb := Nat.ne_of_lt (Nat.lt_of_lt_of_le E84_b78.lt sz85_fb)
      have ne_b82_b85_fb : b82 ≠ b85_fb := Nat.ne_of_lt (Nat.lt_of_lt_of_le E84_b82.lt sz85_fb)
      have ne_b84_b85_fb : b84 ≠ b85_fb := Nat.ne_of_lt (Nat.lt_of_lt_of_le E_b84.lt sz85_fb)
      have E85k_b78 := E84_b78.keep Kp85
      have E85k_b82 := E84_b82.keep Kp85
      have E85k_b84 := E_b84.keep Kp85
      have A85k_b78 := A84_b78.keep Kp85 (ninS ne_b78_b84 nin0)
      have A85k_b82 := A84_b82.keep Kp85 (ninS ne_b82_b84 nin0)
      replace X85 := X85.more (cells' := 5) (slots' := 12) (by decide) (by decide)
      show Jvm.OwnKit.Ends p e below s n0 24 128 _ T85 (mkF m 92 #[.val (.int u1), .val (.int u2), .val (.int u3), .val (.int u4), .val (.int u5), .val (.int (1 : Int32)), .val (.int (3 : Int32)), .val (.ref b78), .val (.ref b82), .unset, .unset, .unset] [(.ref b84)])
      refine F_astore X85 at_92 rfl (Ls' := #[.val (.int u1), .val (.int u2), .val (.int u3), .val (.int u4), .val (.int u5), .val (.int (1 : Int32)), .val (.int (3 : Int32)), .val (.ref b78), .val (.ref b82), .val (.ref b84), .unset, .unset]) rfl (pc' := 94) rfl ?_
      refine F_iload X85 at_94 rfl (pc' := 96) rfl ?_
      refine F_if_le X85 at_96 (by decide) (pt := 107) (by decide) (pc' := 99) rfl (fun q => absurd q (by decide)) (fun _ => ?_)
      refine F_aload X85 at_99 rfl rfl (pc' := 101) rfl ?_
      refine F_iconst X85 at_101 (z := (0 : Int32)) (by decide) (pc' := 102) rfl ?_
      refine F_iloadN X85 at_102 rfl (pc' := 103) rfl ?_
      refine F_iconst X85 at_103 (z := (1 : Int32)) (by decide) (pc' := 104) rfl ?_
      refine F_ixor X85 at_104 rfl (pc' := 105) rfl ?_
      refine F_i2b X85 at_105 rfl (pc' := 106) rfl ?_
      refine F_bastore X85 A85k_b78 (by decide) (i := 0) (by decide) (Nat.le_of_ble_eq_true rfl) ge78 (z := ((u3 ^^^ (1 : Int32)).toInt8.toInt32)) (own_bb _) at_106 (pc' := 107) rfl fun T86 h86 X86 W86 A86 => ?_
      replace A86 : AV Z h86 b78 .byte [(.int ((u3 ^^^ (1 : Int32)).toInt8.toInt32)), (.int (u4.toInt8.toInt32)), (.int (u5.toInt8.toInt32))] := A86
      have E86_b78 := E85k_b78.wr W86
      have E86_b82 := E85k_b82.wr W86
      have E86_b84 := E85_b84.wr W86
      have E86_b85_fb := E85_b85_fb.wr W86
      have F86_voucher_b84 := F85_voucher_b84.other W86 (Or.inl (Ne.symm ne_b78_b84))
      have A86_b82 := A85k_b82.other W86 (Ne.symm ne_b78_b82)
      have A86_b85_fb := A85_b85_fb.other W86 (Ne.symm ne_b78_b85_fb)
      refine F_iload X86 at_107 rfl (pc' := 109) rfl ?_
      refine F_iconst X86 at_109 (z := (1 : Int32)) (by decide) (pc' := 110) rfl ?_
      refine F_icmp_le X86 at_110 (by decide) (pt := 121) (by decide) (pc' := 113) rfl (fun q => absurd q (by decide)) (fun _ => ?_)
      refine F_aload X86 at_113 rfl rfl (pc' := 115) rfl ?_
      refine F_iconst X86 at_115 (z := (1 : Int32)) (by decide) (pc' := 116) rfl ?_
      refine F_iloadN X86 at_116 rfl (pc' := 117) rfl ?_
      refine F_iconst X86 at_117 (z := (1 : Int32)) (by decide) (pc' := 118) rfl ?_
      refine F_ixor X86 at_118 rfl (pc' := 119) rfl ?_
      refine F_i2b X86 at_119 rfl (pc' := 120) rfl ?_
      refine F_bastore X86 A86 (by decide) (i := 1) (by decide) (Nat.le_of_ble_eq_true rfl) ge78 (z := ((u4 ^^^ (1 : Int32)).toInt8.toInt32)) (own_bb _) at_120 (pc' := 121) rfl fun T87 h87 X87 W87 A87 => ?_
      replace A87 : AV Z h87 b78 .byte [(.int ((u3 ^^^ (1 : Int32)).toInt8.toInt32)), (.int ((u4 ^^^ (1 : Int32)).toInt8.toInt32)), (.int (u5.toInt8.toInt32))] := A87
      have E87_b78 := E86_b78.wr W87
      have E87_b82 := E86_b82.wr W87
      have E87_b84 := E86_b84.wr W87
      have E87_b85_fb := E86_b85_fb.wr W87
      have F87_voucher_b84 := F86_voucher_b84.other W87 (Or.inl (Ne.symm ne_b78_b84))
      have A87_b82 := A86_b82.other W87 (Ne.symm ne_b78_b82)
      have A87_b85_fb := A86_b85_fb.other W87 (Ne.symm ne_b78_b85_fb)
      refine F_iload X87 at_121 rfl (pc' := 123) rfl ?_
      refine F_iconst X87 at_123 (z := (2 : Int32)) (by decide) (pc' := 124) rfl ?_
      refine F_icmp_le X87 at_124 (by decide) (pt := 136) (by decide) (pc' := 127) rfl (fun q => absurd q (by decide)) (fun _ => ?_)
      refine F_aload X87 at_127 rfl rfl (pc' := 129) rfl ?_
      refine F_iconst X87 at_129 (z := (2 : Int32)) (by decide) (pc' := 130) rfl ?_
      refine F_iload X87 at_130 rfl (pc' := 132) rfl ?_
      refine F_iconst X87 at_132 (z := (1 : Int32)) (by decide) (pc' := 133) rfl ?_
      refine F_ixor X87 at_133 rfl (pc' := 134) rfl ?_
      refine F_i2b X87 at_134 rfl (pc' := 135) rfl ?_
      refine F_bastore X87 A87 (by decide) (i := 2) (by decide) (Nat.le_of_ble_eq_true rfl) ge78 (z := ((u5 ^^^ (1 : Int32)).toInt8.toInt32)) (own_bb _) at_135 (pc' := 136) rfl fun T88 h88 X88 W88 A88 => ?_
      replace A88 : AV Z h88 b78 .byte [(.int ((u3 ^^^ (1 : Int32)).toInt8.toInt32)), (.int ((u4 ^^^ (1 : Int32)).toInt8.toInt32)), (.int ((u5 ^^^ (1 : Int32)).toInt8.toInt32))] := A88
      have E88_b78 := E87_b78.wr W88
      have E88_b82 := E87_b82.wr W88
      have E88_b84 := E87_b84.wr W88
      have E88_b85_fb := E87_b85_fb.wr W88
      have F88_voucher_b84 := F87_voucher_b84.other W88 (Or.inl (Ne.symm ne_b78_b84))
      have A88_b82 := A87_b82.other W88 (Ne.symm ne_b78_b82)
      have A88_b85_fb := A87_b85_fb.other W88 (Ne.symm ne_b78_b85_fb)
      refine F_aload X88 at_136 rfl rfl (pc' := 138) rfl ?_
      refine F_callV X88 (y := (⟨"com/example/libdeleg/libdeleg/proof/Permission", "voucher", "()[B"⟩ : MethodName)) (stk := []) (wd23 hw) (wd24 hw) (wd26 hw) (wd25 hw) (wd3 hw) (wd27 hw) (by decide) (a := b84) E88_b84 (argsL := []) (conV l Z a0 hw n0 h88 X88.size b84 b85_fb [(.int (u3.toInt8.toInt32)), (.int (u4.toInt8.toInt32)), (.int (u5.toInt8.toInt32))] E88_b85_fb F88_voucher_b84 A88_b85_fb (by exact Nat.le_of_ble_eq_true rfl)) (by decide) (W := 0) (Nat.le_of_ble_eq_true rfl) (by decide) (by decide) (by decide) rfl (lenOf pd1 rfl) rfl at_138 (pc' := 141) rfl fun T89 v89 h89 X89 q89 => ?_
      obtain ⟨b89_fb, rfl, sz89_fb, Kp89, E89_b89_fb, A89_b89_fb⟩ := q89
      have ge_b89_fb : n0 ≤ b89_fb := Nat.le_trans X88.size sz89_fb
      have ne_b78_b89_fb : b78 ≠ b89_fb := Nat.ne_of_lt (Nat.lt_of_lt_of_le E88_b78.lt sz89_fb)
      have ne_b82_b89_fb : b82 ≠ b89_fb := Nat.ne_of_lt (Nat.lt_of_lt_of_le E88_b82.lt sz89_fb)
      have ne_b84_b89_fb : b84 ≠ b89_fb := Nat.ne_of_lt (Nat.lt_of_lt_of_le E88_b84.lt sz89_fb)
      have ne_b85_fb_b89_fb : b85_fb ≠ b89_fb := Nat.ne_of_lt (Nat.lt_of_lt_of_le E88_b85_fb.lt sz89_fb)
      have E89k_b78 := E88_b78.keep Kp89
      have E89k_b82 := E88_b82.keep Kp89
      have E89k_b84 := E88_b84.keep Kp89
      have E89k_b85_fb := E88_b85_fb.keep Kp89
      have F89k_voucher_b84 := F88_voucher_b84.keep Kp89 nin0
      have A89k_b82 := A88_b82.keep Kp89 nin0
      have A89k_b85_fb := A88_b85_fb.keep Kp89 nin0
      have A89k_b78 := A88.keep Kp89 nin0
      replace X89 := X89.more (cells' := 6) (slots' := 15) (by decide) (by decide)
      show Jvm.OwnKit.Ends p e below s n0 24 128 _ T89 (mkF m 141 #[.val (.int u1), .val (.int u2), .val (.int u3), .val (.int u4), .val (.int u5), .val (.int (1 : Int32)), .val (.int (3 : Int32)), .val (.ref b78), .val (.ref b82), .val (.ref b84), .unset, .unset] [(.ref b89_fb)])
      refine F_astore X89 at_141 rfl (Ls' := #[.val (.int u1), .val (.int u2), .val (.int u3), .val (.int u4), .val (.int u5), .val (.int (1 : Int32)), .val (.int (3 : Int32)), .val (.ref b78), .val (.ref b82), .val (.ref b84), .val (.ref b89_fb), .unset]) rfl (pc' := 143) rfl ?_
      refine F_iload X89 at_143 rfl (pc' := 145) rfl ?_
      refine F_if_ne X89 at_145 (by decide) (pt := 167) (by decide) (pc' := 148) rfl (fun _ => ?_) (fun q => absurd q (by decide))
      refine F_aload X89 at_167 rfl rfl (pc' := 169) rfl ?_
      refine F_ifnull_ref X89 at_169 (pc' := 172) rfl ?_
      refine F_aload X89 at_172 rfl rfl (pc' := 174) rfl ?_
      refine F_aload X89 at_174 rfl rfl (pc' := 176) rfl ?_
      refine F_acmp X89 (same := false) at_176 rfl rfl (decide_eq_false fun q => (Ne.symm ne_b78_b89_fb) (Value.ref.inj q)) (by decide) (pc' := 179) (by decide) ?_
      refine F_aload X89 at_179 rfl rfl (pc' := 181) rfl ?_
      refine F_arraylength X89 A89_b89_fb (z := (3 : Int32)) rfl at_181 (pc' := 182) rfl ?_
      refine F_iload X89 at_182 rfl (pc' := 184) rfl ?_
      refine F_icmp_eq X89 at_184 (by decide) (pt := 189) (by decide) (pc' := 187) rfl (fun _ => ?_) (fun q => absurd q (by decide))
      refine F_aload X89 at_189 rfl rfl (pc' := 191) rfl ?_
      refine F_iload X89 at_191 rfl (pc' := 193) rfl ?_
      refine F_iloadN X89 at_193 rfl (pc' := 194) rfl ?_
      refine F_iloadN X89 at_194 rfl (pc' := 195) rfl ?_
      refine F_iload X89 at_195 rfl (pc' := 197) rfl ?_
      refine F_callS X89 (y := (⟨"com/example/libdeleg/libdeleg/proof/PermissionVoucherPinLaw", "same", "([BIIII)Z"⟩ : MethodName)) (stk := []) (wd28 hw) (wd29 hw) (wd30 hw) (wd31 hw) (by decide) (argsL := [(.ref b89_fb), (.int (3 : Int32)), (.int u3), (.int u4), (.int u5)]) (conS3 l Z a0 hw n0 h89 X89.size b89_fb u3 u4 u5 A89_b89_fb) (by decide) (W := 0) (Nat.le_of_ble_eq_true rfl) (by decide) (by decide) (by decide) rfl (lenOf pd2 rfl) rfl at_197 (pc' := 200) rfl fun T90 v90 h90 X90 q90 => ?_
      obtain ⟨rfl, rfl⟩ := q90
      replace X90 := X90.more (cells' := 6) (slots' := 15) (by decide) (by decide)
      show Jvm.OwnKit.Ends p e below s n0 24 128 _ T90 (mkF m 200 #[.val (.int u1), .val (.int u2), .val (.int u3), .val (.int u4), .val (.int u5), .val (.int (1 : Int32)), .val (.int (3 : Int32)), .val (.ref b78), .val (.ref b82), .val (.ref b84), .val (.ref b89_fb), .unset] [(.int (1 : Int32))])
      refine F_if_ne X90 at_200 (by decide) (pt := 205) (by decide) (pc' := 203) rfl (fun _ => ?_) (fun q => absurd q (by decide))
      refine F_iload X90 at_205 rfl (pc' := 207) rfl ?_
      refine F_if_le X90 at_207 (by decide) (pt := 218) (by decide) (pc' := 210) rfl (fun q => absurd q (by decide)) (fun _ => ?_)
      refine F_aload X90 at_210 rfl rfl (pc' := 212) rfl ?_
      refine F_iconst X90 at_212 (z := (0 : Int32)) (by decide) (pc' := 213) rfl ?_
      refine F_iloadN X90 at_213 rfl (pc' := 214) rfl ?_
      refine F_iconst X90 at_214 (z := (1 : Int32)) (by decide) (pc' := 215) rfl ?_
      refine F_ixor X90 at_215 rfl (pc' := 216) rfl ?_
      refine F_i2b X90 at_216 rfl (pc' := 217) rfl ?_
      refine F_bastore X90 A89_b89_fb (by decide) (i := 0) (by decide) (Nat.le_of_ble_eq_true rfl) ge_b89_fb (z := ((u3 ^^^ (1 : Int32)).toInt8.toInt32)) (own_bb _) at_217 (pc' := 218) rfl fun T91 h91 X91 W91 A91 => ?_
      replace A91 : AV Z h91 b89_fb .byte [(.int ((u3 ^^^ (1 : Int32)).toInt8.toInt32)), (.int (u4.toInt8.toInt32)), (.int (u5.toInt8.toInt32))] := A91
      have E91_b78 := E89k_b78.wr W91
      have E91_b82 := E89k_b82.wr W91
      have E91_b84 := E89k_b84.wr W91
      have E91_b85_fb := E89k_b85_fb.wr W91
      have E91_b89_fb := E89_b89_fb.wr W91
      have F91_voucher_b84 := F89k_voucher_b84.other W91 (Or.inl ne_b84_b89_fb)
      have A91_b82 := A89k_b82.other W91 ne_b82_b89_fb
      have A91_b85_fb := A89k_b85_fb.other W91 ne_b85_fb_b89_fb
      have A91_b78 := A89k_b78.other W91 ne_b78_b89_fb
      refine F_iload X91 at_218 rfl (pc' := 220) rfl ?_
      refine F_iconst X91 at_220 (z := (1 : Int32)) (by decide) (pc' := 221) rfl ?_
      refine F_icmp_le X91 at_221 (by decide) (pt := 232) (by decide) (pc' := 224) rfl (fun q => absurd q (by decide)) (fun _ => ?_)
      refine F_aload X91 at_224 rfl rfl (pc' := 226) rfl ?_
      refine F_iconst X91 at_226 (z := (1 : Int32)) (by decide) (pc' := 227) rfl ?_
      refine F_iloadN X91 at_227 rfl (pc' := 228) rfl ?_
      refine F_iconst X91 at_228 (z := (1 : Int32)) (by decide) (pc' := 229) rfl ?_
      refine F_ixor X91 at_229 rfl (pc' := 230) rfl ?_
      refine F_i2b X91 at_230 rfl (pc' := 231) rfl ?_
      refine F_bastore X91 A91 (by decide) (i := 1) (by decide) (Nat.le_of_ble_eq_true rfl) ge_b89_fb (z := ((u4 ^^^ (1 : Int32)).toInt8.toInt32)) (own_bb _) at_231 (pc' := 232) rfl fun T92 h92 X92 W92 A92 => ?_
      replace A92 : AV Z h92 b89_fb .byte [(.int ((u3 ^^^ (1 : Int32)).toInt8.toInt32)), (.int ((u4 ^^^ (1 : Int32)).toInt8.toInt32)), (.int (u5.toInt8.toInt32))] := A92
      have E92_b78 := E91_b78.wr W92
      have E92_b82 := E91_b82.wr W92
      have E92_b84 := E91_b84.wr W92
      have E92_b85_fb := E91_b85_fb.wr W92
      have E92_b89_fb := E91_b89_fb.wr W92
      have F92_voucher_b84 := F91_voucher_b84.other W92 (Or.inl ne_b84_b89_fb)
      have A92_b82 := A91_b82.other W92 ne_b82_b89_fb
      have A92_b85_fb := A91_b85_fb.other W92 ne_b85_fb_b89_fb
      have A92_b78 := A91_b78.other W92 ne_b78_b89_fb
      refine F_iload X92 at_232 rfl (pc' := 234) rfl ?_
      refine F_iconst X92 at_234 (z := (2 : Int32)) (by decide) (pc' := 235) rfl ?_
      refine F_icmp_le X92 at_235 (by decide) (pt := 247) (by decide) (pc' := 238) rfl (fun q => absurd q (by decide)) (fun _ => ?_)
      refine F_aload X92 at_238 rfl rfl (pc' := 240) rfl ?_
      refine F_iconst X92 at_240 (z := (2 : Int32)) (by decide) (pc' := 241) rfl ?_
      refine F_iload X92 at_241 rfl (pc' := 243) rfl ?_
      refine F_iconst X92 at_243 (z := (1 : Int32)) (by decide) (pc' := 244) rfl ?_
      refine F_ixor X92 at_244 rfl (pc' := 245) rfl ?_
      refine F_i2b X92 at_245 rfl (pc' := 246) rfl ?_
      refine F_bastore X92 A92 (by decide) (i := 2) (by decide) (Nat.le_of_ble_eq_true rfl) ge_b89_fb (z := ((u5 ^^^ (1 : Int32)).toInt8.toInt32)) (own_bb _) at_246 (pc' := 247) rfl fun T93 h93 X93 W93 A93 => ?_
      replace A93 : AV Z h93 b89_fb .byte [(.int ((u3 ^^^ (1 : Int32)).toInt8.toInt32)), (.int ((u4 ^^^ (1 : Int32)).toInt8.toInt32)), (.int ((u5 ^^^ (1 : Int32)).toInt8.toInt32))] := A93
      have E93_b78 := E92_b78.wr W93
      have E93_b82 := E92_b82.wr W93
      have E93_b84 := E92_b84.wr W93
      have E93_b85_fb := E92_b85_fb.wr W93
      have E93_b89_fb := E92_b89_fb.wr W93
      have F93_voucher_b84 := F92_voucher_b84.other W93 (Or.inl ne_b84_b89_fb)
      have A93_b82 := A92_b82.other W93 ne_b82_b89_fb
      have A93_b85_fb := A92_b85_fb.other W93 ne_b85_fb_b89_fb
      have A93_b78 := A92_b78.other W93 ne_b78_b89_fb
      refine F_aload X93 at_247 rfl rfl (pc' := 249) rfl ?_
      refine F_callV X93 (y := (⟨"com/example/libdeleg/libdeleg/proof/Permission", "voucher", "()[B"⟩ : MethodName)) (stk := []) (wd23 hw) (wd24 hw) (wd26 hw) (wd25 hw) (wd3 hw) (wd27 hw) (by decide) (a := b84) E93_b84 (argsL := []) (conV l Z a0 hw n0 h93 X93.size b84 b85_fb [(.int (u3.toInt8.toInt32)), (.int (u4.toInt8.toInt32)), (.int (u5.toInt8.toInt32))] E93_b85_fb F93_voucher_b84 A93_b85_fb (by exact Nat.le_of_ble_eq_true rfl)) (by decide) (W := 0) (Nat.le_of_ble_eq_true rfl) (by decide) (by decide) (by decide) rfl (lenOf pd1 rfl) rfl at_249 (pc' := 252) rfl fun T94 v94 h94 X94 q94 => ?_
      obtain ⟨b94_fb, rfl, sz94_fb, Kp94, E94_b94_fb, A94_b94_fb⟩ := q94
      have ge_b94_fb : n0 ≤ b94_fb := Nat.le_trans X93.size sz94_fb
      have ne_b78_b94_fb : b78 ≠ b94_fb := Nat.ne_of_lt (Nat.lt_of_lt_of_le E93_b78.lt sz94_fb)
      have ne_b82_b94_fb : b82 ≠ b94_fb := Nat.ne_of_lt (Nat.lt_of_lt_of_le E93_b82.lt sz94_fb)
      have ne_b84_b94_fb : b84 ≠ b94_fb := Nat.ne_of_lt (Nat.lt_of_lt_of_le E93_b84.lt sz94_fb)
      have ne_b85_fb_b94_fb : b85_fb ≠ b94_fb := Nat.ne_of_lt (Nat.lt_of_lt_of_le E93_b85_fb.lt sz94_fb)
      have ne_b89_fb_b94_fb : b89_fb ≠ b94_fb := Nat.ne_of_lt (Nat.lt_of_lt_of_le E93_b89_fb.lt sz94_fb)
      have E94k_b78 := E93_b78.keep Kp94
      have E94k_b82 := E93_b82.keep Kp94
      have E94k_b84 := E93_b84.keep Kp94
      have E94k_b85_fb := E93_b85_fb.keep Kp94
      have E94k_b89_fb := E93_b89_fb.keep Kp94
      have F94k_voucher_b84 := F93_voucher_b84.keep Kp94 nin0
      have A94k_b82 := A93_b82.keep Kp94 nin0
      have A94k_b85_fb := A93_b85_fb.keep Kp94 nin0
      have A94k_b78 := A93_b78.keep Kp94 nin0
      have A94k_b89_fb := A93.keep Kp94 nin0
      replace X94 := X94.more (cells' := 7) (slots' := 18) (by decide) (by decide)
      show Jvm.OwnKit.Ends p e below s n0 24 128 _ T94 (mkF m 252 #[.val (.int u1), .val (.int u2), .val (.int u3), .val (.int u4), .val (.int u5), .val (.int (1 : Int32)), .val (.int (3 : Int32)), .val (.ref b78), .val (.ref b82), .val (.ref b84), .val (.ref b89_fb), .unset] [(.ref b94_fb)])
      refine F_astore X94 at_252 rfl (Ls' := #[.val (.int u1), .val (.int u2), .val (.int u3), .val (.int u4), .val (.int u5), .val (.int (1 : Int32)), .val (.int (3 : Int32)), .val (.ref b78), .val (.ref b82), .val (.ref b84), .val (.ref b89_fb), .val (.ref b94_fb)]) rfl (pc' := 254) rfl ?_
      refine F_aload X94 at_254 rfl rfl (pc' := 256) rfl ?_
      refine F_ifnull_ref X94 at_256 (pc' := 259) rfl ?_
      refine F_aload X94 at_259 rfl rfl (pc' := 261) rfl ?_
      refine F_aload X94 at_261 rfl rfl (pc' := 263) rfl ?_
      refine F_acmp X94 (same := false) at_263 rfl rfl (decide_eq_false fun q => (Ne.symm ne_b89_fb_b94_fb) (Value.ref.inj q)) (by decide) (pc' := 266) (by decide) ?_
      refine F_aload X94 at_266 rfl rfl (pc' := 268) rfl ?_
      refine F_aload X94 at_268 rfl rfl (pc' := 270) rfl ?_
      refine F_acmp X94 (same := false) at_270 rfl rfl (decide_eq_false fun q => (Ne.symm ne_b78_b94_fb) (Value.ref.inj q)) (by decide) (pc' := 273) (by decide) ?_
      refine F_aload X94 at_273 rfl rfl (pc' := 275) rfl ?_
      refine F_arraylength X94 A94_b94_fb (z := (3 : Int32)) rfl at_275 (pc' := 276) rfl ?_
      refine F_iload X94 at_276 rfl (pc' := 278) rfl ?_
      refine F_icmp_ne X94 at_278 (by decide) (pt := 299) (by decide) (pc' := 281) rfl (fun q => absurd q (by decide)) (fun _ => ?_)
      refine F_aload X94 at_281 rfl rfl (pc' := 283) rfl ?_
      refine F_iload X94 at_283 rfl (pc' := 285) rfl ?_
      refine F_iloadN X94 at_285 rfl (pc' := 286) rfl ?_
      refine F_iloadN X94 at_286 rfl (pc' := 287) rfl ?_
      refine F_iload X94 at_287 rfl (pc' := 289) rfl ?_
      refine F_callS X94 (y := (⟨"com/example/libdeleg/libdeleg/proof/PermissionVoucherPinLaw", "same", "([BIIII)Z"⟩ : MethodName)) (stk := []) (wd28 hw) (wd29 hw) (wd30 hw) (wd31 hw) (by decide) (argsL := [(.ref b94_fb), (.int (3 : Int32)), (.int u3), (.int u4), (.int u5)]) (conS3 l Z a0 hw n0 h94 X94.size b94_fb u3 u4 u5 A94_b94_fb) (by decide) (W := 0) (Nat.le_of_ble_eq_true rfl) (by decide) (by decide) (by decide) rfl (lenOf pd2 rfl) rfl at_289 (pc' := 292) rfl fun T95 v95 h95 X95 q95 => ?_
      obtain ⟨rfl, rfl⟩ := q95
      replace X95 := X95.more (cells' := 7) (slots' := 18) (by decide) (by decide)
      show Jvm.OwnKit.Ends p e below s n0 24 128 _ T95 (mkF m 292 #[.val (.int u1), .val (.int u2), .val (.int u3), .val (.int u4), .val (.int u5), .val (.int (1 : Int32)), .val (.int (3 : Int32)), .val (.ref b78), .val (.ref b82), .val (.ref b84), .val (.ref b89_fb), .val (.ref b94_fb)] [(.int (1 : Int32))])
      refine F_if_eq X95 at_292 (by decide) (pt := 299) (by decide) (pc' := 295) rfl (fun q => absurd q (by decide)) (fun _ => ?_)
      refine F_iconst X95 at_295 (z := (1 : Int32)) (by decide) (pc' := 296) rfl ?_
      refine F_goto X95 at_296 (by decide) (pc' := 300) (by decide) ?_
      refine F_ireturn_boolean (z' := (1 : Int32)) X95 (by decide) at_300 rfl (by decide) (by decide) ?_
      exact rfl
set_option maxRecDepth 65536 in
set_option maxHeartbeats 40000000 in
theorem comes_1 {Post : Tables → Env → Array Value → State → Outcome → State → Prop} (hpost : ∀ tb e args s v u, (limb_1_1.after args s (.returned v) u = true ∧ limb_1_2.after args s (.returned v) u = true ∧ True) → FrameEnd s (.returned v) u (Jvm.fieldLocs frame_1_writes args s ++ Jvm.arrayLocs frame_1_arrays args s ++ Jvm.staticLocs frame_1_statics s) 24 128 → Post tb e args s (.returned v) u) :
    ArmFor flags0 classFile x code maxLocals ret World_1 tables_1 room_1 Calls_1 rest_1 Pre_1 Post := by
  intro l hfl _ _ p e ha hc hk s m args below hf hA hF happ hP
  obtain ⟨hcalls, hrest, hpre⟩ := hP
  obtain ⟨-, -, -, hnamed, -, -, -, hat⟩ := (Spec.applies_iff hf).mp happ
  obtain ⟨hg, hn⟩ := and_e (Cond.before_iff.mp (show (Jvm.Cond.and given_1 narrow_1).before args s = true from hpre))
  obtain ⟨g0, r0⟩ := and_e hg
  obtain ⟨v0, r1⟩ := and_e r0
  obtain ⟨v1, r2⟩ := and_e r1
  obtain ⟨v2, r3⟩ := and_e r2
  obtain ⟨v3, r4⟩ := and_e r3
  obtain ⟨w0, w1, w2, w3, w4, rfl⟩ : ∃ w0 w1 w2 w3 w4 : Value, args = #[w0, w1, w2, w3, w4] := by
    have hs : args.size = 5 := by simpa [Cond.value, given_1] using g0
    obtain ⟨L⟩ := args
    match L, hs with
    | [w0, w1, w2, w3, w4], _ => exact ⟨w0, w1, w2, w3, w4, rfl⟩
  have hw := fun d (hd : d ∈ tables_1) => atoms_spec (ws := Jvm.Cond.code x code maxLocals ret :: tables_1) hat d (List.mem_cons_of_mem _ hd)
  obtain ⟨i0, ei0⟩ := is_v v0
  obtain rfl : w0 = (.int i0) := Option.some.inj ei0
  obtain ⟨i1, ei1⟩ := is_v v1
  obtain rfl : w1 = (.int i1) := Option.some.inj ei1
  obtain ⟨i2, ei2⟩ := is_v v2
  obtain rfl : w2 = (.int i2) := Option.some.inj ei2
  obtain ⟨i3, ei3⟩ := is_v v3
  obtain rfl : w3 = (.int i3) := Option.some.inj ei3
  obtain ⟨i4, ei4⟩ := is_v r4
  obtain rfl : w4 = (.int i4) := Option.some.inj ei4
  obtain ⟨n, o, h1, h2, h3, _, L, rfl, ⟨rfl, N⟩, hq⟩ := con0 l s _ hw s.heap.size s.heap (Nat.le_refl _) i0 i1 i2 i3 i4 tables_1 p e ha hc hk s m _ below hf ((Spec.applies_iff_loose hf).mp happ).1 ⟨rfl, State.Warmed39.refl s, rfl⟩ trivial
  refine ⟨n, _, h1, h2, h3, hpost _ _ _ _ _ _ ⟨Cond.after_iff.mpr rfl, Cond.after_iff.mpr (eq_i res_at (Term.int_eval (1)) rfl), trivial⟩ ⟨hq.1, hq.2.1, (hq.2.2.sift fun y hy => Or.inr (N y hy)).mono (by decide) (by decide)⟩⟩
theorem main_1_1 : Claimed_1_1 := comes_1 fun _ _ _ _ _ _ h hF => ⟨h.1, hF⟩
theorem main_1_2 : Claimed_1_2 := comes_1 fun _ _ _ _ _ _ h hF => ⟨h.2.1, hF⟩
end Jvm.Pilot.@@N@@
namespace Jvm.Pilot.@@N@@
open Jvm Jvm.ClassFile Sem Op Lib Jvm.Free Jvm.Stand Jvm.Pilot.@@N@@.Jvm.D
/-! MADE BY PROGRAM (witnessworld.py) out of the Statement's table words and the real class files: 9 classes; the members and pool entries that the words name. The judged class is class 1, her method 1. -/
namespace start1
open Jvm.ClassFile
def u (s : String) : CpInfo := .utf8 (stringToUtf16 s)
/-- a pool by its gaps: so many unusable entries, then the entry; so many at the end -/
def gap : Nat → List CpInfo → List CpInfo
  | 0, r => r
  | n + 1, r => .unusable :: gap n r
def poolList (es : List (Nat × CpInfo)) (last : Nat) : List CpInfo := es.foldr (fun e r => gap e.1 (e.2 :: r)) (gap last [])
def pool (es : List (Nat × CpInfo)) (last : Nat) : Array CpInfo := ⟨poolList es last⟩
def fileOf (pool : Array CpInfo) (this : Nat) (attrs : Array Attribute := #[]) (ms : Array MethodInfo := #[]) (fl : Nat := 33) (sup : Nat := 0) (ifs : Array Nat := #[]) (fds : Array FieldInfo := #[]) : ClassFile where
  minorVersion := 0
  majorVersion := 65
  constantPool := pool
  accessFlags := fl
  thisClass := this
  superClass := sup
  interfaces := ifs
  fields := fds
  methods := ms
  attributes := attrs
def plain (name : String) (sup : Option ClassId) : Class where
  name := name
  kind := .ordinary
  loader := none
  accessFlags := 33
  super := sup
  interfaces := #[]
  cf := none
  fields := #[]
  methods := #[]
  instanceTypes := #[]
  staticTypes := #[]
  resolved := #[]
  callSites := []
  init := .initialized
  statics := none
  mirror := none

def pool0 : Array CpInfo := pool [(5, u "<init>"), (0, u "()V"), (1, .class_ 10), (1, u "java/lang/Object"), (85, u "clone"), (0, u "()Ljava/lang/Object;")] 26

def k0c0 : Code := { maxStack := 0, maxLocals := 1, code := object_method_1_code, exceptionTable := #[], attributes := #[] }
def k0m0 : Method := { name := "<init>", desc := "()V", sig := { parameters := [], returnType := none }, accessFlags := 1, code := some k0c0 }
def k0m1 : Method := { name := "clone", desc := "()Ljava/lang/Object;", sig := { parameters := [], returnType := some (.object "java/lang/Object") }, accessFlags := 260, code := none }
/-- java/lang/Object -/
def k0 : Class := { plain "java/lang/Object" none with
  accessFlags := 33
  interfaces := #[]
  cf := some (fileOf pool0 8 #[] #[{ accessFlags := 1, nameIndex := 5, descriptorIndex := 6, attributes := #[] }, { accessFlags := 260, nameIndex := 96, descriptorIndex := 97, attributes := #[] }] 33 0 #[] #[])
  fields := #[]
  methods := #[k0m0, k0m1]
  instanceTypes := #[]
  staticTypes := #[]
  resolved := Array.replicate 124 none
  statics := none }

def pool1 : Array CpInfo := pool [(2, .class_ 4), (1, u "java/lang/Object"), (0, u "<init>"), (0, u "()V"), (0, .class_ 8), (0, u "com/example/libdeleg/libdeleg/proof/Permission"), (0, .methodref 7 10), (0, .nameAndType 5 11), (0, u "([B[B)V"), (0, .methodref 7 13), (0, .nameAndType 14 15), (0, u "voucher"), (0, u "()[B"), (0, .methodref 17 18), (0, .class_ 19), (0, .nameAndType 20 21), (0, u "com/example/libdeleg/libdeleg/proof/PermissionVoucherPinLaw"), (0, u "same"), (0, u "([BIIII)Z"), (2, u "law"), (0, u "(IIIII)Z")] 5

def k1m0 : Method := { name := "<init>", desc := "()V", sig := { parameters := [], returnType := none }, accessFlags := 1, code := none }
def k1c1 : Code := { maxStack := 5, maxLocals := 12, code := code, exceptionTable := #[], attributes := #[] }
def k1m1 : Method := { name := "law", desc := "(IIIII)Z", sig := { parameters := [.int, .int, .int, .int, .int], returnType := some .boolean }, accessFlags := 9, code := some k1c1 }
def k1c2 : Code := { maxStack := 2, maxLocals := 5, code := method_3_code, exceptionTable := #[], attributes := #[] }
def k1m2 : Method := { name := "same", desc := "([BIIII)Z", sig := { parameters := [(.array .byte), .int, .int, .int, .int], returnType := some .boolean }, accessFlags := 10, code := some k1c2 }
/-- com/example/libdeleg/libdeleg/proof/PermissionVoucherPinLaw -/
def k1 : Class := { plain "com/example/libdeleg/libdeleg/proof/PermissionVoucherPinLaw" (some 0) with
  accessFlags := 49
  interfaces := #[]
  cf := some (fileOf pool1 17 #[] #[{ accessFlags := 1, nameIndex := 5, descriptorIndex := 6, attributes := #[] }, { accessFlags := 9, nameIndex := 24, descriptorIndex := 25, attributes := #[] }, { accessFlags := 10, nameIndex := 20, descriptorIndex := 21, attributes := #[] }] 49 2 #[] #[])
  fields := #[]
  methods := #[k1m0, k1m1, k1m2]
  instanceTypes := #[]
  staticTypes := #[]
  resolved := Array.replicate 31 none
  statics := none }

def pool2 : Array CpInfo := pool [(2, .class_ 4), (1, u "com/example/libdeleg/libdeleg/proof/Permission"), (0, u "<init>"), (0, u "([B[B)V"), (0, .methodref 8 9), (0, .class_ 10), (0, .nameAndType 5 11), (0, u "java/lang/Object"), (0, u "()V"), (7, .methodref 20 21), (0, .class_ 22), (0, .nameAndType 23 24), (0, u "[B"), (0, u "clone"), (0, u "()Ljava/lang/Object;"), (0, .fieldref 2 26), (0, .nameAndType 27 22), (0, u "proof"), (0, .fieldref 2 29), (0, .nameAndType 30 22), (0, u "voucher"), (59, u "()[B")] 35

def k2c0 : Code := { maxStack := 3, maxLocals := 3, code := prog_39_method_2_code, exceptionTable := #[], attributes := #[] }
def k2m0 : Method := { name := "<init>", desc := "([B[B)V", sig := { parameters := [(.array .byte), (.array .byte)], returnType := none }, accessFlags := 1, code := some k2c0 }
def k2c1 : Code := { maxStack := 1, maxLocals := 1, code := prog_39_method_4_code, exceptionTable := #[], attributes := #[] }
def k2m1 : Method := { name := "voucher", desc := "()[B", sig := { parameters := [], returnType := some (.array .byte) }, accessFlags := 1, code := some k2c1 }
/-- com/example/libdeleg/libdeleg/proof/Permission -/
def k2 : Class := { plain "com/example/libdeleg/libdeleg/proof/Permission" (some 0) with
  accessFlags := 49
  interfaces := #[]
  cf := some (fileOf pool2 2 #[] #[{ accessFlags := 1, nameIndex := 5, descriptorIndex := 6, attributes := #[] }, { accessFlags := 1, nameIndex := 30, descriptorIndex := 90, attributes := #[] }] 49 8 #[] #[{ accessFlags := 18, nameIndex := 27, descriptorIndex := 22, attributes := #[] }, { accessFlags := 18, nameIndex := 30, descriptorIndex := 22, attributes := #[] }])
  fields := #[{ name := "proof", type := (.array .byte), accessFlags := 18, slot := 0, constantValue := 0 }, { name := "voucher", type := (.array .byte), accessFlags := 18, slot := 1, constantValue := 0 }]
  methods := #[k2m0, k2m1]
  instanceTypes := #[(.array .byte), (.array .byte)]
  staticTypes := #[]
  resolved := Array.replicate 126 none
  statics := none }

def pool3 : Array CpInfo := pool [(1, .class_ 2), (0, u "java/lang/Cloneable"), (0, .class_ 4), (0, u "java/lang/Object")] 2

/-- java/lang/Cloneable -/
def k3 : Class := { plain "java/lang/Cloneable" (some 0) with
  accessFlags := 1537
  interfaces := #[]
  cf := some (fileOf pool3 1 #[] #[] 1537 3 #[] #[])
  fields := #[]
  methods := #[]
  instanceTypes := #[]
  staticTypes := #[]
  resolved := Array.replicate 7 none
  statics := none }

def pool4 : Array CpInfo := pool [(1, u "java/io/Serializable"), (0, .class_ 1), (0, u "java/lang/Object"), (0, .class_ 3)] 3

/-- java/io/Serializable -/
def k4 : Class := { plain "java/io/Serializable" (some 0) with
  accessFlags := 1537
  interfaces := #[]
  cf := some (fileOf pool4 2 #[] #[] 1537 4 #[] #[])
  fields := #[]
  methods := #[]
  instanceTypes := #[]
  staticTypes := #[]
  resolved := Array.replicate 8 none
  statics := none }

/-- the primitive byte -/
def k5 : Class := { plain "byte" none with kind := .primitive 'B', accessFlags := 0x411 }
/-- [B -/
def k6 : Class := { plain "[B" (some 0) with kind := .array 5 .byte, interfaces := #[3, 4], accessFlags := 1041 }

/-- the primitive int -/
def k7 : Class := { plain "int" none with kind := .primitive 'I', accessFlags := 0x411 }
/-- [I -/
def k8 : Class := { plain "[I" (some 0) with kind := .array 7 .int, interfaces := #[3, 4], accessFlags := 1041 }

def heap : Heap := #[]
def classes : Array Class := #[k0, k1, k2, k3, k4, k5, k6, k7, k8]
def interned : List (Array UInt16 × Addr) := []
def slotsUsed : Nat := 0
def theMethod : MethodId := ⟨1, 1⟩
def args0 : Array Value := #[.int 7, .int 6, .int 7, .int 8, .int 9]
def aboutOver (below : List Frame) : State where
  vm := { classes := classes, interned := interned.toArray }
  heap := heap
  slotsUsed := slotsUsed
  threads := #[{ frames := .invoking theMethod args0 :: below }]
def below0 : List Frame := [.native { method := ⟨0, 0⟩, args := #[] }]
def about1 : State := aboutOver below0
def p0 : Program := .bare "" "" ""
def e0 : Env := launch0.env 0 0 0
theorem w_frames : about1.frames = Frame.invoking theMethod args0 :: below0 := rfl
set_option maxRecDepth 65536 in
theorem w_args : argsFit about1.vm theMethod args0 = true := by decide +kernel
set_option maxRecDepth 65536 in
theorem w_heap : heapFits about1 = true := by decide +kernel
set_option maxRecDepth 65536 in
theorem w_runnable : about1.curStatus? = some .runnable := by decide +kernel
set_option maxRecDepth 65536 in
theorem w_alone : about1.alone = true := by decide +kernel
set_option maxRecDepth 65536 in
theorem w_named : about1.methodNamed? x = some theMethod := by decide +kernel
set_option maxRecDepth 65536 in
theorem w_hears : about1.hears theMethod below0 = true := by decide +kernel
set_option maxRecDepth 65536 in
theorem w_ripe : about1.ripe theMethod args0 below0 = true := by decide +kernel
theorem w_running : about1.status = .running := rfl
set_option maxRecDepth 65536 in
theorem w_room : about1.hasRoom e0.platform room_1 = true :=
  launch0.hasRoom_least _ room_1 (by decide +kernel) (by decide +kernel) (by decide +kernel) (by decide +kernel) (by decide +kernel) (by decide +kernel)
theorem allAtoms_all (ts : List Jvm.Cond) (a : Array Jvm.Value) (st : Jvm.State) : (allAtoms ts).before a st = ts.all (fun c => c.before a st) := by
  induction ts with
  | nil => rfl
  | cons c t ih =>
    show (Jvm.Cond.and c (allAtoms t)).before a st = _
    rw [Jvm.Cond.before_and, ih, List.all_cons]
def words1 : List Jvm.Cond := Jvm.Cond.code x code maxLocals ret :: tables_1
/-- a 'code' word, met by the world's own term for the bytes: nothing is compared byte by byte -/
theorem code_word {y : MethodName} {bytes : ByteArray} {mx : Nat} {rt : Option FieldType} {a : Array Value} {s : State} {m : MethodId} {meth : Method} {c : Code} (h1 : s.methodNamed? y = some m) (h2 : s.vm.method? m = some meth) (h3 : meth.code = some c) (h4 : c.code = bytes)
    (h5 : (c.maxLocals == mx && c.exceptionTable.isEmpty && decide (c.maxStack ≤ mostOperands) && decide (meth.sig.returnType = rt) && !meth.locks && decide (parseMethodDescriptor y.desc = some meth.sig)) = true) : (Jvm.Cond.code y bytes mx rt).before a s = true := by
  simp only [Bool.and_eq_true, beq_iff_eq, Bool.not_eq_true', decide_eq_true_eq] at h5
  obtain ⟨⟨⟨⟨⟨g1, g2⟩, g3⟩, g4⟩, g5⟩, g6⟩ := h5
  simp [Cond.before, Cond.holds, Cond.value, h1, h2, h3, h4, g1, g2, g3, g4, g5, g6]
def isCode : Jvm.Cond → Bool
  | .code _ _ _ _ => true
  | _ => false
theorem all_split {L : List Jvm.Cond} {P : Jvm.Cond → Bool} (h1 : L.all (fun c => isCode c || P c) = true) (h2 : ∀ c ∈ L.filter isCode, P c = true) : L.all P = true := by
  refine List.all_eq_true.mpr fun c hc => ?_
  have h := List.all_eq_true.mp h1 c hc
  rcases Bool.eq_false_or_eq_true (isCode c) with hi | hi
  · exact h2 c (List.mem_filter.mpr ⟨hc, hi⟩)
  · simpa [hi] using h
set_option maxRecDepth 65536 in
theorem w_c0 : (Jvm.Cond.code x code maxLocals ret).before args0 about1 = true := code_word (m := ⟨1, 1⟩) (meth := k1m1) (c := k1c1) (by decide +kernel) rfl rfl rfl (by decide +kernel)
set_option maxRecDepth 65536 in
theorem w_c1 : (Jvm.Cond.code ({ cls := "com/example/libdeleg/libdeleg/proof/Permission", name := "<init>", desc := "([B[B)V" } : Jvm.MethodName) prog_39_method_2_code (3 : Nat) (Option.none : Option Jvm.ClassFile.FieldType)).before args0 about1 = true := code_word (m := ⟨2, 0⟩) (meth := k2m0) (c := k2c0) (by decide +kernel) rfl rfl rfl (by decide +kernel)
set_option maxRecDepth 65536 in
theorem w_c2 : (Jvm.Cond.code ({ cls := "java/lang/Object", name := "<init>", desc := "()V" } : Jvm.MethodName) object_method_1_code (1 : Nat) (Option.none : Option Jvm.ClassFile.FieldType)).before args0 about1 = true := code_word (m := ⟨0, 0⟩) (meth := k0m0) (c := k0c0) (by decide +kernel) rfl rfl rfl (by decide +kernel)
set_option maxRecDepth 65536 in
theorem w_c3 : (Jvm.Cond.code ({ cls := "com/example/libdeleg/libdeleg/proof/Permission", name := "voucher", desc := "()[B" } : Jvm.MethodName) prog_39_method_4_code (1 : Nat) (Option.some (Jvm.ClassFile.FieldType.array Jvm.ClassFile.FieldType.byte))).before args0 about1 = true := code_word (m := ⟨2, 1⟩) (meth := k2m1) (c := k2c1) (by decide +kernel) rfl rfl rfl (by decide +kernel)
set_option maxRecDepth 65536 in
theorem w_c4 : (Jvm.Cond.code ({ cls := "com/example/libdeleg/libdeleg/proof/PermissionVoucherPinLaw", name := "same", desc := "([BIIII)Z" } : Jvm.MethodName) method_3_code (5 : Nat) (Option.some Jvm.ClassFile.FieldType.boolean)).before args0 about1 = true := code_word (m := ⟨1, 2⟩) (meth := k1m2) (c := k1c2) (by decide +kernel) rfl rfl rfl (by decide +kernel)
def codes1 : List Jvm.Cond := [Jvm.Cond.code x code maxLocals ret, Jvm.Cond.code ({ cls := "com/example/libdeleg/libdeleg/proof/Permission", name := "<init>", desc := "([B[B)V" } : Jvm.MethodName) prog_39_method_2_code (3 : Nat) (Option.none : Option Jvm.ClassFile.FieldType), Jvm.Cond.code ({ cls := "java/lang/Object", name := "<init>", desc := "()V" } : Jvm.MethodName) object_method_1_code (1 : Nat) (Option.none : Option Jvm.ClassFile.FieldType), Jvm.Cond.code ({ cls := "com/example/libdeleg/libdeleg/proof/Permission", name := "voucher", desc := "()[B" } : Jvm.MethodName) prog_39_method_4_code (1 : Nat) (Option.some (Jvm.ClassFile.FieldType.array Jvm.ClassFile.FieldType.byte)), Jvm.Cond.code ({ cls := "com/example/libdeleg/libdeleg/proof/PermissionVoucherPinLaw", name := "same", desc := "([BIIII)Z" } : Jvm.MethodName) method_3_code (5 : Nat) (Option.some Jvm.ClassFile.FieldType.boolean)]
set_option maxRecDepth 65536 in
theorem codes_eq : words1.filter isCode = codes1 := rfl
theorem w_codes : ∀ c ∈ words1.filter isCode, c.before args0 about1 = true := by
  rw [codes_eq]
  intro c hc
  simp only [codes1, List.mem_cons, List.not_mem_nil, or_false] at hc
  rcases hc with rfl | rfl | rfl | rfl | rfl
  · exact w_c0
  · exact w_c1
  · exact w_c2
  · exact w_c3
  · exact w_c4
set_option maxRecDepth 65536 in
theorem w_t1 : (words1.take 24).all (fun c => isCode c || c.before args0 about1) = true := by decide +kernel
set_option maxRecDepth 65536 in
theorem w_t2 : (words1.drop 24).all (fun c => isCode c || c.before args0 about1) = true := by decide +kernel
theorem w_tables : (allAtoms (Jvm.Cond.code x code maxLocals ret :: tables_1)).before args0 about1 = true := by
  rw [allAtoms_all]
  show words1.all (fun c => c.before args0 about1) = true
  refine all_split ?_ w_codes
  rw [← List.take_append_drop 24 words1, List.all_append, w_t1, w_t2]
  rfl
set_option maxRecDepth 65536 in
theorem w_case : (Jvm.Cond.and given_1 narrow_1).before args0 about1 = true := by decide +kernel
theorem w_applies : (headSpec (Jvm.Cond.code x code maxLocals ret :: tables_1) room_1).applies x e0.platform about1 = true :=
  (Spec.applies_iff w_frames).mpr ⟨w_running, w_runnable, w_alone, w_named, w_hears, w_ripe, w_room, w_tables⟩
theorem atStart : AtStart classFile x code maxLocals ret World_1 tables_1 room_1 Calls_1 rest_1 Pre_1 launch0 p0 e0 about1 theMethod args0 below0 :=
  ⟨lists_1, trivial, launch0.admits_env _ _ _, launch0.least_env, fairChoices_fair.cas, fairChoices_fair.clock, w_frames, w_args, w_heap, w_applies, trivial, trivial, w_case⟩
end start1
theorem witness_1 : WitnessClaimed_1 := ⟨start1.p0, start1.e0, start1.about1, start1.theMethod, start1.args0, start1.below0, start1.atStart⟩
end Jvm.Pilot.@@N@@

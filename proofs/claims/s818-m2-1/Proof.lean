import JvmDerived
import JvmDerived.Pilot.@@N@@Statement
import JvmDerived.Pilot.@@N@@Code
set_option linter.unusedVariables false
set_option linter.unusedSimpArgs false
@@BLOCK:NumsL.lean.txt@@

namespace Jvm.OwnKit
open Sem ClassFile Op Lib Jvm.Stand Jvm.Free Jvm.LawKit Jvm.RoadKit
/-- where the run of one body stands: the heap h, cells and slots used at the most; nothing below n0 was written -/
def St (p : Program) (l : Launch) (e : Env) (R : Room) (s : State) (m : MethodId) (args : Array Value) (below : List Frame) (meth : Method) (c : Code) (Z : State) (code : ByteArray) (own : String) (ret : Option FieldType) (ml : Nat) (nm : String) (n0 : Nat) (T : State) (h : Heap) (cells slots : Nat) : Prop :=
  ∃ locs, Stand p l e R s m args below meth c T locs cells slots ∧ p.tables.exec = Jvm.exec ∧ Z.Warmed39 s.vm ∧ c.code = code ∧ s.vm.findClass own = some m.cls ∧ meth.sig.returnType = ret ∧ c.maxLocals = ml ∧ meth.name = nm ∧ meth.locks = false ∧ T.heap = h ∧ Fr n0 locs ∧ n0 ≤ s.heap.size
/-- the run from T with the top frame f ends, and returns as Q says -/
def Ends (p : Program) (e : Env) (below : List Frame) (s : State) (n0 C S : Nat) (Q : Option Value → Heap → Prop) (T : State) (f : JFrame) : Prop :=
  ∃ s₂ o, Steps p.tables e below (T.setTop f) s₂ ∧ s₂.status = .running ∧ Ended s₂ below o ∧ ∃ v L, o = .returned v ∧ (Q v s₂.heap ∧ Fr n0 L) ∧ FrameEnd s o s₂ L C S
/-- the contract of a body: called with 'as' at the heap h it returns as Q says -/
def Con (l : Launch) (y : MethodName) (bytes : ByteArray) (maxL : Nat) (ret : Option FieldType) (rm : Room) (C S : Nat) (Z : State) (n0 : Nat) (as : Array Value) (h : Heap) (Q : Option Value → Heap → Prop) : Prop :=
  ∀ ws, MetFree l y (head1 (Cond.code y bytes maxL ret :: ws) rm) (fun a U => a = as ∧ Z.Warmed39 U.vm ∧ U.heap = h) (fun _ _ _ _ _ => True) (fun _ U o U' => ∃ v L, o = .returned v ∧ (Q v U'.heap ∧ Fr n0 L) ∧ FrameEnd U o U' L C S)
theorem Ends.by {p : Program} {e : Env} {below : List Frame} {s : State} {n0 C S : Nat} {Q : Option Value → Heap → Prop} {T T' : State} {f f' : JFrame} (st : ∀ target, Steps p.tables e below (T'.setTop f') target → Steps p.tables e below (T.setTop f) target) (k : Ends p e below s n0 C S Q T' f') : Ends p e below s n0 C S Q T f := by
  obtain ⟨s₂, o, h1, r⟩ := k
  exact ⟨s₂, o, st _ h1, r⟩
theorem Con.body {l : Launch} {y : MethodName} {bytes : ByteArray} {maxL : Nat} {ret : Option FieldType} {rm : Room} {C S : Nat} {Z : State} {n0 : Nat} {as : Array Value} {h : Heap} {Q : Option Value → Heap → Prop} {own nm : String} (ho : y.cls = own) (hnm0 : y.name = nm) (hpl : plainFor y = true) (hn : n0 ≤ h.size)
    (B : ∀ (p : Program) (e : Env) (s : State) (m : MethodId) (below : List Frame) (meth : Method) (c : Code) (T : State), St p l e rm s m as below meth c Z bytes own ret maxL nm n0 T h 0 0 → Ends p e below s n0 C S Q T (entryFrame m as maxL)) : Con l y bytes maxL ret rm C S Z n0 as h Q := by
  subst ho hnm0
  intro ws
  refine MetFree.of_bodySF hpl hisR ?_
  intro p e s m args below meth c s₁ Bd hml0 hP hK
  obtain ⟨rfl, hZ, hh⟩ := hP
  have hnm := (name_of_methodNamed Bd.named Bd.method).1
  exact B p e s m below meth c s₁ ⟨[], Stand.of_body Bd, Bd.exec, hZ, Bd.bytes, findClass_of_methodNamed Bd.named, Bd.returns, hml0, hnm, Bd.notSynchronized, by rw [← hh, Bd.state]; rfl, Fr.nil n0, hh ▸ hn⟩

/-! plain facts on numbers -/
theorem own_len32 {n : Nat} (h : n < 2147483648) : n.toInt32.toNatClampNeg = n := by
  have e1 : (n.toInt32).toInt = n := len_toInt (by omega)
  simp only [Int32.toNatClampNeg, e1]; omega
theorem own_ofNat {n : Nat} (h : n < 2147483648) : (Int32.ofNat n).toInt = n := Int32.toInt_ofNat_of_lt (by omega)
theorem own_natOf {x : Int32} (h : 0 ≤ x.toInt) : x = Int32.ofNat x.toInt.toNat := by
  have r := rng32 x
  apply Int32.toInt_inj.mp
  rw [own_ofNat (by omega)]; omega
theorem own_maskN (x m : Int32) (k : Nat) (hk : k < 32) (hm : m.toBitVec.toNat = 2 ^ k - 1) : ∃ n : Nat, n < 2 ^ k ∧ (x &&& m) = Int32.ofNat n := by
  have e := Jvm.Kit.i32_mask x m (k := k) hk hm
  have p : (0 : Int) < 2 ^ k := Int.pow_pos (by decide)
  have a := Int.emod_nonneg x.toInt (Int.ne_of_gt p)
  have b := Int.emod_lt_of_pos x.toInt p
  refine ⟨(x &&& m).toInt.toNat, ?_, own_natOf (by omega)⟩
  rw [e]
  have c : ((x.toInt % 2 ^ k).toNat : Int) < ((2 ^ k : Nat) : Int) := by rw [Int.toNat_of_nonneg a]; simpa using b
  exact_mod_cast c
theorem own_rem (x m : Int32) (q : Nat) (hm : m.toInt = q) (h1 : 0 < q) : ∃ n : Nat, n < q ∧ (x &&& 2147483647) % m = Int32.ofNat n := by
  have e := Jvm.Kit.i32_mask x 2147483647 (k := 31) (by decide) (by decide)
  have p : 0 ≤ (x &&& 2147483647).toInt := by omega
  have e2 := Jvm.Kit.i32_rem_nonneg (y := m) p
  have hp : (0 : Int) < m.toInt := by omega
  have a := Int.emod_nonneg (x &&& 2147483647).toInt (Int.ne_of_gt hp)
  have b := Int.emod_lt_of_pos (x &&& 2147483647).toInt hp
  exact ⟨((x &&& 2147483647) % m).toInt.toNat, by omega, own_natOf (by omega)⟩
theorem own_m3 {x z : Int32} (h : x &&& (3 : Int32) = z) : z = 0 ∨ z = 1 ∨ z = 2 ∨ z = 3 := by
  obtain ⟨n, hn, e⟩ := own_maskN x 3 2 (by decide) (by decide)
  rw [← h, e]
  have : ∀ i : Fin 4, Int32.ofNat i = 0 ∨ Int32.ofNat i = 1 ∨ Int32.ofNat i = 2 ∨ Int32.ofNat i = 3 := by decide +kernel
  exact this ⟨n, hn⟩
theorem own_m1 {x z : Int32} (h : x &&& (1 : Int32) = z) : z = 0 ∨ z = 1 := by
  obtain ⟨n, hn, e⟩ := own_maskN x 1 1 (by decide) (by decide)
  rw [← h, e]
  have : ∀ i : Fin 2, Int32.ofNat i = 0 ∨ Int32.ofNat i = 1 := by decide +kernel
  exact this ⟨n, hn⟩
section Laws
variable {p : Program} {l : Launch} {e : Env} {R : Room} {s : State} {m : MethodId} {args : Array Value} {below : List Frame} {meth : Method} {c : Code} {Z : State} {code : ByteArray} {own : String} {ret : Option FieldType} {ml : Nat} {nm : String} {n0 : Nat} {T : State} {h : Heap} {cells slots : Nat} {C S : Nat} {Q : Option Value → Heap → Prop} {pc pc' : Nat} {Ls : Array Slot} {stk : List Value}
theorem St.more (X : St p l e R s m args below meth c Z code own ret ml nm n0 T h cells slots) {cells' slots' : Nat} (h1 : cells ≤ cells') (h2 : slots ≤ slots') : St p l e R s m args below meth c Z code own ret ml nm n0 T h cells' slots' := by
  obtain ⟨locs, Y, r⟩ := X
  exact ⟨locs, Y.more h1 h2, r⟩
theorem St.size (X : St p l e R s m args below meth c Z code own ret ml nm n0 T h cells slots) : n0 ≤ h.size := by
  obtain ⟨locs, Y, hx, hZ, hc, ho, hr, hm, hn, hk, rfl, hF, h0⟩ := X
  exact Nat.le_trans h0 (Y.same.2.1 : s.heap.size ≤ T.heap.size)

theorem F_iloadN (X : St p l e R s m args below meth c Z code own ret ml nm n0 T h cells slots) {k : Fin 4} {v : Int32} (hd : decode code pc = .ok (.iload_n k, 1)) (hl : Ls[k.val]? = some (.val (.int v))) (hp : pc + 1 = pc') (k : Ends p e below s n0 C S Q T (mkF m pc' Ls (.int v :: stk))) : Ends p e below s n0 C S Q T (mkF m pc Ls stk) := by
  obtain ⟨locs, Y, hx, hZ, hc, ho, hr, hm, hn, hk, hh, hF, h0⟩ := X
  subst hp
  exact k.by fun _ kt => XS.iloadN Y.here hx rfl (hb hc hd) hl kt
theorem F_iload (X : St p l e R s m args below meth c Z code own ret ml nm n0 T h cells slots) {k : Nat} {v : Int32} (hd : decode code pc = .ok (.iload k, 2)) (hl : Ls[k]? = some (.val (.int v))) (hp : pc + 2 = pc') (k : Ends p e below s n0 C S Q T (mkF m pc' Ls (.int v :: stk))) : Ends p e below s n0 C S Q T (mkF m pc Ls stk) := by
  obtain ⟨locs, Y, hx, hZ, hc, ho, hr, hm, hn, hk, hh, hF, h0⟩ := X
  subst hp
  exact k.by fun _ kt => XS.iload Y.here hx rfl (hb hc hd) hl kt
theorem F_istoreN (X : St p l e R s m args below meth c Z code own ret ml nm n0 T h cells slots) {k : Fin 4} {v : Int32} {Ls' : Array Slot} (hd : decode code pc = .ok (.istore_n k, 1)) (hl : storeLocals Ls k.val (.int v) = some Ls') (hp : pc + 1 = pc') (k : Ends p e below s n0 C S Q T (mkF m pc' Ls' stk)) : Ends p e below s n0 C S Q T (mkF m pc Ls (.int v :: stk)) := by
  obtain ⟨locs, Y, hx, hZ, hc, ho, hr, hm, hn, hk, hh, hF, h0⟩ := X
  subst hp
  exact k.by fun _ kt => XS.istoreN Y.here hx rfl (hb hc hd) rfl hl kt
theorem F_istore (X : St p l e R s m args below meth c Z code own ret ml nm n0 T h cells slots) {k : Nat} {v : Int32} {Ls' : Array Slot} (hd : decode code pc = .ok (.istore k, 2)) (hl : storeLocals Ls k (.int v) = some Ls') (hp : pc + 2 = pc') (k : Ends p e below s n0 C S Q T (mkF m pc' Ls' stk)) : Ends p e below s n0 C S Q T (mkF m pc Ls (.int v :: stk)) := by
  obtain ⟨locs, Y, hx, hZ, hc, ho, hr, hm, hn, hk, hh, hF, h0⟩ := X
  subst hp
  exact k.by fun _ kt => XS.istore Y.here hx rfl (hb hc hd) rfl hl kt
theorem F_lloadN (X : St p l e R s m args below meth c Z code own ret ml nm n0 T h cells slots) {k : Fin 4} {v : Int64} (hd : decode code pc = .ok (.lload_n k, 1)) (hl : Ls[k.val]? = some (.val (.long v))) (hp : pc + 1 = pc') (k : Ends p e below s n0 C S Q T (mkF m pc' Ls (.long v :: stk))) : Ends p e below s n0 C S Q T (mkF m pc Ls stk) := by
  obtain ⟨locs, Y, hx, hZ, hc, ho, hr, hm, hn, hk, hh, hF, h0⟩ := X
  subst hp
  exact k.by fun _ kt => XS.lloadN Y.here hx rfl (hb hc hd) hl kt
theorem F_lload (X : St p l e R s m args below meth c Z code own ret ml nm n0 T h cells slots) {k : Nat} {v : Int64} (hd : decode code pc = .ok (.lload k, 2)) (hl : Ls[k]? = some (.val (.long v))) (hp : pc + 2 = pc') (k : Ends p e below s n0 C S Q T (mkF m pc' Ls (.long v :: stk))) : Ends p e below s n0 C S Q T (mkF m pc Ls stk) := by
  obtain ⟨locs, Y, hx, hZ, hc, ho, hr, hm, hn, hk, hh, hF, h0⟩ := X
  subst hp
  exact k.by fun _ kt => XS.lload Y.here hx rfl (hb hc hd) hl kt
theorem F_lstoreN (X : St p l e R s m args below meth c Z code own ret ml nm n0 T h cells slots) {k : Fin 4} {v : Int64} {Ls' : Array Slot} (hd : decode code pc = .ok (.lstore_n k, 1)) (hl : storeLocals Ls k.val (.long v) = some Ls') (hp : pc + 1 = pc') (k : Ends p e below s n0 C S Q T (mkF m pc' Ls' stk)) : Ends p e below s n0 C S Q T (mkF m pc Ls (.long v :: stk)) := by
  obtain ⟨locs, Y, hx, hZ, hc, ho, hr, hm, hn, hk, hh, hF, h0⟩ := X
  subst hp
  exact k.by fun _ kt => XS.lstoreN Y.here hx rfl (hb hc hd) rfl hl kt
theorem F_lstore (X : St p l e R s m args below meth c Z code own ret ml nm n0 T h cells slots) {k : Nat} {v : Int64} {Ls' : Array Slot} (hd : decode code pc = .ok (.lstore k, 2)) (hl : storeLocals Ls k (.long v) = some Ls') (hp : pc + 2 = pc') (k : Ends p e below s n0 C S Q T (mkF m pc' Ls' stk)) : Ends p e below s n0 C S Q T (mkF m pc Ls (.long v :: stk)) := by
  obtain ⟨locs, Y, hx, hZ, hc, ho, hr, hm, hn, hk, hh, hF, h0⟩ := X
  subst hp
  exact k.by fun _ kt => XS.lstore Y.here hx rfl (hb hc hd) rfl hl kt
theorem F_aloadN (X : St p l e R s m args below meth c Z code own ret ml nm n0 T h cells slots) {k : Fin 4} {v : Value} (hd : decode code pc = .ok (.aload_n k, 1)) (hl : Ls[k.val]? = some (.val v)) (hv : v.isRef = true) (hp : pc + 1 = pc') (k : Ends p e below s n0 C S Q T (mkF m pc' Ls (v :: stk))) : Ends p e below s n0 C S Q T (mkF m pc Ls stk) := by
  obtain ⟨locs, Y, hx, hZ, hc, ho, hr, hm, hn, hk, hh, hF, h0⟩ := X
  subst hp
  exact k.by fun _ kt => XS.aloadN Y.here hx rfl (hb hc hd) hl hv kt
theorem F_aload (X : St p l e R s m args below meth c Z code own ret ml nm n0 T h cells slots) {k : Nat} {v : Value} (hd : decode code pc = .ok (.aload k, 2)) (hl : Ls[k]? = some (.val v)) (hv : v.isRef = true) (hp : pc + 2 = pc') (k : Ends p e below s n0 C S Q T (mkF m pc' Ls (v :: stk))) : Ends p e below s n0 C S Q T (mkF m pc Ls stk) := by
  obtain ⟨locs, Y, hx, hZ, hc, ho, hr, hm, hn, hk, hh, hF, h0⟩ := X
  subst hp
  exact k.by fun _ kt => XS.aload Y.here hx rfl (hb hc hd) hl hv kt
theorem F_astoreN (X : St p l e R s m args below meth c Z code own ret ml nm n0 T h cells slots) {k : Fin 4} {v : Value} {Ls' : Array Slot} (hd : decode code pc = .ok (.astore_n k, 1)) (hv : v.isRef = true) (hl : storeLocals Ls k.val v = some Ls') (hp : pc + 1 = pc') (k : Ends p e below s n0 C S Q T (mkF m pc' Ls' stk)) : Ends p e below s n0 C S Q T (mkF m pc Ls (v :: stk)) := by
  obtain ⟨locs, Y, hx, hZ, hc, ho, hr, hm, hn, hk, hh, hF, h0⟩ := X
  subst hp
  exact k.by fun _ kt => XS.astoreN Y.here hx rfl (hb hc hd) rfl hv hl kt
theorem F_astore (X : St p l e R s m args below meth c Z code own ret ml nm n0 T h cells slots) {k : Nat} {v : Value} {Ls' : Array Slot} (hd : decode code pc = .ok (.astore k, 2)) (hv : v.isRef = true) (hl : storeLocals Ls k v = some Ls') (hp : pc + 2 = pc') (k : Ends p e below s n0 C S Q T (mkF m pc' Ls' stk)) : Ends p e below s n0 C S Q T (mkF m pc Ls (v :: stk)) := by
  obtain ⟨locs, Y, hx, hZ, hc, ho, hr, hm, hn, hk, hh, hF, h0⟩ := X
  subst hp
  exact k.by fun _ kt => XS.astore Y.here hx rfl (hb hc hd) rfl hv hl kt
theorem F_iconst (X : St p l e R s m args below meth c Z code own ret ml nm n0 T h cells slots) {i : Int} {z : Int32} (hd : decode code pc = .ok (.iconst i, 1)) (hz : Int32.ofInt i = z) (hp : pc + 1 = pc') (k : Ends p e below s n0 C S Q T (mkF m pc' Ls (.int z :: stk))) : Ends p e below s n0 C S Q T (mkF m pc Ls stk) := by
  obtain ⟨locs, Y, hx, hZ, hc, ho, hr, hm, hn, hk, hh, hF, h0⟩ := X
  subst hp
  exact k.by fun _ kt => XS.iconst Y.here hx rfl (hb hc hd) (hz ▸ kt)
theorem F_bipush (X : St p l e R s m args below meth c Z code own ret ml nm n0 T h cells slots) {i : Int} {z : Int32} (hd : decode code pc = .ok (.bipush i, 2)) (hz : (Int8.ofInt i).toInt32 = z) (hp : pc + 2 = pc') (k : Ends p e below s n0 C S Q T (mkF m pc' Ls (.int z :: stk))) : Ends p e below s n0 C S Q T (mkF m pc Ls stk) := by
  obtain ⟨locs, Y, hx, hZ, hc, ho, hr, hm, hn, hk, hh, hF, h0⟩ := X
  subst hp
  exact k.by fun _ kt => XS.bipush Y.here hx rfl (hb hc hd) (hz ▸ kt)
theorem F_sipush (X : St p l e R s m args below meth c Z code own ret ml nm n0 T h cells slots) {i : Int} {z : Int32} (hd : decode code pc = .ok (.sipush i, 3)) (hz : (Int16.ofInt i).toInt32 = z) (hp : pc + 3 = pc') (k : Ends p e below s n0 C S Q T (mkF m pc' Ls (.int z :: stk))) : Ends p e below s n0 C S Q T (mkF m pc Ls stk) := by
  obtain ⟨locs, Y, hx, hZ, hc, ho, hr, hm, hn, hk, hh, hF, h0⟩ := X
  subst hp
  exact k.by fun _ kt => XS.sipush Y.here hx rfl (hb hc hd) (hz ▸ kt)
theorem F_lconst (X : St p l e R s m args below meth c Z code own ret ml nm n0 T h cells slots) {i : Fin 2} {z : Int64} (hd : decode code pc = .ok (.lconst i, 1)) (hz : Int64.ofNat i = z) (hp : pc + 1 = pc') (k : Ends p e below s n0 C S Q T (mkF m pc' Ls (.long z :: stk))) : Ends p e below s n0 C S Q T (mkF m pc Ls stk) := by
  obtain ⟨locs, Y, hx, hZ, hc, ho, hr, hm, hn, hk, hh, hF, h0⟩ := X
  subst hp
  exact k.by fun _ kt => XS.lconst Y.here hx rfl (hb hc hd) (hz ▸ kt)
theorem F_aconst_null (X : St p l e R s m args below meth c Z code own ret ml nm n0 T h cells slots)  (hd : decode code pc = .ok (.aconst_null, 1)) (hp : pc + 1 = pc') (k : Ends p e below s n0 C S Q T (mkF m pc' Ls (.null :: stk))) : Ends p e below s n0 C S Q T (mkF m pc Ls stk) := by
  obtain ⟨locs, Y, hx, hZ, hc, ho, hr, hm, hn, hk, hh, hF, h0⟩ := X
  subst hp
  exact k.by fun _ kt => XS.aconstNull Y.here hx rfl (hb hc hd) kt
theorem F_iadd (X : St p l e R s m args below meth c Z code own ret ml nm n0 T h cells slots) {x y z : Int32} (hd : decode code pc = .ok (.iadd, 1)) (hz : x + y = z) (hp : pc + 1 = pc') (k : Ends p e below s n0 C S Q T (mkF m pc' Ls (.int z :: stk))) : Ends p e below s n0 C S Q T (mkF m pc Ls (.int y :: .int x :: stk)) := by
  obtain ⟨locs, Y, hx, hZ, hc, ho, hr, hm, hn, hk, hh, hF, h0⟩ := X
  subst hp
  exact k.by fun _ kt => XS.iadd Y.here hx rfl (hb hc hd) rfl (hz ▸ kt)
theorem F_isub (X : St p l e R s m args below meth c Z code own ret ml nm n0 T h cells slots) {x y z : Int32} (hd : decode code pc = .ok (.isub, 1)) (hz : x - y = z) (hp : pc + 1 = pc') (k : Ends p e below s n0 C S Q T (mkF m pc' Ls (.int z :: stk))) : Ends p e below s n0 C S Q T (mkF m pc Ls (.int y :: .int x :: stk)) := by
  obtain ⟨locs, Y, hx, hZ, hc, ho, hr, hm, hn, hk, hh, hF, h0⟩ := X
  subst hp
  exact k.by fun _ kt => XS.isub Y.here hx rfl (hb hc hd) rfl (hz ▸ kt)
theorem F_imul (X : St p l e R s m args below meth c Z code own ret ml nm n0 T h cells slots) {x y z : Int32} (hd : decode code pc = .ok (.imul, 1)) (hz : x * y = z) (hp : pc + 1 = pc') (k : Ends p e below s n0 C S Q T (mkF m pc' Ls (.int z :: stk))) : Ends p e below s n0 C S Q T (mkF m pc Ls (.int y :: .int x :: stk)) := by
  obtain ⟨locs, Y, hx, hZ, hc, ho, hr, hm, hn, hk, hh, hF, h0⟩ := X
  subst hp
  exact k.by fun _ kt => XS.imul Y.here hx rfl (hb hc hd) rfl (hz ▸ kt)
theorem F_iand (X : St p l e R s m args below meth c Z code own ret ml nm n0 T h cells slots) {x y z : Int32} (hd : decode code pc = .ok (.iand, 1)) (hz : x &&& y = z) (hp : pc + 1 = pc') (k : Ends p e below s n0 C S Q T (mkF m pc' Ls (.int z :: stk))) : Ends p e below s n0 C S Q T (mkF m pc Ls (.int y :: .int x :: stk)) := by
  obtain ⟨locs, Y, hx, hZ, hc, ho, hr, hm, hn, hk, hh, hF, h0⟩ := X
  subst hp
  exact k.by fun _ kt => XS.iand Y.here hx rfl (hb hc hd) rfl (hz ▸ kt)
theorem F_ior (X : St p l e R s m args below meth c Z code own ret ml nm n0 T h cells slots) {x y z : Int32} (hd : decode code pc = .ok (.ior, 1)) (hz : x ||| y = z) (hp : pc + 1 = pc') (k : Ends p e below s n0 C S Q T (mkF m pc' Ls (.int z :: stk))) : Ends p e below s n0 C S Q T (mkF m pc Ls (.int y :: .int x :: stk)) := by
  obtain ⟨locs, Y, hx, hZ, hc, ho, hr, hm, hn, hk, hh, hF, h0⟩ := X
  subst hp
  exact k.by fun _ kt => XS.ior Y.here hx rfl (hb hc hd) rfl (hz ▸ kt)
theorem F_ixor (X : St p l e R s m args below meth c Z code own ret ml nm n0 T h cells slots) {x y z : Int32} (hd : decode code pc = .ok (.ixor, 1)) (hz : x ^^^ y = z) (hp : pc + 1 = pc') (k : Ends p e below s n0 C S Q T (mkF m pc' Ls (.int z :: stk))) : Ends p e below s n0 C S Q T (mkF m pc Ls (.int y :: .int x :: stk)) := by
  obtain ⟨locs, Y, hx, hZ, hc, ho, hr, hm, hn, hk, hh, hF, h0⟩ := X
  subst hp
  exact k.by fun _ kt => XS.ixor Y.here hx rfl (hb hc hd) rfl (hz ▸ kt)
theorem F_ishl (X : St p l e R s m args below meth c Z code own ret ml nm n0 T h cells slots) {x y z : Int32} (hd : decode code pc = .ok (.ishl, 1)) (hz : x <<< (y &&& 31) = z) (hp : pc + 1 = pc') (k : Ends p e below s n0 C S Q T (mkF m pc' Ls (.int z :: stk))) : Ends p e below s n0 C S Q T (mkF m pc Ls (.int y :: .int x :: stk)) := by
  obtain ⟨locs, Y, hx, hZ, hc, ho, hr, hm, hn, hk, hh, hF, h0⟩ := X
  subst hp
  exact k.by fun _ kt => XS.ishl Y.here hx rfl (hb hc hd) rfl (hz ▸ kt)
theorem F_ishr (X : St p l e R s m args below meth c Z code own ret ml nm n0 T h cells slots) {x y z : Int32} (hd : decode code pc = .ok (.ishr, 1)) (hz : x >>> (y &&& 31) = z) (hp : pc + 1 = pc') (k : Ends p e below s n0 C S Q T (mkF m pc' Ls (.int z :: stk))) : Ends p e below s n0 C S Q T (mkF m pc Ls (.int y :: .int x :: stk)) := by
  obtain ⟨locs, Y, hx, hZ, hc, ho, hr, hm, hn, hk, hh, hF, h0⟩ := X
  subst hp
  exact k.by fun _ kt => XS.ishr Y.here hx rfl (hb hc hd) rfl (hz ▸ kt)
theorem F_iushr (X : St p l e R s m args below meth c Z code own ret ml nm n0 T h cells slots) {x y z : Int32} (hd : decode code pc = .ok (.iushr, 1)) (hz : (x.toUInt32 >>> (y &&& 31).toUInt32).toInt32 = z) (hp : pc + 1 = pc') (k : Ends p e below s n0 C S Q T (mkF m pc' Ls (.int z :: stk))) : Ends p e below s n0 C S Q T (mkF m pc Ls (.int y :: .int x :: stk)) := by
  obtain ⟨locs, Y, hx, hZ, hc, ho, hr, hm, hn, hk, hh, hF, h0⟩ := X
  subst hp
  exact k.by fun _ kt => XS.iushr Y.here hx rfl (hb hc hd) rfl (hz ▸ kt)
theorem F_idiv (X : St p l e R s m args below meth c Z code own ret ml nm n0 T h cells slots) {x y z : Int32} (hd : decode code pc = .ok (.idiv, 1)) (hy : y ≠ 0) (hz : x / y = z) (hp : pc + 1 = pc') (k : Ends p e below s n0 C S Q T (mkF m pc' Ls (.int z :: stk))) : Ends p e below s n0 C S Q T (mkF m pc Ls (.int y :: .int x :: stk)) := by
  obtain ⟨locs, Y, hx, hZ, hc, ho, hr, hm, hn, hk, hh, hF, h0⟩ := X
  subst hp
  exact k.by fun _ kt => XS.idiv Y.here hx rfl (hb hc hd) rfl hy (hz ▸ kt)
theorem F_irem (X : St p l e R s m args below meth c Z code own ret ml nm n0 T h cells slots) {x y z : Int32} (hd : decode code pc = .ok (.irem, 1)) (hy : y ≠ 0) (hz : x % y = z) (hp : pc + 1 = pc') (k : Ends p e below s n0 C S Q T (mkF m pc' Ls (.int z :: stk))) : Ends p e below s n0 C S Q T (mkF m pc Ls (.int y :: .int x :: stk)) := by
  obtain ⟨locs, Y, hx, hZ, hc, ho, hr, hm, hn, hk, hh, hF, h0⟩ := X
  subst hp
  exact k.by fun _ kt => iremM Y hx rfl (hb hc hd) rfl hy (hz ▸ kt)
theorem F_ineg (X : St p l e R s m args below meth c Z code own ret ml nm n0 T h cells slots) {x z : Int32} (hd : decode code pc = .ok (.ineg, 1)) (hz : -x = z) (hp : pc + 1 = pc') (k : Ends p e below s n0 C S Q T (mkF m pc' Ls (.int z :: stk))) : Ends p e below s n0 C S Q T (mkF m pc Ls (.int x :: stk)) := by
  obtain ⟨locs, Y, hx, hZ, hc, ho, hr, hm, hn, hk, hh, hF, h0⟩ := X
  subst hp
  exact k.by fun _ kt => XS.ineg Y.here hx rfl (hb hc hd) rfl (hz ▸ kt)
theorem F_ladd (X : St p l e R s m args below meth c Z code own ret ml nm n0 T h cells slots) {x y z : Int64} (hd : decode code pc = .ok (.ladd, 1)) (hz : x + y = z) (hp : pc + 1 = pc') (k : Ends p e below s n0 C S Q T (mkF m pc' Ls (.long z :: stk))) : Ends p e below s n0 C S Q T (mkF m pc Ls (.long y :: .long x :: stk)) := by
  obtain ⟨locs, Y, hx, hZ, hc, ho, hr, hm, hn, hk, hh, hF, h0⟩ := X
  subst hp
  exact k.by fun _ kt => XS.ladd Y.here hx rfl (hb hc hd) rfl (hz ▸ kt)
theorem F_lsub (X : St p l e R s m args below meth c Z code own ret ml nm n0 T h cells slots) {x y z : Int64} (hd : decode code pc = .ok (.lsub, 1)) (hz : x - y = z) (hp : pc + 1 = pc') (k : Ends p e below s n0 C S Q T (mkF m pc' Ls (.long z :: stk))) : Ends p e below s n0 C S Q T (mkF m pc Ls (.long y :: .long x :: stk)) := by
  obtain ⟨locs, Y, hx, hZ, hc, ho, hr, hm, hn, hk, hh, hF, h0⟩ := X
  subst hp
  exact k.by fun _ kt => XS.lsub Y.here hx rfl (hb hc hd) rfl (hz ▸ kt)
theorem F_lmul (X : St p l e R s m args below meth c Z code own ret ml nm n0 T h cells slots) {x y z : Int64} (hd : decode code pc = .ok (.lmul, 1)) (hz : x * y = z) (hp : pc + 1 = pc') (k : Ends p e below s n0 C S Q T (mkF m pc' Ls (.long z :: stk))) : Ends p e below s n0 C S Q T (mkF m pc Ls (.long y :: .long x :: stk)) := by
  obtain ⟨locs, Y, hx, hZ, hc, ho, hr, hm, hn, hk, hh, hF, h0⟩ := X
  subst hp
  exact k.by fun _ kt => XS.lmul Y.here hx rfl (hb hc hd) rfl (hz ▸ kt)
theorem F_land (X : St p l e R s m args below meth c Z code own ret ml nm n0 T h cells slots) {x y z : Int64} (hd : decode code pc = .ok (.land, 1)) (hz : x &&& y = z) (hp : pc + 1 = pc') (k : Ends p e below s n0 C S Q T (mkF m pc' Ls (.long z :: stk))) : Ends p e below s n0 C S Q T (mkF m pc Ls (.long y :: .long x :: stk)) := by
  obtain ⟨locs, Y, hx, hZ, hc, ho, hr, hm, hn, hk, hh, hF, h0⟩ := X
  subst hp
  exact k.by fun _ kt => XS.land Y.here hx rfl (hb hc hd) rfl (hz ▸ kt)
theorem F_lor (X : St p l e R s m args below meth c Z code own ret ml nm n0 T h cells slots) {x y z : Int64} (hd : decode code pc = .ok (.lor, 1)) (hz : x ||| y = z) (hp : pc + 1 = pc') (k : Ends p e below s n0 C S Q T (mkF m pc' Ls (.long z :: stk))) : Ends p e below s n0 C S Q T (mkF m pc Ls (.long y :: .long x :: stk)) := by
  obtain ⟨locs, Y, hx, hZ, hc, ho, hr, hm, hn, hk, hh, hF, h0⟩ := X
  subst hp
  exact k.by fun _ kt => XS.lor Y.here hx rfl (hb hc hd) rfl (hz ▸ kt)
theorem F_lxor (X : St p l e R s m args below meth c Z code own ret ml nm n0 T h cells slots) {x y z : Int64} (hd : decode code pc = .ok (.lxor, 1)) (hz : x ^^^ y = z) (hp : pc + 1 = pc') (k : Ends p e below s n0 C S Q T (mkF m pc' Ls (.long z :: stk))) : Ends p e below s n0 C S Q T (mkF m pc Ls (.long y :: .long x :: stk)) := by
  obtain ⟨locs, Y, hx, hZ, hc, ho, hr, hm, hn, hk, hh, hF, h0⟩ := X
  subst hp
  exact k.by fun _ kt => XS.lxor Y.here hx rfl (hb hc hd) rfl (hz ▸ kt)
theorem F_lshl (X : St p l e R s m args below meth c Z code own ret ml nm n0 T h cells slots) {x z : Int64} {y : Int32} (hd : decode code pc = .ok (.lshl, 1)) (hz : x <<< (y &&& 0x3f).toInt64 = z) (hp : pc + 1 = pc') (k : Ends p e below s n0 C S Q T (mkF m pc' Ls (.long z :: stk))) : Ends p e below s n0 C S Q T (mkF m pc Ls (.int y :: .long x :: stk)) := by
  obtain ⟨locs, Y, hx, hZ, hc, ho, hr, hm, hn, hk, hh, hF, h0⟩ := X
  subst hp
  exact k.by fun _ kt => XS.lshl Y.here hx rfl (hb hc hd) rfl (hz ▸ kt)
theorem F_lshr (X : St p l e R s m args below meth c Z code own ret ml nm n0 T h cells slots) {x z : Int64} {y : Int32} (hd : decode code pc = .ok (.lshr, 1)) (hz : x >>> (y &&& 0x3f).toInt64 = z) (hp : pc + 1 = pc') (k : Ends p e below s n0 C S Q T (mkF m pc' Ls (.long z :: stk))) : Ends p e below s n0 C S Q T (mkF m pc Ls (.int y :: .long x :: stk)) := by
  obtain ⟨locs, Y, hx, hZ, hc, ho, hr, hm, hn, hk, hh, hF, h0⟩ := X
  subst hp
  exact k.by fun _ kt => XS.lshr Y.here hx rfl (hb hc hd) rfl (hz ▸ kt)
theorem F_lushr (X : St p l e R s m args below meth c Z code own ret ml nm n0 T h cells slots) {x z : Int64} {y : Int32} (hd : decode code pc = .ok (.lushr, 1)) (hz : (x.toUInt64 >>> (y &&& 0x3f).toInt64.toUInt64).toInt64 = z) (hp : pc + 1 = pc') (k : Ends p e below s n0 C S Q T (mkF m pc' Ls (.long z :: stk))) : Ends p e below s n0 C S Q T (mkF m pc Ls (.int y :: .long x :: stk)) := by
  obtain ⟨locs, Y, hx, hZ, hc, ho, hr, hm, hn, hk, hh, hF, h0⟩ := X
  subst hp
  exact k.by fun _ kt => XS.lushr Y.here hx rfl (hb hc hd) rfl (hz ▸ kt)
theorem F_ldiv (X : St p l e R s m args below meth c Z code own ret ml nm n0 T h cells slots) {x y z : Int64} (hd : decode code pc = .ok (.ldiv, 1)) (hy : y ≠ 0) (hz : x / y = z) (hp : pc + 1 = pc') (k : Ends p e below s n0 C S Q T (mkF m pc' Ls (.long z :: stk))) : Ends p e below s n0 C S Q T (mkF m pc Ls (.long y :: .long x :: stk)) := by
  obtain ⟨locs, Y, hx, hZ, hc, ho, hr, hm, hn, hk, hh, hF, h0⟩ := X
  subst hp
  exact k.by fun _ kt => XS.ldiv Y.here hx rfl (hb hc hd) rfl hy (hz ▸ kt)
theorem F_lrem (X : St p l e R s m args below meth c Z code own ret ml nm n0 T h cells slots) {x y z : Int64} (hd : decode code pc = .ok (.lrem, 1)) (hy : y ≠ 0) (hz : x - (x / y) * y = z) (hp : pc + 1 = pc') (k : Ends p e below s n0 C S Q T (mkF m pc' Ls (.long z :: stk))) : Ends p e below s n0 C S Q T (mkF m pc Ls (.long y :: .long x :: stk)) := by
  obtain ⟨locs, Y, hx, hZ, hc, ho, hr, hm, hn, hk, hh, hF, h0⟩ := X
  subst hp
  exact k.by fun _ kt => XS.lrem Y.here hx rfl (hb hc hd) rfl hy (hz ▸ kt)
theorem F_i2l (X : St p l e R s m args below meth c Z code own ret ml nm n0 T h cells slots) {x : Int32} {z : Int64} (hd : decode code pc = .ok (.i2l, 1)) (hz : x.toInt64 = z) (hp : pc + 1 = pc') (k : Ends p e below s n0 C S Q T (mkF m pc' Ls (.long z :: stk))) : Ends p e below s n0 C S Q T (mkF m pc Ls (.int x :: stk)) := by
  obtain ⟨locs, Y, hx, hZ, hc, ho, hr, hm, hn, hk, hh, hF, h0⟩ := X
  subst hp
  exact k.by fun _ kt => XS.i2l Y.here hx rfl (hb hc hd) rfl (hz ▸ kt)
theorem F_l2i (X : St p l e R s m args below meth c Z code own ret ml nm n0 T h cells slots) {x : Int64} {z : Int32} (hd : decode code pc = .ok (.l2i, 1)) (hz : x.toInt32 = z) (hp : pc + 1 = pc') (k : Ends p e below s n0 C S Q T (mkF m pc' Ls (.int z :: stk))) : Ends p e below s n0 C S Q T (mkF m pc Ls (.long x :: stk)) := by
  obtain ⟨locs, Y, hx, hZ, hc, ho, hr, hm, hn, hk, hh, hF, h0⟩ := X
  subst hp
  exact k.by fun _ kt => XS.l2i Y.here hx rfl (hb hc hd) rfl (hz ▸ kt)
theorem F_i2b (X : St p l e R s m args below meth c Z code own ret ml nm n0 T h cells slots) {x : Int32} {z : Int32} (hd : decode code pc = .ok (.i2b, 1)) (hz : x.toInt8.toInt32 = z) (hp : pc + 1 = pc') (k : Ends p e below s n0 C S Q T (mkF m pc' Ls (.int z :: stk))) : Ends p e below s n0 C S Q T (mkF m pc Ls (.int x :: stk)) := by
  obtain ⟨locs, Y, hx, hZ, hc, ho, hr, hm, hn, hk, hh, hF, h0⟩ := X
  subst hp
  exact k.by fun _ kt => XS.i2b Y.here hx rfl (hb hc hd) rfl (hz ▸ kt)
theorem F_i2c (X : St p l e R s m args below meth c Z code own ret ml nm n0 T h cells slots) {x : Int32} {z : Int32} (hd : decode code pc = .ok (.i2c, 1)) (hz : x.toUInt32.toUInt16.toUInt32.toInt32 = z) (hp : pc + 1 = pc') (k : Ends p e below s n0 C S Q T (mkF m pc' Ls (.int z :: stk))) : Ends p e below s n0 C S Q T (mkF m pc Ls (.int x :: stk)) := by
  obtain ⟨locs, Y, hx, hZ, hc, ho, hr, hm, hn, hk, hh, hF, h0⟩ := X
  subst hp
  exact k.by fun _ kt => XS.i2c Y.here hx rfl (hb hc hd) rfl (hz ▸ kt)
theorem F_i2s (X : St p l e R s m args below meth c Z code own ret ml nm n0 T h cells slots) {x : Int32} {z : Int32} (hd : decode code pc = .ok (.i2s, 1)) (hz : x.toInt16.toInt32 = z) (hp : pc + 1 = pc') (k : Ends p e below s n0 C S Q T (mkF m pc' Ls (.int z :: stk))) : Ends p e below s n0 C S Q T (mkF m pc Ls (.int x :: stk)) := by
  obtain ⟨locs, Y, hx, hZ, hc, ho, hr, hm, hn, hk, hh, hF, h0⟩ := X
  subst hp
  exact k.by fun _ kt => XS.i2s Y.here hx rfl (hb hc hd) rfl (hz ▸ kt)
theorem F_iinc (X : St p l e R s m args below meth c Z code own ret ml nm n0 T h cells slots) {k : Nat} {i : Int} {v : Int32} {Ls' : Array Slot} (hd : decode code pc = .ok (.iinc k i, 3)) (hl : Ls[k]? = some (.val (.int v))) (hl' : storeLocals Ls k (.int (v + Int32.ofInt i)) = some Ls') (hp : pc + 3 = pc') (k : Ends p e below s n0 C S Q T (mkF m pc' Ls' stk)) : Ends p e below s n0 C S Q T (mkF m pc Ls stk) := by
  obtain ⟨locs, Y, hx, hZ, hc, ho, hr, hm, hn, hk, hh, hF, h0⟩ := X
  subst hp
  exact k.by fun _ kt => XS.iinc Y.here hx rfl (hb hc hd) hl hl' kt
theorem F_dup (X : St p l e R s m args below meth c Z code own ret ml nm n0 T h cells slots) {v : Value} (hd : decode code pc = .ok (.dup, 1)) (hv : v.category = 1) (hp : pc + 1 = pc') (k : Ends p e below s n0 C S Q T (mkF m pc' Ls (v :: v :: stk))) : Ends p e below s n0 C S Q T (mkF m pc Ls (v :: stk)) := by
  obtain ⟨locs, Y, hx, hZ, hc, ho, hr, hm, hn, hk, hh, hF, h0⟩ := X
  subst hp
  exact k.by fun _ kt => XS.dup Y.here hx rfl (hb hc hd) rfl hv kt
theorem F_dup_x1 (X : St p l e R s m args below meth c Z code own ret ml nm n0 T h cells slots) {v w : Value} (hd : decode code pc = .ok (.dup_x1, 1)) (hv : v.category = 1) (hw : w.category = 1) (hp : pc + 1 = pc') (k : Ends p e below s n0 C S Q T (mkF m pc' Ls (v :: w :: v :: stk))) : Ends p e below s n0 C S Q T (mkF m pc Ls (v :: w :: stk)) := by
  obtain ⟨locs, Y, hx, hZ, hc, ho, hr, hm, hn, hk, hh, hF, h0⟩ := X
  subst hp
  exact k.by fun _ kt => XS.dupX1 Y.here hx rfl (hb hc hd) rfl hv hw kt
theorem F_dup2 (X : St p l e R s m args below meth c Z code own ret ml nm n0 T h cells slots) {v w : Value} (hd : decode code pc = .ok (.dup2, 1)) (hv : v.category = 1) (hw : w.category = 1) (hp : pc + 1 = pc') (k : Ends p e below s n0 C S Q T (mkF m pc' Ls (v :: w :: v :: w :: stk))) : Ends p e below s n0 C S Q T (mkF m pc Ls (v :: w :: stk)) := by
  obtain ⟨locs, Y, hx, hZ, hc, ho, hr, hm, hn, hk, hh, hF, h0⟩ := X
  subst hp
  exact k.by fun _ kt => XT.dup2 Y.here hx rfl (hb hc hd) rfl hv hw kt
theorem F_pop (X : St p l e R s m args below meth c Z code own ret ml nm n0 T h cells slots) {v : Value} (hd : decode code pc = .ok (.pop, 1)) (hv : v.category = 1) (hp : pc + 1 = pc') (k : Ends p e below s n0 C S Q T (mkF m pc' Ls stk)) : Ends p e below s n0 C S Q T (mkF m pc Ls (v :: stk)) := by
  obtain ⟨locs, Y, hx, hZ, hc, ho, hr, hm, hn, hk, hh, hF, h0⟩ := X
  subst hp
  exact k.by fun _ kt => XS.pop Y.here hx rfl (hb hc hd) rfl hv kt
theorem F_lcmp (X : St p l e R s m args below meth c Z code own ret ml nm n0 T h cells slots) {x y : Int64} (hd : decode code pc = .ok (.lcmp, 1)) (hp : pc + 1 = pc') (k : Ends p e below s n0 C S Q T (mkF m pc' Ls (.int (lcmpW x y) :: stk))) : Ends p e below s n0 C S Q T (mkF m pc Ls (.long y :: .long x :: stk)) := by
  obtain ⟨locs, Y, hx, hZ, hc, ho, hr, hm, hn, hk, hh, hF, h0⟩ := X
  subst hp
  exact k.by fun _ kt => XS.lcmp Y.here hx rfl (hb hc hd) rfl kt
theorem F_goto (X : St p l e R s m args below meth c Z code own ret ml nm n0 T h cells slots) {o : Int} (hd : decode code pc = .ok (.goto o, 3)) (hof : 0 ≤ (pc : Int) + o) (hp : ((pc : Int) + o).toNat = pc') (k : Ends p e below s n0 C S Q T (mkF m pc' Ls stk)) : Ends p e below s n0 C S Q T (mkF m pc Ls stk) := by
  obtain ⟨locs, Y, hx, hZ, hc, ho, hr, hm, hn, hk, hh, hF, h0⟩ := X
  exact k.by fun _ kt => XS.goto Y.here hx rfl rfl (hb hc hd) hof hp kt
theorem F_icmp_lt (X : St p l e R s m args below meth c Z code own ret ml nm n0 T h cells slots) {x y : Int32} {o : Int} {pt : Nat} (hd : decode code pc = .ok (.if_icmp .lt o, 3)) (hof : 0 ≤ (pc : Int) + o) (hp : ((pc : Int) + o).toNat = pt) (hq : pc + 3 = pc') (kt : (x < y) → Ends p e below s n0 C S Q T (mkF m pt Ls stk)) (kf : ¬ (x < y) → Ends p e below s n0 C S Q T (mkF m pc' Ls stk)) : Ends p e below s n0 C S Q T (mkF m pc Ls (.int y :: .int x :: stk)) := by
  obtain ⟨locs, Y, hx, hZ, hc, ho, hr, hm, hn, hk, hh, hF, h0⟩ := X
  subst hq
  by_cases q : x < y
  · exact (kt q).by fun _ z => XS.icmpYes Y.here hx rfl rfl (hb hc hd) rfl (tlt q).1 hof hp z
  · exact (kf q).by fun _ z => XS.icmpNo Y.here hx rfl (hb hc hd) rfl (flt q).1 z
theorem F_if_lt (X : St p l e R s m args below meth c Z code own ret ml nm n0 T h cells slots) {x : Int32} {o : Int} {pt : Nat} (hd : decode code pc = .ok (.ifCond .lt o, 3)) (hof : 0 ≤ (pc : Int) + o) (hp : ((pc : Int) + o).toNat = pt) (hq : pc + 3 = pc') (kt : (x < 0) → Ends p e below s n0 C S Q T (mkF m pt Ls stk)) (kf : ¬ (x < 0) → Ends p e below s n0 C S Q T (mkF m pc' Ls stk)) : Ends p e below s n0 C S Q T (mkF m pc Ls (.int x :: stk)) := by
  obtain ⟨locs, Y, hx, hZ, hc, ho, hr, hm, hn, hk, hh, hF, h0⟩ := X
  subst hq
  by_cases q : x < 0
  · exact (kt q).by fun _ z => XS.ifYes Y.here hx rfl rfl (hb hc hd) rfl ((if0 _ _).trans (tlt q).1) hof hp z
  · exact (kf q).by fun _ z => XS.ifNo Y.here hx rfl (hb hc hd) rfl ((if0 _ _).trans (flt q).1) z
theorem F_lif_lt (X : St p l e R s m args below meth c Z code own ret ml nm n0 T h cells slots) {x y : Int64} {o : Int} {pt : Nat} (hd : decode code pc = .ok (.ifCond .lt o, 3)) (hof : 0 ≤ (pc : Int) + o) (hp : ((pc : Int) + o).toNat = pt) (hq : pc + 3 = pc') (kt : (x < y) → Ends p e below s n0 C S Q T (mkF m pt Ls stk)) (kf : ¬ (x < y) → Ends p e below s n0 C S Q T (mkF m pc' Ls stk)) : Ends p e below s n0 C S Q T (mkF m pc Ls (.int (lcmpW x y) :: stk)) := by
  obtain ⟨locs, Y, hx, hZ, hc, ho, hr, hm, hn, hk, hh, hF, h0⟩ := X
  subst hq
  by_cases q : x < y
  · exact (kt q).by fun _ z => XS.ifYes Y.here hx rfl rfl (hb hc hd) rfl ((if0 _ _).trans (tlt ((lw_lt _ _).mpr q)).1) hof hp z
  · exact (kf q).by fun _ z => XS.ifNo Y.here hx rfl (hb hc hd) rfl ((if0 _ _).trans (flt (fun z => q ((lw_lt _ _).mp z))).1) z
theorem F_icmp_ge (X : St p l e R s m args below meth c Z code own ret ml nm n0 T h cells slots) {x y : Int32} {o : Int} {pt : Nat} (hd : decode code pc = .ok (.if_icmp .ge o, 3)) (hof : 0 ≤ (pc : Int) + o) (hp : ((pc : Int) + o).toNat = pt) (hq : pc + 3 = pc') (kt : ¬ (x < y) → Ends p e below s n0 C S Q T (mkF m pt Ls stk)) (kf : (x < y) → Ends p e below s n0 C S Q T (mkF m pc' Ls stk)) : Ends p e below s n0 C S Q T (mkF m pc Ls (.int y :: .int x :: stk)) := by
  obtain ⟨locs, Y, hx, hZ, hc, ho, hr, hm, hn, hk, hh, hF, h0⟩ := X
  subst hq
  by_cases q : x < y
  · exact (kf q).by fun _ z => XS.icmpNo Y.here hx rfl (hb hc hd) rfl (tlt q).2.1 z
  · exact (kt q).by fun _ z => XS.icmpYes Y.here hx rfl rfl (hb hc hd) rfl (flt q).2.1 hof hp z
theorem F_if_ge (X : St p l e R s m args below meth c Z code own ret ml nm n0 T h cells slots) {x : Int32} {o : Int} {pt : Nat} (hd : decode code pc = .ok (.ifCond .ge o, 3)) (hof : 0 ≤ (pc : Int) + o) (hp : ((pc : Int) + o).toNat = pt) (hq : pc + 3 = pc') (kt : ¬ (x < 0) → Ends p e below s n0 C S Q T (mkF m pt Ls stk)) (kf : (x < 0) → Ends p e below s n0 C S Q T (mkF m pc' Ls stk)) : Ends p e below s n0 C S Q T (mkF m pc Ls (.int x :: stk)) := by
  obtain ⟨locs, Y, hx, hZ, hc, ho, hr, hm, hn, hk, hh, hF, h0⟩ := X
  subst hq
  by_cases q : x < 0
  · exact (kf q).by fun _ z => XS.ifNo Y.here hx rfl (hb hc hd) rfl ((if0 _ _).trans (tlt q).2.1) z
  · exact (kt q).by fun _ z => XS.ifYes Y.here hx rfl rfl (hb hc hd) rfl ((if0 _ _).trans (flt q).2.1) hof hp z
theorem F_lif_ge (X : St p l e R s m args below meth c Z code own ret ml nm n0 T h cells slots) {x y : Int64} {o : Int} {pt : Nat} (hd : decode code pc = .ok (.ifCond .ge o, 3)) (hof : 0 ≤ (pc : Int) + o) (hp : ((pc : Int) + o).toNat = pt) (hq : pc + 3 = pc') (kt : ¬ (x < y) → Ends p e below s n0 C S Q T (mkF m pt Ls stk)) (kf : (x < y) → Ends p e below s n0 C S Q T (mkF m pc' Ls stk)) : Ends p e below s n0 C S Q T (mkF m pc Ls (.int (lcmpW x y) :: stk)) := by
  obtain ⟨locs, Y, hx, hZ, hc, ho, hr, hm, hn, hk, hh, hF, h0⟩ := X
  subst hq
  by_cases q : x < y
  · exact (kf q).by fun _ z => XS.ifNo Y.here hx rfl (hb hc hd) rfl ((if0 _ _).trans (tlt ((lw_lt _ _).mpr q)).2.1) z
  · exact (kt q).by fun _ z => XS.ifYes Y.here hx rfl rfl (hb hc hd) rfl ((if0 _ _).trans (flt (fun z => q ((lw_lt _ _).mp z))).2.1) hof hp z
theorem F_icmp_gt (X : St p l e R s m args below meth c Z code own ret ml nm n0 T h cells slots) {x y : Int32} {o : Int} {pt : Nat} (hd : decode code pc = .ok (.if_icmp .gt o, 3)) (hof : 0 ≤ (pc : Int) + o) (hp : ((pc : Int) + o).toNat = pt) (hq : pc + 3 = pc') (kt : (y < x) → Ends p e below s n0 C S Q T (mkF m pt Ls stk)) (kf : ¬ (y < x) → Ends p e below s n0 C S Q T (mkF m pc' Ls stk)) : Ends p e below s n0 C S Q T (mkF m pc Ls (.int y :: .int x :: stk)) := by
  obtain ⟨locs, Y, hx, hZ, hc, ho, hr, hm, hn, hk, hh, hF, h0⟩ := X
  subst hq
  by_cases q : y < x
  · exact (kt q).by fun _ z => XS.icmpYes Y.here hx rfl rfl (hb hc hd) rfl (tlt q).2.2.1 hof hp z
  · exact (kf q).by fun _ z => XS.icmpNo Y.here hx rfl (hb hc hd) rfl (flt q).2.2.1 z
theorem F_if_gt (X : St p l e R s m args below meth c Z code own ret ml nm n0 T h cells slots) {x : Int32} {o : Int} {pt : Nat} (hd : decode code pc = .ok (.ifCond .gt o, 3)) (hof : 0 ≤ (pc : Int) + o) (hp : ((pc : Int) + o).toNat = pt) (hq : pc + 3 = pc') (kt : (0 < x) → Ends p e below s n0 C S Q T (mkF m pt Ls stk)) (kf : ¬ (0 < x) → Ends p e below s n0 C S Q T (mkF m pc' Ls stk)) : Ends p e below s n0 C S Q T (mkF m pc Ls (.int x :: stk)) := by
  obtain ⟨locs, Y, hx, hZ, hc, ho, hr, hm, hn, hk, hh, hF, h0⟩ := X
  subst hq
  by_cases q : 0 < x
  · exact (kt q).by fun _ z => XS.ifYes Y.here hx rfl rfl (hb hc hd) rfl ((if0 _ _).trans (tlt q).2.2.1) hof hp z
  · exact (kf q).by fun _ z => XS.ifNo Y.here hx rfl (hb hc hd) rfl ((if0 _ _).trans (flt q).2.2.1) z
theorem F_lif_gt (X : St p l e R s m args below meth c Z code own ret ml nm n0 T h cells slots) {x y : Int64} {o : Int} {pt : Nat} (hd : decode code pc = .ok (.ifCond .gt o, 3)) (hof : 0 ≤ (pc : Int) + o) (hp : ((pc : Int) + o).toNat = pt) (hq : pc + 3 = pc') (kt : (y < x) → Ends p e below s n0 C S Q T (mkF m pt Ls stk)) (kf : ¬ (y < x) → Ends p e below s n0 C S Q T (mkF m pc' Ls stk)) : Ends p e below s n0 C S Q T (mkF m pc Ls (.int (lcmpW x y) :: stk)) := by
  obtain ⟨locs, Y, hx, hZ, hc, ho, hr, hm, hn, hk, hh, hF, h0⟩ := X
  subst hq
  by_cases q : y < x
  · exact (kt q).by fun _ z => XS.ifYes Y.here hx rfl rfl (hb hc hd) rfl ((if0 _ _).trans (tlt ((lw_gt _ _).mpr q)).2.2.1) hof hp z
  · exact (kf q).by fun _ z => XS.ifNo Y.here hx rfl (hb hc hd) rfl ((if0 _ _).trans (flt (fun z => q ((lw_gt _ _).mp z))).2.2.1) z
theorem F_icmp_le (X : St p l e R s m args below meth c Z code own ret ml nm n0 T h cells slots) {x y : Int32} {o : Int} {pt : Nat} (hd : decode code pc = .ok (.if_icmp .le o, 3)) (hof : 0 ≤ (pc : Int) + o) (hp : ((pc : Int) + o).toNat = pt) (hq : pc + 3 = pc') (kt : ¬ (y < x) → Ends p e below s n0 C S Q T (mkF m pt Ls stk)) (kf : (y < x) → Ends p e below s n0 C S Q T (mkF m pc' Ls stk)) : Ends p e below s n0 C S Q T (mkF m pc Ls (.int y :: .int x :: stk)) := by
  obtain ⟨locs, Y, hx, hZ, hc, ho, hr, hm, hn, hk, hh, hF, h0⟩ := X
  subst hq
  by_cases q : y < x
  · exact (kf q).by fun _ z => XS.icmpNo Y.here hx rfl (hb hc hd) rfl (tlt q).2.2.2 z
  · exact (kt q).by fun _ z => XS.icmpYes Y.here hx rfl rfl (hb hc hd) rfl (flt q).2.2.2 hof hp z
theorem F_if_le (X : St p l e R s m args below meth c Z code own ret ml nm n0 T h cells slots) {x : Int32} {o : Int} {pt : Nat} (hd : decode code pc = .ok (.ifCond .le o, 3)) (hof : 0 ≤ (pc : Int) + o) (hp : ((pc : Int) + o).toNat = pt) (hq : pc + 3 = pc') (kt : ¬ (0 < x) → Ends p e below s n0 C S Q T (mkF m pt Ls stk)) (kf : (0 < x) → Ends p e below s n0 C S Q T (mkF m pc' Ls stk)) : Ends p e below s n0 C S Q T (mkF m pc Ls (.int x :: stk)) := by
  obtain ⟨locs, Y, hx, hZ, hc, ho, hr, hm, hn, hk, hh, hF, h0⟩ := X
  subst hq
  by_cases q : 0 < x
  · exact (kf q).by fun _ z => XS.ifNo Y.here hx rfl (hb hc hd) rfl ((if0 _ _).trans (tlt q).2.2.2) z
  · exact (kt q).by fun _ z => XS.ifYes Y.here hx rfl rfl (hb hc hd) rfl ((if0 _ _).trans (flt q).2.2.2) hof hp z
theorem F_lif_le (X : St p l e R s m args below meth c Z code own ret ml nm n0 T h cells slots) {x y : Int64} {o : Int} {pt : Nat} (hd : decode code pc = .ok (.ifCond .le o, 3)) (hof : 0 ≤ (pc : Int) + o) (hp : ((pc : Int) + o).toNat = pt) (hq : pc + 3 = pc') (kt : ¬ (y < x) → Ends p e below s n0 C S Q T (mkF m pt Ls stk)) (kf : (y < x) → Ends p e below s n0 C S Q T (mkF m pc' Ls stk)) : Ends p e below s n0 C S Q T (mkF m pc Ls (.int (lcmpW x y) :: stk)) := by
  obtain ⟨locs, Y, hx, hZ, hc, ho, hr, hm, hn, hk, hh, hF, h0⟩ := X
  subst hq
  by_cases q : y < x
  · exact (kf q).by fun _ z => XS.ifNo Y.here hx rfl (hb hc hd) rfl ((if0 _ _).trans (tlt ((lw_gt _ _).mpr q)).2.2.2) z
  · exact (kt q).by fun _ z => XS.ifYes Y.here hx rfl rfl (hb hc hd) rfl ((if0 _ _).trans (flt (fun z => q ((lw_gt _ _).mp z))).2.2.2) hof hp z
theorem F_icmp_eq (X : St p l e R s m args below meth c Z code own ret ml nm n0 T h cells slots) {x y : Int32} {o : Int} {pt : Nat} (hd : decode code pc = .ok (.if_icmp .eq o, 3)) (hof : 0 ≤ (pc : Int) + o) (hp : ((pc : Int) + o).toNat = pt) (hq : pc + 3 = pc') (kt : (x = y) → Ends p e below s n0 C S Q T (mkF m pt Ls stk)) (kf : ¬ (x = y) → Ends p e below s n0 C S Q T (mkF m pc' Ls stk)) : Ends p e below s n0 C S Q T (mkF m pc Ls (.int y :: .int x :: stk)) := by
  obtain ⟨locs, Y, hx, hZ, hc, ho, hr, hm, hn, hk, hh, hF, h0⟩ := X
  subst hq
  by_cases q : x = y
  · exact (kt q).by fun _ z => XS.icmpYes Y.here hx rfl rfl (hb hc hd) rfl (teq q).1 hof hp z
  · exact (kf q).by fun _ z => XS.icmpNo Y.here hx rfl (hb hc hd) rfl (feq q).1 z
theorem F_if_eq (X : St p l e R s m args below meth c Z code own ret ml nm n0 T h cells slots) {x : Int32} {o : Int} {pt : Nat} (hd : decode code pc = .ok (.ifCond .eq o, 3)) (hof : 0 ≤ (pc : Int) + o) (hp : ((pc : Int) + o).toNat = pt) (hq : pc + 3 = pc') (kt : (x = 0) → Ends p e below s n0 C S Q T (mkF m pt Ls stk)) (kf : ¬ (x = 0) → Ends p e below s n0 C S Q T (mkF m pc' Ls stk)) : Ends p e below s n0 C S Q T (mkF m pc Ls (.int x :: stk)) := by
  obtain ⟨locs, Y, hx, hZ, hc, ho, hr, hm, hn, hk, hh, hF, h0⟩ := X
  subst hq
  by_cases q : x = 0
  · exact (kt q).by fun _ z => XS.ifYes Y.here hx rfl rfl (hb hc hd) rfl ((if0 _ _).trans (teq q).1) hof hp z
  · exact (kf q).by fun _ z => XS.ifNo Y.here hx rfl (hb hc hd) rfl ((if0 _ _).trans (feq q).1) z
theorem F_lif_eq (X : St p l e R s m args below meth c Z code own ret ml nm n0 T h cells slots) {x y : Int64} {o : Int} {pt : Nat} (hd : decode code pc = .ok (.ifCond .eq o, 3)) (hof : 0 ≤ (pc : Int) + o) (hp : ((pc : Int) + o).toNat = pt) (hq : pc + 3 = pc') (kt : (x = y) → Ends p e below s n0 C S Q T (mkF m pt Ls stk)) (kf : ¬ (x = y) → Ends p e below s n0 C S Q T (mkF m pc' Ls stk)) : Ends p e below s n0 C S Q T (mkF m pc Ls (.int (lcmpW x y) :: stk)) := by
  obtain ⟨locs, Y, hx, hZ, hc, ho, hr, hm, hn, hk, hh, hF, h0⟩ := X
  subst hq
  by_cases q : x = y
  · exact (kt q).by fun _ z => XS.ifYes Y.here hx rfl rfl (hb hc hd) rfl ((if0 _ _).trans (teq ((lw_eq _ _).mpr q)).1) hof hp z
  · exact (kf q).by fun _ z => XS.ifNo Y.here hx rfl (hb hc hd) rfl ((if0 _ _).trans (feq (fun z => q ((lw_eq _ _).mp z))).1) z
theorem F_icmp_ne (X : St p l e R s m args below meth c Z code own ret ml nm n0 T h cells slots) {x y : Int32} {o : Int} {pt : Nat} (hd : decode code pc = .ok (.if_icmp .ne o, 3)) (hof : 0 ≤ (pc : Int) + o) (hp : ((pc : Int) + o).toNat = pt) (hq : pc + 3 = pc') (kt : ¬ (x = y) → Ends p e below s n0 C S Q T (mkF m pt Ls stk)) (kf : (x = y) → Ends p e below s n0 C S Q T (mkF m pc' Ls stk)) : Ends p e below s n0 C S Q T (mkF m pc Ls (.int y :: .int x :: stk)) := by
  obtain ⟨locs, Y, hx, hZ, hc, ho, hr, hm, hn, hk, hh, hF, h0⟩ := X
  subst hq
  by_cases q : x = y
  · exact (kf q).by fun _ z => XS.icmpNo Y.here hx rfl (hb hc hd) rfl (teq q).2 z
  · exact (kt q).by fun _ z => XS.icmpYes Y.here hx rfl rfl (hb hc hd) rfl (feq q).2 hof hp z
theorem F_if_ne (X : St p l e R s m args below meth c Z code own ret ml nm n0 T h cells slots) {x : Int32} {o : Int} {pt : Nat} (hd : decode code pc = .ok (.ifCond .ne o, 3)) (hof : 0 ≤ (pc : Int) + o) (hp : ((pc : Int) + o).toNat = pt) (hq : pc + 3 = pc') (kt : ¬ (x = 0) → Ends p e below s n0 C S Q T (mkF m pt Ls stk)) (kf : (x = 0) → Ends p e below s n0 C S Q T (mkF m pc' Ls stk)) : Ends p e below s n0 C S Q T (mkF m pc Ls (.int x :: stk)) := by
  obtain ⟨locs, Y, hx, hZ, hc, ho, hr, hm, hn, hk, hh, hF, h0⟩ := X
  subst hq
  by_cases q : x = 0
  · exact (kf q).by fun _ z => XS.ifNo Y.here hx rfl (hb hc hd) rfl ((if0 _ _).trans (teq q).2) z
  · exact (kt q).by fun _ z => XS.ifYes Y.here hx rfl rfl (hb hc hd) rfl ((if0 _ _).trans (feq q).2) hof hp z
theorem F_lif_ne (X : St p l e R s m args below meth c Z code own ret ml nm n0 T h cells slots) {x y : Int64} {o : Int} {pt : Nat} (hd : decode code pc = .ok (.ifCond .ne o, 3)) (hof : 0 ≤ (pc : Int) + o) (hp : ((pc : Int) + o).toNat = pt) (hq : pc + 3 = pc') (kt : ¬ (x = y) → Ends p e below s n0 C S Q T (mkF m pt Ls stk)) (kf : (x = y) → Ends p e below s n0 C S Q T (mkF m pc' Ls stk)) : Ends p e below s n0 C S Q T (mkF m pc Ls (.int (lcmpW x y) :: stk)) := by
  obtain ⟨locs, Y, hx, hZ, hc, ho, hr, hm, hn, hk, hh, hF, h0⟩ := X
  subst hq
  by_cases q : x = y
  · exact (kf q).by fun _ z => XS.ifNo Y.here hx rfl (hb hc hd) rfl ((if0 _ _).trans (teq ((lw_eq _ _).mpr q)).2) z
  · exact (kt q).by fun _ z => XS.ifYes Y.here hx rfl rfl (hb hc hd) rfl ((if0 _ _).trans (feq (fun z => q ((lw_eq _ _).mp z))).2) hof hp z
theorem F_ifnull_null (X : St p l e R s m args below meth c Z code own ret ml nm n0 T h cells slots) {o : Int} {pt : Nat} (hd : decode code pc = .ok (.ifnull o, 3)) (hof : 0 ≤ (pc : Int) + o) (hp : ((pc : Int) + o).toNat = pt) (k : Ends p e below s n0 C S Q T (mkF m pt Ls stk)) : Ends p e below s n0 C S Q T (mkF m pc Ls (.null :: stk)) := by
  obtain ⟨locs, Y, hx, hZ, hc, ho, hr, hm, hn, hk, hh, hF, h0⟩ := X
  exact k.by fun _ z => XS.ifnullYes Y.here hx rfl rfl (hb hc hd) rfl hof hp z
theorem F_ifnull_ref (X : St p l e R s m args below meth c Z code own ret ml nm n0 T h cells slots) {a : Addr} {o : Int} (hd : decode code pc = .ok (.ifnull o, 3)) (hq : pc + 3 = pc') (k : Ends p e below s n0 C S Q T (mkF m pc' Ls stk)) : Ends p e below s n0 C S Q T (mkF m pc Ls (.ref a :: stk)) := by
  obtain ⟨locs, Y, hx, hZ, hc, ho, hr, hm, hn, hk, hh, hF, h0⟩ := X
  subst hq
  exact k.by fun _ z => XS.ifnullNo Y.here hx rfl (hb hc hd) rfl z
theorem F_ifnonnull_null (X : St p l e R s m args below meth c Z code own ret ml nm n0 T h cells slots) {o : Int} (hd : decode code pc = .ok (.ifnonnull o, 3)) (hq : pc + 3 = pc') (k : Ends p e below s n0 C S Q T (mkF m pc' Ls stk)) : Ends p e below s n0 C S Q T (mkF m pc Ls (.null :: stk)) := by
  obtain ⟨locs, Y, hx, hZ, hc, ho, hr, hm, hn, hk, hh, hF, h0⟩ := X
  subst hq
  exact k.by fun _ z => XS.ifnonnullNo Y.here hx rfl (hb hc hd) rfl z
theorem F_ifnonnull_ref (X : St p l e R s m args below meth c Z code own ret ml nm n0 T h cells slots) {a : Addr} {o : Int} {pt : Nat} (hd : decode code pc = .ok (.ifnonnull o, 3)) (hof : 0 ≤ (pc : Int) + o) (hp : ((pc : Int) + o).toNat = pt) (k : Ends p e below s n0 C S Q T (mkF m pt Ls stk)) : Ends p e below s n0 C S Q T (mkF m pc Ls (.ref a :: stk)) := by
  obtain ⟨locs, Y, hx, hZ, hc, ho, hr, hm, hn, hk, hh, hF, h0⟩ := X
  exact k.by fun _ z => XS.ifnonnullYes Y.here hx rfl rfl (hb hc hd) rfl hof hp z
theorem F_acmp (X : St p l e R s m args below meth c Z code own ret ml nm n0 T h cells slots) {cd : ACond} {v w : Value} {o : Int} {same : Bool} (hd : decode code pc = .ok (.if_acmp cd o, 3)) (h1 : v.isRef = true) (h2 : w.isRef = true) (hq : decide (v = w) = same) (hof : 0 ≤ (pc : Int) + o) (hp : pc' = if acV cd same = true then ((pc : Int) + o).toNat else pc + 3) (k : Ends p e below s n0 C S Q T (mkF m pc' Ls stk)) : Ends p e below s n0 C S Q T (mkF m pc Ls (w :: v :: stk)) := by
  obtain ⟨locs, Y, hx, hZ, hc, ho, hr, hm, hn, hk, hh, hF, h0⟩ := X
  exact k.by fun _ z => Jvm.RoadKit.acmp Y hx rfl h1 h2 rfl (hb hc hd) rfl hq hof hp z
variable {a0 : Array Value}
theorem F_ldcInt (X : St p l e R s m args below meth c Z code own ret ml nm n0 T h cells slots) {idx : Nat} {v : Int32} (w : (Cond.constant own idx v).before a0 Z = true) (hd : decode code pc = .ok (.ldc idx, 2)) (hp : pc + 2 = pc') (k : Ends p e below s n0 C S Q T (mkF m pc' Ls (.int v :: stk))) : Ends p e below s n0 C S Q T (mkF m pc Ls stk) := by
  obtain ⟨locs, Y, hx, hZ, hc, ho, hr, hm, hn, hk, hh, hF, h0⟩ := X
  subst hp
  exact k.by (Y.ldcInt hx ho (mvT hZ w) (g := mkF m pc Ls stk) rfl (hb hc hd))
theorem F_ldcwInt (X : St p l e R s m args below meth c Z code own ret ml nm n0 T h cells slots) {idx : Nat} {v : Int32} (w : (Cond.constant own idx v).before a0 Z = true) (hd : decode code pc = .ok (.ldc_w idx, 3)) (hp : pc + 3 = pc') (k : Ends p e below s n0 C S Q T (mkF m pc' Ls (.int v :: stk))) : Ends p e below s n0 C S Q T (mkF m pc Ls stk) := by
  obtain ⟨locs, Y, hx, hZ, hc, ho, hr, hm, hn, hk, hh, hF, h0⟩ := X
  subst hp
  exact k.by (Y.ldcwInt hx ho (mvT hZ w) (g := mkF m pc Ls stk) rfl (hb hc hd))
theorem F_ldc2Long (X : St p l e R s m args below meth c Z code own ret ml nm n0 T h cells slots) {idx : Nat} {v : Int64} (w : (Cond.constantLong own idx v).before a0 Z = true) (hd : decode code pc = .ok (.ldc2_w idx, 3)) (hp : pc + 3 = pc') (k : Ends p e below s n0 C S Q T (mkF m pc' Ls (.long v :: stk))) : Ends p e below s n0 C S Q T (mkF m pc Ls stk) := by
  obtain ⟨locs, Y, hx, hZ, hc, ho, hr, hm, hn, hk, hh, hF, h0⟩ := X
  subst hp
  exact k.by (Y.ldc2Long hx ho (mvT hZ w) (g := mkF m pc Ls stk) rfl (hb hc hd))
theorem F_ldc2Double (X : St p l e R s m args below meth c Z code own ret ml nm n0 T h cells slots) {idx : Nat} {v : UInt64} (w : (Cond.constantDouble own idx v).before a0 Z = true) (hd : decode code pc = .ok (.ldc2_w idx, 3)) (hp : pc + 3 = pc') (k : Ends p e below s n0 C S Q T (mkF m pc' Ls (.double v :: stk))) : Ends p e below s n0 C S Q T (mkF m pc Ls stk) := by
  obtain ⟨locs, Y, hx, hZ, hc, ho, hr, hm, hn, hk, hh, hF, h0⟩ := X
  subst hp
  exact k.by (Y.ldc2DoubleC hx ho (mvT hZ w) (g := mkF m pc Ls stk) rfl (hb hc hd))
theorem F_ireturn (X : St p l e R s m args below meth c Z code own ret ml nm n0 T h cells slots) {z : Int32} (hd : decode code pc = .ok (.ireturn, 1)) (hret : ret = some .int) (hC : cells ≤ C) (hS : slots ≤ S) (hQ : Q (some (.int z)) h) : Ends p e below s n0 C S Q T (mkF m pc Ls (.int z :: stk)) := by
  obtain ⟨locs, Y, hx, hZ, hc, ho, hr, hm, hn, hk, hh, hF, h0⟩ := X
  obtain ⟨fs, hl, hrun, hend, hW, hsame⟩ := Y.leave (v := some (.int z)) (fun z => by rw [hr, hret] at z; cases z) hk
  refine ⟨_, _, retOut Y hx (hr.trans hret) rfl (Or.inl ⟨rfl, Or.inl rfl, _, rfl⟩) (hb hc hd) hl, hrun, hend, _, _, rfl, ⟨?_, hF⟩, ⟨_, rfl⟩, hW, hsame.mono hC hS⟩
  show Q _ T.heap
  rw [hh]; exact hQ
theorem F_ireturn_boolean (X : St p l e R s m args below meth c Z code own ret ml nm n0 T h cells slots) {z z' : Int32} (hz : nar .boolean z = z') (hd : decode code pc = .ok (.ireturn, 1)) (hret : ret = some .boolean) (hC : cells ≤ C) (hS : slots ≤ S) (hQ : Q (some (.int z')) h) : Ends p e below s n0 C S Q T (mkF m pc Ls (.int z :: stk)) := by
  obtain ⟨locs, Y, hx, hZ, hc, ho, hr, hm, hn, hk, hh, hF, h0⟩ := X
  obtain ⟨fs, hl, hrun, hend, hW, hsame⟩ := Y.leave (v := some (.int z')) (fun z => by rw [hr, hret] at z; cases z) hk
  refine ⟨_, _, retN Y hx (t := .boolean) (hr.trans hret) (by simp) (hb hc hd) (hz ▸ hl), hrun, hend, _, _, rfl, ⟨?_, hF⟩, ⟨_, rfl⟩, hW, hsame.mono hC hS⟩
  show Q _ T.heap
  rw [hh]; exact hQ
theorem F_ireturn_byte (X : St p l e R s m args below meth c Z code own ret ml nm n0 T h cells slots) {z z' : Int32} (hz : nar .byte z = z') (hd : decode code pc = .ok (.ireturn, 1)) (hret : ret = some .byte) (hC : cells ≤ C) (hS : slots ≤ S) (hQ : Q (some (.int z')) h) : Ends p e below s n0 C S Q T (mkF m pc Ls (.int z :: stk)) := by
  obtain ⟨locs, Y, hx, hZ, hc, ho, hr, hm, hn, hk, hh, hF, h0⟩ := X
  obtain ⟨fs, hl, hrun, hend, hW, hsame⟩ := Y.leave (v := some (.int z')) (fun z => by rw [hr, hret] at z; cases z) hk
  refine ⟨_, _, retN Y hx (t := .byte) (hr.trans hret) (by simp) (hb hc hd) (hz ▸ hl), hrun, hend, _, _, rfl, ⟨?_, hF⟩, ⟨_, rfl⟩, hW, hsame.mono hC hS⟩
  show Q _ T.heap
  rw [hh]; exact hQ
theorem F_ireturn_char (X : St p l e R s m args below meth c Z code own ret ml nm n0 T h cells slots) {z z' : Int32} (hz : nar .char z = z') (hd : decode code pc = .ok (.ireturn, 1)) (hret : ret = some .char) (hC : cells ≤ C) (hS : slots ≤ S) (hQ : Q (some (.int z')) h) : Ends p e below s n0 C S Q T (mkF m pc Ls (.int z :: stk)) := by
  obtain ⟨locs, Y, hx, hZ, hc, ho, hr, hm, hn, hk, hh, hF, h0⟩ := X
  obtain ⟨fs, hl, hrun, hend, hW, hsame⟩ := Y.leave (v := some (.int z')) (fun z => by rw [hr, hret] at z; cases z) hk
  refine ⟨_, _, retN Y hx (t := .char) (hr.trans hret) (by simp) (hb hc hd) (hz ▸ hl), hrun, hend, _, _, rfl, ⟨?_, hF⟩, ⟨_, rfl⟩, hW, hsame.mono hC hS⟩
  show Q _ T.heap
  rw [hh]; exact hQ
theorem F_ireturn_short (X : St p l e R s m args below meth c Z code own ret ml nm n0 T h cells slots) {z z' : Int32} (hz : nar .short z = z') (hd : decode code pc = .ok (.ireturn, 1)) (hret : ret = some .short) (hC : cells ≤ C) (hS : slots ≤ S) (hQ : Q (some (.int z')) h) : Ends p e below s n0 C S Q T (mkF m pc Ls (.int z :: stk)) := by
  obtain ⟨locs, Y, hx, hZ, hc, ho, hr, hm, hn, hk, hh, hF, h0⟩ := X
  obtain ⟨fs, hl, hrun, hend, hW, hsame⟩ := Y.leave (v := some (.int z')) (fun z => by rw [hr, hret] at z; cases z) hk
  refine ⟨_, _, retN Y hx (t := .short) (hr.trans hret) (by simp) (hb hc hd) (hz ▸ hl), hrun, hend, _, _, rfl, ⟨?_, hF⟩, ⟨_, rfl⟩, hW, hsame.mono hC hS⟩
  show Q _ T.heap
  rw [hh]; exact hQ
theorem F_return (X : St p l e R s m args below meth c Z code own ret ml nm n0 T h cells slots)  (hd : decode code pc = .ok (.return_, 1)) (hret : ret = none) (hC : cells ≤ C) (hS : slots ≤ S) (hQ : Q (none) h) : Ends p e below s n0 C S Q T (mkF m pc Ls ([])) := by
  obtain ⟨locs, Y, hx, hZ, hc, ho, hr, hm, hn, hk, hh, hF, h0⟩ := X
  obtain ⟨fs, hl, hrun, hend, hW, hsame⟩ := Y.leave (v := none) (fun _ => rfl) hk
  refine ⟨_, _, Y.returnOut hx (hr.trans hret) (hb hc hd) hl, hrun, hend, _, _, rfl, ⟨?_, hF⟩, ⟨_, rfl⟩, hW, hsame.mono hC hS⟩
  show Q _ T.heap
  rw [hh]; exact hQ
theorem F_lreturn (X : St p l e R s m args below meth c Z code own ret ml nm n0 T h cells slots) {z : Int64} (hd : decode code pc = .ok (.lreturn, 1)) (hret : ret = some .long) (hC : cells ≤ C) (hS : slots ≤ S) (hQ : Q (some (.long z)) h) : Ends p e below s n0 C S Q T (mkF m pc Ls ([.long z])) := by
  obtain ⟨locs, Y, hx, hZ, hc, ho, hr, hm, hn, hk, hh, hF, h0⟩ := X
  obtain ⟨fs, hl, hrun, hend, hW, hsame⟩ := Y.leave (v := some (.long z)) (fun z => by rw [hr, hret] at z; cases z) hk
  refine ⟨_, _, Y.lreturnOut hx (hr.trans hret) (hb hc hd) hl, hrun, hend, _, _, rfl, ⟨?_, hF⟩, ⟨_, rfl⟩, hW, hsame.mono hC hS⟩
  show Q _ T.heap
  rw [hh]; exact hQ
theorem F_areturn (X : St p l e R s m args below meth c Z code own ret ml nm n0 T h cells slots) {v : Value} {t : FieldType} (ht : t.isReference = true) (hv : v.isRef = true) (hn' : narrow t v = v) (hd : decode code pc = .ok (.areturn, 1)) (hret : ret = some t) (hC : cells ≤ C) (hS : slots ≤ S) (hQ : Q (some v) h) : Ends p e below s n0 C S Q T (mkF m pc Ls (v :: stk)) := by
  obtain ⟨locs, Y, hx, hZ, hc, ho, hr, hm, hn, hk, hh, hF, h0⟩ := X
  obtain ⟨fs, hl, hrun, hend, hW, hsame⟩ := Y.leave (v := some v) (fun z => by rw [hr, hret] at z; cases z) hk
  refine ⟨_, _, retOut Y hx (hr.trans hret) hn' (Or.inr (Or.inr (Or.inr (Or.inr ⟨rfl, ht, hv⟩)))) (hb hc hd) hl, hrun, hend, _, _, rfl, ⟨?_, hF⟩, ⟨_, rfl⟩, hW, hsame.mono hC hS⟩
  show Q _ T.heap
  rw [hh]; exact hQ
theorem F_callS (X : St p l e R s m args below meth c Z code own ret ml nm n0 T h cells slots) {y : MethodName} {bytes : ByteArray} {maxL : Nat} {rt : Option FieldType} {rm : Room} {Q' : Option Value → Heap → Prop} {idx : Nat} (w1 : (Cond.methodLink own idx y).before a0 Z = true) (w2 : (Cond.static y).before a0 Z = true) (w3 : (Cond.initialized y.cls).before a0 Z = true) (w4 : (Cond.code y bytes maxL rt).before a0 Z = true) (hy : y.cls ≠ "java/lang/invoke/MethodHandle" ∧ y.cls ≠ "java/lang/invoke/VarHandle")
    {argsL : List Value} (K : Con l y bytes maxL rt rm rm.cells rm.slots Z n0 argsL.toArray h Q') (r1 : rm.frames + 1 ≤ R.frames) {W : Nat} (hW : (stk.map fun v => v.category).sum ≤ W) (r2 : W + (maxL + 11) + rm.locals ≤ R.locals) (r3 : cells + rm.cells ≤ R.cells) (r4 : slots + rm.slots ≤ R.slots) (hls : Ls.size = ml) (hlen : ∀ sig, parseMethodDescriptor y.desc = some sig → argsL.length = sig.parameters.length) {stk0 : List Value} (hst : stk0 = argsL.reverse ++ stk) (hd : decode code pc = .ok (.invokestatic idx, 3)) (hp : pc + 3 = pc')
    (k : ∀ (T' : State) (v : Option Value) (h' : Heap), St p l e R s m args below meth c Z code own ret ml nm n0 T' h' (cells + rm.cells) (slots + rm.slots) → Q' v h' → Ends p e below s n0 C S Q T' (mkF m pc' Ls (v.toList ++ stk))) : Ends p e below s n0 C S Q T (mkF m pc Ls stk0) := by
  obtain ⟨locs, Y, hx, hZ, hc, ho, hr, hm, hn, hk, hh, hF, h0⟩ := X
  subst hp hst
  obtain ⟨v, vm1, ⟨T', L', k', n'⟩, -, Y', ⟨L, q1, q2, q3, q4⟩, st⟩ := Jvm.LawKit.callS Y hx (y := y) ho (mvT hZ w1) (mvT hZ w2) (mvT hZ w3) (mvT hZ w4) hy (backOf (W := W) (Q := fun v h' L => Q' v h' ∧ Fr n0 L) (K []) hZ w4 w3 r1 r2) (g := mkF m pc Ls (argsL.reverse ++ stk)) rfl (by rw [hm]; exact hls) (argsL := argsL) (rest := stk) hlen rfl (by show 2 * 0 + _ ≤ _; omega) (hb hc hd) (fun _ _ => ⟨rfl, hh, r3, r4⟩)
  dsimp only [Pt.U, Pt.locs, Pt.cells, Pt.slots] at Y' q2 q3 q4 st q1
  subst q2 q3 q4
  obtain ⟨q1, q5⟩ := q1
  exact (k T' v T'.heap ⟨_, Y', hx, hZ, hc, ho, hr, hm, hn, hk, rfl, Fr.app hF q5, h0⟩ q1).by st
theorem F_init (X : St p l e R s m args below meth c Z code own ret ml nm n0 T h cells slots) {y : MethodName} {bytes : ByteArray} {maxL : Nat} {rm : Room} {Q' : Option Value → Heap → Prop} {idx : Nat} (hy1 : y.name = "<init>") (w1 : (Cond.methodLink own idx y).before a0 Z = true) (w2 : (Cond.instanceMethod y).before a0 Z = true) (w3 : (Cond.initialized y.cls).before a0 Z = true) (w4 : (Cond.code y bytes maxL none).before a0 Z = true) (hy : y.cls ≠ "java/lang/invoke/MethodHandle" ∧ y.cls ≠ "java/lang/invoke/VarHandle")
    {a : Addr} {argsL : List Value} (K : Con l y bytes maxL none rm rm.cells rm.slots Z n0 (.ref a :: argsL).toArray h Q') (r1 : rm.frames + 1 ≤ R.frames) {W : Nat} (hW : (stk.map fun v => v.category).sum ≤ W) (r2 : W + (maxL + 11) + rm.locals ≤ R.locals) (r3 : cells + rm.cells ≤ R.cells) (r4 : slots + rm.slots ≤ R.slots) (hls : Ls.size = ml) (hlen : ∀ sig, parseMethodDescriptor y.desc = some sig → argsL.length = sig.parameters.length) {stk0 : List Value} (hst : stk0 = argsL.reverse ++ .ref a :: stk) (hd : decode code pc = .ok (.invokespecial idx, 3)) (hp : pc + 3 = pc')
    (k : ∀ (T' : State) (v : Option Value) (h' : Heap), St p l e R s m args below meth c Z code own ret ml nm n0 T' h' (cells + rm.cells) (slots + rm.slots) → Q' v h' → Ends p e below s n0 C S Q T' (mkF m pc' Ls (v.toList ++ stk))) : Ends p e below s n0 C S Q T (mkF m pc Ls stk0) := by
  obtain ⟨locs, Y, hx, hZ, hc, ho, hr, hm, hn, hk, hh, hF, h0⟩ := X
  subst hp hst
  obtain ⟨v, vm1, ⟨T', L', k', n'⟩, -, Y', ⟨L, q1, q2, q3, q4⟩, st⟩ := Y.specialBack hx (y := y) hy1 ho (mvT hZ w1) (mvT hZ w2) (mvT hZ w4) hy (backOf (W := W) (Q := fun v h' L => Q' v h' ∧ Fr n0 L) (K []) hZ w4 w3 r1 r2) (g := mkF m pc Ls (argsL.reverse ++ .ref a :: stk)) rfl (by rw [hm]; exact hls) (Steps.refl _) (a := a) (argsL := argsL) (rest := stk) hlen rfl (by show 2 * 0 + _ ≤ _; omega) (hb hc hd) (fun _ _ => ⟨rfl, hh, r3, r4⟩)
  dsimp only [Pt.U, Pt.locs, Pt.cells, Pt.slots] at Y' q2 q3 q4 st q1
  subst q2 q3 q4
  obtain ⟨q1, q5⟩ := q1
  exact (k T' v T'.heap ⟨_, Y', hx, hZ, hc, ho, hr, hm, hn, hk, rfl, Fr.app hF q5, h0⟩ q1).by fun _ z => st.trans z
theorem F_callV (X : St p l e R s m args below meth c Z code own ret ml nm n0 T h cells slots) {y : MethodName} {bytes : ByteArray} {maxL : Nat} {rt : Option FieldType} {rm : Room} {Q' : Option Value → Heap → Prop} {idx : Nat} (w1 : (Cond.methodLink own idx y).before a0 Z = true) (w5 : (Cond.declares y).before a0 Z = true) (w6 : (Cond.selects y.cls y y).before a0 Z = true) (w2 : (Cond.instanceMethod y).before a0 Z = true) (w3 : (Cond.initialized y.cls).before a0 Z = true) (w4 : (Cond.code y bytes maxL rt).before a0 Z = true) (hy : y.cls ≠ "java/lang/invoke/MethodHandle" ∧ y.cls ≠ "java/lang/invoke/VarHandle")
    {a : Addr} (E : Exa Z h a y.cls) {argsL : List Value} (K : Con l y bytes maxL rt rm rm.cells rm.slots Z n0 (.ref a :: argsL).toArray h Q') (r1 : rm.frames + 1 ≤ R.frames) {W : Nat} (hW : (stk.map fun v => v.category).sum ≤ W) (r2 : W + (maxL + 11) + rm.locals ≤ R.locals) (r3 : cells + rm.cells ≤ R.cells) (r4 : slots + rm.slots ≤ R.slots) (hls : Ls.size = ml) (hlen : ∀ sig, parseMethodDescriptor y.desc = some sig → argsL.length = sig.parameters.length) {stk0 : List Value} (hst : stk0 = argsL.reverse ++ .ref a :: stk) (hd : decode code pc = .ok (.invokevirtual idx, 3)) (hp : pc + 3 = pc')
    (k : ∀ (T' : State) (v : Option Value) (h' : Heap), St p l e R s m args below meth c Z code own ret ml nm n0 T' h' (cells + rm.cells) (slots + rm.slots) → Q' v h' → Ends p e below s n0 C S Q T' (mkF m pc' Ls (v.toList ++ stk))) : Ends p e below s n0 C S Q T (mkF m pc Ls stk0) := by
  obtain ⟨locs, Y, hx, hZ, hc, ho, hr, hm, hn, hk, hh, hF, h0⟩ := X
  subst hp hst
  obtain ⟨cq, kq, qa, qb, qc⟩ := isOf hZ hh E
  obtain ⟨v, vm1, ⟨T', L', k', n'⟩, -, Y', ⟨L, q1, q2, q3, q4⟩, st⟩ := Y.virtualBack hx (y := y) (z := y) ho (mvT hZ w1) (mvT hZ w5) (notFace_of_selects (args := #[]) (mvT hZ w6)) (mvT hZ w6) (mvT hZ w2) hy (backOf (W := W) (Q := fun v h' L => Q' v h' ∧ Fr n0 L) (K []) hZ w4 w3 r1 r2) qa qc (g := mkF m pc Ls (argsL.reverse ++ .ref a :: stk)) rfl (by rw [hm]; exact hls) (Steps.refl _) (argsL := argsL) (rest := stk) hlen rfl (by show 2 * 0 + _ ≤ _; omega) (hb hc hd) (fun _ _ => ⟨rfl, hh, r3, r4⟩)
  dsimp only [Pt.U, Pt.locs, Pt.cells, Pt.slots] at Y' q2 q3 q4 st q1
  subst q2 q3 q4
  obtain ⟨q1, q5⟩ := q1
  exact (k T' v T'.heap ⟨_, Y', hx, hZ, hc, ho, hr, hm, hn, hk, rfl, Fr.app hF q5, h0⟩ q1).by fun _ z => st.trans z
theorem F_callP (X : St p l e R s m args below meth c Z code own ret ml nm n0 T h cells slots) {y : MethodName} {bytes : ByteArray} {maxL : Nat} {rt : Option FieldType} {rm : Room} {Q' : Option Value → Heap → Prop} {idx : Nat} {kk : Nat} (w1 : (Cond.methodLink own idx y).before a0 Z = true) (wp : (Cond.privateMethod y).before a0 Z = true) (wi : (Cond.instantiable y.cls kk).before a0 Z = true) (w2 : (Cond.instanceMethod y).before a0 Z = true) (w3 : (Cond.initialized y.cls).before a0 Z = true) (w4 : (Cond.code y bytes maxL rt).before a0 Z = true) (hy : y.cls ≠ "java/lang/invoke/MethodHandle" ∧ y.cls ≠ "java/lang/invoke/VarHandle")
    {a : Addr} (E : Exa Z h a y.cls) {argsL : List Value} (K : Con l y bytes maxL rt rm rm.cells rm.slots Z n0 (.ref a :: argsL).toArray h Q') (r1 : rm.frames + 1 ≤ R.frames) {W : Nat} (hW : (stk.map fun v => v.category).sum ≤ W) (r2 : W + (maxL + 11) + rm.locals ≤ R.locals) (r3 : cells + rm.cells ≤ R.cells) (r4 : slots + rm.slots ≤ R.slots) (hls : Ls.size = ml) (hlen : ∀ sig, parseMethodDescriptor y.desc = some sig → argsL.length = sig.parameters.length) {stk0 : List Value} (hst : stk0 = argsL.reverse ++ .ref a :: stk) (hd : decode code pc = .ok (.invokevirtual idx, 3)) (hp : pc + 3 = pc')
    (k : ∀ (T' : State) (v : Option Value) (h' : Heap), St p l e R s m args below meth c Z code own ret ml nm n0 T' h' (cells + rm.cells) (slots + rm.slots) → Q' v h' → Ends p e below s n0 C S Q T' (mkF m pc' Ls (v.toList ++ stk))) : Ends p e below s n0 C S Q T (mkF m pc Ls stk0) := by
  obtain ⟨locs, Y, hx, hZ, hc, ho, hr, hm, hn, hk, hh, hF, h0⟩ := X
  subst hp hst
  obtain ⟨cq, q, q'⟩ := E.cell
  have wi' : (Cond.instantiable y.cls kk).before args s = true := mvT hZ wi
  obtain ⟨c1, k1, i1, i2, -, i4, -⟩ := Cond.instantiable_spec wi'
  have hpr := Cond.privateMethod_at (mvP hZ wp (args := #[]))
  have hsel : (Cond.selects y.cls y y).before args s = true := selects_self_of_private i1 i2 (by simp at i4; exact i4.1) hpr (mvT hZ w2) hy
  obtain ⟨v, vm1, ⟨T', L', k', n'⟩, -, Y', ⟨L, q1, q2, q3, q4⟩, st⟩ := Y.privateBack hx (y := y) ho (mvT hZ w1) (mvT hZ w2) hsel hpr (mvT hZ w4) hy (backOf (W := W) (Q := fun v h' L => Q' v h' ∧ Fr n0 L) (K []) hZ w4 w3 r1 r2) (g := mkF m pc Ls (argsL.reverse ++ .ref a :: stk)) rfl (by rw [hm]; exact hls) (Steps.refl _) (a := a) (by rw [hh]; exact q) q' (argsL := argsL) (rest := stk) hlen rfl (by show 2 * 0 + _ ≤ _; omega) (hb hc hd) (fun _ _ => ⟨rfl, hh, r3, r4⟩)
  dsimp only [Pt.U, Pt.locs, Pt.cells, Pt.slots] at Y' q2 q3 q4 st q1
  subst q2 q3 q4
  obtain ⟨q1, q5⟩ := q1
  exact (k T' v T'.heap ⟨_, Y', hx, hZ, hc, ho, hr, hm, hn, hk, rfl, Fr.app hF q5, h0⟩ q1).by fun _ z => st.trans z
theorem F_objInit (X : St p l e R s m args below meth c Z code own ret ml nm n0 T h cells slots) {idx : Nat} {a : Addr} (w1 : (Cond.methodLink own idx Lib.objectInit).before a0 Z = true) (w2 : (Cond.instanceMethod Lib.objectInit).before a0 Z = true) (w3 : (Cond.code Lib.objectInit ⟨#[0xb1]⟩ 1 none).before a0 Z = true) (r1 : 1 ≤ R.frames) {W : Nat} (hW : (stk.map fun v => v.category).sum ≤ W) (r2 : W + 12 ≤ R.locals) (hls : Ls.size = ml) (hd : decode code pc = .ok (.invokespecial idx, 3)) (hp : pc + 3 = pc')
    (k : ∀ T' : State, St p l e R s m args below meth c Z code own ret ml nm n0 T' h cells slots → Ends p e below s n0 C S Q T' (mkF m pc' Ls stk)) : Ends p e below s n0 C S Q T (mkF m pc Ls (.ref a :: stk)) := by
  obtain ⟨locs, Y, hx, hZ, hc, ho, hr, hm, hn, hk, hh, hF, h0⟩ := X
  subst hp
  obtain ⟨T', Y', e', st⟩ := initO Y hx hZ ho w1 w2 w3 hh (g := mkF m pc Ls (.ref a :: stk)) rfl (by rw [hm]; exact hls) rfl (hb hc hd) r1 (W := W) (by show 2 * 0 + _ ≤ _; omega) r2
  exact (k T' ⟨_, Y', hx, hZ, hc, ho, hr, hm, hn, hk, e', hF, h0⟩).by st
theorem F_new (X : St p l e R s m args below meth c Z code own ret ml nm n0 T h cells slots) {idx n : Nat} {K : String} (w : (Cond.classLink own idx K).before a0 Z = true) (wi : (Cond.instantiable K n).before a0 Z = true) (wz : (Cond.initialized K).before a0 Z = true) (r3 : cells + 1 ≤ R.cells) (r4 : slots + n ≤ R.slots) (hd : decode code pc = .ok (.new idx, 3)) (hp : pc + 3 = pc')
    (k : ∀ (T' : State) (h' : Heap) (a : Addr), St p l e R s m args below meth c Z code own ret ml nm n0 T' h' (cells + 1) (slots + n) → Ext h h' → a = h.size → n0 ≤ a → Exa Z h' a K → (∀ {O nm d : String} {ty : FieldType}, Laid Z a0 K O nm d → parseFieldDescriptor d = some ty → Fld Z h' a O nm d (defaultValue ty)) → Ends p e below s n0 C S Q T' (mkF m pc' Ls (.ref a :: stk))) : Ends p e below s n0 C S Q T (mkF m pc Ls stk) := by
  have hsz := X.size
  obtain ⟨locs, Y, hx, hZ, hc, ho, hr, hm, hn, hk, hh, hF, h0⟩ := X
  subst hp
  obtain ⟨T', h', Y', e', E, A, D, -, st⟩ := newO Y hx hZ ho w wi wz hh (g := mkF m pc Ls stk) rfl (hb hc hd) r3 r4
  exact (k T' h' _ ⟨_, Y', hx, hZ, hc, ho, hr, hm, hn, hk, e', hF, h0⟩ E rfl hsz A D).by st
theorem F_getfield (X : St p l e R s m args below meth c Z code own ret ml nm n0 T h cells slots) {idx : Nat} {K f d : String} {a : Addr} {v : Value} (w : (Cond.fieldLink own idx K f d).before a0 Z = true) (F : Fld Z h a K f d v) (hd : decode code pc = .ok (.getfield idx, 3)) (hp : pc + 3 = pc')
    (k : ∀ T' : State, St p l e R s m args below meth c Z code own ret ml nm n0 T' h cells slots → Ends p e below s n0 C S Q T' (mkF m pc' Ls (v :: stk))) : Ends p e below s n0 C S Q T (mkF m pc Ls (.ref a :: stk)) := by
  obtain ⟨locs, Y, hx, hZ, hc, ho, hr, hm, hn, hk, hh, hF, h0⟩ := X
  subst hp
  obtain ⟨T', Y', e', st⟩ := getF Y hx hZ ho (host := "") (Or.inl w) Via.refl hh F (g := mkF m pc Ls (.ref a :: stk)) rfl rfl (hb hc hd)
  exact (k T' ⟨_, Y', hx, hZ, hc, ho, hr, hm, hn, hk, e', hF, h0⟩).by st
theorem F_putfield (X : St p l e R s m args below meth c Z code own ret ml nm n0 T h cells slots) {idx kk : Nat} {K f d : String} {a : Addr} {v old : Value} {ty : FieldType} (w : (Cond.fieldLink own idx K f d).before a0 Z = true) (F : Fld Z h a K f d old) (E : Exa Z h a K) (L : (Cond.lays K K f d).before a0 Z = true ∨ ((Cond.laysFinal K K f d).before a0 Z = true ∧ own = K ∧ nm = "<init>")) (wi : (Cond.instantiable K kk).before a0 Z = true) (hty : parseFieldDescriptor d = some ty) (hnr : narrow ty v = v) (hft : fits ty v = true) (ge : n0 ≤ a) (hd : decode code pc = .ok (.putfield idx, 3)) (hp : pc + 3 = pc')
    (k : ∀ (T' : State) (h' : Heap), St p l e R s m args below meth c Z code own ret ml nm n0 T' h' cells slots → Wr h h' a (Jvm.RoadKit.slotOf Z K f d) v → Ends p e below s n0 C S Q T' (mkF m pc' Ls stk)) : Ends p e below s n0 C S Q T (mkF m pc Ls (v :: .ref a :: stk)) := by
  obtain ⟨locs, Y, hx, hZ, hc, ho, hr, hm, hn, hk, hh, hF, h0⟩ := X
  subst hp
  obtain ⟨T', h', Y', e', W, st⟩ := putF Y hx hZ ho (host := "") (Or.inl w) Via.refl hh F E (L.imp id fun q => ⟨q.1, q.2.1, hn.trans q.2.2⟩) wi hty hnr hft (g := mkF m pc Ls (v :: .ref a :: stk)) rfl rfl (hb hc hd)
  exact (k T' h' ⟨_, Y', hx, hZ, hc, ho, hr, hm, hn, hk, e', Fr.snoc Y' hF ge, h0⟩ W).by st
theorem F_putfieldN (X : St p l e R s m args below meth c Z code own ret ml nm n0 T h cells slots) {idx kk : Nat} {K f d : String} {a : Addr} {v v' old : Value} {ty : FieldType} (w : (Cond.fieldLink own idx K f d).before a0 Z = true) (F : Fld Z h a K f d old) (E : Exa Z h a K) (L : (Cond.lays K K f d).before a0 Z = true ∨ ((Cond.laysFinal K K f d).before a0 Z = true ∧ own = K ∧ nm = "<init>")) (wi : (Cond.instantiable K kk).before a0 Z = true) (hty : parseFieldDescriptor d = some ty) (hnr : narrow ty v = v') (hft : fits ty v' = true) (ge : n0 ≤ a) (hd : decode code pc = .ok (.putfield idx, 3)) (hp : pc + 3 = pc')
    (k : ∀ (T' : State) (h' : Heap), St p l e R s m args below meth c Z code own ret ml nm n0 T' h' cells slots → Wr h h' a (Jvm.RoadKit.slotOf Z K f d) v' → Ends p e below s n0 C S Q T' (mkF m pc' Ls stk)) : Ends p e below s n0 C S Q T (mkF m pc Ls (v :: .ref a :: stk)) := by
  obtain ⟨locs, Y, hx, hZ, hc, ho, hr, hm, hn, hk, hh, hF, h0⟩ := X
  subst hp
  obtain ⟨T', h', Y', e', W, st⟩ := putFN Y hx hZ ho w Via.refl hh F E (L.imp id fun q => ⟨q.1, q.2.1, hn.trans q.2.2⟩) wi hty hnr hft (g := mkF m pc Ls (v :: .ref a :: stk)) rfl rfl (hb hc hd)
  exact (k T' h' ⟨_, Y', hx, hZ, hc, ho, hr, hm, hn, hk, e', Fr.snoc Y' hF ge, h0⟩ W).by st
/-- the array at a, of the component kind ty, holds just the values vs -/
def AV (Z : State) (h : Heap) (a : Addr) (ty : FieldType) (vs : List Value) : Prop := ∃ cl : Cell, Arr Z h a cl ty ∧ cl.slots.toList = vs ∧ vs.length < 2147483648 ∧ ∀ v ∈ vs, fits ty v = true
theorem AV.lt {a : Addr} {ty : FieldType} {vs : List Value} (A : AV Z h a ty vs) : a < h.size := by obtain ⟨cl, A, -⟩ := A; exact A.lt
theorem AV.ext {h' : Heap} {a : Addr} {ty : FieldType} {vs : List Value} (A : AV Z h a ty vs) (E : Ext h h') : AV Z h' a ty vs := by obtain ⟨cl, A, r⟩ := A; exact ⟨cl, A.ext E, r⟩
theorem AV.other {h' : Heap} {a b : Addr} {sl : Nat} {v : Value} {ty : FieldType} {vs : List Value} (A : AV Z h a ty vs) (W : Wr h h' b sl v) (q : a ≠ b) : AV Z h' a ty vs := by obtain ⟨cl, A, r⟩ := A; exact ⟨cl, A.other W q, r⟩
theorem AV.keep {h' : Heap} {a : Addr} {ws : List Addr} {ty : FieldType} {vs : List Value} (A : AV Z h a ty vs) (K : Keep h h' ws) (q : a ∉ ws) : AV Z h' a ty vs := by obtain ⟨cl, A, r⟩ := A; exact ⟨cl, ⟨K.2.1 a cl A.1 q, A.2⟩, r⟩
theorem AV.same {h' : Heap} {a : Addr} {j : Nat} {v : Value} {ty : FieldType} {vs : List Value} (A : AV Z h a ty vs) (W : Wr h h' a j v) (hf : fits ty v = true) : AV Z h' a ty (vs.set j v) := by
  obtain ⟨cl, A, r1, r2, r3⟩ := A
  refine ⟨cl.setSlot j v, A.same W, ?_, by simpa using r2, fun u hu => ?_⟩
  · rw [← r1]; simp [Cell.setSlot]
  · rcases List.mem_or_eq_of_mem_set hu with q | q
    · exact r3 u q
    · exact q ▸ hf
theorem idx_ok {cl : Cell} {vs : List Value} {v : Value} {j : Int32} (r1 : cl.slots.toList = vs) (hj : ¬ j < 0) (hv : vs[j.toNatClampNeg]? = some v) : ¬ (j < 0 ∨ cl.slots.size ≤ j.toNatClampNeg) ∧ cl.slots[j.toNatClampNeg]? = some v := by
  subst r1
  rw [Array.getElem?_toList] at hv
  exact ⟨fun q => q.elim hj fun q => (by rw [Array.getElem?_eq_none q] at hv; cases hv), hv⟩

theorem F_iaload (X : St p l e R s m args below meth c Z code own ret ml nm n0 T h cells slots) {a : Addr} {vs : List Value} {j : Int32} {v : Int32} (A : AV Z h a .int vs) (hj : ¬ j < 0) (hv : vs[j.toNatClampNeg]? = some (.int v)) (hd : decode code pc = .ok (.iaload, 1)) (hp : pc + 1 = pc') (k : Ends p e below s n0 C S Q T (mkF m pc' Ls (.int v :: stk))) : Ends p e below s n0 C S Q T (mkF m pc Ls (.int j :: .ref a :: stk)) := by
  obtain ⟨locs, Y, hx, hZ, hc, ho, hr, hm, hn, hk, hh, hF, h0⟩ := X
  subst hp
  obtain ⟨cl, A, r1, r2, r3⟩ := A
  obtain ⟨q1, q2⟩ := idx_ok r1 hj hv
  exact k.by fun _ z => Y.iaload hx (j := j) (by rw [hh]; exact A.1) (State.isArrayOf_alike hZ.alike A.2.1) A.2.2 q1 q2 (g := mkF m pc Ls (.int j :: .ref a :: stk)) rfl rfl (hb hc hd) _ z
theorem F_laload (X : St p l e R s m args below meth c Z code own ret ml nm n0 T h cells slots) {a : Addr} {vs : List Value} {j : Int32} {v : Int64} (A : AV Z h a .long vs) (hj : ¬ j < 0) (hv : vs[j.toNatClampNeg]? = some (.long v)) (hd : decode code pc = .ok (.laload, 1)) (hp : pc + 1 = pc') (k : Ends p e below s n0 C S Q T (mkF m pc' Ls (.long v :: stk))) : Ends p e below s n0 C S Q T (mkF m pc Ls (.int j :: .ref a :: stk)) := by
  obtain ⟨locs, Y, hx, hZ, hc, ho, hr, hm, hn, hk, hh, hF, h0⟩ := X
  subst hp
  obtain ⟨cl, A, r1, r2, r3⟩ := A
  obtain ⟨q1, q2⟩ := idx_ok r1 hj hv
  exact k.by fun _ z => Y.laload hx (j := j) (by rw [hh]; exact A.1) (State.isArrayOf_alike hZ.alike A.2.1) A.2.2 q1 q2 (g := mkF m pc Ls (.int j :: .ref a :: stk)) rfl rfl (hb hc hd) _ z
theorem F_baload (X : St p l e R s m args below meth c Z code own ret ml nm n0 T h cells slots) {a : Addr} {vs : List Value} {j : Int32} {v : Int32} (A : AV Z h a .byte vs) (hj : ¬ j < 0) (hv : vs[j.toNatClampNeg]? = some (.int v)) (hd : decode code pc = .ok (.baload, 1)) (hp : pc + 1 = pc') (k : Ends p e below s n0 C S Q T (mkF m pc' Ls (.int v :: stk))) : Ends p e below s n0 C S Q T (mkF m pc Ls (.int j :: .ref a :: stk)) := by
  obtain ⟨locs, Y, hx, hZ, hc, ho, hr, hm, hn, hk, hh, hF, h0⟩ := X
  subst hp
  obtain ⟨cl, A, r1, r2, r3⟩ := A
  obtain ⟨q1, q2⟩ := idx_ok r1 hj hv
  exact k.by fun _ z => Y.baloadBytes hx (j := j) (by rw [hh]; exact A.1) (State.isArrayOf_alike hZ.alike A.2.1) A.2.2 q1 q2 (g := mkF m pc Ls (.int j :: .ref a :: stk)) rfl rfl (hb hc hd) _ z
theorem F_arraylength (X : St p l e R s m args below meth c Z code own ret ml nm n0 T h cells slots) {a : Addr} {ty : FieldType} {vs : List Value} {z : Int32} (A : AV Z h a ty vs) (hz : vs.length.toInt32 = z) (hd : decode code pc = .ok (.arraylength, 1)) (hp : pc + 1 = pc') (k : Ends p e below s n0 C S Q T (mkF m pc' Ls (.int z :: stk))) : Ends p e below s n0 C S Q T (mkF m pc Ls (.ref a :: stk)) := by
  obtain ⟨locs, Y, hx, hZ, hc, ho, hr, hm, hn, hk, hh, hF, h0⟩ := X
  subst hp
  obtain ⟨cl, A, r1, r2, r3⟩ := A
  subst hz r1
  exact k.by fun _ z => Y.arraylength hx (by rw [hh]; exact A.1) (State.isArrayOf_alike hZ.alike A.2.1) (g := mkF m pc Ls (.ref a :: stk)) rfl rfl (hb hc hd) _ (by simpa using z)
theorem F_iastore (X : St p l e R s m args below meth c Z code own ret ml nm n0 T h cells slots) {a : Addr} {vs : List Value} {j : Int32} {x : Int32} {i : Nat} (A : AV Z h a .int vs) (hj : ¬ j < 0) (hi : j.toNatClampNeg = i) (hlt : i < vs.length) (ge : n0 ≤ a) (hd : decode code pc = .ok (.iastore, 1)) (hp : pc + 1 = pc')
    (k : ∀ (T' : State) (h' : Heap), St p l e R s m args below meth c Z code own ret ml nm n0 T' h' cells slots → Wr h h' a i (.int x) → AV Z h' a .int (vs.set i (.int x)) → Ends p e below s n0 C S Q T' (mkF m pc' Ls stk)) : Ends p e below s n0 C S Q T (mkF m pc Ls (.int x :: .int j :: .ref a :: stk)) := by
  obtain ⟨locs, Y, hx, hZ, hc, ho, hr, hm, hn, hk, hh, hF, h0⟩ := X
  subst hp hi
  have A0 := A
  obtain ⟨cl, A, r1, r2, r3⟩ := A
  subst r1
  obtain ⟨T', h', Y', e', W, st⟩ := stI Y hx hZ hh A (j := j) (x := x) (fun q => q.elim hj fun q => by simp at hlt; omega) (g := mkF m pc Ls (.int x :: .int j :: .ref a :: stk)) rfl rfl (hb hc hd)
  exact (k T' h' ⟨_, Y', hx, hZ, hc, ho, hr, hm, hn, hk, e', Fr.snoc Y' hF ge, h0⟩ W (A0.same W rfl)).by st
theorem F_lastore (X : St p l e R s m args below meth c Z code own ret ml nm n0 T h cells slots) {a : Addr} {vs : List Value} {j : Int32} {x : Int64} {i : Nat} (A : AV Z h a .long vs) (hj : ¬ j < 0) (hi : j.toNatClampNeg = i) (hlt : i < vs.length) (ge : n0 ≤ a) (hd : decode code pc = .ok (.lastore, 1)) (hp : pc + 1 = pc')
    (k : ∀ (T' : State) (h' : Heap), St p l e R s m args below meth c Z code own ret ml nm n0 T' h' cells slots → Wr h h' a i (.long x) → AV Z h' a .long (vs.set i (.long x)) → Ends p e below s n0 C S Q T' (mkF m pc' Ls stk)) : Ends p e below s n0 C S Q T (mkF m pc Ls (.long x :: .int j :: .ref a :: stk)) := by
  obtain ⟨locs, Y, hx, hZ, hc, ho, hr, hm, hn, hk, hh, hF, h0⟩ := X
  subst hp hi
  have A0 := A
  obtain ⟨cl, A, r1, r2, r3⟩ := A
  subst r1
  obtain ⟨T', h', Y', e', W, st⟩ := stJ Y hx hZ hh A (j := j) (x := x) (fun q => q.elim hj fun q => by simp at hlt; omega) (g := mkF m pc Ls (.long x :: .int j :: .ref a :: stk)) rfl rfl (hb hc hd)
  exact (k T' h' ⟨_, Y', hx, hZ, hc, ho, hr, hm, hn, hk, e', Fr.snoc Y' hF ge, h0⟩ W (A0.same W rfl)).by st
theorem F_bastore (X : St p l e R s m args below meth c Z code own ret ml nm n0 T h cells slots) {a : Addr} {vs : List Value} {j : Int32} {x : Int32} {i : Nat} (A : AV Z h a .byte vs) (hj : ¬ j < 0) (hi : j.toNatClampNeg = i) (hlt : i < vs.length) (ge : n0 ≤ a) {z : Int32} (hz : x.toInt8.toInt32 = z) (hd : decode code pc = .ok (.bastore, 1)) (hp : pc + 1 = pc')
    (k : ∀ (T' : State) (h' : Heap), St p l e R s m args below meth c Z code own ret ml nm n0 T' h' cells slots → Wr h h' a i (.int z) → AV Z h' a .byte (vs.set i (.int z)) → Ends p e below s n0 C S Q T' (mkF m pc' Ls stk)) : Ends p e below s n0 C S Q T (mkF m pc Ls (.int x :: .int j :: .ref a :: stk)) := by
  obtain ⟨locs, Y, hx, hZ, hc, ho, hr, hm, hn, hk, hh, hF, h0⟩ := X
  subst hp hi
  have A0 := A
  obtain ⟨cl, A, r1, r2, r3⟩ := A
  subst r1
  obtain ⟨T', h', Y', e', W, st⟩ := stB Y hx hZ hh A (j := j) (x := x) (fun q => q.elim hj fun q => by simp at hlt; omega) (g := mkF m pc Ls (.int x :: .int j :: .ref a :: stk)) rfl rfl (hb hc hd)
  subst hz
  exact (k T' h' ⟨_, Y', hx, hZ, hc, ho, hr, hm, hn, hk, e', Fr.snoc Y' hF ge, h0⟩ W (A0.same W (fits_nar_byte _))).by st
theorem F_newarray (X : St p l e R s m args below meth c Z code own ret ml nm n0 T h cells slots) {aty : ArrayType} {n : Int32} {cap : Nat} {ad : String} (w : (Cond.arrayClass (newarray.typeOf aty)).before a0 Z = true) (hn0 : ¬ n < 0) (hcap : n.toNatClampNeg = cap) (hbig : cap * 8 ≤ 536870912) (r3 : cells + 1 ≤ R.cells) (r4 : slots + cap ≤ R.slots) (had : "[" ++ (newarray.typeOf aty).toString = ad) (hd : decode code pc = .ok (.newarray aty, 2)) (hp : pc + 2 = pc')
    (k : ∀ (T' : State) (h' : Heap) (a : Addr), St p l e R s m args below meth c Z code own ret ml nm n0 T' h' (cells + 1) (slots + cap) → Ext h h' → a = h.size → n0 ≤ a → Exa Z h' a ad → AV Z h' a (newarray.typeOf aty) (List.replicate cap (defaultValue (newarray.typeOf aty))) → Ends p e below s n0 C S Q T' (mkF m pc' Ls (.ref a :: stk))) : Ends p e below s n0 C S Q T (mkF m pc Ls (.int n :: stk)) := by
  have hsz := X.size
  obtain ⟨locs, Y, hx, hZ, hc, ho, hr, hm, hn, hk, hh, hF, h0⟩ := X
  subst hp
  obtain ⟨T', h', cA, Y', e', E, A, EX, st⟩ := newPE Y hx hZ w hh (g := mkF m pc Ls (.int n :: stk)) rfl (hb hc hd) rfl hn0 (Nat.le_of_eq hcap) hbig r3 r4 had
  refine (k T' h' _ ⟨_, Y', hx, hZ, hc, ho, hr, hm, hn, hk, e', hF, h0⟩ E rfl hsz EX ⟨_, A, by simp [newA, hcap], by simp; omega, fun v hv => ?_⟩).by st
  rw [(List.mem_replicate.mp hv).2]
  cases aty <;> rfl
theorem AV.arv {a : Addr} {ty : FieldType} {vs : List Value} (A : AV Z h a ty vs) (dv : Value) : ∃ k, Arv Z h a k ty vs.length.toInt32 vs dv := by
  obtain ⟨cl, A, r1, r2, r3⟩ := A
  have e1 : (vs.length.toInt32).toInt = vs.length := len_toInt (by omega)
  have e2 : vs.length.toInt32.toNatClampNeg = vs.length := by simp only [Int32.toNatClampNeg, e1]; omega
  have sz : cl.slots.size = vs.length := by rw [← r1]; simp
  have g : ∀ i, i < vs.length → vs[i]? = some (vs.getD i dv) := fun i hi => by simp [List.getD_eq_getElem?_getD, hi]
  refine ⟨cl.cls, cl, A, rfl, by rw [e2]; exact sz, by simp only [Int32.lt_iff_toInt_lt, e1, Int32.reduceToInt]; omega, fun i hi => ?_, fun i hi => ?_⟩
  · rw [← Array.getElem?_toList, r1]; exact g i (sz ▸ hi)
  · exact r3 _ (List.mem_of_getElem? (g i (sz ▸ hi)))
theorem AV.of_arv {a : Addr} {ty : FieldType} {vs : List Value} {k : ClassId} {z : Int32} {dv : Value} (A : Arv Z h a k ty z vs dv) (hz : z.toNatClampNeg = vs.length) : AV Z h a ty vs := by
  obtain ⟨cl, A, r1, r2, r3, H, G⟩ := A
  have sz : cl.slots.size = vs.length := r2.trans hz
  have e : cl.slots.toList = vs := by
    apply List.ext_getElem?
    intro i
    rw [Array.getElem?_toList]
    by_cases hi : i < vs.length
    · rw [H i (by rw [sz]; exact hi)]; simp [List.getD_eq_getElem?_getD, hi]
    · rw [Array.getElem?_eq_none (by omega), List.getElem?_eq_none (by omega)]
  refine ⟨cl, A, e, by have := (back32 r3).2; omega, fun v hv => ?_⟩
  obtain ⟨i, hi, rfl⟩ := List.getElem_of_mem hv
  have q := G i (by rw [sz]; exact hi)
  simpa [List.getD_eq_getElem?_getD, hi] using q

theorem F_arraycopy (X : St p l e R s m args below meth c Z code own ret ml nm n0 T h cells slots) {idx : Nat} {a b : Addr} {ty : FieldType} {vs vd us vr : List Value} {sp dp nn : Int32} (w1 : (Cond.methodLink own idx Jvm.Stand.acN).before a0 Z = true) (w2 : (Cond.native Jvm.Stand.acN).before a0 Z = true) (w3 : (Cond.static Jvm.Stand.acN).before a0 Z = true) (w4 : (Cond.initialized "java/lang/System").before a0 Z = true)
    (A : AV Z h a ty vs) (B : AV Z h b ty vd) (dv : Value) (hty : refKind ty = false) (h1 : ¬ sp < 0) (h2 : ¬ dp < 0) (h3 : ¬ nn < 0) (h4 : sp.toNatClampNeg + nn.toNatClampNeg ≤ vs.length) (h5 : dp.toNatClampNeg + nn.toNatClampNeg ≤ vd.length)
    (hus : us = (List.range nn.toNatClampNeg).map fun i => vs.getD (sp.toNatClampNeg + i) dv) (hvr : vd.take dp.toNatClampNeg ++ us ++ vd.drop (dp.toNatClampNeg + nn.toNatClampNeg) = vr) (ge : n0 ≤ b) (hls : Ls.size = ml) (r1 : 1 ≤ R.frames) {W : Nat} (hW : (stk.map fun v => v.category).sum ≤ W) (r2 : W + (nativeFrameWords "java/lang/System" "arraycopy" 5 + 11) ≤ R.locals) (hd : decode code pc = .ok (.invokestatic idx, 3)) (hp : pc + 3 = pc')
    (k : ∀ (T' : State) (h' : Heap), St p l e R s m args below meth c Z code own ret ml nm n0 T' h' cells slots → Keep h h' [b] → AV Z h' b ty vr → Ends p e below s n0 C S Q T' (mkF m pc' Ls stk)) : Ends p e below s n0 C S Q T (mkF m pc Ls (.int nn :: .int dp :: .ref b :: .int sp :: .ref a :: stk)) := by
  obtain ⟨locs, Y, hx, hZ, hc, ho, hr, hm, hn, hk, hh, hF, h0⟩ := X
  have hla : vs.length < 2147483648 := by obtain ⟨_, _, _, q, _⟩ := A; exact q
  have hlb : vd.length < 2147483648 := by obtain ⟨_, _, _, q, _⟩ := B; exact q
  subst hp
  obtain ⟨ka, A⟩ := A.arv dv
  obtain ⟨kb, B0⟩ := B.arv dv
  obtain ⟨T', h', L, Y', e', N', K', B', st⟩ := cpA Y hx hZ ho w1 w2 w3 w4 hh A B0 (Or.inl ⟨rfl, hty⟩) h1 h2 h3 (by rw [own_len32 hla]; exact h4) (by rw [own_len32 hlb]; exact h5) hus h5 hF ge (g := mkF m pc Ls (.int nn :: .int dp :: .ref b :: .int sp :: .ref a :: stk)) rfl (by rw [hm]; exact hls) rfl (hb hc hd) r1 (W := W) (by show 2 * 0 + _ ≤ _; omega) r2
  rw [hvr] at B'
  exact (k T' h' ⟨_, Y', hx, hZ, hc, ho, hr, hm, hn, hk, e', N', h0⟩ K' (AV.of_arv B' (by rw [own_len32 hlb, ← hvr, hus]; simp; omega))).by st
theorem F_clone (X : St p l e R s m args below meth c Z code own ret ml nm n0 T h cells slots) {idx : Nat} {a : Addr} {ty : FieldType} {vs : List Value} {ad : String} {cap : Nat} (w1 : (Cond.methodLink own idx ⟨ad, "clone", "()Ljava/lang/Object;"⟩).before a0 Z = true) (w2 : (Cond.sameMethod ad "java/lang/Object" "clone" "()Ljava/lang/Object;").before a0 Z = true) (w3 : (Cond.native ⟨"java/lang/Object", "clone", "()Ljava/lang/Object;"⟩).before a0 Z = true)
    (w4 : (Cond.instanceMethod ⟨"java/lang/Object", "clone", "()Ljava/lang/Object;"⟩).before a0 Z = true) (w5 : (Cond.selects ad ⟨ad, "clone", "()Ljava/lang/Object;"⟩ ⟨"java/lang/Object", "clone", "()Ljava/lang/Object;"⟩).before a0 Z = true) (w6 : (Cond.castable ad "java/lang/Cloneable").before a0 Z = true)
    (A : AV Z h a ty vs) (E : Exa Z h a ad) (hls : Ls.size = ml) (r1 : 1 ≤ R.frames) {W : Nat} (hW : (stk.map fun v => v.category).sum ≤ W) (r2 : W + 14 ≤ R.locals) (hcap : vs.length ≤ cap) (r3 : cells + 1 ≤ R.cells) (r4 : slots + cap ≤ R.slots) (hd : decode code pc = .ok (.invokevirtual idx, 3)) (hp : pc + 3 = pc')
    (k : ∀ (T' : State) (h' : Heap) (b : Addr), St p l e R s m args below meth c Z code own ret ml nm n0 T' h' (cells + 1) (slots + cap) → Ext h h' → b = h.size → n0 ≤ b → Exa Z h' b ad → AV Z h' b ty vs → Ends p e below s n0 C S Q T' (mkF m pc' Ls (.ref b :: stk))) : Ends p e below s n0 C S Q T (mkF m pc Ls (.ref a :: stk)) := by
  have hsz := X.size
  obtain ⟨locs, Y, hx, hZ, hc, ho, hr, hm, hn, hk, hh, hF, h0⟩ := X
  subst hp
  obtain ⟨cl, A, q1, q2, q3⟩ := A
  have FC : FitC Z cl := fitC_of A fun i hi v hv => q3 v (by rw [← q1]; exact List.mem_of_getElem? (i := i) (by rw [Array.getElem?_toList]; exact hv))
  obtain ⟨T', h', Y', e', E', A', EX, st⟩ := cloneA Y hx hZ ho w1 w2 w3 w4 w5 w6 hh A E FC (g := mkF m pc Ls (.ref a :: stk)) rfl (by rw [hm]; exact hls) rfl (hb hc hd) r1 (W := W) (by show 2 * 0 + _ ≤ _; omega) r2 (cap := cap) (by rw [← q1] at hcap; simpa using hcap) r3 r4
  exact (k T' h' _ ⟨_, Y', hx, hZ, hc, ho, hr, hm, hn, hk, e', hF, h0⟩ E' rfl hsz EX ⟨_, A', q1, q2, q3⟩).by st
theorem F_checkcast (X : St p l e R s m args below meth c Z code own ret ml nm n0 T h cells slots) {idx : Nat} {a : Addr} {K : String} (w : (Cond.classLink own idx K).before a0 Z = true) (E : Exa Z h a K) (hd : decode code pc = .ok (.checkcast idx, 3)) (hp : pc + 3 = pc')
    (k : ∀ T' : State, St p l e R s m args below meth c Z code own ret ml nm n0 T' h cells slots → Ends p e below s n0 C S Q T' (mkF m pc' Ls (.ref a :: stk))) : Ends p e below s n0 C S Q T (mkF m pc Ls (.ref a :: stk)) := by
  obtain ⟨locs, Y, hx, hZ, hc, ho, hr, hm, hn, hk, hh, hF, h0⟩ := X
  subst hp
  obtain ⟨T', Y', e', st⟩ := castY Y hx hZ ho w hh (Ins.self E) (g := mkF m pc Ls (.ref a :: stk)) rfl rfl (hb hc hd)
  exact (k T' ⟨_, Y', hx, hZ, hc, ho, hr, hm, hn, hk, e', hF, h0⟩).by st
end Laws
end Jvm.OwnKit

namespace Jvm.Pilot.@@N@@
open Jvm Jvm.ClassFile Sem Op Lib Jvm.Free Jvm.Stand Jvm.LawKit Jvm.RoadKit Jvm.OwnKit Bundle Jvm.Pilot.@@N@@.Jvm.D
theorem wd0 {a0 : Array Value} {Z : State} (hw : ∀ d ∈ tables_1, d.before a0 Z = true) : (Jvm.Cond.methodLink "com/example/libdeleg/libdeleg/cose/CborReaderAtEndPinLaw" (7 : Nat) ({ cls := "java/lang/Math", name := "min", desc := "(II)I" } : Jvm.MethodName)).before a0 Z = true := hw _ (List.mem_of_getElem? (i := 0) rfl)
theorem wd1 {a0 : Array Value} {Z : State} (hw : ∀ d ∈ tables_1, d.before a0 Z = true) : (Jvm.Cond.static ({ cls := "java/lang/Math", name := "min", desc := "(II)I" } : Jvm.MethodName)).before a0 Z = true := hw _ (List.mem_of_getElem? (i := 1) rfl)
theorem wd2 {a0 : Array Value} {Z : State} (hw : ∀ d ∈ tables_1, d.before a0 Z = true) : (Jvm.Cond.initialized "java/lang/Math").before a0 Z = true := hw _ (List.mem_of_getElem? (i := 2) rfl)
theorem wd3 {a0 : Array Value} {Z : State} (hw : ∀ d ∈ tables_1, d.before a0 Z = true) : (Jvm.Cond.code ({ cls := "java/lang/Math", name := "min", desc := "(II)I" } : Jvm.MethodName) jdk_29_method_69_code (2 : Nat) (Option.some Jvm.ClassFile.FieldType.int)).before a0 Z = true := hw _ (List.mem_of_getElem? (i := 3) rfl)
theorem wd4 {a0 : Array Value} {Z : State} (hw : ∀ d ∈ tables_1, d.before a0 Z = true) : (Jvm.Cond.arrayClass Jvm.ClassFile.FieldType.byte).before a0 Z = true := hw _ (List.mem_of_getElem? (i := 4) rfl)
theorem wd5 {a0 : Array Value} {Z : State} (hw : ∀ d ∈ tables_1, d.before a0 Z = true) : (Jvm.Cond.classLink "com/example/libdeleg/libdeleg/cose/CborReaderAtEndPinLaw" (19 : Nat) "com/example/libdeleg/libdeleg/cose/CborReader").before a0 Z = true := hw _ (List.mem_of_getElem? (i := 5) rfl)
theorem wd6 {a0 : Array Value} {Z : State} (hw : ∀ d ∈ tables_1, d.before a0 Z = true) : (Jvm.Cond.instantiable "com/example/libdeleg/libdeleg/cose/CborReader" (2 : Nat)).before a0 Z = true := hw _ (List.mem_of_getElem? (i := 6) rfl)
theorem wd7 {a0 : Array Value} {Z : State} (hw : ∀ d ∈ tables_1, d.before a0 Z = true) : (Jvm.Cond.initialized "com/example/libdeleg/libdeleg/cose/CborReader").before a0 Z = true := hw _ (List.mem_of_getElem? (i := 7) rfl)
theorem wd8 {a0 : Array Value} {Z : State} (hw : ∀ d ∈ tables_1, d.before a0 Z = true) : (Jvm.Cond.methodLink "com/example/libdeleg/libdeleg/cose/CborReaderAtEndPinLaw" (21 : Nat) ({ cls := "com/example/libdeleg/libdeleg/cose/CborReader", name := "<init>", desc := "([B)V" } : Jvm.MethodName)).before a0 Z = true := hw _ (List.mem_of_getElem? (i := 8) rfl)
theorem wd9 {a0 : Array Value} {Z : State} (hw : ∀ d ∈ tables_1, d.before a0 Z = true) : (Jvm.Cond.instanceMethod ({ cls := "com/example/libdeleg/libdeleg/cose/CborReader", name := "<init>", desc := "([B)V" } : Jvm.MethodName)).before a0 Z = true := hw _ (List.mem_of_getElem? (i := 9) rfl)
theorem wd10 {a0 : Array Value} {Z : State} (hw : ∀ d ∈ tables_1, d.before a0 Z = true) : (Jvm.Cond.code ({ cls := "com/example/libdeleg/libdeleg/cose/CborReader", name := "<init>", desc := "([B)V" } : Jvm.MethodName) prog_12_method_1_code (2 : Nat) (Option.none : Option Jvm.ClassFile.FieldType)).before a0 Z = true := hw _ (List.mem_of_getElem? (i := 10) rfl)
theorem wd11 {a0 : Array Value} {Z : State} (hw : ∀ d ∈ tables_1, d.before a0 Z = true) : (Jvm.Cond.methodLink "com/example/libdeleg/libdeleg/cose/CborReader" (1 : Nat) ({ cls := "java/lang/Object", name := "<init>", desc := "()V" } : Jvm.MethodName)).before a0 Z = true := hw _ (List.mem_of_getElem? (i := 11) rfl)
theorem wd12 {a0 : Array Value} {Z : State} (hw : ∀ d ∈ tables_1, d.before a0 Z = true) : (Jvm.Cond.instanceMethod ({ cls := "java/lang/Object", name := "<init>", desc := "()V" } : Jvm.MethodName)).before a0 Z = true := hw _ (List.mem_of_getElem? (i := 12) rfl)
theorem wd13 {a0 : Array Value} {Z : State} (hw : ∀ d ∈ tables_1, d.before a0 Z = true) : (Jvm.Cond.code ({ cls := "java/lang/Object", name := "<init>", desc := "()V" } : Jvm.MethodName) object_method_1_code (1 : Nat) (Option.none : Option Jvm.ClassFile.FieldType)).before a0 Z = true := hw _ (List.mem_of_getElem? (i := 13) rfl)
theorem wd14 {a0 : Array Value} {Z : State} (hw : ∀ d ∈ tables_1, d.before a0 Z = true) : (Jvm.Cond.fieldLink "com/example/libdeleg/libdeleg/cose/CborReader" (14 : Nat) "com/example/libdeleg/libdeleg/cose/CborReader" "data" "[B").before a0 Z = true := hw _ (List.mem_of_getElem? (i := 14) rfl)
theorem wd15 {a0 : Array Value} {Z : State} (hw : ∀ d ∈ tables_1, d.before a0 Z = true) : (Jvm.Cond.laysFinal "com/example/libdeleg/libdeleg/cose/CborReader" "com/example/libdeleg/libdeleg/cose/CborReader" "data" "[B").before a0 Z = true := hw _ (List.mem_of_getElem? (i := 15) rfl)
theorem wd16 {a0 : Array Value} {Z : State} (hw : ∀ d ∈ tables_1, d.before a0 Z = true) : (Jvm.Cond.methodLink "com/example/libdeleg/libdeleg/cose/CborReaderAtEndPinLaw" (24 : Nat) ({ cls := "com/example/libdeleg/libdeleg/cose/CborReader", name := "atEnd", desc := "()Z" } : Jvm.MethodName)).before a0 Z = true := hw _ (List.mem_of_getElem? (i := 16) rfl)
theorem wd17 {a0 : Array Value} {Z : State} (hw : ∀ d ∈ tables_1, d.before a0 Z = true) : (Jvm.Cond.declares ({ cls := "com/example/libdeleg/libdeleg/cose/CborReader", name := "atEnd", desc := "()Z" } : Jvm.MethodName)).before a0 Z = true := hw _ (List.mem_of_getElem? (i := 17) rfl)
theorem wd18 {a0 : Array Value} {Z : State} (hw : ∀ d ∈ tables_1, d.before a0 Z = true) : (Jvm.Cond.instanceMethod ({ cls := "com/example/libdeleg/libdeleg/cose/CborReader", name := "atEnd", desc := "()Z" } : Jvm.MethodName)).before a0 Z = true := hw _ (List.mem_of_getElem? (i := 18) rfl)
theorem wd19 {a0 : Array Value} {Z : State} (hw : ∀ d ∈ tables_1, d.before a0 Z = true) : (Jvm.Cond.selects "com/example/libdeleg/libdeleg/cose/CborReader" ({ cls := "com/example/libdeleg/libdeleg/cose/CborReader", name := "atEnd", desc := "()Z" } : Jvm.MethodName) ({ cls := "com/example/libdeleg/libdeleg/cose/CborReader", name := "atEnd", desc := "()Z" } : Jvm.MethodName)).before a0 Z = true := hw _ (List.mem_of_getElem? (i := 19) rfl)
theorem wd20 {a0 : Array Value} {Z : State} (hw : ∀ d ∈ tables_1, d.before a0 Z = true) : (Jvm.Cond.code ({ cls := "com/example/libdeleg/libdeleg/cose/CborReader", name := "atEnd", desc := "()Z" } : Jvm.MethodName) prog_12_method_2_code (1 : Nat) (Option.some Jvm.ClassFile.FieldType.boolean)).before a0 Z = true := hw _ (List.mem_of_getElem? (i := 20) rfl)
theorem wd21 {a0 : Array Value} {Z : State} (hw : ∀ d ∈ tables_1, d.before a0 Z = true) : (Jvm.Cond.fieldLink "com/example/libdeleg/libdeleg/cose/CborReader" (20 : Nat) "com/example/libdeleg/libdeleg/cose/CborReader" "position" "I").before a0 Z = true := hw _ (List.mem_of_getElem? (i := 21) rfl)
theorem wd22 {a0 : Array Value} {Z : State} (hw : ∀ d ∈ tables_1, d.before a0 Z = true) : (Jvm.Cond.lays "com/example/libdeleg/libdeleg/cose/CborReader" "com/example/libdeleg/libdeleg/cose/CborReader" "position" "I").before a0 Z = true := hw _ (List.mem_of_getElem? (i := 22) rfl)
theorem wd23 {a0 : Array Value} {Z : State} (hw : ∀ d ∈ tables_1, d.before a0 Z = true) : (Jvm.Cond.methodLink "com/example/libdeleg/libdeleg/cose/CborReaderAtEndPinLaw" (13 : Nat) ({ cls := "com/example/libdeleg/libdeleg/cose/CborReaderAtEndPinLaw", name := "bool", desc := "(II)B" } : Jvm.MethodName)).before a0 Z = true := hw _ (List.mem_of_getElem? (i := 23) rfl)
theorem wd24 {a0 : Array Value} {Z : State} (hw : ∀ d ∈ tables_1, d.before a0 Z = true) : (Jvm.Cond.static ({ cls := "com/example/libdeleg/libdeleg/cose/CborReaderAtEndPinLaw", name := "bool", desc := "(II)B" } : Jvm.MethodName)).before a0 Z = true := hw _ (List.mem_of_getElem? (i := 24) rfl)
theorem wd25 {a0 : Array Value} {Z : State} (hw : ∀ d ∈ tables_1, d.before a0 Z = true) : (Jvm.Cond.initialized "com/example/libdeleg/libdeleg/cose/CborReaderAtEndPinLaw").before a0 Z = true := hw _ (List.mem_of_getElem? (i := 25) rfl)
theorem wd26 {a0 : Array Value} {Z : State} (hw : ∀ d ∈ tables_1, d.before a0 Z = true) : (Jvm.Cond.code ({ cls := "com/example/libdeleg/libdeleg/cose/CborReaderAtEndPinLaw", name := "bool", desc := "(II)B" } : Jvm.MethodName) method_2_code (2 : Nat) (Option.some Jvm.ClassFile.FieldType.byte)).before a0 Z = true := hw _ (List.mem_of_getElem? (i := 26) rfl)
theorem wd27 {a0 : Array Value} {Z : State} (hw : ∀ d ∈ tables_1, d.before a0 Z = true) : (Jvm.Cond.methodLink "com/example/libdeleg/libdeleg/cose/CborReaderAtEndPinLaw" (28 : Nat) ({ cls := "com/example/libdeleg/libdeleg/cose/CborReader", name := "readBoolean", desc := "()Z" } : Jvm.MethodName)).before a0 Z = true := hw _ (List.mem_of_getElem? (i := 27) rfl)
theorem wd28 {a0 : Array Value} {Z : State} (hw : ∀ d ∈ tables_1, d.before a0 Z = true) : (Jvm.Cond.declares ({ cls := "com/example/libdeleg/libdeleg/cose/CborReader", name := "readBoolean", desc := "()Z" } : Jvm.MethodName)).before a0 Z = true := hw _ (List.mem_of_getElem? (i := 28) rfl)
theorem wd29 {a0 : Array Value} {Z : State} (hw : ∀ d ∈ tables_1, d.before a0 Z = true) : (Jvm.Cond.instanceMethod ({ cls := "com/example/libdeleg/libdeleg/cose/CborReader", name := "readBoolean", desc := "()Z" } : Jvm.MethodName)).before a0 Z = true := hw _ (List.mem_of_getElem? (i := 29) rfl)
theorem wd30 {a0 : Array Value} {Z : State} (hw : ∀ d ∈ tables_1, d.before a0 Z = true) : (Jvm.Cond.selects "com/example/libdeleg/libdeleg/cose/CborReader" ({ cls := "com/example/libdeleg/libdeleg/cose/CborReader", name := "readBoolean", desc := "()Z" } : Jvm.MethodName) ({ cls := "com/example/libdeleg/libdeleg/cose/CborReader", name := "readBoolean", desc := "()Z" } : Jvm.MethodName)).before a0 Z = true := hw _ (List.mem_of_getElem? (i := 30) rfl)
theorem wd31 {a0 : Array Value} {Z : State} (hw : ∀ d ∈ tables_1, d.before a0 Z = true) : (Jvm.Cond.code ({ cls := "com/example/libdeleg/libdeleg/cose/CborReader", name := "readBoolean", desc := "()Z" } : Jvm.MethodName) prog_12_method_8_code (2 : Nat) (Option.some Jvm.ClassFile.FieldType.boolean)).before a0 Z = true := hw _ (List.mem_of_getElem? (i := 31) rfl)
theorem wd32 {a0 : Array Value} {Z : State} (hw : ∀ d ∈ tables_1, d.before a0 Z = true) : (Jvm.Cond.methodLink "com/example/libdeleg/libdeleg/cose/CborReader" (33 : Nat) ({ cls := "com/example/libdeleg/libdeleg/cose/CborReader", name := "peek", desc := "()B" } : Jvm.MethodName)).before a0 Z = true := hw _ (List.mem_of_getElem? (i := 32) rfl)
theorem wd33 {a0 : Array Value} {Z : State} (hw : ∀ d ∈ tables_1, d.before a0 Z = true) : (Jvm.Cond.instanceMethod ({ cls := "com/example/libdeleg/libdeleg/cose/CborReader", name := "peek", desc := "()B" } : Jvm.MethodName)).before a0 Z = true := hw _ (List.mem_of_getElem? (i := 33) rfl)
theorem wd34 {a0 : Array Value} {Z : State} (hw : ∀ d ∈ tables_1, d.before a0 Z = true) : (Jvm.Cond.privateMethod ({ cls := "com/example/libdeleg/libdeleg/cose/CborReader", name := "peek", desc := "()B" } : Jvm.MethodName)).before a0 Z = true := hw _ (List.mem_of_getElem? (i := 34) rfl)
theorem wd35 {a0 : Array Value} {Z : State} (hw : ∀ d ∈ tables_1, d.before a0 Z = true) : (Jvm.Cond.code ({ cls := "com/example/libdeleg/libdeleg/cose/CborReader", name := "peek", desc := "()B" } : Jvm.MethodName) prog_12_method_23_code (1 : Nat) (Option.some Jvm.ClassFile.FieldType.byte)).before a0 Z = true := hw _ (List.mem_of_getElem? (i := 35) rfl)
theorem wd36 {a0 : Array Value} {Z : State} (hw : ∀ d ∈ tables_1, d.before a0 Z = true) : (Jvm.Cond.methodLink "com/example/libdeleg/libdeleg/cose/CborReader" (24 : Nat) ({ cls := "com/example/libdeleg/libdeleg/cose/CborReader", name := "atEnd", desc := "()Z" } : Jvm.MethodName)).before a0 Z = true := hw _ (List.mem_of_getElem? (i := 36) rfl)
theorem pd0 : parseMethodDescriptor "()Z" = some ⟨[], some .boolean⟩ := by decide +kernel
theorem pd1 : parseMethodDescriptor "()B" = some ⟨[], some .byte⟩ := by decide +kernel
theorem pd2 : parseMethodDescriptor "(II)I" = some ⟨[.int, .int], some .int⟩ := by decide +kernel
theorem pd3 : parseMethodDescriptor "([B)V" = some ⟨[(.array .byte)], none⟩ := by decide +kernel
theorem pd4 : parseMethodDescriptor "(II)B" = some ⟨[.int, .int], some .byte⟩ := by decide +kernel
def imin (x y : Int32) : Int32 := if y < x then y else x
def bl (b i : Int32) : Int32 := if (((b.toUInt32 >>> (i &&& 31).toUInt32).toInt32) &&& (1 : Int32)) = (0 : Int32) then (-12 : Int32) else (-11 : Int32)
theorem own_bl (b i : Int32) : bl b i = -12 ∨ bl b i = -11 := by unfold bl; split <;> simp
theorem own_bl8 (b i : Int32) : (bl b i).toInt8.toInt32 = bl b i := by rcases own_bl b i with h | h <;> rw [h] <;> decide
def ae (a b : Int32) : Int32 := if a = b then 1 else 0
def rb (w : Int32) : Int32 := if (w &&& (255 : Int32)) = (245 : Int32) then 1 else 0
theorem own_rb {w : Int32} (h : w = -12 ∨ w = -11) (h1 : ¬ (w &&& (255 : Int32)) = (244 : Int32)) : (w &&& (255 : Int32)) = (245 : Int32) := by
  rcases h with rfl | rfl
  · exact absurd (by decide) h1
  · decide

theorem own_k0 (x : Int32) : imin (x &&& (3 : Int32)) 0 = 0 := by rcases own_m3 (x := x) rfl with h | h | h | h <;> rw [h] <;> decide
theorem own_k1 (x : Int32) : imin (x &&& (3 : Int32)) 1 = 0 ∨ imin (x &&& (3 : Int32)) 1 = 1 := by rcases own_m3 (x := x) rfl with h | h | h | h <;> rw [h] <;> decide
theorem own_k2 (x : Int32) : imin (x &&& (3 : Int32)) 2 = 0 ∨ imin (x &&& (3 : Int32)) 2 = 1 ∨ imin (x &&& (3 : Int32)) 2 = 2 := by rcases own_m3 (x := x) rfl with h | h | h | h <;> rw [h] <;> decide
theorem own_k3 (x : Int32) : imin (x &&& (3 : Int32)) 3 = 0 ∨ imin (x &&& (3 : Int32)) 3 = 1 ∨ imin (x &&& (3 : Int32)) 3 = 2 ∨ imin (x &&& (3 : Int32)) 3 = 3 := by rcases own_m3 (x := x) rfl with h | h | h | h <;> rw [h] <;> decide
theorem d1_0 : decode jdk_29_method_69_code 0 = .ok (.iload_n 0, 1) := by decide +kernel
theorem d1_1 : decode jdk_29_method_69_code 1 = .ok (.iload_n 1, 1) := by decide +kernel
theorem d1_2 : decode jdk_29_method_69_code 2 = .ok (.if_icmp .gt 7, 3) := by decide +kernel
theorem d1_5 : decode jdk_29_method_69_code 5 = .ok (.iload_n 0, 1) := by decide +kernel
theorem d1_6 : decode jdk_29_method_69_code 6 = .ok (.goto 4, 3) := by decide +kernel
theorem d1_9 : decode jdk_29_method_69_code 9 = .ok (.iload_n 1, 1) := by decide +kernel
theorem d1_10 : decode jdk_29_method_69_code 10 = .ok (.ireturn, 1) := by decide +kernel
theorem ef_con_min (m : MethodId) (x0 : Int32) (x1 : Int32) : entryFrame m #[(.int x0), (.int x1)] 2 = mkF m 0 #[.val (.int x0), .val (.int x1)] [] := by first | (simp [entryFrame, mkF, argsToLocals, Value.category]; done) | rfl
set_option maxRecDepth 65536 in
set_option maxHeartbeats 40000000 in
theorem con_min (l : Launch) (Z : State) (a0 : Array Value) (hw : ∀ d ∈ tables_1, d.before a0 Z = true) (n0 : Nat) (h : Heap) (hn0 : n0 ≤ h.size) (u1 : Int32) (u2 : Int32) :
    Con l (⟨"java/lang/Math", "min", "(II)I"⟩ : MethodName) jdk_29_method_69_code 2 (some .int) ({ frames := 0, cells := 0, slots := 0, locals := 0 } : Room) 0 0 Z n0 #[(.int u1), (.int u2)] h (fun v h' => v = some (.int (imin u1 u2)) ∧ h = h') := by
  refine Con.body (own := "java/lang/Math") (nm := "min") rfl rfl (Jvm.Free.JP.mathPlain rfl (by decide +kernel)) hn0 ?_
  intro p e s m below meth c T0 X0
  rw [ef_con_min]
  refine F_iloadN X0 d1_0 rfl (pc' := 1) rfl ?_
  refine F_iloadN X0 d1_1 rfl (pc' := 2) rfl ?_
  refine F_icmp_gt X0 d1_2 (by decide) (pt := 9) (by decide) (pc' := 5) rfl (fun hc2_1 => ?_) (fun hc2_1 => ?_)
  · refine F_iloadN X0 d1_9 rfl (pc' := 10) rfl ?_
    refine F_ireturn X0 d1_10 rfl (by decide) (by decide) ?_
    exact ⟨by simp [imin, *], rfl⟩
  · refine F_iloadN X0 d1_5 rfl (pc' := 6) rfl ?_
    refine F_goto X0 d1_6 (by decide) (pc' := 10) (by decide) ?_
    refine F_ireturn X0 d1_10 rfl (by decide) (by decide) ?_
    exact ⟨by simp [imin, *], rfl⟩
theorem d5_0 : decode method_2_code 0 = .ok (.iload_n 0, 1) := by decide +kernel
theorem d5_1 : decode method_2_code 1 = .ok (.iload_n 1, 1) := by decide +kernel
theorem d5_2 : decode method_2_code 2 = .ok (.iushr, 1) := by decide +kernel
theorem d5_3 : decode method_2_code 3 = .ok (.iconst 1, 1) := by decide +kernel
theorem d5_4 : decode method_2_code 4 = .ok (.iand, 1) := by decide +kernel
theorem d5_5 : decode method_2_code 5 = .ok (.ifCond .ne 8, 3) := by decide +kernel
theorem d5_8 : decode method_2_code 8 = .ok (.bipush (-12), 2) := by decide +kernel
theorem d5_10 : decode method_2_code 10 = .ok (.goto 5, 3) := by decide +kernel
theorem d5_13 : decode method_2_code 13 = .ok (.bipush (-11), 2) := by decide +kernel
theorem d5_15 : decode method_2_code 15 = .ok (.ireturn, 1) := by decide +kernel
theorem pn5 : plainName "com/example/libdeleg/libdeleg/cose/CborReaderAtEndPinLaw" = true := by first | (simp [plainName, overriddenIn]; done) | decide +kernel
theorem ef_con_bool (m : MethodId) (x0 : Int32) (x1 : Int32) : entryFrame m #[(.int x0), (.int x1)] 2 = mkF m 0 #[.val (.int x0), .val (.int x1)] [] := by first | (simp [entryFrame, mkF, argsToLocals, Value.category]; done) | rfl
set_option maxRecDepth 65536 in
set_option maxHeartbeats 40000000 in
theorem con_bool (l : Launch) (Z : State) (a0 : Array Value) (hw : ∀ d ∈ tables_1, d.before a0 Z = true) (n0 : Nat) (h : Heap) (hn0 : n0 ≤ h.size) (u1 : Int32) (u2 : Int32) :
    Con l (⟨"com/example/libdeleg/libdeleg/cose/CborReaderAtEndPinLaw", "bool", "(II)B"⟩ : MethodName) method_2_code 2 (some .byte) ({ frames := 0, cells := 0, slots := 0, locals := 0 } : Room) 0 0 Z n0 #[(.int u1), (.int u2)] h (fun v h' => v = some (.int (bl u1 u2)) ∧ h = h') := by
  refine Con.body (own := "com/example/libdeleg/libdeleg/cose/CborReaderAtEndPinLaw") (nm := "bool") rfl rfl (plainFor_of_name pn5) hn0 ?_
  intro p e s m below meth c T0 X0
  rw [ef_con_bool]
  refine F_iloadN X0 d5_0 rfl (pc' := 1) rfl ?_
  refine F_iloadN X0 d5_1 rfl (pc' := 2) rfl ?_
  refine F_iushr X0 d5_2 rfl (pc' := 3) rfl ?_
  refine F_iconst X0 d5_3 (z := (1 : Int32)) (by decide) (pc' := 4) rfl ?_
  refine F_iand X0 d5_4 rfl (pc' := 5) rfl ?_
  refine F_if_ne X0 d5_5 (by decide) (pt := 13) (by decide) (pc' := 8) rfl (fun hc5_1 => ?_) (fun hc5_1 => ?_)
  · refine F_bipush X0 d5_13 (z := (-11 : Int32)) (by decide) (pc' := 15) rfl ?_
    refine F_ireturn_byte (z' := (-11 : Int32)) X0 (by decide) d5_15 rfl (by decide) (by decide) ?_
    exact ⟨by simp only [bl, eq_false hc5_1, true_or, or_true, false_or, or_false, or_self, if_true, if_false, not_true_eq_false, not_false_eq_true], rfl⟩
  · refine F_bipush X0 d5_8 (z := (-12 : Int32)) (by decide) (pc' := 10) rfl ?_
    refine F_goto X0 d5_10 (by decide) (pc' := 15) (by decide) ?_
    refine F_ireturn_byte (z' := (-12 : Int32)) X0 (by decide) d5_15 rfl (by decide) (by decide) ?_
    exact ⟨by simp only [bl, eq_true hc5_1, true_or, or_true, false_or, or_false, or_self, if_true, if_false, not_true_eq_false, not_false_eq_true], rfl⟩
theorem d2_0 : decode prog_12_method_1_code 0 = .ok (.aload_n 0, 1) := by decide +kernel
theorem d2_1 : decode prog_12_method_1_code 1 = .ok (.invokespecial 1, 3) := by decide +kernel
theorem d2_4 : decode prog_12_method_1_code 4 = .ok (.aload_n 1, 1) := by decide +kernel
theorem d2_5 : decode prog_12_method_1_code 5 = .ok (.ifnonnull 13, 3) := by decide +kernel
theorem d2_18 : decode prog_12_method_1_code 18 = .ok (.aload_n 0, 1) := by decide +kernel
theorem d2_19 : decode prog_12_method_1_code 19 = .ok (.aload_n 1, 1) := by decide +kernel
theorem d2_20 : decode prog_12_method_1_code 20 = .ok (.putfield 14, 3) := by decide +kernel
theorem d2_23 : decode prog_12_method_1_code 23 = .ok (.return_, 1) := by decide +kernel
theorem pn2 : plainName "com/example/libdeleg/libdeleg/cose/CborReader" = true := by first | (simp [plainName, overriddenIn]; done) | decide +kernel
theorem ef_conI (m : MethodId) (x0 : Addr) (x1 : Addr) : entryFrame m #[(.ref x0), (.ref x1)] 2 = mkF m 0 #[.val (.ref x0), .val (.ref x1)] [] := by first | (simp [entryFrame, mkF, argsToLocals, Value.category]; done) | rfl
set_option maxRecDepth 65536 in
set_option maxHeartbeats 40000000 in
theorem conI (l : Launch) (Z : State) (a0 : Array Value) (hw : ∀ d ∈ tables_1, d.before a0 Z = true) (n0 : Nat) (h : Heap) (hn0 : n0 ≤ h.size) (o1 : Addr) (o2 : Addr) (E_o1 : Exa Z h o1 "com/example/libdeleg/libdeleg/cose/CborReader") (F_data_o1 : Fld Z h o1 "com/example/libdeleg/libdeleg/cose/CborReader" "data" "[B" .null) (F_position_o1 : Fld Z h o1 "com/example/libdeleg/libdeleg/cose/CborReader" "position" "I" (.int (0 : Int32))) (ge_o1 : n0 ≤ o1) :
    Con l (⟨"com/example/libdeleg/libdeleg/cose/CborReader", "<init>", "([B)V"⟩ : MethodName) prog_12_method_1_code 2 none ({ frames := 1, cells := 0, slots := 0, locals := 12 } : Room) 0 0 Z n0 #[(.ref o1), (.ref o2)] h (fun v h' => v = none ∧ Keep h h' [o1] ∧ Exa Z h' o1 "com/example/libdeleg/libdeleg/cose/CborReader" ∧ Fld Z h' o1 "com/example/libdeleg/libdeleg/cose/CborReader" "data" "[B" (.ref o2) ∧ Fld Z h' o1 "com/example/libdeleg/libdeleg/cose/CborReader" "position" "I" (.int (0 : Int32))) := by
  refine Con.body (own := "com/example/libdeleg/libdeleg/cose/CborReader") (nm := "<init>") rfl rfl (plainFor_of_name pn2) hn0 ?_
  intro p e s m below meth c T0 X0
  rw [ef_conI]
  refine F_aloadN X0 d2_0 rfl rfl (pc' := 1) rfl ?_
  refine F_objInit X0 (wd11 hw) (wd12 hw) (wd13 hw) (by decide) (W := 0) (Nat.le_of_ble_eq_true rfl) (by decide) rfl d2_1 (pc' := 4) rfl fun T1 X1 => ?_
  refine F_aloadN X1 d2_4 rfl rfl (pc' := 5) rfl ?_
  refine F_ifnonnull_ref X1 d2_5 (by decide) (pt := 18) (by decide) ?_
  refine F_aloadN X1 d2_18 rfl rfl (pc' := 19) rfl ?_
  refine F_aloadN X1 d2_19 rfl rfl (pc' := 20) rfl ?_
  refine F_putfield X1 (wd14 hw) F_data_o1 E_o1 (Or.inr ⟨(wd15 hw), rfl, rfl⟩) (wd6 hw) (ty := (.array .byte)) (by decide) rfl rfl ge_o1 d2_20 (pc' := 23) rfl fun T2 h2 X2 W2 => ?_
  have F2_data_o1 := F_data_o1.same W2
  have E2_o1 := E_o1.wr W2
  have F2_position_o1 := F_position_o1.other W2 (Or.inr (slot_ne (Or.inl (wd22 hw)) (Or.inr (wd15 hw)) (by decide) (t := .int) (t' := (.array .byte)) (by decide) (by decide)))
  have K3 := (Keep.refl h [o1]).wr W2 (Or.inl (List.mem_of_getElem? (i := 0) rfl))
  refine F_return X2 d2_23 rfl (by decide) (by decide) ?_
  exact ⟨rfl, K3, E2_o1, F2_data_o1, F2_position_o1⟩
theorem d4_0 : decode prog_12_method_2_code 0 = .ok (.aload_n 0, 1) := by decide +kernel
theorem d4_1 : decode prog_12_method_2_code 1 = .ok (.getfield 20, 3) := by decide +kernel
theorem d4_4 : decode prog_12_method_2_code 4 = .ok (.aload_n 0, 1) := by decide +kernel
theorem d4_5 : decode prog_12_method_2_code 5 = .ok (.getfield 14, 3) := by decide +kernel
theorem d4_8 : decode prog_12_method_2_code 8 = .ok (.arraylength, 1) := by decide +kernel
theorem d4_9 : decode prog_12_method_2_code 9 = .ok (.if_icmp .ne 7, 3) := by decide +kernel
theorem d4_12 : decode prog_12_method_2_code 12 = .ok (.iconst 1, 1) := by decide +kernel
theorem d4_13 : decode prog_12_method_2_code 13 = .ok (.goto 4, 3) := by decide +kernel
theorem d4_16 : decode prog_12_method_2_code 16 = .ok (.iconst 0, 1) := by decide +kernel
theorem d4_17 : decode prog_12_method_2_code 17 = .ok (.ireturn, 1) := by decide +kernel
theorem pn4 : plainName "com/example/libdeleg/libdeleg/cose/CborReader" = true := by first | (simp [plainName, overriddenIn]; done) | decide +kernel
theorem ef_conE (m : MethodId) (x0 : Addr) : entryFrame m #[(.ref x0)] 1 = mkF m 0 #[.val (.ref x0)] [] := by first | (simp [entryFrame, mkF, argsToLocals, Value.category]; done) | rfl
set_option maxRecDepth 65536 in
set_option maxHeartbeats 40000000 in
theorem conE (l : Launch) (Z : State) (a0 : Array Value) (hw : ∀ d ∈ tables_1, d.before a0 Z = true) (n0 : Nat) (h : Heap) (hn0 : n0 ≤ h.size) (o1 : Addr) (o2 : Addr) (vs : List Value) (w1 : Int32) (w2 : Int32) (F_data_o1 : Fld Z h o1 "com/example/libdeleg/libdeleg/cose/CborReader" "data" "[B" (.ref o2)) (F_position_o1 : Fld Z h o1 "com/example/libdeleg/libdeleg/cose/CborReader" "position" "I" (.int w1)) (A_o2 : AV Z h o2 .byte vs) (hlen : vs.length.toInt32 = w2) :
    Con l (⟨"com/example/libdeleg/libdeleg/cose/CborReader", "atEnd", "()Z"⟩ : MethodName) prog_12_method_2_code 1 (some .boolean) ({ frames := 0, cells := 0, slots := 0, locals := 0 } : Room) 0 0 Z n0 #[(.ref o1)] h (fun v h' => v = some (.int (ae w1 w2)) ∧ h = h') := by
  refine Con.body (own := "com/example/libdeleg/libdeleg/cose/CborReader") (nm := "atEnd") rfl rfl (plainFor_of_name pn4) hn0 ?_
  intro p e s m below meth c T0 X0
  rw [ef_conE]
  refine F_aloadN X0 d4_0 rfl rfl (pc' := 1) rfl ?_
  refine F_getfield X0 (wd21 hw) F_position_o1 d4_1 (pc' := 4) rfl fun T1 X1 => ?_
  refine F_aloadN X1 d4_4 rfl rfl (pc' := 5) rfl ?_
  refine F_getfield X1 (wd14 hw) F_data_o1 d4_5 (pc' := 8) rfl fun T2 X2 => ?_
  refine F_arraylength X2 A_o2 (z := w2) hlen d4_8 (pc' := 9) rfl ?_
  refine F_icmp_ne X2 d4_9 (by decide) (pt := 16) (by decide) (pc' := 12) rfl (fun hc9_3 => ?_) (fun hc9_3 => ?_)
  · refine F_iconst X2 d4_16 (z := (0 : Int32)) (by decide) (pc' := 17) rfl ?_
    refine F_ireturn_boolean (z' := (0 : Int32)) X2 (by decide) d4_17 rfl (by decide) (by decide) ?_
    exact ⟨by simp [ae, *], rfl⟩
  · refine F_iconst X2 d4_12 (z := (1 : Int32)) (by decide) (pc' := 13) rfl ?_
    refine F_goto X2 d4_13 (by decide) (pc' := 17) (by decide) ?_
    refine F_ireturn_boolean (z' := (1 : Int32)) X2 (by decide) d4_17 rfl (by decide) (by decide) ?_
    exact ⟨by simp [ae, *], rfl⟩
theorem d7_0 : decode prog_12_method_23_code 0 = .ok (.aload_n 0, 1) := by decide +kernel
theorem d7_1 : decode prog_12_method_23_code 1 = .ok (.invokevirtual 24, 3) := by decide +kernel
theorem d7_4 : decode prog_12_method_23_code 4 = .ok (.ifCond .eq 13, 3) := by decide +kernel
theorem d7_17 : decode prog_12_method_23_code 17 = .ok (.aload_n 0, 1) := by decide +kernel
theorem d7_18 : decode prog_12_method_23_code 18 = .ok (.getfield 14, 3) := by decide +kernel
theorem d7_21 : decode prog_12_method_23_code 21 = .ok (.aload_n 0, 1) := by decide +kernel
theorem d7_22 : decode prog_12_method_23_code 22 = .ok (.getfield 20, 3) := by decide +kernel
theorem d7_25 : decode prog_12_method_23_code 25 = .ok (.baload, 1) := by decide +kernel
theorem d7_26 : decode prog_12_method_23_code 26 = .ok (.ireturn, 1) := by decide +kernel
theorem pn7 : plainName "com/example/libdeleg/libdeleg/cose/CborReader" = true := by first | (simp [plainName, overriddenIn]; done) | decide +kernel
theorem ef_conP (m : MethodId) (x0 : Addr) : entryFrame m #[(.ref x0)] 1 = mkF m 0 #[.val (.ref x0)] [] := by first | (simp [entryFrame, mkF, argsToLocals, Value.category]; done) | rfl
set_option maxRecDepth 65536 in
set_option maxHeartbeats 40000000 in
theorem conP (l : Launch) (Z : State) (a0 : Array Value) (hw : ∀ d ∈ tables_1, d.before a0 Z = true) (n0 : Nat) (h : Heap) (hn0 : n0 ≤ h.size) (o1 : Addr) (o2 : Addr) (vs : List Value) (w1 : Int32) (w2 : Int32) (w3 : Int32) (E_o1 : Exa Z h o1 "com/example/libdeleg/libdeleg/cose/CborReader") (F_data_o1 : Fld Z h o1 "com/example/libdeleg/libdeleg/cose/CborReader" "data" "[B" (.ref o2)) (F_position_o1 : Fld Z h o1 "com/example/libdeleg/libdeleg/cose/CborReader" "position" "I" (.int w1)) (A_o2 : AV Z h o2 .byte vs) (hlen : vs.length.toInt32 = w2) (hne : ¬ w1 = w2) (hge : ¬ w1 < 0) (hat : vs[w1.toNatClampNeg]? = some (.int w3)) (hb : w3 = -12 ∨ w3 = -11) :
    Con l (⟨"com/example/libdeleg/libdeleg/cose/CborReader", "peek", "()B"⟩ : MethodName) prog_12_method_23_code 1 (some .byte) ({ frames := 1, cells := 0, slots := 0, locals := 12 } : Room) 0 0 Z n0 #[(.ref o1)] h (fun v h' => v = some (.int w3) ∧ h = h') := by
  refine Con.body (own := "com/example/libdeleg/libdeleg/cose/CborReader") (nm := "peek") rfl rfl (plainFor_of_name pn7) hn0 ?_
  intro p e s m below meth c T0 X0
  rw [ef_conP]
  refine F_aloadN X0 d7_0 rfl rfl (pc' := 1) rfl ?_
  refine F_callV X0 (y := (⟨"com/example/libdeleg/libdeleg/cose/CborReader", "atEnd", "()Z"⟩ : MethodName)) (stk := []) (wd36 hw) (wd17 hw) (wd19 hw) (wd18 hw) (wd7 hw) (wd20 hw) (by decide) (a := o1) E_o1 (argsL := []) (conE l Z a0 hw n0 h X0.size o1 o2 vs w1 w2 F_data_o1 F_position_o1 A_o2 (by assumption)) (by decide) (W := 0) (Nat.le_of_ble_eq_true rfl) (by decide) (by decide) (by decide) rfl (lenOf pd0 rfl) rfl d7_1 (pc' := 4) rfl fun T1 v1 h1 X1 q1 => ?_
  obtain ⟨rfl, rfl⟩ := q1
  replace X1 := X1.more (cells' := 0) (slots' := 0) (by decide) (by decide)
  show Jvm.OwnKit.Ends p e below s n0 0 0 _ T1 (mkF m 4 #[.val (.ref o1)] [(.int (ae w1 w2))])
  refine F_if_eq X1 d7_4 (by decide) (pt := 17) (by decide) (pc' := 7) rfl (fun hc4_2 => ?_) (fun hc4_2 => by exfalso; exact hc4_2 (by simp [ae, hne]))
  refine F_aloadN X1 d7_17 rfl rfl (pc' := 18) rfl ?_
  refine F_getfield X1 (wd14 hw) F_data_o1 d7_18 (pc' := 21) rfl fun T3 X3 => ?_
  refine F_aloadN X3 d7_21 rfl rfl (pc' := 22) rfl ?_
  refine F_getfield X3 (wd21 hw) F_position_o1 d7_22 (pc' := 25) rfl fun T4 X4 => ?_
  refine F_baload X4 A_o2 hge hat d7_25 (pc' := 26) rfl ?_
  refine F_ireturn_byte (z' := w3) X4 (by rcases hb with rfl | rfl <;> decide) d7_26 rfl (by decide) (by decide) ?_
  exact ⟨rfl, rfl⟩
theorem d6_0 : decode prog_12_method_8_code 0 = .ok (.aload_n 0, 1) := by decide +kernel
theorem d6_1 : decode prog_12_method_8_code 1 = .ok (.invokevirtual 33, 3) := by decide +kernel
theorem d6_4 : decode prog_12_method_8_code 4 = .ok (.istore_n 1, 1) := by decide +kernel
theorem d6_5 : decode prog_12_method_8_code 5 = .ok (.iload_n 1, 1) := by decide +kernel
theorem d6_6 : decode prog_12_method_8_code 6 = .ok (.sipush 255, 3) := by decide +kernel
theorem d6_9 : decode prog_12_method_8_code 9 = .ok (.iand, 1) := by decide +kernel
theorem d6_10 : decode prog_12_method_8_code 10 = .ok (.sipush 244, 3) := by decide +kernel
theorem d6_13 : decode prog_12_method_8_code 13 = .ok (.if_icmp .eq 24, 3) := by decide +kernel
theorem d6_16 : decode prog_12_method_8_code 16 = .ok (.iload_n 1, 1) := by decide +kernel
theorem d6_17 : decode prog_12_method_8_code 17 = .ok (.sipush 255, 3) := by decide +kernel
theorem d6_20 : decode prog_12_method_8_code 20 = .ok (.iand, 1) := by decide +kernel
theorem d6_21 : decode prog_12_method_8_code 21 = .ok (.sipush 245, 3) := by decide +kernel
theorem d6_24 : decode prog_12_method_8_code 24 = .ok (.if_icmp .eq 13, 3) := by decide +kernel
theorem d6_37 : decode prog_12_method_8_code 37 = .ok (.aload_n 0, 1) := by decide +kernel
theorem d6_38 : decode prog_12_method_8_code 38 = .ok (.dup, 1) := by decide +kernel
theorem d6_39 : decode prog_12_method_8_code 39 = .ok (.getfield 20, 3) := by decide +kernel
theorem d6_42 : decode prog_12_method_8_code 42 = .ok (.iconst 1, 1) := by decide +kernel
theorem d6_43 : decode prog_12_method_8_code 43 = .ok (.iadd, 1) := by decide +kernel
theorem d6_44 : decode prog_12_method_8_code 44 = .ok (.putfield 20, 3) := by decide +kernel
theorem d6_47 : decode prog_12_method_8_code 47 = .ok (.iload_n 1, 1) := by decide +kernel
theorem d6_48 : decode prog_12_method_8_code 48 = .ok (.sipush 255, 3) := by decide +kernel
theorem d6_51 : decode prog_12_method_8_code 51 = .ok (.iand, 1) := by decide +kernel
theorem d6_52 : decode prog_12_method_8_code 52 = .ok (.sipush 245, 3) := by decide +kernel
theorem d6_55 : decode prog_12_method_8_code 55 = .ok (.if_icmp .ne 7, 3) := by decide +kernel
theorem d6_58 : decode prog_12_method_8_code 58 = .ok (.iconst 1, 1) := by decide +kernel
theorem d6_59 : decode prog_12_method_8_code 59 = .ok (.goto 4, 3) := by decide +kernel
theorem d6_62 : decode prog_12_method_8_code 62 = .ok (.iconst 0, 1) := by decide +kernel
theorem d6_63 : decode prog_12_method_8_code 63 = .ok (.ireturn, 1) := by decide +kernel
theorem pn6 : plainName "com/example/libdeleg/libdeleg/cose/CborReader" = true := by first | (simp [plainName, overriddenIn]; done) | decide +kernel
theorem ef_conB (m : MethodId) (x0 : Addr) : entryFrame m #[(.ref x0)] 2 = mkF m 0 #[.val (.ref x0), .unset] [] := by first | (simp [entryFrame, mkF, argsToLocals, Value.category]; done) | rfl
set_option maxRecDepth 65536 in
set_option maxHeartbeats 40000000 in
theorem conB (l : Launch) (Z : State) (a0 : Array Value) (hw : ∀ d ∈ tables_1, d.before a0 Z = true) (n0 : Nat) (h : Heap) (hn0 : n0 ≤ h.size) (o1 : Addr) (o2 : Addr) (vs : List Value) (w1 : Int32) (w2 : Int32) (w3 : Int32) (w4 : Int32) (E_o1 : Exa Z h o1 "com/example/libdeleg/libdeleg/cose/CborReader") (F_data_o1 : Fld Z h o1 "com/example/libdeleg/libdeleg/cose/CborReader" "data" "[B" (.ref o2)) (F_position_o1 : Fld Z h o1 "com/example/libdeleg/libdeleg/cose/CborReader" "position" "I" (.int w1)) (A_o2 : AV Z h o2 .byte vs) (ge_o1 : n0 ≤ o1) (ne_o2_o1 : o2 ≠ o1) (hlen : vs.length.toInt32 = w2) (hne : ¬ w1 = w2) (hge : ¬ w1 < 0) (hat : vs[w1.toNatClampNeg]? = some (.int w3)) (hb : w3 = -12 ∨ w3 = -11) (hw4 : w1 + 1 = w4) :
    Con l (⟨"com/example/libdeleg/libdeleg/cose/CborReader", "readBoolean", "()Z"⟩ : MethodName) prog_12_method_8_code 2 (some .boolean) ({ frames := 2, cells := 0, slots := 0, locals := 25 } : Room) 0 0 Z n0 #[(.ref o1)] h (fun v h' => v = some (.int (rb w3)) ∧ Keep h h' [o1] ∧ Exa Z h' o1 "com/example/libdeleg/libdeleg/cose/CborReader" ∧ Fld Z h' o1 "com/example/libdeleg/libdeleg/cose/CborReader" "data" "[B" (.ref o2) ∧ Fld Z h' o1 "com/example/libdeleg/libdeleg/cose/CborReader" "position" "I" (.int w4)) := by
  refine Con.body (own := "com/example/libdeleg/libdeleg/cose/CborReader") (nm := "readBoolean") rfl rfl (plainFor_of_name pn6) hn0 ?_
  intro p e s m below meth c T0 X0
  rw [ef_conB]
  refine F_aloadN X0 d6_0 rfl rfl (pc' := 1) rfl ?_
  refine F_callP X0 (y := (⟨"com/example/libdeleg/libdeleg/cose/CborReader", "peek", "()B"⟩ : MethodName)) (stk := []) (wd32 hw) (wd34 hw) (wd6 hw) (wd33 hw) (wd7 hw) (wd35 hw) (by decide) (a := o1) E_o1 (argsL := []) (conP l Z a0 hw n0 h X0.size o1 o2 vs w1 w2 w3 E_o1 F_data_o1 F_position_o1 A_o2 (by assumption) (by assumption) (by assumption) (by assumption) (by assumption)) (by decide) (W := 0) (Nat.le_of_ble_eq_true rfl) (by decide) (by decide) (by decide) rfl (lenOf pd1 rfl) rfl d6_1 (pc' := 4) rfl fun T1 v1 h1 X1 q1 => ?_
  obtain ⟨rfl, rfl⟩ := q1
  replace X1 := X1.more (cells' := 0) (slots' := 0) (by decide) (by decide)
  show Jvm.OwnKit.Ends p e below s n0 0 0 _ T1 (mkF m 4 #[.val (.ref o1), .unset] [(.int w3)])
  refine F_istoreN X1 d6_4 (Ls' := #[.val (.ref o1), .val (.int w3)]) rfl (pc' := 5) rfl ?_
  refine F_iloadN X1 d6_5 rfl (pc' := 6) rfl ?_
  refine F_sipush X1 d6_6 (z := (255 : Int32)) (by decide) (pc' := 9) rfl ?_
  refine F_iand X1 d6_9 rfl (pc' := 10) rfl ?_
  refine F_sipush X1 d6_10 (z := (244 : Int32)) (by decide) (pc' := 13) rfl ?_
  refine F_icmp_eq X1 d6_13 (by decide) (pt := 37) (by decide) (pc' := 16) rfl (fun hc13_2 => ?_) (fun hc13_2 => ?_)
  · refine F_aloadN X1 d6_37 rfl rfl (pc' := 38) rfl ?_
    refine F_dup X1 d6_38 rfl (pc' := 39) rfl ?_
    refine F_getfield X1 (wd21 hw) F_position_o1 d6_39 (pc' := 42) rfl fun T3 X3 => ?_
    refine F_iconst X3 d6_42 (z := (1 : Int32)) (by decide) (pc' := 43) rfl ?_
    refine F_iadd X3 d6_43 rfl (pc' := 44) rfl ?_
    refine F_putfield X3 (wd21 hw) F_position_o1 E_o1 (Or.inl (wd22 hw)) (wd6 hw) (ty := .int) (by decide) rfl rfl ge_o1 d6_44 (pc' := 47) rfl fun T4 h4 X4 W4 => ?_
    have F4_position_o1 := F_position_o1.same W4
    have E4_o1 := E_o1.wr W4
    have F4_data_o1 := F_data_o1.other W4 (Or.inr (slot_ne (Or.inr (wd15 hw)) (Or.inl (wd22 hw)) (by decide) (t := (.array .byte)) (t' := .int) (by decide) (by decide)))
    have A4_o2 := A_o2.other W4 ne_o2_o1
    have K5 := (Keep.refl h [o1]).wr W4 (Or.inl (List.mem_of_getElem? (i := 0) rfl))
    refine F_iloadN X4 d6_47 rfl (pc' := 48) rfl ?_
    refine F_sipush X4 d6_48 (z := (255 : Int32)) (by decide) (pc' := 51) rfl ?_
    refine F_iand X4 d6_51 rfl (pc' := 52) rfl ?_
    refine F_sipush X4 d6_52 (z := (245 : Int32)) (by decide) (pc' := 55) rfl ?_
    refine F_icmp_ne X4 d6_55 (by decide) (pt := 62) (by decide) (pc' := 58) rfl (fun hc55_6 => ?_) (fun hc55_6 => ?_)
    · refine F_iconst X4 d6_62 (z := (0 : Int32)) (by decide) (pc' := 63) rfl ?_
      refine F_ireturn_boolean (z' := (0 : Int32)) X4 (by decide) d6_63 rfl (by decide) (by decide) ?_
      exact ⟨by simp only [rb, eq_false hc55_6, if_true, if_false], K5, E4_o1, F4_data_o1, hw4 ▸ F4_position_o1⟩
    · refine F_iconst X4 d6_58 (z := (1 : Int32)) (by decide) (pc' := 59) rfl ?_
      refine F_goto X4 d6_59 (by decide) (pc' := 63) (by decide) ?_
      refine F_ireturn_boolean (z' := (1 : Int32)) X4 (by decide) d6_63 rfl (by decide) (by decide) ?_
      exact ⟨by simp only [rb, eq_true hc55_6, if_true, if_false], K5, E4_o1, F4_data_o1, hw4 ▸ F4_position_o1⟩
  · refine F_iloadN X1 d6_16 rfl (pc' := 17) rfl ?_
    refine F_sipush X1 d6_17 (z := (255 : Int32)) (by decide) (pc' := 20) rfl ?_
    refine F_iand X1 d6_20 rfl (pc' := 21) rfl ?_
    refine F_sipush X1 d6_21 (z := (245 : Int32)) (by decide) (pc' := 24) rfl ?_
    refine F_icmp_eq X1 d6_24 (by decide) (pt := 37) (by decide) (pc' := 27) rfl (fun hc24_7 => ?_) (fun hc24_7 => by exfalso; exact hc24_7 (own_rb hb hc13_2))
    refine F_aloadN X1 d6_37 rfl rfl (pc' := 38) rfl ?_
    refine F_dup X1 d6_38 rfl (pc' := 39) rfl ?_
    refine F_getfield X1 (wd21 hw) F_position_o1 d6_39 (pc' := 42) rfl fun T8 X8 => ?_
    refine F_iconst X8 d6_42 (z := (1 : Int32)) (by decide) (pc' := 43) rfl ?_
    refine F_iadd X8 d6_43 rfl (pc' := 44) rfl ?_
    refine F_putfield X8 (wd21 hw) F_position_o1 E_o1 (Or.inl (wd22 hw)) (wd6 hw) (ty := .int) (by decide) rfl rfl ge_o1 d6_44 (pc' := 47) rfl fun T9 h9 X9 W9 => ?_
    have F9_position_o1 := F_position_o1.same W9
    have E9_o1 := E_o1.wr W9
    have F9_data_o1 := F_data_o1.other W9 (Or.inr (slot_ne (Or.inr (wd15 hw)) (Or.inl (wd22 hw)) (by decide) (t := (.array .byte)) (t' := .int) (by decide) (by decide)))
    have A9_o2 := A_o2.other W9 ne_o2_o1
    have K10 := (Keep.refl h [o1]).wr W9 (Or.inl (List.mem_of_getElem? (i := 0) rfl))
    refine F_iloadN X9 d6_47 rfl (pc' := 48) rfl ?_
    refine F_sipush X9 d6_48 (z := (255 : Int32)) (by decide) (pc' := 51) rfl ?_
    refine F_iand X9 d6_51 rfl (pc' := 52) rfl ?_
    refine F_sipush X9 d6_52 (z := (245 : Int32)) (by decide) (pc' := 55) rfl ?_
    refine F_icmp_ne X9 d6_55 (by decide) (pt := 62) (by decide) (pc' := 58) rfl (fun hc55_11 => ?_) (fun hc55_11 => ?_)
    · refine F_iconst X9 d6_62 (z := (0 : Int32)) (by decide) (pc' := 63) rfl ?_
      refine F_ireturn_boolean (z' := (0 : Int32)) X9 (by decide) d6_63 rfl (by decide) (by decide) ?_
      exact ⟨by simp only [rb, eq_false hc55_11, if_true, if_false], K10, E9_o1, F9_data_o1, hw4 ▸ F9_position_o1⟩
    · refine F_iconst X9 d6_58 (z := (1 : Int32)) (by decide) (pc' := 59) rfl ?_
      refine F_goto X9 d6_59 (by decide) (pc' := 63) (by decide) ?_
      refine F_ireturn_boolean (z' := (1 : Int32)) X9 (by decide) d6_63 rfl (by decide) (by decide) ?_
      exact ⟨by simp only [rb, eq_true hc55_11, if_true, if_false], K10, E9_o1, F9_data_o1, hw4 ▸ F9_position_o1⟩
theorem pn0 : plainName "com/example/libdeleg/libdeleg/cose/CborReaderAtEndPinLaw" = true := by first | (simp [plainName, overriddenIn]; done) | decide +kernel
theorem ef_con0 (m : MethodId) (x0 : Int32) (x1 : Int32) (x2 : Int32) : entryFrame m #[(.int x0), (.int x1), (.int x2)] maxLocals = mkF m 0 #[.val (.int x0), .val (.int x1), .val (.int x2), .unset, .unset, .unset, .unset, .unset] [] := by first | (simp [entryFrame, mkF, argsToLocals, Value.category, maxLocals]; done) | rfl
set_option maxRecDepth 65536 in
set_option maxHeartbeats 40000000 in
theorem con0 (l : Launch) (Z : State) (a0 : Array Value) (hw : ∀ d ∈ tables_1, d.before a0 Z = true) (n0 : Nat) (h : Heap) (hn0 : n0 ≤ h.size) (u1 : Int32) (u2 : Int32) (u3 : Int32) :
    Con l x code maxLocals ret room_1 16 128 Z n0 #[(.int u1), (.int u2), (.int u3)] h (fun v h' => v = some (.int (1 : Int32))) := by
  refine Con.body (own := "com/example/libdeleg/libdeleg/cose/CborReaderAtEndPinLaw") (nm := "law") rfl rfl (plainFor_of_name pn0) hn0 ?_
  intro p e s m below meth c T0 X0
  rw [ef_con0]
  refine F_iloadN X0 at_0 rfl (pc' := 1) rfl ?_
  refine F_iconst X0 at_1 (z := (3 : Int32)) (by decide) (pc' := 2) rfl ?_
  obtain ⟨nn, hnn⟩ : ∃ z : Int32, u1 &&& (3 : Int32) = z := ⟨_, rfl⟩
  refine F_iand X0 at_2 (z := nn) hnn (pc' := 3) rfl ?_
  refine F_istoreN X0 at_3 (Ls' := #[.val (.int u1), .val (.int u2), .val (.int u3), .val (.int nn), .unset, .unset, .unset, .unset]) rfl (pc' := 4) rfl ?_
  rcases (own_m3 hnn) with rfl | rfl | rfl | rfl
  · refine F_iloadN X0 at_4 rfl (pc' := 5) rfl ?_
    refine F_iconst X0 at_5 (z := (3 : Int32)) (by decide) (pc' := 6) rfl ?_
    refine F_iand X0 at_6 rfl (pc' := 7) rfl ?_
    refine F_iloadN X0 at_7 rfl (pc' := 8) rfl ?_
    refine F_callS X0 (y := (⟨"java/lang/Math", "min", "(II)I"⟩ : MethodName)) (stk := []) (wd0 hw) (wd1 hw) (wd2 hw) (wd3 hw) (by decide) (argsL := [(.int (u3 &&& (3 : Int32))), (.int (0 : Int32))]) (con_min l Z a0 hw n0 h X0.size (u3 &&& (3 : Int32)) (0 : Int32)) (by decide) (W := 0) (Nat.le_of_ble_eq_true rfl) (by decide) (by decide) (by decide) rfl (lenOf pd2 rfl) rfl at_8 (pc' := 11) rfl fun T1 v1 h1 X1 q1 => ?_
    obtain ⟨rfl, rfl⟩ := q1
    replace X1 := X1.more (cells' := 0) (slots' := 0) (by decide) (by decide)
    show Jvm.OwnKit.Ends p e below s n0 16 128 _ T1 (mkF m 11 #[.val (.int u1), .val (.int u2), .val (.int u3), .val (.int (0 : Int32)), .unset, .unset, .unset, .unset] [(.int (imin (u3 &&& (3 : Int32)) (0 : Int32)))])
    rcases (own_k0 u3) with hs2
    · rw [hs2]
      refine F_istore X1 at_11 (Ls' := #[.val (.int u1), .val (.int u2), .val (.int u3), .val (.int (0 : Int32)), .val (.int (0 : Int32)), .unset, .unset, .unset]) rfl (pc' := 13) rfl ?_
      refine F_iloadN X1 at_13 rfl (pc' := 14) rfl ?_
      refine F_newarray X1 (aty := .byte) (wd4 hw) (by decide) (cap := 0) (by decide) (by decide) (by decide) (by decide) (ad := "[B") rfl at_14 (pc' := 16) rfl fun T3 h3 b3 X3 Ex3 g3 ge3 E_b3 A3 => ?_
      replace A3 : AV Z h3 b3 .byte [] := A3
      replace X3 := X3.more (cells' := 1) (slots' := 0) (by decide) (by decide)
      refine F_astore X3 at_16 rfl (Ls' := #[.val (.int u1), .val (.int u2), .val (.int u3), .val (.int (0 : Int32)), .val (.int (0 : Int32)), .val (.ref b3), .unset, .unset]) rfl (pc' := 18) rfl ?_
      refine F_iloadN X3 at_18 rfl (pc' := 19) rfl ?_
      refine F_if_le X3 at_19 (by decide) (pt := 31) (by decide) (pc' := 22) rfl (fun _ => ?_) (fun q => absurd q (by decide))
      refine F_iloadN X3 at_31 rfl (pc' := 32) rfl ?_
      refine F_iconst X3 at_32 (z := (1 : Int32)) (by decide) (pc' := 33) rfl ?_
      refine F_icmp_le X3 at_33 (by decide) (pt := 45) (by decide) (pc' := 36) rfl (fun _ => ?_) (fun q => absurd q (by decide))
      refine F_iloadN X3 at_45 rfl (pc' := 46) rfl ?_
      refine F_iconst X3 at_46 (z := (2 : Int32)) (by decide) (pc' := 47) rfl ?_
      refine F_icmp_le X3 at_47 (by decide) (pt := 59) (by decide) (pc' := 50) rfl (fun _ => ?_) (fun q => absurd q (by decide))
      refine F_new X3 (wd5 hw) (wd6 hw) (wd7 hw) (by decide) (by decide) at_59 (pc' := 62) rfl fun T4 h4 b4 X4 Ex4 g4 ge4 E_b4 D4 => ?_
      have ne_b3_b4 : b3 ≠ b4 := Nat.ne_of_lt (Nat.lt_of_lt_of_le E_b3.lt (Nat.le_of_eq g4.symm))
      have E4_b3 := E_b3.ext Ex4
      have A4_b3 := A3.ext Ex4
      have F4_data_b4 : Fld Z h4 b4 "com/example/libdeleg/libdeleg/cose/CborReader" "data" "[B" .null := D4 (Or.inr (wd15 hw)) (ty := (.array .byte)) (by decide)
      have F4_position_b4 : Fld Z h4 b4 "com/example/libdeleg/libdeleg/cose/CborReader" "position" "I" (.int (0 : Int32)) := D4 (Or.inl (wd22 hw)) (ty := .int) (by decide)
      replace X4 := X4.more (cells' := 2) (slots' := 2) (by decide) (by decide)
      refine F_dup X4 at_62 rfl (pc' := 63) rfl ?_
      refine F_aload X4 at_63 rfl rfl (pc' := 65) rfl ?_
      refine F_init X4 (y := (⟨"com/example/libdeleg/libdeleg/cose/CborReader", "<init>", "([B)V"⟩ : MethodName)) (stk := [(.ref b4)]) rfl (wd8 hw) (wd9 hw) (wd7 hw) (wd10 hw) (by decide) (a := b4) (argsL := [(.ref b3)]) (conI l Z a0 hw n0 h4 X4.size b4 b3 E_b4 F4_data_b4 F4_position_b4 ge4) (by decide) (W := 1) (Nat.le_of_ble_eq_true rfl) (by decide) (by decide) (by decide) rfl (lenOf pd3 rfl) rfl at_65 (pc' := 68) rfl fun T5 v5 h5 X5 q5 => ?_
      obtain ⟨rfl, Kp5, E5_b4, F5_data_b4, F5_position_b4⟩ := q5
      have E5k_b3 := E4_b3.keep Kp5
      have E5k_b4 := E_b4.keep Kp5
      have A5k_b3 := A4_b3.keep Kp5 (ninS ne_b3_b4 nin0)
      replace X5 := X5.more (cells' := 2) (slots' := 2) (by decide) (by decide)
      show Jvm.OwnKit.Ends p e below s n0 16 128 _ T5 (mkF m 68 #[.val (.int u1), .val (.int u2), .val (.int u3), .val (.int (0 : Int32)), .val (.int (0 : Int32)), .val (.ref b3), .unset, .unset] [(.ref b4)])
      refine F_astore X5 at_68 rfl (Ls' := #[.val (.int u1), .val (.int u2), .val (.int u3), .val (.int (0 : Int32)), .val (.int (0 : Int32)), .val (.ref b3), .val (.ref b4), .unset]) rfl (pc' := 70) rfl ?_
      refine F_aload X5 at_70 rfl rfl (pc' := 72) rfl ?_
      refine F_callV X5 (y := (⟨"com/example/libdeleg/libdeleg/cose/CborReader", "atEnd", "()Z"⟩ : MethodName)) (stk := []) (wd16 hw) (wd17 hw) (wd19 hw) (wd18 hw) (wd7 hw) (wd20 hw) (by decide) (a := b4) E5_b4 (argsL := []) (conE l Z a0 hw n0 h5 X5.size b4 b3 [] (0 : Int32) (0 : Int32) F5_data_b4 F5_position_b4 A5k_b3 (by first | decide | rfl | exact own_bl _ _)) (by decide) (W := 0) (Nat.le_of_ble_eq_true rfl) (by decide) (by decide) (by decide) rfl (lenOf pd0 rfl) rfl at_72 (pc' := 75) rfl fun T6 v6 h6 X6 q6 => ?_
      obtain ⟨rfl, rfl⟩ := q6
      replace X6 := X6.more (cells' := 2) (slots' := 2) (by decide) (by decide)
      show Jvm.OwnKit.Ends p e below s n0 16 128 _ T6 (mkF m 75 #[.val (.int u1), .val (.int u2), .val (.int u3), .val (.int (0 : Int32)), .val (.int (0 : Int32)), .val (.ref b3), .val (.ref b4), .unset] [(.int (ae (0 : Int32) (0 : Int32)))])
      rw [show (ae (0 : Int32) (0 : Int32)) = (1 : Int32) from by decide]
      refine F_iloadN X6 at_75 rfl (pc' := 76) rfl ?_
      refine F_if_ne X6 at_76 (by decide) (pt := 83) (by decide) (pc' := 79) rfl (fun q => absurd q (by decide)) (fun _ => ?_)
      refine F_iconst X6 at_79 (z := (1 : Int32)) (by decide) (pc' := 80) rfl ?_
      refine F_goto X6 at_80 (by decide) (pc' := 84) (by decide) ?_
      refine F_icmp_ne X6 at_84 (by decide) (pt := 91) (by decide) (pc' := 87) rfl (fun q => absurd q (by decide)) (fun _ => ?_)
      refine F_iconst X6 at_87 (z := (1 : Int32)) (by decide) (pc' := 88) rfl ?_
      refine F_goto X6 at_88 (by decide) (pc' := 92) (by decide) ?_
      refine F_istore X6 at_92 (Ls' := #[.val (.int u1), .val (.int u2), .val (.int u3), .val (.int (0 : Int32)), .val (.int (0 : Int32)), .val (.ref b3), .val (.ref b4), .val (.int (1 : Int32))]) rfl (pc' := 94) rfl ?_
      refine F_iload X6 at_94 rfl (pc' := 96) rfl ?_
      refine F_iconst X6 at_96 (z := (1 : Int32)) (by decide) (pc' := 97) rfl ?_
      refine F_icmp_lt X6 at_97 (by decide) (pt := 136) (by decide) (pc' := 100) rfl (fun _ => ?_) (fun q => absurd q (by decide))
      refine F_iload X6 at_136 rfl (pc' := 138) rfl ?_
      refine F_iconst X6 at_138 (z := (2 : Int32)) (by decide) (pc' := 139) rfl ?_
      refine F_icmp_lt X6 at_139 (by decide) (pt := 178) (by decide) (pc' := 142) rfl (fun _ => ?_) (fun q => absurd q (by decide))
      refine F_iload X6 at_178 rfl (pc' := 180) rfl ?_
      refine F_iconst X6 at_180 (z := (3 : Int32)) (by decide) (pc' := 181) rfl ?_
      refine F_icmp_lt X6 at_181 (by decide) (pt := 220) (by decide) (pc' := 184) rfl (fun _ => ?_) (fun q => absurd q (by decide))
      refine F_iload X6 at_220 rfl (pc' := 222) rfl ?_
      refine F_ireturn_boolean (z' := (1 : Int32)) X6 (by decide) at_222 rfl (by decide) (by decide) ?_
      exact rfl
  · refine F_iloadN X0 at_4 rfl (pc' := 5) rfl ?_
    refine F_iconst X0 at_5 (z := (3 : Int32)) (by decide) (pc' := 6) rfl ?_
    refine F_iand X0 at_6 rfl (pc' := 7) rfl ?_
    refine F_iloadN X0 at_7 rfl (pc' := 8) rfl ?_
    refine F_callS X0 (y := (⟨"java/lang/Math", "min", "(II)I"⟩ : MethodName)) (stk := []) (wd0 hw) (wd1 hw) (wd2 hw) (wd3 hw) (by decide) (argsL := [(.int (u3 &&& (3 : Int32))), (.int (1 : Int32))]) (con_min l Z a0 hw n0 h X0.size (u3 &&& (3 : Int32)) (1 : Int32)) (by decide) (W := 0) (Nat.le_of_ble_eq_true rfl) (by decide) (by decide) (by decide) rfl (lenOf pd2 rfl) rfl at_8 (pc' := 11) rfl fun T7 v7 h7 X7 q7 => ?_
    obtain ⟨rfl, rfl⟩ := q7
    replace X7 := X7.more (cells' := 0) (slots' := 0) (by decide) (by decide)
    show Jvm.OwnKit.Ends p e below s n0 16 128 _ T7 (mkF m 11 #[.val (.int u1), .val (.int u2), .val (.int u3), .val (.int (1 : Int32)), .unset, .unset, .unset, .unset] [(.int (imin (u3 &&& (3 : Int32)) (1 : Int32)))])
    rcases (own_k1 u3) with hs8 | hs8
    · rw [hs8]
      refine F_istore X7 at_11 (Ls' := #[.val (.int u1), .val (.int u2), .val (.int u3), .val (.int (1 : Int32)), .val (.int (0 : Int32)), .unset, .unset, .unset]) rfl (pc' := 13) rfl ?_
      refine F_iloadN X7 at_13 rfl (pc' := 14) rfl ?_
      refine F_newarray X7 (aty := .byte) (wd4 hw) (by decide) (cap := 1) (by decide) (by decide) (by decide) (by decide) (ad := "[B") rfl at_14 (pc' := 16) rfl fun T9 h9 b9 X9 Ex9 g9 ge9 E_b9 A9 => ?_
      replace A9 : AV Z h9 b9 .byte [(.int (0 : Int32))] := A9
      replace X9 := X9.more (cells' := 1) (slots' := 1) (by decide) (by decide)
      refine F_astore X9 at_16 rfl (Ls' := #[.val (.int u1), .val (.int u2), .val (.int u3), .val (.int (1 : Int32)), .val (.int (0 : Int32)), .val (.ref b9), .unset, .unset]) rfl (pc' := 18) rfl ?_
      refine F_iloadN X9 at_18 rfl (pc' := 19) rfl ?_
      refine F_if_le X9 at_19 (by decide) (pt := 31) (by decide) (pc' := 22) rfl (fun q => absurd q (by decide)) (fun _ => ?_)
      refine F_aload X9 at_22 rfl rfl (pc' := 24) rfl ?_
      refine F_iconst X9 at_24 (z := (0 : Int32)) (by decide) (pc' := 25) rfl ?_
      refine F_iloadN X9 at_25 rfl (pc' := 26) rfl ?_
      refine F_iconst X9 at_26 (z := (0 : Int32)) (by decide) (pc' := 27) rfl ?_
      refine F_callS X9 (y := (⟨"com/example/libdeleg/libdeleg/cose/CborReaderAtEndPinLaw", "bool", "(II)B"⟩ : MethodName)) (stk := [(.int (0 : Int32)), (.ref b9)]) (wd23 hw) (wd24 hw) (wd25 hw) (wd26 hw) (by decide) (argsL := [(.int u2), (.int (0 : Int32))]) (con_bool l Z a0 hw n0 h9 X9.size u2 (0 : Int32)) (by decide) (W := 2) (Nat.le_of_ble_eq_true rfl) (by decide) (by decide) (by decide) rfl (lenOf pd4 rfl) rfl at_27 (pc' := 30) rfl fun T10 v10 h10 X10 q10 => ?_
      obtain ⟨rfl, rfl⟩ := q10
      replace X10 := X10.more (cells' := 1) (slots' := 1) (by decide) (by decide)
      show Jvm.OwnKit.Ends p e below s n0 16 128 _ T10 (mkF m 30 #[.val (.int u1), .val (.int u2), .val (.int u3), .val (.int (1 : Int32)), .val (.int (0 : Int32)), .val (.ref b9), .unset, .unset] [(.int (bl u2 (0 : Int32))), (.int (0 : Int32)), (.ref b9)])
      refine F_bastore X10 A9 (by decide) (i := 0) (by decide) (Nat.le_of_ble_eq_true rfl) ge9 (z := (bl u2 (0 : Int32))) (own_bl8 _ _) at_30 (pc' := 31) rfl fun T11 h11 X11 W11 A11 => ?_
      replace A11 : AV Z h11 b9 .byte [(.int (bl u2 (0 : Int32)))] := A11
      have E11_b9 := E_b9.wr W11
      refine F_iloadN X11 at_31 rfl (pc' := 32) rfl ?_
      refine F_iconst X11 at_32 (z := (1 : Int32)) (by decide) (pc' := 33) rfl ?_
      refine F_icmp_le X11 at_33 (by decide) (pt := 45) (by decide) (pc' := 36) rfl (fun _ => ?_) (fun q => absurd q (by decide))
      refine F_iloadN X11 at_45 rfl (pc' := 46) rfl ?_
      refine F_iconst X11 at_46 (z := (2 : Int32)) (by decide) (pc' := 47) rfl ?_
      refine F_icmp_le X11 at_47 (by decide) (pt := 59) (by decide) (pc' := 50) rfl (fun _ => ?_) (fun q => absurd q (by decide))
      refine F_new X11 (wd5 hw) (wd6 hw) (wd7 hw) (by decide) (by decide) at_59 (pc' := 62) rfl fun T12 h12 b12 X12 Ex12 g12 ge12 E_b12 D12 => ?_
      have ne_b9_b12 : b9 ≠ b12 := Nat.ne_of_lt (Nat.lt_of_lt_of_le E11_b9.lt (Nat.le_of_eq g12.symm))
      have E12_b9 := E11_b9.ext Ex12
      have A12_b9 := A11.ext Ex12
      have F12_data_b12 : Fld Z h12 b12 "com/example/libdeleg/libdeleg/cose/CborReader" "data" "[B" .null := D12 (Or.inr (wd15 hw)) (ty := (.array .byte)) (by decide)
      have F12_position_b12 : Fld Z h12 b12 "com/example/libdeleg/libdeleg/cose/CborReader" "position" "I" (.int (0 : Int32)) := D12 (Or.inl (wd22 hw)) (ty := .int) (by decide)
      replace X12 := X12.more (cells' := 2) (slots' := 3) (by decide) (by decide)
      refine F_dup X12 at_62 rfl (pc' := 63) rfl ?_
      refine F_aload X12 at_63 rfl rfl (pc' := 65) rfl ?_
      refine F_init X12 (y := (⟨"com/example/libdeleg/libdeleg/cose/CborReader", "<init>", "([B)V"⟩ : MethodName)) (stk := [(.ref b12)]) rfl (wd8 hw) (wd9 hw) (wd7 hw) (wd10 hw) (by decide) (a := b12) (argsL := [(.ref b9)]) (conI l Z a0 hw n0 h12 X12.size b12 b9 E_b12 F12_data_b12 F12_position_b12 ge12) (by decide) (W := 1) (Nat.le_of_ble_eq_true rfl) (by decide) (by decide) (by decide) rfl (lenOf pd3 rfl) rfl at_65 (pc' := 68) rfl fun T13 v13 h13 X13 q13 => ?_
      obtain ⟨rfl, Kp13, E13_b12, F13_data_b12, F13_position_b12⟩ := q13
      have E13k_b9 := E12_b9.keep Kp13
      have E13k_b12 := E_b12.keep Kp13
      have A13k_b9 := A12_b9.keep Kp13 (ninS ne_b9_b12 nin0)
      replace X13 := X13.more (cells' := 2) (slots' := 3) (by decide) (by decide)
      show Jvm.OwnKit.Ends p e below s n0 16 128 _ T13 (mkF m 68 #[.val (.int u1), .val (.int u2), .val (.int u3), .val (.int (1 : Int32)), .val (.int (0 : Int32)), .val (.ref b9), .unset, .unset] [(.ref b12)])
      refine F_astore X13 at_68 rfl (Ls' := #[.val (.int u1), .val (.int u2), .val (.int u3), .val (.int (1 : Int32)), .val (.int (0 : Int32)), .val (.ref b9), .val (.ref b12), .unset]) rfl (pc' := 70) rfl ?_
      refine F_aload X13 at_70 rfl rfl (pc' := 72) rfl ?_
      refine F_callV X13 (y := (⟨"com/example/libdeleg/libdeleg/cose/CborReader", "atEnd", "()Z"⟩ : MethodName)) (stk := []) (wd16 hw) (wd17 hw) (wd19 hw) (wd18 hw) (wd7 hw) (wd20 hw) (by decide) (a := b12) E13_b12 (argsL := []) (conE l Z a0 hw n0 h13 X13.size b12 b9 [(.int (bl u2 (0 : Int32)))] (0 : Int32) (1 : Int32) F13_data_b12 F13_position_b12 A13k_b9 (by first | decide | rfl | exact own_bl _ _)) (by decide) (W := 0) (Nat.le_of_ble_eq_true rfl) (by decide) (by decide) (by decide) rfl (lenOf pd0 rfl) rfl at_72 (pc' := 75) rfl fun T14 v14 h14 X14 q14 => ?_
      obtain ⟨rfl, rfl⟩ := q14
      replace X14 := X14.more (cells' := 2) (slots' := 3) (by decide) (by decide)
      show Jvm.OwnKit.Ends p e below s n0 16 128 _ T14 (mkF m 75 #[.val (.int u1), .val (.int u2), .val (.int u3), .val (.int (1 : Int32)), .val (.int (0 : Int32)), .val (.ref b9), .val (.ref b12), .unset] [(.int (ae (0 : Int32) (1 : Int32)))])
      rw [show (ae (0 : Int32) (1 : Int32)) = (0 : Int32) from by decide]
      refine F_iloadN X14 at_75 rfl (pc' := 76) rfl ?_
      refine F_if_ne X14 at_76 (by decide) (pt := 83) (by decide) (pc' := 79) rfl (fun _ => ?_) (fun q => absurd q (by decide))
      refine F_iconst X14 at_83 (z := (0 : Int32)) (by decide) (pc' := 84) rfl ?_
      refine F_icmp_ne X14 at_84 (by decide) (pt := 91) (by decide) (pc' := 87) rfl (fun q => absurd q (by decide)) (fun _ => ?_)
      refine F_iconst X14 at_87 (z := (1 : Int32)) (by decide) (pc' := 88) rfl ?_
      refine F_goto X14 at_88 (by decide) (pc' := 92) (by decide) ?_
      refine F_istore X14 at_92 (Ls' := #[.val (.int u1), .val (.int u2), .val (.int u3), .val (.int (1 : Int32)), .val (.int (0 : Int32)), .val (.ref b9), .val (.ref b12), .val (.int (1 : Int32))]) rfl (pc' := 94) rfl ?_
      refine F_iload X14 at_94 rfl (pc' := 96) rfl ?_
      refine F_iconst X14 at_96 (z := (1 : Int32)) (by decide) (pc' := 97) rfl ?_
      refine F_icmp_lt X14 at_97 (by decide) (pt := 136) (by decide) (pc' := 100) rfl (fun _ => ?_) (fun q => absurd q (by decide))
      refine F_iload X14 at_136 rfl (pc' := 138) rfl ?_
      refine F_iconst X14 at_138 (z := (2 : Int32)) (by decide) (pc' := 139) rfl ?_
      refine F_icmp_lt X14 at_139 (by decide) (pt := 178) (by decide) (pc' := 142) rfl (fun _ => ?_) (fun q => absurd q (by decide))
      refine F_iload X14 at_178 rfl (pc' := 180) rfl ?_
      refine F_iconst X14 at_180 (z := (3 : Int32)) (by decide) (pc' := 181) rfl ?_
      refine F_icmp_lt X14 at_181 (by decide) (pt := 220) (by decide) (pc' := 184) rfl (fun _ => ?_) (fun q => absurd q (by decide))
      refine F_iload X14 at_220 rfl (pc' := 222) rfl ?_
      refine F_ireturn_boolean (z' := (1 : Int32)) X14 (by decide) at_222 rfl (by decide) (by decide) ?_
      exact rfl
    · rw [hs8]
      refine F_istore X7 at_11 (Ls' := #[.val (.int u1), .val (.int u2), .val (.int u3), .val (.int (1 : Int32)), .val (.int (1 : Int32)), .unset, .unset, .unset]) rfl (pc' := 13) rfl ?_
      refine F_iloadN X7 at_13 rfl (pc' := 14) rfl ?_
      refine F_newarray X7 (aty := .byte) (wd4 hw) (by decide) (cap := 1) (by decide) (by decide) (by decide) (by decide) (ad := "[B") rfl at_14 (pc' := 16) rfl fun T15 h15 b15 X15 Ex15 g15 ge15 E_b15 A15 => ?_
      replace A15 : AV Z h15 b15 .byte [(.int (0 : Int32))] := A15
      replace X15 := X15.more (cells' := 1) (slots' := 1) (by decide) (by decide)
      refine F_astore X15 at_16 rfl (Ls' := #[.val (.int u1), .val (.int u2), .val (.int u3), .val (.int (1 : Int32)), .val (.int (1 : Int32)), .val (.ref b15), .unset, .unset]) rfl (pc' := 18) rfl ?_
      refine F_iloadN X15 at_18 rfl (pc' := 19) rfl ?_
      refine F_if_le X15 at_19 (by decide) (pt := 31) (by decide) (pc' := 22) rfl (fun q => absurd q (by decide)) (fun _ => ?_)
      refine F_aload X15 at_22 rfl rfl (pc' := 24) rfl ?_
      refine F_iconst X15 at_24 (z := (0 : Int32)) (by decide) (pc' := 25) rfl ?_
      refine F_iloadN X15 at_25 rfl (pc' := 26) rfl ?_
      refine F_iconst X15 at_26 (z := (0 : Int32)) (by decide) (pc' := 27) rfl ?_
      refine F_callS X15 (y := (⟨"com/example/libdeleg/libdeleg/cose/CborReaderAtEndPinLaw", "bool", "(II)B"⟩ : MethodName)) (stk := [(.int (0 : Int32)), (.ref b15)]) (wd23 hw) (wd24 hw) (wd25 hw) (wd26 hw) (by decide) (argsL := [(.int u2), (.int (0 : Int32))]) (con_bool l Z a0 hw n0 h15 X15.size u2 (0 : Int32)) (by decide) (W := 2) (Nat.le_of_ble_eq_true rfl) (by decide) (by decide) (by decide) rfl (lenOf pd4 rfl) rfl at_27 (pc' := 30) rfl fun T16 v16 h16 X16 q16 => ?_
      obtain ⟨rfl, rfl⟩ := q16
      replace X16 := X16.more (cells' := 1) (slots' := 1) (by decide) (by decide)
      show Jvm.OwnKit.Ends p e below s n0 16 128 _ T16 (mkF m 30 #[.val (.int u1), .val (.int u2), .val (.int u3), .val (.int (1 : Int32)), .val (.int (1 : Int32)), .val (.ref b15), .unset, .unset] [(.int (bl u2 (0 : Int32))), (.int (0 : Int32)), (.ref b15)])
      refine F_bastore X16 A15 (by decide) (i := 0) (by decide) (Nat.le_of_ble_eq_true rfl) ge15 (z := (bl u2 (0 : Int32))) (own_bl8 _ _) at_30 (pc' := 31) rfl fun T17 h17 X17 W17 A17 => ?_
      replace A17 : AV Z h17 b15 .byte [(.int (bl u2 (0 : Int32)))] := A17
      have E17_b15 := E_b15.wr W17
      refine F_iloadN X17 at_31 rfl (pc' := 32) rfl ?_
      refine F_iconst X17 at_32 (z := (1 : Int32)) (by decide) (pc' := 33) rfl ?_
      refine F_icmp_le X17 at_33 (by decide) (pt := 45) (by decide) (pc' := 36) rfl (fun _ => ?_) (fun q => absurd q (by decide))
      refine F_iloadN X17 at_45 rfl (pc' := 46) rfl ?_
      refine F_iconst X17 at_46 (z := (2 : Int32)) (by decide) (pc' := 47) rfl ?_
      refine F_icmp_le X17 at_47 (by decide) (pt := 59) (by decide) (pc' := 50) rfl (fun _ => ?_) (fun q => absurd q (by decide))
      refine F_new X17 (wd5 hw) (wd6 hw) (wd7 hw) (by decide) (by decide) at_59 (pc' := 62) rfl fun T18 h18 b18 X18 Ex18 g18 ge18 E_b18 D18 => ?_
      have ne_b15_b18 : b15 ≠ b18 := Nat.ne_of_lt (Nat.lt_of_lt_of_le E17_b15.lt (Nat.le_of_eq g18.symm))
      have E18_b15 := E17_b15.ext Ex18
      have A18_b15 := A17.ext Ex18
      have F18_data_b18 : Fld Z h18 b18 "com/example/libdeleg/libdeleg/cose/CborReader" "data" "[B" .null := D18 (Or.inr (wd15 hw)) (ty := (.array .byte)) (by decide)
      have F18_position_b18 : Fld Z h18 b18 "com/example/libdeleg/libdeleg/cose/CborReader" "position" "I" (.int (0 : Int32)) := D18 (Or.inl (wd22 hw)) (ty := .int) (by decide)
      replace X18 := X18.more (cells' := 2) (slots' := 3) (by decide) (by decide)
      refine F_dup X18 at_62 rfl (pc' := 63) rfl ?_
      refine F_aload X18 at_63 rfl rfl (pc' := 65) rfl ?_
      refine F_init X18 (y := (⟨"com/example/libdeleg/libdeleg/cose/CborReader", "<init>", "([B)V"⟩ : MethodName)) (stk := [(.ref b18)]) rfl (wd8 hw) (wd9 hw) (wd7 hw) (wd10 hw) (by decide) (a := b18) (argsL := [(.ref b15)]) (conI l Z a0 hw n0 h18 X18.size b18 b15 E_b18 F18_data_b18 F18_position_b18 ge18) (by decide) (W := 1) (Nat.le_of_ble_eq_true rfl) (by decide) (by decide) (by decide) rfl (lenOf pd3 rfl) rfl at_65 (pc' := 68) rfl fun T19 v19 h19 X19 q19 => ?_
      obtain ⟨rfl, Kp19, E19_b18, F19_data_b18, F19_position_b18⟩ := q19
      have E19k_b15 := E18_b15.keep Kp19
      have E19k_b18 := E_b18.keep Kp19
      have A19k_b15 := A18_b15.keep Kp19 (ninS ne_b15_b18 nin0)
      replace X19 := X19.more (cells' := 2) (slots' := 3) (by decide) (by decide)
      show Jvm.OwnKit.Ends p e below s n0 16 128 _ T19 (mkF m 68 #[.val (.int u1), .val (.int u2), .val (.int u3), .val (.int (1 : Int32)), .val (.int (1 : Int32)), .val (.ref b15), .unset, .unset] [(.ref b18)])
      refine F_astore X19 at_68 rfl (Ls' := #[.val (.int u1), .val (.int u2), .val (.int u3), .val (.int (1 : Int32)), .val (.int (1 : Int32)), .val (.ref b15), .val (.ref b18), .unset]) rfl (pc' := 70) rfl ?_
      refine F_aload X19 at_70 rfl rfl (pc' := 72) rfl ?_
      refine F_callV X19 (y := (⟨"com/example/libdeleg/libdeleg/cose/CborReader", "atEnd", "()Z"⟩ : MethodName)) (stk := []) (wd16 hw) (wd17 hw) (wd19 hw) (wd18 hw) (wd7 hw) (wd20 hw) (by decide) (a := b18) E19_b18 (argsL := []) (conE l Z a0 hw n0 h19 X19.size b18 b15 [(.int (bl u2 (0 : Int32)))] (0 : Int32) (1 : Int32) F19_data_b18 F19_position_b18 A19k_b15 (by first | decide | rfl | exact own_bl _ _)) (by decide) (W := 0) (Nat.le_of_ble_eq_true rfl) (by decide) (by decide) (by decide) rfl (lenOf pd0 rfl) rfl at_72 (pc' := 75) rfl fun T20 v20 h20 X20 q20 => ?_
      obtain ⟨rfl, rfl⟩ := q20
      replace X20 := X20.more (cells' := 2) (slots' := 3) (by decide) (by decide)
      show Jvm.OwnKit.Ends p e below s n0 16 128 _ T20 (mkF m 75 #[.val (.int u1), .val (.int u2), .val (.int u3), .val (.int (1 : Int32)), .val (.int (1 : Int32)), .val (.ref b15), .val (.ref b18), .unset] [(.int (ae (0 : Int32) (1 : Int32)))])
      rw [show (ae (0 : Int32) (1 : Int32)) = (0 : Int32) from by decide]
      refine F_iloadN X20 at_75 rfl (pc' := 76) rfl ?_
      refine F_if_ne X20 at_76 (by decide) (pt := 83) (by decide) (pc' := 79) rfl (fun _ => ?_) (fun q => absurd q (by decide))
      refine F_iconst X20 at_83 (z := (0 : Int32)) (by decide) (pc' := 84) rfl ?_
      refine F_icmp_ne X20 at_84 (by decide) (pt := 91) (by decide) (pc' := 87) rfl (fun q => absurd q (by decide)) (fun _ => ?_)
      refine F_iconst X20 at_87 (z := (1 : Int32)) (by decide) (pc' := 88) rfl ?_
      refine F_goto X20 at_88 (by decide) (pc' := 92) (by decide) ?_
      refine F_istore X20 at_92 (Ls' := #[.val (.int u1), .val (.int u2), .val (.int u3), .val (.int (1 : Int32)), .val (.int (1 : Int32)), .val (.ref b15), .val (.ref b18), .val (.int (1 : Int32))]) rfl (pc' := 94) rfl ?_
      refine F_iload X20 at_94 rfl (pc' := 96) rfl ?_
      refine F_iconst X20 at_96 (z := (1 : Int32)) (by decide) (pc' := 97) rfl ?_
      refine F_icmp_lt X20 at_97 (by decide) (pt := 136) (by decide) (pc' := 100) rfl (fun q => absurd q (by decide)) (fun _ => ?_)
      refine F_aload X20 at_100 rfl rfl (pc' := 102) rfl ?_
      refine F_callV X20 (y := (⟨"com/example/libdeleg/libdeleg/cose/CborReader", "readBoolean", "()Z"⟩ : MethodName)) (stk := []) (wd27 hw) (wd28 hw) (wd30 hw) (wd29 hw) (wd7 hw) (wd31 hw) (by decide) (a := b18) E19_b18 (argsL := []) (conB l Z a0 hw n0 h19 X20.size b18 b15 [(.int (bl u2 (0 : Int32)))] (0 : Int32) (1 : Int32) (bl u2 (0 : Int32)) (1 : Int32) E19_b18 F19_data_b18 F19_position_b18 A19k_b15 ge18 ne_b15_b18 (by first | decide | rfl | exact own_bl _ _) (by first | decide | rfl | exact own_bl _ _) (by first | decide | rfl | exact own_bl _ _) (by first | decide | rfl | exact own_bl _ _) (by first | decide | rfl | exact own_bl _ _) (by first | decide | rfl | exact own_bl _ _)) (by decide) (W := 0) (Nat.le_of_ble_eq_true rfl) (by decide) (by decide) (by decide) rfl (lenOf pd0 rfl) rfl at_102 (pc' := 105) rfl fun T21 v21 h21 X21 q21 => ?_
      obtain ⟨rfl, Kp21, E21_b18, F21_data_b18, F21_position_b18⟩ := q21
      have E21k_b15 := E19k_b15.keep Kp21
      have E21k_b18 := E19_b18.keep Kp21
      have A21k_b15 := A19k_b15.keep Kp21 (ninS ne_b15_b18 nin0)
      replace X21 := X21.more (cells' := 2) (slots' := 3) (by decide) (by decide)
      show Jvm.OwnKit.Ends p e below s n0 16 128 _ T21 (mkF m 105 #[.val (.int u1), .val (.int u2), .val (.int u3), .val (.int (1 : Int32)), .val (.int (1 : Int32)), .val (.ref b15), .val (.ref b18), .val (.int (1 : Int32))] [(.int (rb (bl u2 (0 : Int32))))])
      refine F_pop X21 at_105 rfl (pc' := 106) rfl ?_
      refine F_iload X21 at_106 rfl (pc' := 108) rfl ?_
      refine F_if_eq X21 at_108 (by decide) (pt := 133) (by decide) (pc' := 111) rfl (fun q => absurd q (by decide)) (fun _ => ?_)
      refine F_aload X21 at_111 rfl rfl (pc' := 113) rfl ?_
      refine F_callV X21 (y := (⟨"com/example/libdeleg/libdeleg/cose/CborReader", "atEnd", "()Z"⟩ : MethodName)) (stk := []) (wd16 hw) (wd17 hw) (wd19 hw) (wd18 hw) (wd7 hw) (wd20 hw) (by decide) (a := b18) E21_b18 (argsL := []) (conE l Z a0 hw n0 h21 X21.size b18 b15 [(.int (bl u2 (0 : Int32)))] (1 : Int32) (1 : Int32) F21_data_b18 F21_position_b18 A21k_b15 (by first | decide | rfl | exact own_bl _ _)) (by decide) (W := 0) (Nat.le_of_ble_eq_true rfl) (by decide) (by decide) (by decide) rfl (lenOf pd0 rfl) rfl at_113 (pc' := 116) rfl fun T22 v22 h22 X22 q22 => ?_
      obtain ⟨rfl, rfl⟩ := q22
      replace X22 := X22.more (cells' := 2) (slots' := 3) (by decide) (by decide)
      show Jvm.OwnKit.Ends p e below s n0 16 128 _ T22 (mkF m 116 #[.val (.int u1), .val (.int u2), .val (.int u3), .val (.int (1 : Int32)), .val (.int (1 : Int32)), .val (.ref b15), .val (.ref b18), .val (.int (1 : Int32))] [(.int (ae (1 : Int32) (1 : Int32)))])
      rw [show (ae (1 : Int32) (1 : Int32)) = (1 : Int32) from by decide]
      refine F_iloadN X22 at_116 rfl (pc' := 117) rfl ?_
      refine F_iconst X22 at_117 (z := (1 : Int32)) (by decide) (pc' := 118) rfl ?_
      refine F_icmp_ne X22 at_118 (by decide) (pt := 125) (by decide) (pc' := 121) rfl (fun q => absurd q (by decide)) (fun _ => ?_)
      refine F_iconst X22 at_121 (z := (1 : Int32)) (by decide) (pc' := 122) rfl ?_
      refine F_goto X22 at_122 (by decide) (pc' := 126) (by decide) ?_
      refine F_icmp_ne X22 at_126 (by decide) (pt := 133) (by decide) (pc' := 129) rfl (fun q => absurd q (by decide)) (fun _ => ?_)
      refine F_iconst X22 at_129 (z := (1 : Int32)) (by decide) (pc' := 130) rfl ?_
      refine F_goto X22 at_130 (by decide) (pc' := 134) (by decide) ?_
      refine F_istore X22 at_134 (Ls' := #[.val (.int u1), .val (.int u2), .val (.int u3), .val (.int (1 : Int32)), .val (.int (1 : Int32)), .val (.ref b15), .val (.ref b18), .val (.int (1 : Int32))]) rfl (pc' := 136) rfl ?_
      refine F_iload X22 at_136 rfl (pc' := 138) rfl ?_
      refine F_iconst X22 at_138 (z := (2 : Int32)) (by decide) (pc' := 139) rfl ?_
      refine F_icmp_lt X22 at_139 (by decide) (pt := 178) (by decide) (pc' := 142) rfl (fun _ => ?_) (fun q => absurd q (by decide))
      refine F_iload X22 at_178 rfl (pc' := 180) rfl ?_
      refine F_iconst X22 at_180 (z := (3 : Int32)) (by decide) (pc' := 181) rfl ?_
      refine F_icmp_lt X22 at_181 (by decide) (pt := 220) (by decide) (pc' := 184) rfl (fun _ => ?_) (fun q => absurd q (by decide))
      refine F_iload X22 at_220 rfl (pc' := 222) rfl ?_
      refine F_ireturn_boolean (z' := (1 : Int32)) X22 (by decide) at_222 rfl (by decide) (by decide) ?_
      exact rfl
  · refine F_iloadN X0 at_4 rfl (pc' := 5) rfl ?_
    refine F_iconst X0 at_5 (z := (3 : Int32)) (by decide) (pc' := 6) rfl ?_
    refine F_iand X0 at_6 rfl (pc' := 7) rfl ?_
    refine F_iloadN X0 at_7 rfl (pc' := 8) rfl ?_
    refine F_callS X0 (y := (⟨"java/lang/Math", "min", "(II)I"⟩ : MethodName)) (stk := []) (wd0 hw) (wd1 hw) (wd2 hw) (wd3 hw) (by decide) (argsL := [(.int (u3 &&& (3 : Int32))), (.int (2 : Int32))]) (con_min l Z a0 hw n0 h X0.size (u3 &&& (3 : Int32)) (2 : Int32)) (by decide) (W := 0) (Nat.le_of_ble_eq_true rfl) (by decide) (by decide) (by decide) rfl (lenOf pd2 rfl) rfl at_8 (pc' := 11) rfl fun T23 v23 h23 X23 q23 => ?_
    obtain ⟨rfl, rfl⟩ := q23
    replace X23 := X23.more (cells' := 0) (slots' := 0) (by decide) (by decide)
    show Jvm.OwnKit.Ends p e below s n0 16 128 _ T23 (mkF m 11 #[.val (.int u1), .val (.int u2), .val (.int u3), .val (.int (2 : Int32)), .unset, .unset, .unset, .unset] [(.int (imin (u3 &&& (3 : Int32)) (2 : Int32)))])
    rcases (own_k2 u3) with hs24 | hs24 | hs24
    · rw [hs24]
      refine F_istore X23 at_11 (Ls' := #[.val (.int u1), .val (.int u2), .val (.int u3), .val (.int (2 : Int32)), .val (.int (0 : Int32)), .unset, .unset, .unset]) rfl (pc' := 13) rfl ?_
      refine F_iloadN X23 at_13 rfl (pc' := 14) rfl ?_
      refine F_newarray X23 (aty := .byte) (wd4 hw) (by decide) (cap := 2) (by decide) (by decide) (by decide) (by decide) (ad := "[B") rfl at_14 (pc' := 16) rfl fun T25 h25 b25 X25 Ex25 g25 ge25 E_b25 A25 => ?_
      replace A25 : AV Z h25 b25 .byte [(.int (0 : Int32)), (.int (0 : Int32))] := A25
      replace X25 := X25.more (cells' := 1) (slots' := 2) (by decide) (by decide)
      refine F_astore X25 at_16 rfl (Ls' := #[.val (.int u1), .val (.int u2), .val (.int u3), .val (.int (2 : Int32)), .val (.int (0 : Int32)), .val (.ref b25), .unset, .unset]) rfl (pc' := 18) rfl ?_
      refine F_iloadN X25 at_18 rfl (pc' := 19) rfl ?_
      refine F_if_le X25 at_19 (by decide) (pt := 31) (by decide) (pc' := 22) rfl (fun q => absurd q (by decide)) (fun _ => ?_)
      refine F_aload X25 at_22 rfl rfl (pc' := 24) rfl ?_
      refine F_iconst X25 at_24 (z := (0 : Int32)) (by decide) (pc' := 25) rfl ?_
      refine F_iloadN X25 at_25 rfl (pc' := 26) rfl ?_
      refine F_iconst X25 at_26 (z := (0 : Int32)) (by decide) (pc' := 27) rfl ?_
      refine F_callS X25 (y := (⟨"com/example/libdeleg/libdeleg/cose/CborReaderAtEndPinLaw", "bool", "(II)B"⟩ : MethodName)) (stk := [(.int (0 : Int32)), (.ref b25)]) (wd23 hw) (wd24 hw) (wd25 hw) (wd26 hw) (by decide) (argsL := [(.int u2), (.int (0 : Int32))]) (con_bool l Z a0 hw n0 h25 X25.size u2 (0 : Int32)) (by decide) (W := 2) (Nat.le_of_ble_eq_true rfl) (by decide) (by decide) (by decide) rfl (lenOf pd4 rfl) rfl at_27 (pc' := 30) rfl fun T26 v26 h26 X26 q26 => ?_
      obtain ⟨rfl, rfl⟩ := q26
      replace X26 := X26.more (cells' := 1) (slots' := 2) (by decide) (by decide)
      show Jvm.OwnKit.Ends p e below s n0 16 128 _ T26 (mkF m 30 #[.val (.int u1), .val (.int u2), .val (.int u3), .val (.int (2 : Int32)), .val (.int (0 : Int32)), .val (.ref b25), .unset, .unset] [(.int (bl u2 (0 : Int32))), (.int (0 : Int32)), (.ref b25)])
      refine F_bastore X26 A25 (by decide) (i := 0) (by decide) (Nat.le_of_ble_eq_true rfl) ge25 (z := (bl u2 (0 : Int32))) (own_bl8 _ _) at_30 (pc' := 31) rfl fun T27 h27 X27 W27 A27 => ?_
      replace A27 : AV Z h27 b25 .byte [(.int (bl u2 (0 : Int32))), (.int (0 : Int32))] := A27
      have E27_b25 := E_b25.wr W27
      refine F_iloadN X27 at_31 rfl (pc' := 32) rfl ?_
      refine F_iconst X27 at_32 (z := (1 : Int32)) (by decide) (pc' := 33) rfl ?_
      refine F_icmp_le X27 at_33 (by decide) (pt := 45) (by decide) (pc' := 36) rfl (fun q => absurd q (by decide)) (fun _ => ?_)
      refine F_aload X27 at_36 rfl rfl (pc' := 38) rfl ?_
      refine F_iconst X27 at_38 (z := (1 : Int32)) (by decide) (pc' := 39) rfl ?_
      refine F_iloadN X27 at_39 rfl (pc' := 40) rfl ?_
      refine F_iconst X27 at_40 (z := (1 : Int32)) (by decide) (pc' := 41) rfl ?_
      refine F_callS X27 (y := (⟨"com/example/libdeleg/libdeleg/cose/CborReaderAtEndPinLaw", "bool", "(II)B"⟩ : MethodName)) (stk := [(.int (1 : Int32)), (.ref b25)]) (wd23 hw) (wd24 hw) (wd25 hw) (wd26 hw) (by decide) (argsL := [(.int u2), (.int (1 : Int32))]) (con_bool l Z a0 hw n0 h27 X27.size u2 (1 : Int32)) (by decide) (W := 2) (Nat.le_of_ble_eq_true rfl) (by decide) (by decide) (by decide) rfl (lenOf pd4 rfl) rfl at_41 (pc' := 44) rfl fun T28 v28 h28 X28 q28 => ?_
      obtain ⟨rfl, rfl⟩ := q28
      replace X28 := X28.more (cells' := 1) (slots' := 2) (by decide) (by decide)
      show Jvm.OwnKit.Ends p e below s n0 16 128 _ T28 (mkF m 44 #[.val (.int u1), .val (.int u2), .val (.int u3), .val (.int (2 : Int32)), .val (.int (0 : Int32)), .val (.ref b25), .unset, .unset] [(.int (bl u2 (1 : Int32))), (.int (1 : Int32)), (.ref b25)])
      refine F_bastore X28 A27 (by decide) (i := 1) (by decide) (Nat.le_of_ble_eq_true rfl) ge25 (z := (bl u2 (1 : Int32))) (own_bl8 _ _) at_44 (pc' := 45) rfl fun T29 h29 X29 W29 A29 => ?_
      replace A29 : AV Z h29 b25 .byte [(.int (bl u2 (0 : Int32))), (.int (bl u2 (1 : Int32)))] := A29
      have E29_b25 := E27_b25.wr W29
      refine F_iloadN X29 at_45 rfl (pc' := 46) rfl ?_
      refine F_iconst X29 at_46 (z := (2 : Int32)) (by decide) (pc' := 47) rfl ?_
      refine F_icmp_le X29 at_47 (by decide) (pt := 59) (by decide) (pc' := 50) rfl (fun _ => ?_) (fun q => absurd q (by decide))
      refine F_new X29 (wd5 hw) (wd6 hw) (wd7 hw) (by decide) (by decide) at_59 (pc' := 62) rfl fun T30 h30 b30 X30 Ex30 g30 ge30 E_b30 D30 => ?_
      have ne_b25_b30 : b25 ≠ b30 := Nat.ne_of_lt (Nat.lt_of_lt_of_le E29_b25.lt (Nat.le_of_eq g30.symm))
      have E30_b25 := E29_b25.ext Ex30
      have A30_b25 := A29.ext Ex30
      have F30_data_b30 : Fld Z h30 b30 "com/example/libdeleg/libdeleg/cose/CborReader" "data" "[B" .null := D30 (Or.inr (wd15 hw)) (ty := (.array .byte)) (by decide)
      have F30_position_b30 : Fld Z h30 b30 "com/example/libdeleg/libdeleg/cose/CborReader" "position" "I" (.int (0 : Int32)) := D30 (Or.inl (wd22 hw)) (ty := .int) (by decide)
      replace X30 := X30.more (cells' := 2) (slots' := 4) (by decide) (by decide)
      refine F_dup X30 at_62 rfl (pc' := 63) rfl ?_
      refine F_aload X30 at_63 rfl rfl (pc' := 65) rfl ?_
      refine F_init X30 (y := (⟨"com/example/libdeleg/libdeleg/cose/CborReader", "<init>", "([B)V"⟩ : MethodName)) (stk := [(.ref b30)]) rfl (wd8 hw) (wd9 hw) (wd7 hw) (wd10 hw) (by decide) (a := b30) (argsL := [(.ref b25)]) (conI l Z a0 hw n0 h30 X30.size b30 b25 E_b30 F30_data_b30 F30_position_b30 ge30) (by decide) (W := 1) (Nat.le_of_ble_eq_true rfl) (by decide) (by decide) (by decide) rfl (lenOf pd3 rfl) rfl at_65 (pc' := 68) rfl fun T31 v31 h31 X31 q31 => ?_
      obtain ⟨rfl, Kp31, E31_b30, F31_data_b30, F31_position_b30⟩ := q31
      have E31k_b25 := E30_b25.keep Kp31
      have E31k_b30 := E_b30.keep Kp31
      have A31k_b25 := A30_b25.keep Kp31 (ninS ne_b25_b30 nin0)
      replace X31 := X31.more (cells' := 2) (slots' := 4) (by decide) (by decide)
      show Jvm.OwnKit.Ends p e below s n0 16 128 _ T31 (mkF m 68 #[.val (.int u1), .val (.int u2), .val (.int u3), .val (.int (2 : Int32)), .val (.int (0 : Int32)), .val (.ref b25), .unset, .unset] [(.ref b30)])
      refine F_astore X31 at_68 rfl (Ls' := #[.val (.int u1), .val (.int u2), .val (.int u3), .val (.int (2 : Int32)), .val (.int (0 : Int32)), .val (.ref b25), .val (.ref b30), .unset]) rfl (pc' := 70) rfl ?_
      refine F_aload X31 at_70 rfl rfl (pc' := 72) rfl ?_
      refine F_callV X31 (y := (⟨"com/example/libdeleg/libdeleg/cose/CborReader", "atEnd", "()Z"⟩ : MethodName)) (stk := []) (wd16 hw) (wd17 hw) (wd19 hw) (wd18 hw) (wd7 hw) (wd20 hw) (by decide) (a := b30) E31_b30 (argsL := []) (conE l Z a0 hw n0 h31 X31.size b30 b25 [(.int (bl u2 (0 : Int32))), (.int (bl u2 (1 : Int32)))] (0 : Int32) (2 : Int32) F31_data_b30 F31_position_b30 A31k_b25 (by first | decide | rfl | exact own_bl _ _)) (by decide) (W := 0) (Nat.le_of_ble_eq_true rfl) (by decide) (by decide) (by decide) rfl (lenOf pd0 rfl) rfl at_72 (pc' := 75) rfl fun T32 v32 h32 X32 q32 => ?_
      obtain ⟨rfl, rfl⟩ := q32
      replace X32 := X32.more (cells' := 2) (slots' := 4) (by decide) (by decide)
      show Jvm.OwnKit.Ends p e below s n0 16 128 _ T32 (mkF m 75 #[.val (.int u1), .val (.int u2), .val (.int u3), .val (.int (2 : Int32)), .val (.int (0 : Int32)), .val (.ref b25), .val (.ref b30), .unset] [(.int (ae (0 : Int32) (2 : Int32)))])
      rw [show (ae (0 : Int32) (2 : Int32)) = (0 : Int32) from by decide]
      refine F_iloadN X32 at_75 rfl (pc' := 76) rfl ?_
      refine F_if_ne X32 at_76 (by decide) (pt := 83) (by decide) (pc' := 79) rfl (fun _ => ?_) (fun q => absurd q (by decide))
      refine F_iconst X32 at_83 (z := (0 : Int32)) (by decide) (pc' := 84) rfl ?_
      refine F_icmp_ne X32 at_84 (by decide) (pt := 91) (by decide) (pc' := 87) rfl (fun q => absurd q (by decide)) (fun _ => ?_)
      refine F_iconst X32 at_87 (z := (1 : Int32)) (by decide) (pc' := 88) rfl ?_
      refine F_goto X32 at_88 (by decide) (pc' := 92) (by decide) ?_
      refine F_istore X32 at_92 (Ls' := #[.val (.int u1), .val (.int u2), .val (.int u3), .val (.int (2 : Int32)), .val (.int (0 : Int32)), .val (.ref b25), .val (.ref b30), .val (.int (1 : Int32))]) rfl (pc' := 94) rfl ?_
      refine F_iload X32 at_94 rfl (pc' := 96) rfl ?_
      refine F_iconst X32 at_96 (z := (1 : Int32)) (by decide) (pc' := 97) rfl ?_
      refine F_icmp_lt X32 at_97 (by decide) (pt := 136) (by decide) (pc' := 100) rfl (fun _ => ?_) (fun q => absurd q (by decide))
      refine F_iload X32 at_136 rfl (pc' := 138) rfl ?_
      refine F_iconst X32 at_138 (z := (2 : Int32)) (by decide) (pc' := 139) rfl ?_
      refine F_icmp_lt X32 at_139 (by decide) (pt := 178) (by decide) (pc' := 142) rfl (fun _ => ?_) (fun q => absurd q (by decide))
      refine F_iload X32 at_178 rfl (pc' := 180) rfl ?_
      refine F_iconst X32 at_180 (z := (3 : Int32)) (by decide) (pc' := 181) rfl ?_
      refine F_icmp_lt X32 at_181 (by decide) (pt := 220) (by decide) (pc' := 184) rfl (fun _ => ?_) (fun q => absurd q (by decide))
      refine F_iload X32 at_220 rfl (pc' := 222) rfl ?_
      refine F_ireturn_boolean (z' := (1 : Int32)) X32 (by decide) at_222 rfl (by decide) (by decide) ?_
      exact rfl
    · rw [hs24]
      refine F_istore X23 at_11 (Ls' := #[.val (.int u1), .val (.int u2), .val (.int u3), .val (.int (2 : Int32)), .val (.int (1 : Int32)), .unset, .unset, .unset]) rfl (pc' := 13) rfl ?_
      refine F_iloadN X23 at_13 rfl (pc' := 14) rfl ?_
      refine F_newarray X23 (aty := .byte) (wd4 hw) (by decide) (cap := 2) (by decide) (by decide) (by decide) (by decide) (ad := "[B") rfl at_14 (pc' := 16) rfl fun T33 h33 b33 X33 Ex33 g33 ge33 E_b33 A33 => ?_
      replace A33 : AV Z h33 b33 .byte [(.int (0 : Int32)), (.int (0 : Int32))] := A33
      replace X33 := X33.more (cells' := 1) (slots' := 2) (by decide) (by decide)
      refine F_astore X33 at_16 rfl (Ls' := #[.val (.int u1), .val (.int u2), .val (.int u3), .val (.int (2 : Int32)), .val (.int (1 : Int32)), .val (.ref b33), .unset, .unset]) rfl (pc' := 18) rfl ?_
      refine F_iloadN X33 at_18 rfl (pc' := 19) rfl ?_
      refine F_if_le X33 at_19 (by decide) (pt := 31) (by decide) (pc' := 22) rfl (fun q => absurd q (by decide)) (fun _ => ?_)
      refine F_aload X33 at_22 rfl rfl (pc' := 24) rfl ?_
      refine F_iconst X33 at_24 (z := (0 : Int32)) (by decide) (pc' := 25) rfl ?_
      refine F_iloadN X33 at_25 rfl (pc' := 26) rfl ?_
      refine F_iconst X33 at_26 (z := (0 : Int32)) (by decide) (pc' := 27) rfl ?_
      refine F_callS X33 (y := (⟨"com/example/libdeleg/libdeleg/cose/CborReaderAtEndPinLaw", "bool", "(II)B"⟩ : MethodName)) (stk := [(.int (0 : Int32)), (.ref b33)]) (wd23 hw) (wd24 hw) (wd25 hw) (wd26 hw) (by decide) (argsL := [(.int u2), (.int (0 : Int32))]) (con_bool l Z a0 hw n0 h33 X33.size u2 (0 : Int32)) (by decide) (W := 2) (Nat.le_of_ble_eq_true rfl) (by decide) (by decide) (by decide) rfl (lenOf pd4 rfl) rfl at_27 (pc' := 30) rfl fun T34 v34 h34 X34 q34 => ?_
      obtain ⟨rfl, rfl⟩ := q34
      replace X34 := X34.more (cells' := 1) (slots' := 2) (by decide) (by decide)
      show Jvm.OwnKit.Ends p e below s n0 16 128 _ T34 (mkF m 30 #[.val (.int u1), .val (.int u2), .val (.int u3), .val (.int (2 : Int32)), .val (.int (1 : Int32)), .val (.ref b33), .unset, .unset] [(.int (bl u2 (0 : Int32))), (.int (0 : Int32)), (.ref b33)])
      refine F_bastore X34 A33 (by decide) (i := 0) (by decide) (Nat.le_of_ble_eq_true rfl) ge33 (z := (bl u2 (0 : Int32))) (own_bl8 _ _) at_30 (pc' := 31) rfl fun T35 h35 X35 W35 A35 => ?_
      replace A35 : AV Z h35 b33 .byte [(.int (bl u2 (0 : Int32))), (.int (0 : Int32))] := A35
      have E35_b33 := E_b33.wr W35
      refine F_iloadN X35 at_31 rfl (pc' := 32) rfl ?_
      refine F_iconst X35 at_32 (z := (1 : Int32)) (by decide) (pc' := 33) rfl ?_
      refine F_icmp_le X35 at_33 (by decide) (pt := 45) (by decide) (pc' := 36) rfl (fun q => absurd q (by decide)) (fun _ => ?_)
      refine F_aload X35 at_36 rfl rfl (pc' := 38) rfl ?_
      refine F_iconst X35 at_38 (z := (1 : Int32)) (by decide) (pc' := 39) rfl ?_
      refine F_iloadN X35 at_39 rfl (pc' := 40) rfl ?_
      refine F_iconst X35 at_40 (z := (1 : Int32)) (by decide) (pc' := 41) rfl ?_
      refine F_callS X35 (y := (⟨"com/example/libdeleg/libdeleg/cose/CborReaderAtEndPinLaw", "bool", "(II)B"⟩ : MethodName)) (stk := [(.int (1 : Int32)), (.ref b33)]) (wd23 hw) (wd24 hw) (wd25 hw) (wd26 hw) (by decide) (argsL := [(.int u2), (.int (1 : Int32))]) (con_bool l Z a0 hw n0 h35 X35.size u2 (1 : Int32)) (by decide) (W := 2) (Nat.le_of_ble_eq_true rfl) (by decide) (by decide) (by decide) rfl (lenOf pd4 rfl) rfl at_41 (pc' := 44) rfl fun T36 v36 h36 X36 q36 => ?_
      obtain ⟨rfl, rfl⟩ := q36
      replace X36 := X36.more (cells' := 1) (slots' := 2) (by decide) (by decide)
      show Jvm.OwnKit.Ends p e below s n0 16 128 _ T36 (mkF m 44 #[.val (.int u1), .val (.int u2), .val (.int u3), .val (.int (2 : Int32)), .val (.int (1 : Int32)), .val (.ref b33), .unset, .unset] [(.int (bl u2 (1 : Int32))), (.int (1 : Int32)), (.ref b33)])
      refine F_bastore X36 A35 (by decide) (i := 1) (by decide) (Nat.le_of_ble_eq_true rfl) ge33 (z := (bl u2 (1 : Int32))) (own_bl8 _ _) at_44 (pc' := 45) rfl fun T37 h37 X37 W37 A37 => ?_
      replace A37 : AV Z h37 b33 .byte [(.int (bl u2 (0 : Int32))), (.int (bl u2 (1 : Int32)))] := A37
      have E37_b33 := E35_b33.wr W37
      refine F_iloadN X37 at_45 rfl (pc' := 46) rfl ?_
      refine F_iconst X37 at_46 (z := (2 : Int32)) (by decide) (pc' := 47) rfl ?_
      refine F_icmp_le X37 at_47 (by decide) (pt := 59) (by decide) (pc' := 50) rfl (fun _ => ?_) (fun q => absurd q (by decide))
      refine F_new X37 (wd5 hw) (wd6 hw) (wd7 hw) (by decide) (by decide) at_59 (pc' := 62) rfl fun T38 h38 b38 X38 Ex38 g38 ge38 E_b38 D38 => ?_
      have ne_b33_b38 : b33 ≠ b38 := Nat.ne_of_lt (Nat.lt_of_lt_of_le E37_b33.lt (Nat.le_of_eq g38.symm))
      have E38_b33 := E37_b33.ext Ex38
      have A38_b33 := A37.ext Ex38
      have F38_data_b38 : Fld Z h38 b38 "com/example/libdeleg/libdeleg/cose/CborReader" "data" "[B" .null := D38 (Or.inr (wd15 hw)) (ty := (.array .byte)) (by decide)
      have F38_position_b38 : Fld Z h38 b38 "com/example/libdeleg/libdeleg/cose/CborReader" "position" "I" (.int (0 : Int32)) := D38 (Or.inl (wd22 hw)) (ty := .int) (by decide)
      replace X38 := X38.more (cells' := 2) (slots' := 4) (by decide) (by decide)
      refine F_dup X38 at_62 rfl (pc' := 63) rfl ?_
      refine F_aload X38 at_63 rfl rfl (pc' := 65) rfl ?_
      refine F_init X38 (y := (⟨"com/example/libdeleg/libdeleg/cose/CborReader", "<init>", "([B)V"⟩ : MethodName)) (stk := [(.ref b38)]) rfl (wd8 hw) (wd9 hw) (wd7 hw) (wd10 hw) (by decide) (a := b38) (argsL := [(.ref b33)]) (conI l Z a0 hw n0 h38 X38.size b38 b33 E_b38 F38_data_b38 F38_position_b38 ge38) (by decide) (W := 1) (Nat.le_of_ble_eq_true rfl) (by decide) (by decide) (by decide) rfl (lenOf pd3 rfl) rfl at_65 (pc' := 68) rfl fun T39 v39 h39 X39 q39 => ?_
      obtain ⟨rfl, Kp39, E39_b38, F39_data_b38, F39_position_b38⟩ := q39
      have E39k_b33 := E38_b33.keep Kp39
      have E39k_b38 := E_b38.keep Kp39
      have A39k_b33 := A38_b33.keep Kp39 (ninS ne_b33_b38 nin0)
      replace X39 := X39.more (cells' := 2) (slots' := 4) (by decide) (by decide)
      show Jvm.OwnKit.Ends p e below s n0 16 128 _ T39 (mkF m 68 #[.val (.int u1), .val (.int u2), .val (.int u3), .val (.int (2 : Int32)), .val (.int (1 : Int32)), .val (.ref b33), .unset, .unset] [(.ref b38)])
      refine F_astore X39 at_68 rfl (Ls' := #[.val (.int u1), .val (.int u2), .val (.int u3), .val (.int (2 : Int32)), .val (.int (1 : Int32)), .val (.ref b33), .val (.ref b38), .unset]) rfl (pc' := 70) rfl ?_
      refine F_aload X39 at_70 rfl rfl (pc' := 72) rfl ?_
      refine F_callV X39 (y := (⟨"com/example/libdeleg/libdeleg/cose/CborReader", "atEnd", "()Z"⟩ : MethodName)) (stk := []) (wd16 hw) (wd17 hw) (wd19 hw) (wd18 hw) (wd7 hw) (wd20 hw) (by decide) (a := b38) E39_b38 (argsL := []) (conE l Z a0 hw n0 h39 X39.size b38 b33 [(.int (bl u2 (0 : Int32))), (.int (bl u2 (1 : Int32)))] (0 : Int32) (2 : Int32) F39_data_b38 F39_position_b38 A39k_b33 (by first | decide | rfl | exact own_bl _ _)) (by decide) (W := 0) (Nat.le_of_ble_eq_true rfl) (by decide) (by decide) (by decide) rfl (lenOf pd0 rfl) rfl at_72 (pc' := 75) rfl fun T40 v40 h40 X40 q40 => ?_
      obtain ⟨rfl, rfl⟩ := q40
      replace X40 := X40.more (cells' := 2) (slots' := 4) (by decide) (by decide)
      show Jvm.OwnKit.Ends p e below s n0 16 128 _ T40 (mkF m 75 #[.val (.int u1), .val (.int u2), .val (.int u3), .val (.int (2 : Int32)), .val (.int (1 : Int32)), .val (.ref b33), .val (.ref b38), .unset] [(.int (ae (0 : Int32) (2 : Int32)))])
      rw [show (ae (0 : Int32) (2 : Int32)) = (0 : Int32) from by decide]
      refine F_iloadN X40 at_75 rfl (pc' := 76) rfl ?_
      refine F_if_ne X40 at_76 (by decide) (pt := 83) (by decide) (pc' := 79) rfl (fun _ => ?_) (fun q => absurd q (by decide))
      refine F_iconst X40 at_83 (z := (0 : Int32)) (by decide) (pc' := 84) rfl ?_
      refine F_icmp_ne X40 at_84 (by decide) (pt := 91) (by decide) (pc' := 87) rfl (fun q => absurd q (by decide)) (fun _ => ?_)
      refine F_iconst X40 at_87 (z := (1 : Int32)) (by decide) (pc' := 88) rfl ?_
      refine F_goto X40 at_88 (by decide) (pc' := 92) (by decide) ?_
      refine F_istore X40 at_92 (Ls' := #[.val (.int u1), .val (.int u2), .val (.int u3), .val (.int (2 : Int32)), .val (.int (1 : Int32)), .val (.ref b33), .val (.ref b38), .val (.int (1 : Int32))]) rfl (pc' := 94) rfl ?_
      refine F_iload X40 at_94 rfl (pc' := 96) rfl ?_
      refine F_iconst X40 at_96 (z := (1 : Int32)) (by decide) (pc' := 97) rfl ?_
      refine F_icmp_lt X40 at_97 (by decide) (pt := 136) (by decide) (pc' := 100) rfl (fun q => absurd q (by decide)) (fun _ => ?_)
      refine F_aload X40 at_100 rfl rfl (pc' := 102) rfl ?_
      refine F_callV X40 (y := (⟨"com/example/libdeleg/libdeleg/cose/CborReader", "readBoolean", "()Z"⟩ : MethodName)) (stk := []) (wd27 hw) (wd28 hw) (wd30 hw) (wd29 hw) (wd7 hw) (wd31 hw) (by decide) (a := b38) E39_b38 (argsL := []) (conB l Z a0 hw n0 h39 X40.size b38 b33 [(.int (bl u2 (0 : Int32))), (.int (bl u2 (1 : Int32)))] (0 : Int32) (2 : Int32) (bl u2 (0 : Int32)) (1 : Int32) E39_b38 F39_data_b38 F39_position_b38 A39k_b33 ge38 ne_b33_b38 (by first | decide | rfl | exact own_bl _ _) (by first | decide | rfl | exact own_bl _ _) (by first | decide | rfl | exact own_bl _ _) (by first | decide | rfl | exact own_bl _ _) (by first | decide | rfl | exact own_bl _ _) (by first | decide | rfl | exact own_bl _ _)) (by decide) (W := 0) (Nat.le_of_ble_eq_true rfl) (by decide) (by decide) (by decide) rfl (lenOf pd0 rfl) rfl at_102 (pc' := 105) rfl fun T41 v41 h41 X41 q41 => ?_
      obtain ⟨rfl, Kp41, E41_b38, F41_data_b38, F41_position_b38⟩ := q41
      have E41k_b33 := E39k_b33.keep Kp41
      have E41k_b38 := E39_b38.keep Kp41
      have A41k_b33 := A39k_b33.keep Kp41 (ninS ne_b33_b38 nin0)
      replace X41 := X41.more (cells' := 2) (slots' := 4) (by decide) (by decide)
      show Jvm.OwnKit.Ends p e below s n0 16 128 _ T41 (mkF m 105 #[.val (.int u1), .val (.int u2), .val (.int u3), .val (.int (2 : Int32)), .val (.int (1 : Int32)), .val (.ref b33), .val (.ref b38), .val (.int (1 : Int32))] [(.int (rb (bl u2 (0 : Int32))))])
      refine F_pop X41 at_105 rfl (pc' := 106) rfl ?_
      refine F_iload X41 at_106 rfl (pc' := 108) rfl ?_
      refine F_if_eq X41 at_108 (by decide) (pt := 133) (by decide) (pc' := 111) rfl (fun q => absurd q (by decide)) (fun _ => ?_)
      refine F_aload X41 at_111 rfl rfl (pc' := 113) rfl ?_
      refine F_callV X41 (y := (⟨"com/example/libdeleg/libdeleg/cose/CborReader", "atEnd", "()Z"⟩ : MethodName)) (stk := []) (wd16 hw) (wd17 hw) (wd19 hw) (wd18 hw) (wd7 hw) (wd20 hw) (by decide) (a := b38) E41_b38 (argsL := []) (conE l Z a0 hw n0 h41 X41.size b38 b33 [(.int (bl u2 (0 : Int32))), (.int (bl u2 (1 : Int32)))] (1 : Int32) (2 : Int32) F41_data_b38 F41_position_b38 A41k_b33 (by first | decide | rfl | exact own_bl _ _)) (by decide) (W := 0) (Nat.le_of_ble_eq_true rfl) (by decide) (by decide) (by decide) rfl (lenOf pd0 rfl) rfl at_113 (pc' := 116) rfl fun T42 v42 h42 X42 q42 => ?_
      obtain ⟨rfl, rfl⟩ := q42
      replace X42 := X42.more (cells' := 2) (slots' := 4) (by decide) (by decide)
      show Jvm.OwnKit.Ends p e below s n0 16 128 _ T42 (mkF m 116 #[.val (.int u1), .val (.int u2), .val (.int u3), .val (.int (2 : Int32)), .val (.int (1 : Int32)), .val (.ref b33), .val (.ref b38), .val (.int (1 : Int32))] [(.int (ae (1 : Int32) (2 : Int32)))])
      rw [show (ae (1 : Int32) (2 : Int32)) = (0 : Int32) from by decide]
      refine F_iloadN X42 at_116 rfl (pc' := 117) rfl ?_
      refine F_iconst X42 at_117 (z := (1 : Int32)) (by decide) (pc' := 118) rfl ?_
      refine F_icmp_ne X42 at_118 (by decide) (pt := 125) (by decide) (pc' := 121) rfl (fun _ => ?_) (fun q => absurd q (by decide))
      refine F_iconst X42 at_125 (z := (0 : Int32)) (by decide) (pc' := 126) rfl ?_
      refine F_icmp_ne X42 at_126 (by decide) (pt := 133) (by decide) (pc' := 129) rfl (fun q => absurd q (by decide)) (fun _ => ?_)
      refine F_iconst X42 at_129 (z := (1 : Int32)) (by decide) (pc' := 130) rfl ?_
      refine F_goto X42 at_130 (by decide) (pc' := 134) (by decide) ?_
      refine F_istore X42 at_134 (Ls' := #[.val (.int u1), .val (.int u2), .val (.int u3), .val (.int (2 : Int32)), .val (.int (1 : Int32)), .val (.ref b33), .val (.ref b38), .val (.int (1 : Int32))]) rfl (pc' := 136) rfl ?_
      refine F_iload X42 at_136 rfl (pc' := 138) rfl ?_
      refine F_iconst X42 at_138 (z := (2 : Int32)) (by decide) (pc' := 139) rfl ?_
      refine F_icmp_lt X42 at_139 (by decide) (pt := 178) (by decide) (pc' := 142) rfl (fun _ => ?_) (fun q => absurd q (by decide))
      refine F_iload X42 at_178 rfl (pc' := 180) rfl ?_
      refine F_iconst X42 at_180 (z := (3 : Int32)) (by decide) (pc' := 181) rfl ?_
      refine F_icmp_lt X42 at_181 (by decide) (pt := 220) (by decide) (pc' := 184) rfl (fun _ => ?_) (fun q => absurd q (by decide))
      refine F_iload X42 at_220 rfl (pc' := 222) rfl ?_
      refine F_ireturn_boolean (z' := (1 : Int32)) X42 (by decide) at_222 rfl (by decide) (by decide) ?_
      exact rfl
    · rw [hs24]
      refine F_istore X23 at_11 (Ls' := #[.val (.int u1), .val (.int u2), .val (.int u3), .val (.int (2 : Int32)), .val (.int (2 : Int32)), .unset, .unset, .unset]) rfl (pc' := 13) rfl ?_
      refine F_iloadN X23 at_13 rfl (pc' := 14) rfl ?_
      refine F_newarray X23 (aty := .byte) (wd4 hw) (by decide) (cap := 2) (by decide) (by decide) (by decide) (by decide) (ad := "[B") rfl at_14 (pc' := 16) rfl fun T43 h43 b43 X43 Ex43 g43 ge43 E_b43 A43 => ?_
      replace A43 : AV Z h43 b43 .byte [(.int (0 : Int32)), (.int (0 : Int32))] := A43
      replace X43 := X43.more (cells' := 1) (slots' := 2) (by decide) (by decide)
      refine F_astore X43 at_16 rfl (Ls' := #[.val (.int u1), .val (.int u2), .val (.int u3), .val (.int (2 : Int32)), .val (.int (2 : Int32)), .val (.ref b43), .unset, .unset]) rfl (pc' := 18) rfl ?_
      refine F_iloadN X43 at_18 rfl (pc' := 19) rfl ?_
      refine F_if_le X43 at_19 (by decide) (pt := 31) (by decide) (pc' := 22) rfl (fun q => absurd q (by decide)) (fun _ => ?_)
      refine F_aload X43 at_22 rfl rfl (pc' := 24) rfl ?_
      refine F_iconst X43 at_24 (z := (0 : Int32)) (by decide) (pc' := 25) rfl ?_
      refine F_iloadN X43 at_25 rfl (pc' := 26) rfl ?_
      refine F_iconst X43 at_26 (z := (0 : Int32)) (by decide) (pc' := 27) rfl ?_
      refine F_callS X43 (y := (⟨"com/example/libdeleg/libdeleg/cose/CborReaderAtEndPinLaw", "bool", "(II)B"⟩ : MethodName)) (stk := [(.int (0 : Int32)), (.ref b43)]) (wd23 hw) (wd24 hw) (wd25 hw) (wd26 hw) (by decide) (argsL := [(.int u2), (.int (0 : Int32))]) (con_bool l Z a0 hw n0 h43 X43.size u2 (0 : Int32)) (by decide) (W := 2) (Nat.le_of_ble_eq_true rfl) (by decide) (by decide) (by decide) rfl (lenOf pd4 rfl) rfl at_27 (pc' := 30) rfl fun T44 v44 h44 X44 q44 => ?_
      obtain ⟨rfl, rfl⟩ := q44
      replace X44 := X44.more (cells' := 1) (slots' := 2) (by decide) (by decide)
      show Jvm.OwnKit.Ends p e below s n0 16 128 _ T44 (mkF m 30 #[.val (.int u1), .val (.int u2), .val (.int u3), .val (.int (2 : Int32)), .val (.int (2 : Int32)), .val (.ref b43), .unset, .unset] [(.int (bl u2 (0 : Int32))), (.int (0 : Int32)), (.ref b43)])
      refine F_bastore X44 A43 (by decide) (i := 0) (by decide) (Nat.le_of_ble_eq_true rfl) ge43 (z := (bl u2 (0 : Int32))) (own_bl8 _ _) at_30 (pc' := 31) rfl fun T45 h45 X45 W45 A45 => ?_
      replace A45 : AV Z h45 b43 .byte [(.int (bl u2 (0 : Int32))), (.int (0 : Int32))] := A45
      have E45_b43 := E_b43.wr W45
      refine F_iloadN X45 at_31 rfl (pc' := 32) rfl ?_
      refine F_iconst X45 at_32 (z := (1 : Int32)) (by decide) (pc' := 33) rfl ?_
      refine F_icmp_le X45 at_33 (by decide) (pt := 45) (by decide) (pc' := 36) rfl (fun q => absurd q (by decide)) (fun _ => ?_)
      refine F_aload X45 at_36 rfl rfl (pc' := 38) rfl ?_
      refine F_iconst X45 at_38 (z := (1 : Int32)) (by decide) (pc' := 39) rfl ?_
      refine F_iloadN X45 at_39 rfl (pc' := 40) rfl ?_
      refine F_iconst X45 at_40 (z := (1 : Int32)) (by decide) (pc' := 41) rfl ?_
      refine F_callS X45 (y := (⟨"com/example/libdeleg/libdeleg/cose/CborReaderAtEndPinLaw", "bool", "(II)B"⟩ : MethodName)) (stk := [(.int (1 : Int32)), (.ref b43)]) (wd23 hw) (wd24 hw) (wd25 hw) (wd26 hw) (by decide) (argsL := [(.int u2), (.int (1 : Int32))]) (con_bool l Z a0 hw n0 h45 X45.size u2 (1 : Int32)) (by decide) (W := 2) (Nat.le_of_ble_eq_true rfl) (by decide) (by decide) (by decide) rfl (lenOf pd4 rfl) rfl at_41 (pc' := 44) rfl fun T46 v46 h46 X46 q46 => ?_
      obtain ⟨rfl, rfl⟩ := q46
      replace X46 := X46.more (cells' := 1) (slots' := 2) (by decide) (by decide)
      show Jvm.OwnKit.Ends p e below s n0 16 128 _ T46 (mkF m 44 #[.val (.int u1), .val (.int u2), .val (.int u3), .val (.int (2 : Int32)), .val (.int (2 : Int32)), .val (.ref b43), .unset, .unset] [(.int (bl u2 (1 : Int32))), (.int (1 : Int32)), (.ref b43)])
      refine F_bastore X46 A45 (by decide) (i := 1) (by decide) (Nat.le_of_ble_eq_true rfl) ge43 (z := (bl u2 (1 : Int32))) (own_bl8 _ _) at_44 (pc' := 45) rfl fun T47 h47 X47 W47 A47 => ?_
      replace A47 : AV Z h47 b43 .byte [(.int (bl u2 (0 : Int32))), (.int (bl u2 (1 : Int32)))] := A47
      have E47_b43 := E45_b43.wr W47
      refine F_iloadN X47 at_45 rfl (pc' := 46) rfl ?_
      refine F_iconst X47 at_46 (z := (2 : Int32)) (by decide) (pc' := 47) rfl ?_
      refine F_icmp_le X47 at_47 (by decide) (pt := 59) (by decide) (pc' := 50) rfl (fun _ => ?_) (fun q => absurd q (by decide))
      refine F_new X47 (wd5 hw) (wd6 hw) (wd7 hw) (by decide) (by decide) at_59 (pc' := 62) rfl fun T48 h48 b48 X48 Ex48 g48 ge48 E_b48 D48 => ?_
      have ne_b43_b48 : b43 ≠ b48 := Nat.ne_of_lt (Nat.lt_of_lt_of_le E47_b43.lt (Nat.le_of_eq g48.symm))
      have E48_b43 := E47_b43.ext Ex48
      have A48_b43 := A47.ext Ex48
      have F48_data_b48 : Fld Z h48 b48 "com/example/libdeleg/libdeleg/cose/CborReader" "data" "[B" .null := D48 (Or.inr (wd15 hw)) (ty := (.array .byte)) (by decide)
      have F48_position_b48 : Fld Z h48 b48 "com/example/libdeleg/libdeleg/cose/CborReader" "position" "I" (.int (0 : Int32)) := D48 (Or.inl (wd22 hw)) (ty := .int) (by decide)
      replace X48 := X48.more (cells' := 2) (slots' := 4) (by decide) (by decide)
      refine F_dup X48 at_62 rfl (pc' := 63) rfl ?_
      refine F_aload X48 at_63 rfl rfl (pc' := 65) rfl ?_
      refine F_init X48 (y := (⟨"com/example/libdeleg/libdeleg/cose/CborReader", "<init>", "([B)V"⟩ : MethodName)) (stk := [(.ref b48)]) rfl (wd8 hw) (wd9 hw) (wd7 hw) (wd10 hw) (by decide) (a := b48) (argsL := [(.ref b43)]) (conI l Z a0 hw n0 h48 X48.size b48 b43 E_b48 F48_data_b48 F48_position_b48 ge48) (by decide) (W := 1) (Nat.le_of_ble_eq_true rfl) (by decide) (by decide) (by decide) rfl (lenOf pd3 rfl) rfl at_65 (pc' := 68) rfl fun T49 v49 h49 X49 q49 => ?_
      obtain ⟨rfl, Kp49, E49_b48, F49_data_b48, F49_position_b48⟩ := q49
      have E49k_b43 := E48_b43.keep Kp49
      have E49k_b48 := E_b48.keep Kp49
      have A49k_b43 := A48_b43.keep Kp49 (ninS ne_b43_b48 nin0)
      replace X49 := X49.more (cells' := 2) (slots' := 4) (by decide) (by decide)
      show Jvm.OwnKit.Ends p e below s n0 16 128 _ T49 (mkF m 68 #[.val (.int u1), .val (.int u2), .val (.int u3), .val (.int (2 : Int32)), .val (.int (2 : Int32)), .val (.ref b43), .unset, .unset] [(.ref b48)])
      refine F_astore X49 at_68 rfl (Ls' := #[.val (.int u1), .val (.int u2), .val (.int u3), .val (.int (2 : Int32)), .val (.int (2 : Int32)), .val (.ref b43), .val (.ref b48), .unset]) rfl (pc' := 70) rfl ?_
      refine F_aload X49 at_70 rfl rfl (pc' := 72) rfl ?_
      refine F_callV X49 (y := (⟨"com/example/libdeleg/libdeleg/cose/CborReader", "atEnd", "()Z"⟩ : MethodName)) (stk := []) (wd16 hw) (wd17 hw) (wd19 hw) (wd18 hw) (wd7 hw) (wd20 hw) (by decide) (a := b48) E49_b48 (argsL := []) (conE l Z a0 hw n0 h49 X49.size b48 b43 [(.int (bl u2 (0 : Int32))), (.int (bl u2 (1 : Int32)))] (0 : Int32) (2 : Int32) F49_data_b48 F49_position_b48 A49k_b43 (by first | decide | rfl | exact own_bl _ _)) (by decide) (W := 0) (Nat.le_of_ble_eq_true rfl) (by decide) (by decide) (by decide) rfl (lenOf pd0 rfl) rfl at_72 (pc' := 75) rfl fun T50 v50 h50 X50 q50 => ?_
      obtain ⟨rfl, rfl⟩ := q50
      replace X50 := X50.more (cells' := 2) (slots' := 4) (by decide) (by decide)
      show Jvm.OwnKit.Ends p e below s n0 16 128 _ T50 (mkF m 75 #[.val (.int u1), .val (.int u2), .val (.int u3), .val (.int (2 : Int32)), .val (.int (2 : Int32)), .val (.ref b43), .val (.ref b48), .unset] [(.int (ae (0 : Int32) (2 : Int32)))])
      rw [show (ae (0 : Int32) (2 : Int32)) = (0 : Int32) from by decide]
      refine F_iloadN X50 at_75 rfl (pc' := 76) rfl ?_
      refine F_if_ne X50 at_76 (by decide) (pt := 83) (by decide) (pc' := 79) rfl (fun _ => ?_) (fun q => absurd q (by decide))
      refine F_iconst X50 at_83 (z := (0 : Int32)) (by decide) (pc' := 84) rfl ?_
      refine F_icmp_ne X50 at_84 (by decide) (pt := 91) (by decide) (pc' := 87) rfl (fun q => absurd q (by decide)) (fun _ => ?_)
      refine F_iconst X50 at_87 (z := (1 : Int32)) (by decide) (pc' := 88) rfl ?_
      refine F_goto X50 at_88 (by decide) (pc' := 92) (by decide) ?_
      refine F_istore X50 at_92 (Ls' := #[.val (.int u1), .val (.int u2), .val (.int u3), .val (.int (2 : Int32)), .val (.int (2 : Int32)), .val (.ref b43), .val (.ref b48), .val (.int (1 : Int32))]) rfl (pc' := 94) rfl ?_
      refine F_iload X50 at_94 rfl (pc' := 96) rfl ?_
      refine F_iconst X50 at_96 (z := (1 : Int32)) (by decide) (pc' := 97) rfl ?_
      refine F_icmp_lt X50 at_97 (by decide) (pt := 136) (by decide) (pc' := 100) rfl (fun q => absurd q (by decide)) (fun _ => ?_)
      refine F_aload X50 at_100 rfl rfl (pc' := 102) rfl ?_
      refine F_callV X50 (y := (⟨"com/example/libdeleg/libdeleg/cose/CborReader", "readBoolean", "()Z"⟩ : MethodName)) (stk := []) (wd27 hw) (wd28 hw) (wd30 hw) (wd29 hw) (wd7 hw) (wd31 hw) (by decide) (a := b48) E49_b48 (argsL := []) (conB l Z a0 hw n0 h49 X50.size b48 b43 [(.int (bl u2 (0 : Int32))), (.int (bl u2 (1 : Int32)))] (0 : Int32) (2 : Int32) (bl u2 (0 : Int32)) (1 : Int32) E49_b48 F49_data_b48 F49_position_b48 A49k_b43 ge48 ne_b43_b48 (by first | decide | rfl | exact own_bl _ _) (by first | decide | rfl | exact own_bl _ _) (by first | decide | rfl | exact own_bl _ _) (by first | decide | rfl | exact own_bl _ _) (by first | decide | rfl | exact own_bl _ _) (by first | decide | rfl | exact own_bl _ _)) (by decide) (W := 0) (Nat.le_of_ble_eq_true rfl) (by decide) (by decide) (by decide) rfl (lenOf pd0 rfl) rfl at_102 (pc' := 105) rfl fun T51 v51 h51 X51 q51 => ?_
      obtain ⟨rfl, Kp51, E51_b48, F51_data_b48, F51_position_b48⟩ := q51
      have E51k_b43 := E49k_b43.keep Kp51
      have E51k_b48 := E49_b48.keep Kp51
      have A51k_b43 := A49k_b43.keep Kp51 (ninS ne_b43_b48 nin0)
      replace X51 := X51.more (cells' := 2) (slots' := 4) (by decide) (by decide)
      show Jvm.OwnKit.Ends p e below s n0 16 128 _ T51 (mkF m 105 #[.val (.int u1), .val (.int u2), .val (.int u3), .val (.int (2 : Int32)), .val (.int (2 : Int32)), .val (.ref b43), .val (.ref b48), .val (.int (1 : Int32))] [(.int (rb (bl u2 (0 : Int32))))])
      refine F_pop X51 at_105 rfl (pc' := 106) rfl ?_
      refine F_iload X51 at_106 rfl (pc' := 108) rfl ?_
      refine F_if_eq X51 at_108 (by decide) (pt := 133) (by decide) (pc' := 111) rfl (fun q => absurd q (by decide)) (fun _ => ?_)
      refine F_aload X51 at_111 rfl rfl (pc' := 113) rfl ?_
      refine F_callV X51 (y := (⟨"com/example/libdeleg/libdeleg/cose/CborReader", "atEnd", "()Z"⟩ : MethodName)) (stk := []) (wd16 hw) (wd17 hw) (wd19 hw) (wd18 hw) (wd7 hw) (wd20 hw) (by decide) (a := b48) E51_b48 (argsL := []) (conE l Z a0 hw n0 h51 X51.size b48 b43 [(.int (bl u2 (0 : Int32))), (.int (bl u2 (1 : Int32)))] (1 : Int32) (2 : Int32) F51_data_b48 F51_position_b48 A51k_b43 (by first | decide | rfl | exact own_bl _ _)) (by decide) (W := 0) (Nat.le_of_ble_eq_true rfl) (by decide) (by decide) (by decide) rfl (lenOf pd0 rfl) rfl at_113 (pc' := 116) rfl fun T52 v52 h52 X52 q52 => ?_
      obtain ⟨rfl, rfl⟩ := q52
      replace X52 := X52.more (cells' := 2) (slots' := 4) (by decide) (by decide)
      show Jvm.OwnKit.Ends p e below s n0 16 128 _ T52 (mkF m 116 #[.val (.int u1), .val (.int u2), .val (.int u3), .val (.int (2 : Int32)), .val (.int (2 : Int32)), .val (.ref b43), .val (.ref b48), .val (.int (1 : Int32))] [(.int (ae (1 : Int32) (2 : Int32)))])
      rw [show (ae (1 : Int32) (2 : Int32)) = (0 : Int32) from by decide]
      refine F_iloadN X52 at_116 rfl (pc' := 117) rfl ?_
      refine F_iconst X52 at_117 (z := (1 : Int32)) (by decide) (pc' := 118) rfl ?_
      refine F_icmp_ne X52 at_118 (by decide) (pt := 125) (by decide) (pc' := 121) rfl (fun _ => ?_) (fun q => absurd q (by decide))
      refine F_iconst X52 at_125 (z := (0 : Int32)) (by decide) (pc' := 126) rfl ?_
      refine F_icmp_ne X52 at_126 (by decide) (pt := 133) (by decide) (pc' := 129) rfl (fun q => absurd q (by decide)) (fun _ => ?_)
      refine F_iconst X52 at_129 (z := (1 : Int32)) (by decide) (pc' := 130) rfl ?_
      refine F_goto X52 at_130 (by decide) (pc' := 134) (by decide) ?_
      refine F_istore X52 at_134 (Ls' := #[.val (.int u1), .val (.int u2), .val (.int u3), .val (.int (2 : Int32)), .val (.int (2 : Int32)), .val (.ref b43), .val (.ref b48), .val (.int (1 : Int32))]) rfl (pc' := 136) rfl ?_
      refine F_iload X52 at_136 rfl (pc' := 138) rfl ?_
      refine F_iconst X52 at_138 (z := (2 : Int32)) (by decide) (pc' := 139) rfl ?_
      refine F_icmp_lt X52 at_139 (by decide) (pt := 178) (by decide) (pc' := 142) rfl (fun q => absurd q (by decide)) (fun _ => ?_)
      refine F_aload X52 at_142 rfl rfl (pc' := 144) rfl ?_
      refine F_callV X52 (y := (⟨"com/example/libdeleg/libdeleg/cose/CborReader", "readBoolean", "()Z"⟩ : MethodName)) (stk := []) (wd27 hw) (wd28 hw) (wd30 hw) (wd29 hw) (wd7 hw) (wd31 hw) (by decide) (a := b48) E51_b48 (argsL := []) (conB l Z a0 hw n0 h51 X52.size b48 b43 [(.int (bl u2 (0 : Int32))), (.int (bl u2 (1 : Int32)))] (1 : Int32) (2 : Int32) (bl u2 (1 : Int32)) (2 : Int32) E51_b48 F51_data_b48 F51_position_b48 A51k_b43 ge48 ne_b43_b48 (by first | decide | rfl | exact own_bl _ _) (by first | decide | rfl | exact own_bl _ _) (by first | decide | rfl | exact own_bl _ _) (by first | decide | rfl | exact own_bl _ _) (by first | decide | rfl | exact own_bl _ _) (by first | decide | rfl | exact own_bl _ _)) (by decide) (W := 0) (Nat.le_of_ble_eq_true rfl) (by decide) (by decide) (by decide) rfl (lenOf pd0 rfl) rfl at_144 (pc' := 147) rfl fun T53 v53 h53 X53 q53 => ?_
      obtain ⟨rfl, Kp53, E53_b48, F53_data_b48, F53_position_b48⟩ := q53
      have E53k_b43 := E51k_b43.keep Kp53
      have E53k_b48 := E51_b48.keep Kp53
      have A53k_b43 := A51k_b43.keep Kp53 (ninS ne_b43_b48 nin0)
      replace X53 := X53.more (cells' := 2) (slots' := 4) (by decide) (by decide)
      show Jvm.OwnKit.Ends p e below s n0 16 128 _ T53 (mkF m 147 #[.val (.int u1), .val (.int u2), .val (.int u3), .val (.int (2 : Int32)), .val (.int (2 : Int32)), .val (.ref b43), .val (.ref b48), .val (.int (1 : Int32))] [(.int (rb (bl u2 (1 : Int32))))])
      refine F_pop X53 at_147 rfl (pc' := 148) rfl ?_
      refine F_iload X53 at_148 rfl (pc' := 150) rfl ?_
      refine F_if_eq X53 at_150 (by decide) (pt := 175) (by decide) (pc' := 153) rfl (fun q => absurd q (by decide)) (fun _ => ?_)
      refine F_aload X53 at_153 rfl rfl (pc' := 155) rfl ?_
      refine F_callV X53 (y := (⟨"com/example/libdeleg/libdeleg/cose/CborReader", "atEnd", "()Z"⟩ : MethodName)) (stk := []) (wd16 hw) (wd17 hw) (wd19 hw) (wd18 hw) (wd7 hw) (wd20 hw) (by decide) (a := b48) E53_b48 (argsL := []) (conE l Z a0 hw n0 h53 X53.size b48 b43 [(.int (bl u2 (0 : Int32))), (.int (bl u2 (1 : Int32)))] (2 : Int32) (2 : Int32) F53_data_b48 F53_position_b48 A53k_b43 (by first | decide | rfl | exact own_bl _ _)) (by decide) (W := 0) (Nat.le_of_ble_eq_true rfl) (by decide) (by decide) (by decide) rfl (lenOf pd0 rfl) rfl at_155 (pc' := 158) rfl fun T54 v54 h54 X54 q54 => ?_
      obtain ⟨rfl, rfl⟩ := q54
      replace X54 := X54.more (cells' := 2) (slots' := 4) (by decide) (by decide)
      show Jvm.OwnKit.Ends p e below s n0 16 128 _ T54 (mkF m 158 #[.val (.int u1), .val (.int u2), .val (.int u3), .val (.int (2 : Int32)), .val (.int (2 : Int32)), .val (.ref b43), .val (.ref b48), .val (.int (1 : Int32))] [(.int (ae (2 : Int32) (2 : Int32)))])
      rw [show (ae (2 : Int32) (2 : Int32)) = (1 : Int32) from by decide]
      refine F_iloadN X54 at_158 rfl (pc' := 159) rfl ?_
      refine F_iconst X54 at_159 (z := (2 : Int32)) (by decide) (pc' := 160) rfl ?_
      refine F_icmp_ne X54 at_160 (by decide) (pt := 167) (by decide) (pc' := 163) rfl (fun q => absurd q (by decide)) (fun _ => ?_)
      refine F_iconst X54 at_163 (z := (1 : Int32)) (by decide) (pc' := 164) rfl ?_
      refine F_goto X54 at_164 (by decide) (pc' := 168) (by decide) ?_
      refine F_icmp_ne X54 at_168 (by decide) (pt := 175) (by decide) (pc' := 171) rfl (fun q => absurd q (by decide)) (fun _ => ?_)
      refine F_iconst X54 at_171 (z := (1 : Int32)) (by decide) (pc' := 172) rfl ?_
      refine F_goto X54 at_172 (by decide) (pc' := 176) (by decide) ?_
      refine F_istore X54 at_176 (Ls' := #[.val (.int u1), .val (.int u2), .val (.int u3), .val (.int (2 : Int32)), .val (.int (2 : Int32)), .val (.ref b43), .val (.ref b48), .val (.int (1 : Int32))]) rfl (pc' := 178) rfl ?_
      refine F_iload X54 at_178 rfl (pc' := 180) rfl ?_
      refine F_iconst X54 at_180 (z := (3 : Int32)) (by decide) (pc' := 181) rfl ?_
      refine F_icmp_lt X54 at_181 (by decide) (pt := 220) (by decide) (pc' := 184) rfl (fun _ => ?_) (fun q => absurd q (by decide))
      refine F_iload X54 at_220 rfl (pc' := 222) rfl ?_
      refine F_ireturn_boolean (z' := (1 : Int32)) X54 (by decide) at_222 rfl (by decide) (by decide) ?_
      exact rfl
  · refine F_iloadN X0 at_4 rfl (pc' := 5) rfl ?_
    refine F_iconst X0 at_5 (z := (3 : Int32)) (by decide) (pc' := 6) rfl ?_
    refine F_iand X0 at_6 rfl (pc' := 7) rfl ?_
    refine F_iloadN X0 at_7 rfl (pc' := 8) rfl ?_
    refine F_callS X0 (y := (⟨"java/lang/Math", "min", "(II)I"⟩ : MethodName)) (stk := []) (wd0 hw) (wd1 hw) (wd2 hw) (wd3 hw) (by decide) (argsL := [(.int (u3 &&& (3 : Int32))), (.int (3 : Int32))]) (con_min l Z a0 hw n0 h X0.size (u3 &&& (3 : Int32)) (3 : Int32)) (by decide) (W := 0) (Nat.le_of_ble_eq_true rfl) (by decide) (by decide) (by decide) rfl (lenOf pd2 rfl) rfl at_8 (pc' := 11) rfl fun T55 v55 h55 X55 q55 => ?_
    obtain ⟨rfl, rfl⟩ := q55
    replace X55 := X55.more (cells' := 0) (slots' := 0) (by decide) (by decide)
    show Jvm.OwnKit.Ends p e below s n0 16 128 _ T55 (mkF m 11 #[.val (.int u1), .val (.int u2), .val (.int u3), .val (.int (3 : Int32)), .unset, .unset, .unset, .unset] [(.int (imin (u3 &&& (3 : Int32)) (3 : Int32)))])
    rcases (own_k3 u3) with hs56 | hs56 | hs56 | hs56
    · rw [hs56]
      refine F_istore X55 at_11 (Ls' := #[.val (.int u1), .val (.int u2), .val (.int u3), .val (.int (3 : Int32)), .val (.int (0 : Int32)), .unset, .unset, .unset]) rfl (pc' := 13) rfl ?_
      refine F_iloadN X55 at_13 rfl (pc' := 14) rfl ?_
      refine F_newarray X55 (aty := .byte) (wd4 hw) (by decide) (cap := 3) (by decide) (by decide) (by decide) (by decide) (ad := "[B") rfl at_14 (pc' := 16) rfl fun T57 h57 b57 X57 Ex57 g57 ge57 E_b57 A57 => ?_
      replace A57 : AV Z h57 b57 .byte [(.int (0 : Int32)), (.int (0 : Int32)), (.int (0 : Int32))] := A57
      replace X57 := X57.more (cells' := 1) (slots' := 3) (by decide) (by decide)
      refine F_astore X57 at_16 rfl (Ls' := #[.val (.int u1), .val (.int u2), .val (.int u3), .val (.int (3 : Int32)), .val (.int (0 : Int32)), .val (.ref b57), .unset, .unset]) rfl (pc' := 18) rfl ?_
      refine F_iloadN X57 at_18 rfl (pc' := 19) rfl ?_
      refine F_if_le X57 at_19 (by decide) (pt := 31) (by decide) (pc' := 22) rfl (fun q => absurd q (by decide)) (fun _ => ?_)
      refine F_aload X57 at_22 rfl rfl (pc' := 24) rfl ?_
      refine F_iconst X57 at_24 (z := (0 : Int32)) (by decide) (pc' := 25) rfl ?_
      refine F_iloadN X57 at_25 rfl (pc' := 26) rfl ?_
      refine F_iconst X57 at_26 (z := (0 : Int32)) (by decide) (pc' := 27) rfl ?_
      refine F_callS X57 (y := (⟨"com/example/libdeleg/libdeleg/cose/CborReaderAtEndPinLaw", "bool", "(II)B"⟩ : MethodName)) (stk := [(.int (0 : Int32)), (.ref b57)]) (wd23 hw) (wd24 hw) (wd25 hw) (wd26 hw) (by decide) (argsL := [(.int u2), (.int (0 : Int32))]) (con_bool l Z a0 hw n0 h57 X57.size u2 (0 : Int32)) (by decide) (W := 2) (Nat.le_of_ble_eq_true rfl) (by decide) (by decide) (by decide) rfl (lenOf pd4 rfl) rfl at_27 (pc' := 30) rfl fun T58 v58 h58 X58 q58 => ?_
      obtain ⟨rfl, rfl⟩ := q58
      replace X58 := X58.more (cells' := 1) (slots' := 3) (by decide) (by decide)
      show Jvm.OwnKit.Ends p e below s n0 16 128 _ T58 (mkF m 30 #[.val (.int u1), .val (.int u2), .val (.int u3), .val (.int (3 : Int32)), .val (.int (0 : Int32)), .val (.ref b57), .unset, .unset] [(.int (bl u2 (0 : Int32))), (.int (0 : Int32)), (.ref b57)])
      refine F_bastore X58 A57 (by decide) (i := 0) (by decide) (Nat.le_of_ble_eq_true rfl) ge57 (z := (bl u2 (0 : Int32))) (own_bl8 _ _) at_30 (pc' := 31) rfl fun T59 h59 X59 W59 A59 => ?_
      replace A59 : AV Z h59 b57 .byte [(.int (bl u2 (0 : Int32))), (.int (0 : Int32)), (.int (0 : Int32))] := A59
      have E59_b57 := E_b57.wr W59
      refine F_iloadN X59 at_31 rfl (pc' := 32) rfl ?_
      refine F_iconst X59 at_32 (z := (1 : Int32)) (by decide) (pc' := 33) rfl ?_
      refine F_icmp_le X59 at_33 (by decide) (pt := 45) (by decide) (pc' := 36) rfl (fun q => absurd q (by decide)) (fun _ => ?_)
      refine F_aload X59 at_36 rfl rfl (pc' := 38) rfl ?_
      refine F_iconst X59 at_38 (z := (1 : Int32)) (by decide) (pc' := 39) rfl ?_
      refine F_iloadN X59 at_39 rfl (pc' := 40) rfl ?_
      refine F_iconst X59 at_40 (z := (1 : Int32)) (by decide) (pc' := 41) rfl ?_
      refine F_callS X59 (y := (⟨"com/example/libdeleg/libdeleg/cose/CborReaderAtEndPinLaw", "bool", "(II)B"⟩ : MethodName)) (stk := [(.int (1 : Int32)), (.ref b57)]) (wd23 hw) (wd24 hw) (wd25 hw) (wd26 hw) (by decide) (argsL := [(.int u2), (.int (1 : Int32))]) (con_bool l Z a0 hw n0 h59 X59.size u2 (1 : Int32)) (by decide) (W := 2) (Nat.le_of_ble_eq_true rfl) (by decide) (by decide) (by decide) rfl (lenOf pd4 rfl) rfl at_41 (pc' := 44) rfl fun T60 v60 h60 X60 q60 => ?_
      obtain ⟨rfl, rfl⟩ := q60
      replace X60 := X60.more (cells' := 1) (slots' := 3) (by decide) (by decide)
      show Jvm.OwnKit.Ends p e below s n0 16 128 _ T60 (mkF m 44 #[.val (.int u1), .val (.int u2), .val (.int u3), .val (.int (3 : Int32)), .val (.int (0 : Int32)), .val (.ref b57), .unset, .unset] [(.int (bl u2 (1 : Int32))), (.int (1 : Int32)), (.ref b57)])
      refine F_bastore X60 A59 (by decide) (i := 1) (by decide) (Nat.le_of_ble_eq_true rfl) ge57 (z := (bl u2 (1 : Int32))) (own_bl8 _ _) at_44 (pc' := 45) rfl fun T61 h61 X61 W61 A61 => ?_
      replace A61 : AV Z h61 b57 .byte [(.int (bl u2 (0 : Int32))), (.int (bl u2 (1 : Int32))), (.int (0 : Int32))] := A61
      have E61_b57 := E59_b57.wr W61
      refine F_iloadN X61 at_45 rfl (pc' := 46) rfl ?_
      refine F_iconst X61 at_46 (z := (2 : Int32)) (by decide) (pc' := 47) rfl ?_
      refine F_icmp_le X61 at_47 (by decide) (pt := 59) (by decide) (pc' := 50) rfl (fun q => absurd q (by decide)) (fun _ => ?_)
      refine F_aload X61 at_50 rfl rfl (pc' := 52) rfl ?_
      refine F_iconst X61 at_52 (z := (2 : Int32)) (by decide) (pc' := 53) rfl ?_
      refine F_iloadN X61 at_53 rfl (pc' := 54) rfl ?_
      refine F_iconst X61 at_54 (z := (2 : Int32)) (by decide) (pc' := 55) rfl ?_
      refine F_callS X61 (y := (⟨"com/example/libdeleg/libdeleg/cose/CborReaderAtEndPinLaw", "bool", "(II)B"⟩ : MethodName)) (stk := [(.int (2 : Int32)), (.ref b57)]) (wd23 hw) (wd24 hw) (wd25 hw) (wd26 hw) (by decide) (argsL := [(.int u2), (.int (2 : Int32))]) (con_bool l Z a0 hw n0 h61 X61.size u2 (2 : Int32)) (by decide) (W := 2) (Nat.le_of_ble_eq_true rfl) (by decide) (by decide) (by decide) rfl (lenOf pd4 rfl) rfl at_55 (pc' := 58) rfl fun T62 v62 h62 X62 q62 => ?_
      obtain ⟨rfl, rfl⟩ := q62
      replace X62 := X62.more (cells' := 1) (slots' := 3) (by decide) (by decide)
      show Jvm.OwnKit.Ends p e below s n0 16 128 _ T62 (mkF m 58 #[.val (.int u1), .val (.int u2), .val (.int u3), .val (.int (3 : Int32)), .val (.int (0 : Int32)), .val (.ref b57), .unset, .unset] [(.int (bl u2 (2 : Int32))), (.int (2 : Int32)), (.ref b57)])
      refine F_bastore X62 A61 (by decide) (i := 2) (by decide) (Nat.le_of_ble_eq_true rfl) ge57 (z := (bl u2 (2 : Int32))) (own_bl8 _ _) at_58 (pc' := 59) rfl fun T63 h63 X63 W63 A63 => ?_
      replace A63 : AV Z h63 b57 .byte [(.int (bl u2 (0 : Int32))), (.int (bl u2 (1 : Int32))), (.int (bl u2 (2 : Int32)))] := A63
      have E63_b57 := E61_b57.wr W63
      refine F_new X63 (wd5 hw) (wd6 hw) (wd7 hw) (by decide) (by decide) at_59 (pc' := 62) rfl fun T64 h64 b64 X64 Ex64 g64 ge64 E_b64 D64 => ?_
      have ne_b57_b64 : b57 ≠ b64 := Nat.ne_of_lt (Nat.lt_of_lt_of_le E63_b57.lt (Nat.le_of_eq g64.symm))
      have E64_b57 := E63_b57.ext Ex64
      have A64_b57 := A63.ext Ex64
      have F64_data_b64 : Fld Z h64 b64 "com/example/libdeleg/libdeleg/cose/CborReader" "data" "[B" .null := D64 (Or.inr (wd15 hw)) (ty := (.array .byte)) (by decide)
      have F64_position_b64 : Fld Z h64 b64 "com/example/libdeleg/libdeleg/cose/CborReader" "position" "I" (.int (0 : Int32)) := D64 (Or.inl (wd22 hw)) (ty := .int) (by decide)
      replace X64 := X64.more (cells' := 2) (slots' := 5) (by decide) (by decide)
      refine F_dup X64 at_62 rfl (pc' := 63) rfl ?_
      refine F_aload X64 at_63 rfl rfl (pc' := 65) rfl ?_
      refine F_init X64 (y := (⟨"com/example/libdeleg/libdeleg/cose/CborReader", "<init>", "([B)V"⟩ : MethodName)) (stk := [(.ref b64)]) rfl (wd8 hw) (wd9 hw) (wd7 hw) (wd10 hw) (by decide) (a := b64) (argsL := [(.ref b57)]) (conI l Z a0 hw n0 h64 X64.size b64 b57 E_b64 F64_data_b64 F64_position_b64 ge64) (by decide) (W := 1) (Nat.le_of_ble_eq_true rfl) (by decide) (by decide) (by decide) rfl (lenOf pd3 rfl) rfl at_65 (pc' := 68) rfl fun T65 v65 h65 X65 q65 => ?_
      obtain ⟨rfl, Kp65, E65_b64, F65_data_b64, F65_position_b64⟩ := q65
      have E65k_b57 := E64_b57.keep Kp65
      have E65k_b64 := E_b64.keep Kp65
      have A65k_b57 := A64_b57.keep Kp65 (ninS ne_b57_b64 nin0)
      replace X65 := X65.more (cells' := 2) (slots' := 5) (by decide) (by decide)
      show Jvm.OwnKit.Ends p e below s n0 16 128 _ T65 (mkF m 68 #[.val (.int u1), .val (.int u2), .val (.int u3), .val (.int (3 : Int32)), .val (.int (0 : Int32)), .val (.ref b57), .unset, .unset] [(.ref b64)])
      refine F_astore X65 at_68 rfl (Ls' := #[.val (.int u1), .val (.int u2), .val (.int u3), .val (.int (3 : Int32)), .val (.int (0 : Int32)), .val (.ref b57), .val (.ref b64), .unset]) rfl (pc' := 70) rfl ?_
      refine F_aload X65 at_70 rfl rfl (pc' := 72) rfl ?_
      refine F_callV X65 (y := (⟨"com/example/libdeleg/libdeleg/cose/CborReader", "atEnd", "()Z"⟩ : MethodName)) (stk := []) (wd16 hw) (wd17 hw) (wd19 hw) (wd18 hw) (wd7 hw) (wd20 hw) (by decide) (a := b64) E65_b64 (argsL := []) (conE l Z a0 hw n0 h65 X65.size b64 b57 [(.int (bl u2 (0 : Int32))), (.int (bl u2 (1 : Int32))), (.int (bl u2 (2 : Int32)))] (0 : Int32) (3 : Int32) F65_data_b64 F65_position_b64 A65k_b57 (by first | decide | rfl | exact own_bl _ _)) (by decide) (W := 0) (Nat.le_of_ble_eq_true rfl) (by decide) (by decide) (by decide) rfl (lenOf pd0 rfl) rfl at_72 (pc' := 75) rfl fun T66 v66 h66 X66 q66 => ?_
      obtain ⟨rfl, rfl⟩ := q66
      replace X66 := X66.more (cells' := 2) (slots' := 5) (by decide) (by decide)
      show Jvm.OwnKit.Ends p e below s n0 16 128 _ T66 (mkF m 75 #[.val (.int u1), .val (.int u2), .val (.int u3), .val (.int (3 : Int32)), .val (.int (0 : Int32)), .val (.ref b57), .val (.ref b64), .unset] [(.int (ae (0 : Int32) (3 : Int32)))])
      rw [show (ae (0 : Int32) (3 : Int32)) = (0 : Int32) from by decide]
      refine F_iloadN X66 at_75 rfl (pc' := 76) rfl ?_
      refine F_if_ne X66 at_76 (by decide) (pt := 83) (by decide) (pc' := 79) rfl (fun _ => ?_) (fun q => absurd q (by decide))
      refine F_iconst X66 at_83 (z := (0 : Int32)) (by decide) (pc' := 84) rfl ?_
      refine F_icmp_ne X66 at_84 (by decide) (pt := 91) (by decide) (pc' := 87) rfl (fun q => absurd q (by decide)) (fun _ => ?_)
      refine F_iconst X66 at_87 (z := (1 : Int32)) (by decide) (pc' := 88) rfl ?_
      refine F_goto X66 at_88 (by decide) (pc' := 92) (by decide) ?_
      refine F_istore X66 at_92 (Ls' := #[.val (.int u1), .val (.int u2), .val (.int u3), .val (.int (3 : Int32)), .val (.int (0 : Int32)), .val (.ref b57), .val (.ref b64), .val (.int (1 : Int32))]) rfl (pc' := 94) rfl ?_
      refine F_iload X66 at_94 rfl (pc' := 96) rfl ?_
      refine F_iconst X66 at_96 (z := (1 : Int32)) (by decide) (pc' := 97) rfl ?_
      refine F_icmp_lt X66 at_97 (by decide) (pt := 136) (by decide) (pc' := 100) rfl (fun _ => ?_) (fun q => absurd q (by decide))
      refine F_iload X66 at_136 rfl (pc' := 138) rfl ?_
      refine F_iconst X66 at_138 (z := (2 : Int32)) (by decide) (pc' := 139) rfl ?_
      refine F_icmp_lt X66 at_139 (by decide) (pt := 178) (by decide) (pc' := 142) rfl (fun _ => ?_) (fun q => absurd q (by decide))
      refine F_iload X66 at_178 rfl (pc' := 180) rfl ?_
      refine F_iconst X66 at_180 (z := (3 : Int32)) (by decide) (pc' := 181) rfl ?_
      refine F_icmp_lt X66 at_181 (by decide) (pt := 220) (by decide) (pc' := 184) rfl (fun _ => ?_) (fun q => absurd q (by decide))
      refine F_iload X66 at_220 rfl (pc' := 222) rfl ?_
      refine F_ireturn_boolean (z' := (1 : Int32)) X66 (by decide) at_222 rfl (by decide) (by decide) ?_
      exact rfl
    · rw [hs56]
      refine F_istore X55 at_11 (Ls' := #[.val (.int u1), .val (.int u2), .val (.int u3), .val (.int (3 : Int32)), .val (.int (1 : Int32)), .unset, .unset, .unset]) rfl (pc' := 13) rfl ?_
      refine F_iloadN X55 at_13 rfl (pc' := 14) rfl ?_
      refine F_newarray X55 (aty := .byte) (wd4 hw) (by decide) (cap := 3) (by decide) (by decide) (by decide) (by decide) (ad := "[B") rfl at_14 (pc' := 16) rfl fun T67 h67 b67 X67 Ex67 g67 ge67 E_b67 A67 => ?_
      replace A67 : AV Z h67 b67 .byte [(.int (0 : Int32)), (.int (0 : Int32)), (.int (0 : Int32))] := A67
      replace X67 := X67.more (cells' := 1) (slots' := 3) (by decide) (by decide)
      refine F_astore X67 at_16 rfl (Ls' := #[.val (.int u1), .val (.int u2), .val (.int u3), .val (.int (3 : Int32)), .val (.int (1 : Int32)), .val (.ref b67), .unset, .unset]) rfl (pc' := 18) rfl ?_
      refine F_iloadN X67 at_18 rfl (pc' := 19) rfl ?_
      refine F_if_le X67 at_19 (by decide) (pt := 31) (by decide) (pc' := 22) rfl (fun q => absurd q (by decide)) (fun _ => ?_)
      refine F_aload X67 at_22 rfl rfl (pc' := 24) rfl ?_
      refine F_iconst X67 at_24 (z := (0 : Int32)) (by decide) (pc' := 25) rfl ?_
      refine F_iloadN X67 at_25 rfl (pc' := 26) rfl ?_
      refine F_iconst X67 at_26 (z := (0 : Int32)) (by decide) (pc' := 27) rfl ?_
      refine F_callS X67 (y := (⟨"com/example/libdeleg/libdeleg/cose/CborReaderAtEndPinLaw", "bool", "(II)B"⟩ : MethodName)) (stk := [(.int (0 : Int32)), (.ref b67)]) (wd23 hw) (wd24 hw) (wd25 hw) (wd26 hw) (by decide) (argsL := [(.int u2), (.int (0 : Int32))]) (con_bool l Z a0 hw n0 h67 X67.size u2 (0 : Int32)) (by decide) (W := 2) (Nat.le_of_ble_eq_true rfl) (by decide) (by decide) (by decide) rfl (lenOf pd4 rfl) rfl at_27 (pc' := 30) rfl fun T68 v68 h68 X68 q68 => ?_
      obtain ⟨rfl, rfl⟩ := q68
      replace X68 := X68.more (cells' := 1) (slots' := 3) (by decide) (by decide)
      show Jvm.OwnKit.Ends p e below s n0 16 128 _ T68 (mkF m 30 #[.val (.int u1), .val (.int u2), .val (.int u3), .val (.int (3 : Int32)), .val (.int (1 : Int32)), .val (.ref b67), .unset, .unset] [(.int (bl u2 (0 : Int32))), (.int (0 : Int32)), (.ref b67)])
      refine F_bastore X68 A67 (by decide) (i := 0) (by decide) (Nat.le_of_ble_eq_true rfl) ge67 (z := (bl u2 (0 : Int32))) (own_bl8 _ _) at_30 (pc' := 31) rfl fun T69 h69 X69 W69 A69 => ?_
      replace A69 : AV Z h69 b67 .byte [(.int (bl u2 (0 : Int32))), (.int (0 : Int32)), (.int (0 : Int32))] := A69
      have E69_b67 := E_b67.wr W69
      refine F_iloadN X69 at_31 rfl (pc' := 32) rfl ?_
      refine F_iconst X69 at_32 (z := (1 : Int32)) (by decide) (pc' := 33) rfl ?_
      refine F_icmp_le X69 at_33 (by decide) (pt := 45) (by decide) (pc' := 36) rfl (fun q => absurd q (by decide)) (fun _ => ?_)
      refine F_aload X69 at_36 rfl rfl (pc' := 38) rfl ?_
      refine F_iconst X69 at_38 (z := (1 : Int32)) (by decide) (pc' := 39) rfl ?_
      refine F_iloadN X69 at_39 rfl (pc' := 40) rfl ?_
      refine F_iconst X69 at_40 (z := (1 : Int32)) (by decide) (pc' := 41) rfl ?_
      refine F_callS X69 (y := (⟨"com/example/libdeleg/libdeleg/cose/CborReaderAtEndPinLaw", "bool", "(II)B"⟩ : MethodName)) (stk := [(.int (1 : Int32)), (.ref b67)]) (wd23 hw) (wd24 hw) (wd25 hw) (wd26 hw) (by decide) (argsL := [(.int u2), (.int (1 : Int32))]) (con_bool l Z a0 hw n0 h69 X69.size u2 (1 : Int32)) (by decide) (W := 2) (Nat.le_of_ble_eq_true rfl) (by decide) (by decide) (by decide) rfl (lenOf pd4 rfl) rfl at_41 (pc' := 44) rfl fun T70 v70 h70 X70 q70 => ?_
      obtain ⟨rfl, rfl⟩ := q70
      replace X70 := X70.more (cells' := 1) (slots' := 3) (by decide) (by decide)
      show Jvm.OwnKit.Ends p e below s n0 16 128 _ T70 (mkF m 44 #[.val (.int u1), .val (.int u2), .val (.int u3), .val (.int (3 : Int32)), .val (.int (1 : Int32)), .val (.ref b67), .unset, .unset] [(.int (bl u2 (1 : Int32))), (.int (1 : Int32)), (.ref b67)])
      refine F_bastore X70 A69 (by decide) (i := 1) (by decide) (Nat.le_of_ble_eq_true rfl) ge67 (z := (bl u2 (1 : Int32))) (own_bl8 _ _) at_44 (pc' := 45) rfl fun T71 h71 X71 W71 A71 => ?_
      replace A71 : AV Z h71 b67 .byte [(.int (bl u2 (0 : Int32))), (.int (bl u2 (1 : Int32))), (.int (0 : Int32))] := A71
      have E71_b67 := E69_b67.wr W71
      refine F_iloadN X71 at_45 rfl (pc' := 46) rfl ?_
      refine F_iconst X71 at_46 (z := (2 : Int32)) (by decide) (pc' := 47) rfl ?_
      refine F_icmp_le X71 at_47 (by decide) (pt := 59) (by decide) (pc' := 50) rfl (fun q => absurd q (by decide)) (fun _ => ?_)
      refine F_aload X71 at_50 rfl rfl (pc' := 52) rfl ?_
      refine F_iconst X71 at_52 (z := (2 : Int32)) (by decide) (pc' := 53) rfl ?_
      refine F_iloadN X71 at_53 rfl (pc' := 54) rfl ?_
      refine F_iconst X71 at_54 (z := (2 : Int32)) (by decide) (pc' := 55) rfl ?_
      refine F_callS X71 (y := (⟨"com/example/libdeleg/libdeleg/cose/CborReaderAtEndPinLaw", "bool", "(II)B"⟩ : MethodName)) (stk := [(.int (2 : Int32)), (.ref b67)]) (wd23 hw) (wd24 hw) (wd25 hw) (wd26 hw) (by decide) (argsL := [(.int u2), (.int (2 : Int32))]) (con_bool l Z a0 hw n0 h71 X71.size u2 (2 : Int32)) (by decide) (W := 2) (Nat.le_of_ble_eq_true rfl) (by decide) (by decide) (by decide) rfl (lenOf pd4 rfl) rfl at_55 (pc' := 58) rfl fun T72 v72 h72 X72 q72 => ?_
      obtain ⟨rfl, rfl⟩ := q72
      replace X72 := X72.more (cells' := 1) (slots' := 3) (by decide) (by decide)
      show Jvm.OwnKit.Ends p e below s n0 16 128 _ T72 (mkF m 58 #[.val (.int u1), .val (.int u2), .val (.int u3), .val (.int (3 : Int32)), .val (.int (1 : Int32)), .val (.ref b67), .unset, .unset] [(.int (bl u2 (2 : Int32))), (.int (2 : Int32)), (.ref b67)])
      refine F_bastore X72 A71 (by decide) (i := 2) (by decide) (Nat.le_of_ble_eq_true rfl) ge67 (z := (bl u2 (2 : Int32))) (own_bl8 _ _) at_58 (pc' := 59) rfl fun T73 h73 X73 W73 A73 => ?_
      replace A73 : AV Z h73 b67 .byte [(.int (bl u2 (0 : Int32))), (.int (bl u2 (1 : Int32))), (.int (bl u2 (2 : Int32)))] := A73
      have E73_b67 := E71_b67.wr W73
      refine F_new X73 (wd5 hw) (wd6 hw) (wd7 hw) (by decide) (by decide) at_59 (pc' := 62) rfl fun T74 h74 b74 X74 Ex74 g74 ge74 E_b74 D74 => ?_
      have ne_b67_b74 : b67 ≠ b74 := Nat.ne_of_lt (Nat.lt_of_lt_of_le E73_b67.lt (Nat.le_of_eq g74.symm))
      have E74_b67 := E73_b67.ext Ex74
      have A74_b67 := A73.ext Ex74
      have F74_data_b74 : Fld Z h74 b74 "com/example/libdeleg/libdeleg/cose/CborReader" "data" "[B" .null := D74 (Or.inr (wd15 hw)) (ty := (.array .byte)) (by decide)
      have F74_position_b74 : Fld Z h74 b74 "com/example/libdeleg/libdeleg/cose/CborReader" "position" "I" (.int (0 : Int32)) := D74 (Or.inl (wd22 hw)) (ty := .int) (by decide)
      replace X74 := X74.more (cells' := 2) (slots' := 5) (by decide) (by decide)
      refine F_dup X74 at_62 rfl (pc' := 63) rfl ?_
      refine F_aload X74 at_63 rfl rfl (pc' := 65) rfl ?_
      refine F_init X74 (y := (⟨"com/example/libdeleg/libdeleg/cose/CborReader", "<init>", "([B)V"⟩ : MethodName)) (stk := [(.ref b74)]) rfl (wd8 hw) (wd9 hw) (wd7 hw) (wd10 hw) (by decide) (a := b74) (argsL := [(.ref b67)]) (conI l Z a0 hw n0 h74 X74.size b74 b67 E_b74 F74_data_b74 F74_position_b74 ge74) (by decide) (W := 1) (Nat.le_of_ble_eq_true rfl) (by decide) (by decide) (by decide) rfl (lenOf pd3 rfl) rfl at_65 (pc' := 68) rfl fun T75 v75 h75 X75 q75 => ?_
      obtain ⟨rfl, Kp75, E75_b74, F75_data_b74, F75_position_b74⟩ := q75
      have E75k_b67 := E74_b67.keep Kp75
      have E75k_b74 := E_b74.keep Kp75
      have A75k_b67 := A74_b67.keep Kp75 (ninS ne_b67_b74 nin0)
      replace X75 := X75.more (cells' := 2) (slots' := 5) (by decide) (by decide)
      show Jvm.OwnKit.Ends p e below s n0 16 128 _ T75 (mkF m 68 #[.val (.int u1), .val (.int u2), .val (.int u3), .val (.int (3 : Int32)), .val (.int (1 : Int32)), .val (.ref b67), .unset, .unset] [(.ref b74)])
      refine F_astore X75 at_68 rfl (Ls' := #[.val (.int u1), .val (.int u2), .val (.int u3), .val (.int (3 : Int32)), .val (.int (1 : Int32)), .val (.ref b67), .val (.ref b74), .unset]) rfl (pc' := 70) rfl ?_
      refine F_aload X75 at_70 rfl rfl (pc' := 72) rfl ?_
      refine F_callV X75 (y := (⟨"com/example/libdeleg/libdeleg/cose/CborReader", "atEnd", "()Z"⟩ : MethodName)) (stk := []) (wd16 hw) (wd17 hw) (wd19 hw) (wd18 hw) (wd7 hw) (wd20 hw) (by decide) (a := b74) E75_b74 (argsL := []) (conE l Z a0 hw n0 h75 X75.size b74 b67 [(.int (bl u2 (0 : Int32))), (.int (bl u2 (1 : Int32))), (.int (bl u2 (2 : Int32)))] (0 : Int32) (3 : Int32) F75_data_b74 F75_position_b74 A75k_b67 (by first | decide | rfl | exact own_bl _ _)) (by decide) (W := 0) (Nat.le_of_ble_eq_true rfl) (by decide) (by decide) (by decide) rfl (lenOf pd0 rfl) rfl at_72 (pc' := 75) rfl fun T76 v76 h76 X76 q76 => ?_
      obtain ⟨rfl, rfl⟩ := q76
      replace X76 := X76.more (cells' := 2) (slots' := 5) (by decide) (by decide)
      show Jvm.OwnKit.Ends p e below s n0 16 128 _ T76 (mkF m 75 #[.val (.int u1), .val (.int u2), .val (.int u3), .val (.int (3 : Int32)), .val (.int (1 : Int32)), .val (.ref b67), .val (.ref b74), .unset] [(.int (ae (0 : Int32) (3 : Int32)))])
      rw [show (ae (0 : Int32) (3 : Int32)) = (0 : Int32) from by decide]
      refine F_iloadN X76 at_75 rfl (pc' := 76) rfl ?_
      refine F_if_ne X76 at_76 (by decide) (pt := 83) (by decide) (pc' := 79) rfl (fun _ => ?_) (fun q => absurd q (by decide))
      refine F_iconst X76 at_83 (z := (0 : Int32)) (by decide) (pc' := 84) rfl ?_
      refine F_icmp_ne X76 at_84 (by decide) (pt := 91) (by decide) (pc' := 87) rfl (fun q => absurd q (by decide)) (fun _ => ?_)
      refine F_iconst X76 at_87 (z := (1 : Int32)) (by decide) (pc' := 88) rfl ?_
      refine F_goto X76 at_88 (by decide) (pc' := 92) (by decide) ?_
      refine F_istore X76 at_92 (Ls' := #[.val (.int u1), .val (.int u2), .val (.int u3), .val (.int (3 : Int32)), .val (.int (1 : Int32)), .val (.ref b67), .val (.ref b74), .val (.int (1 : Int32))]) rfl (pc' := 94) rfl ?_
      refine F_iload X76 at_94 rfl (pc' := 96) rfl ?_
      refine F_iconst X76 at_96 (z := (1 : Int32)) (by decide) (pc' := 97) rfl ?_
      refine F_icmp_lt X76 at_97 (by decide) (pt := 136) (by decide) (pc' := 100) rfl (fun q => absurd q (by decide)) (fun _ => ?_)
      refine F_aload X76 at_100 rfl rfl (pc' := 102) rfl ?_
      refine F_callV X76 (y := (⟨"com/example/libdeleg/libdeleg/cose/CborReader", "readBoolean", "()Z"⟩ : MethodName)) (stk := []) (wd27 hw) (wd28 hw) (wd30 hw) (wd29 hw) (wd7 hw) (wd31 hw) (by decide) (a := b74) E75_b74 (argsL := []) (conB l Z a0 hw n0 h75 X76.size b74 b67 [(.int (bl u2 (0 : Int32))), (.int (bl u2 (1 : Int32))), (.int (bl u2 (2 : Int32)))] (0 : Int32) (3 : Int32) (bl u2 (0 : Int32)) (1 : Int32) E75_b74 F75_data_b74 F75_position_b74 A75k_b67 ge74 ne_b67_b74 (by first | decide | rfl | exact own_bl _ _) (by first | decide | rfl | exact own_bl _ _) (by first | decide | rfl | exact own_bl _ _) (by first | decide | rfl | exact own_bl _ _) (by first | decide | rfl | exact own_bl _ _) (by first | decide | rfl | exact own_bl _ _)) (by decide) (W := 0) (Nat.le_of_ble_eq_true rfl) (by decide) (by decide) (by decide) rfl (lenOf pd0 rfl) rfl at_102 (pc' := 105) rfl fun T77 v77 h77 X77 q77 => ?_
      obtain ⟨rfl, Kp77, E77_b74, F77_data_b74, F77_position_b74⟩ := q77
      have E77k_b67 := E75k_b67.keep Kp77
      have E77k_b74 := E75_b74.keep Kp77
      have A77k_b67 := A75k_b67.keep Kp77 (ninS ne_b67_b74 nin0)
      replace X77 := X77.more (cells' := 2) (slots' := 5) (by decide) (by decide)
      show Jvm.OwnKit.Ends p e below s n0 16 128 _ T77 (mkF m 105 #[.val (.int u1), .val (.int u2), .val (.int u3), .val (.int (3 : Int32)), .val (.int (1 : Int32)), .val (.ref b67), .val (.ref b74), .val (.int (1 : Int32))] [(.int (rb (bl u2 (0 : Int32))))])
      refine F_pop X77 at_105 rfl (pc' := 106) rfl ?_
      refine F_iload X77 at_106 rfl (pc' := 108) rfl ?_
      refine F_if_eq X77 at_108 (by decide) (pt := 133) (by decide) (pc' := 111) rfl (fun q => absurd q (by decide)) (fun _ => ?_)
      refine F_aload X77 at_111 rfl rfl (pc' := 113) rfl ?_
      refine F_callV X77 (y := (⟨"com/example/libdeleg/libdeleg/cose/CborReader", "atEnd", "()Z"⟩ : MethodName)) (stk := []) (wd16 hw) (wd17 hw) (wd19 hw) (wd18 hw) (wd7 hw) (wd20 hw) (by decide) (a := b74) E77_b74 (argsL := []) (conE l Z a0 hw n0 h77 X77.size b74 b67 [(.int (bl u2 (0 : Int32))), (.int (bl u2 (1 : Int32))), (.int (bl u2 (2 : Int32)))] (1 : Int32) (3 : Int32) F77_data_b74 F77_position_b74 A77k_b67 (by first | decide | rfl | exact own_bl _ _)) (by decide) (W := 0) (Nat.le_of_ble_eq_true rfl) (by decide) (by decide) (by decide) rfl (lenOf pd0 rfl) rfl at_113 (pc' := 116) rfl fun T78 v78 h78 X78 q78 => ?_
      obtain ⟨rfl, rfl⟩ := q78
      replace X78 := X78.more (cells' := 2) (slots' := 5) (by decide) (by decide)
      show Jvm.OwnKit.Ends p e below s n0 16 128 _ T78 (mkF m 116 #[.val (.int u1), .val (.int u2), .val (.int u3), .val (.int (3 : Int32)), .val (.int (1 : Int32)), .val (.ref b67), .val (.ref b74), .val (.int (1 : Int32))] [(.int (ae (1 : Int32) (3 : Int32)))])
      rw [show (ae (1 : Int32) (3 : Int32)) = (0 : Int32) from by decide]
      refine F_iloadN X78 at_116 rfl (pc' := 117) rfl ?_
      refine F_iconst X78 at_117 (z := (1 : Int32)) (by decide) (pc' := 118) rfl ?_
      refine F_icmp_ne X78 at_118 (by decide) (pt := 125) (by decide) (pc' := 121) rfl (fun _ => ?_) (fun q => absurd q (by decide))
      refine F_iconst X78 at_125 (z := (0 : Int32)) (by decide) (pc' := 126) rfl ?_
      refine F_icmp_ne X78 at_126 (by decide) (pt := 133) (by decide) (pc' := 129) rfl (fun q => absurd q (by decide)) (fun _ => ?_)
      refine F_iconst X78 at_129 (z := (1 : Int32)) (by decide) (pc' := 130) rfl ?_
      refine F_goto X78 at_130 (by decide) (pc' := 134) (by decide) ?_
      refine F_istore X78 at_134 (Ls' := #[.val (.int u1), .val (.int u2), .val (.int u3), .val (.int (3 : Int32)), .val (.int (1 : Int32)), .val (.ref b67), .val (.ref b74), .val (.int (1 : Int32))]) rfl (pc' := 136) rfl ?_
      refine F_iload X78 at_136 rfl (pc' := 138) rfl ?_
      refine F_iconst X78 at_138 (z := (2 : Int32)) (by decide) (pc' := 139) rfl ?_
      refine F_icmp_lt X78 at_139 (by decide) (pt := 178) (by decide) (pc' := 142) rfl (fun _ => ?_) (fun q => absurd q (by decide))
      refine F_iload X78 at_178 rfl (pc' := 180) rfl ?_
      refine F_iconst X78 at_180 (z := (3 : Int32)) (by decide) (pc' := 181) rfl ?_
      refine F_icmp_lt X78 at_181 (by decide) (pt := 220) (by decide) (pc' := 184) rfl (fun _ => ?_) (fun q => absurd q (by decide))
      refine F_iload X78 at_220 rfl (pc' := 222) rfl ?_
      refine F_ireturn_boolean (z' := (1 : Int32)) X78 (by decide) at_222 rfl (by decide) (by decide) ?_
      exact rfl
    · rw [hs56]
      refine F_istore X55 at_11 (Ls' := #[.val (.int u1), .val (.int u2), .val (.int u3), .val (.int (3 : Int32)), .val (.int (2 : Int32)), .unset, .unset, .unset]) rfl (pc' := 13) rfl ?_
      refine F_iloadN X55 at_13 rfl (pc' := 14) rfl ?_
      refine F_newarray X55 (aty := .byte) (wd4 hw) (by decide) (cap := 3) (by decide) (by decide) (by decide) (by decide) (ad := "[B") rfl at_14 (pc' := 16) rfl fun T79 h79 b79 X79 Ex79 g79 ge79 E_b79 A79 => ?_
      replace A79 : AV Z h79 b79 .byte [(.int (0 : Int32)), (.int (0 : Int32)), (.int (0 : Int32))] := A79
      replace X79 := X79.more (cells' := 1) (slots' := 3) (by decide) (by decide)
      refine F_astore X79 at_16 rfl (Ls' := #[.val (.int u1), .val (.int u2), .val (.int u3), .val (.int (3 : Int32)), .val (.int (2 : Int32)), .val (.ref b79), .unset, .unset]) rfl (pc' := 18) rfl ?_
      refine F_iloadN X79 at_18 rfl (pc' := 19) rfl ?_
      refine F_if_le X79 at_19 (by decide) (pt := 31) (by decide) (pc' := 22) rfl (fun q => absurd q (by decide)) (fun _ => ?_)
      refine F_aload X79 at_22 rfl rfl (pc' := 24) rfl ?_
      refine F_iconst X79 at_24 (z := (0 : Int32)) (by decide) (pc' := 25) rfl ?_
      refine F_iloadN X79 at_25 rfl (pc' := 26) rfl ?_
      refine F_iconst X79 at_26 (z := (0 : Int32)) (by decide) (pc' := 27) rfl ?_
      refine F_callS X79 (y := (⟨"com/example/libdeleg/libdeleg/cose/CborReaderAtEndPinLaw", "bool", "(II)B"⟩ : MethodName)) (stk := [(.int (0 : Int32)), (.ref b79)]) (wd23 hw) (wd24 hw) (wd25 hw) (wd26 hw) (by decide) (argsL := [(.int u2), (.int (0 : Int32))]) (con_bool l Z a0 hw n0 h79 X79.size u2 (0 : Int32)) (by decide) (W := 2) (Nat.le_of_ble_eq_true rfl) (by decide) (by decide) (by decide) rfl (lenOf pd4 rfl) rfl at_27 (pc' := 30) rfl fun T80 v80 h80 X80 q80 => ?_
      obtain ⟨rfl, rfl⟩ := q80
      replace X80 := X80.more (cells' := 1) (slots' := 3) (by decide) (by decide)
      show Jvm.OwnKit.Ends p e below s n0 16 128 _ T80 (mkF m 30 #[.val (.int u1), .val (.int u2), .val (.int u3), .val (.int (3 : Int32)), .val (.int (2 : Int32)), .val (.ref b79), .unset, .unset] [(.int (bl u2 (0 : Int32))), (.int (0 : Int32)), (.ref b79)])
      refine F_bastore X80 A79 (by decide) (i := 0) (by decide) (Nat.le_of_ble_eq_true rfl) ge79 (z := (bl u2 (0 : Int32))) (own_bl8 _ _) at_30 (pc' := 31) rfl fun T81 h81 X81 W81 A81 => ?_
      replace A81 : AV Z h81 b79 .byte [(.int (bl u2 (0 : Int32))), (.int (0 : Int32)), (.int (0 : Int32))] := A81
      have E81_b79 := E_b79.wr W81
      refine F_iloadN X81 at_31 rfl (pc' := 32) rfl ?_
      refine F_iconst X81 at_32 (z := (1 : Int32)) (by decide) (pc' := 33) rfl ?_
      refine F_icmp_le X81 at_33 (by decide) (pt := 45) (by decide) (pc' := 36) rfl (fun q => absurd q (by decide)) (fun _ => ?_)
      refine F_aload X81 at_36 rfl rfl (pc' := 38) rfl ?_
      refine F_iconst X81 at_38 (z := (1 : Int32)) (by decide) (pc' := 39) rfl ?_
      refine F_iloadN X81 at_39 rfl (pc' := 40) rfl ?_
      refine F_iconst X81 at_40 (z := (1 : Int32)) (by decide) (pc' := 41) rfl ?_
      refine F_callS X81 (y := (⟨"com/example/libdeleg/libdeleg/cose/CborReaderAtEndPinLaw", "bool", "(II)B"⟩ : MethodName)) (stk := [(.int (1 : Int32)), (.ref b79)]) (wd23 hw) (wd24 hw) (wd25 hw) (wd26 hw) (by decide) (argsL := [(.int u2), (.int (1 : Int32))]) (con_bool l Z a0 hw n0 h81 X81.size u2 (1 : Int32)) (by decide) (W := 2) (Nat.le_of_ble_eq_true rfl) (by decide) (by decide) (by decide) rfl (lenOf pd4 rfl) rfl at_41 (pc' := 44) rfl fun T82 v82 h82 X82 q82 => ?_
      obtain ⟨rfl, rfl⟩ := q82
      replace X82 := X82.more (cells' := 1) (slots' := 3) (by decide) (by decide)
      show Jvm.OwnKit.Ends p e below s n0 16 128 _ T82 (mkF m 44 #[.val (.int u1), .val (.int u2), .val (.int u3), .val (.int (3 : Int32)), .val (.int (2 : Int32)), .val (.ref b79), .unset, .unset] [(.int (bl u2 (1 : Int32))), (.int (1 : Int32)), (.ref b79)])
      refine F_bastore X82 A81 (by decide) (i := 1) (by decide) (Nat.le_of_ble_eq_true rfl) ge79 (z := (bl u2 (1 : Int32))) (own_bl8 _ _) at_44 (pc' := 45) rfl fun T83 h83 X83 W83 A83 => ?_
      replace A83 : AV Z h83 b79 .byte [(.int (bl u2 (0 : Int32))), (.int (bl u2 (1 : Int32))), (.int (0 : Int32))] := A83
      have E83_b79 := E81_b79.wr W83
      refine F_iloadN X83 at_45 rfl (pc' := 46) rfl ?_
      refine F_iconst X83 at_46 (z := (2 : Int32)) (by decide) (pc' := 47) rfl ?_
      refine F_icmp_le X83 at_47 (by decide) (pt := 59) (by decide) (pc' := 50) rfl (fun q => absurd q (by decide)) (fun _ => ?_)
      refine F_aload X83 at_50 rfl rfl (pc' := 52) rfl ?_
      refine F_iconst X83 at_52 (z := (2 : Int32)) (by decide) (pc' := 53) rfl ?_
      refine F_iloadN X83 at_53 rfl (pc' := 54) rfl ?_
      refine F_iconst X83 at_54 (z := (2 : Int32)) (by decide) (pc' := 55) rfl ?_
      refine F_callS X83 (y := (⟨"com/example/libdeleg/libdeleg/cose/CborReaderAtEndPinLaw", "bool", "(II)B"⟩ : MethodName)) (stk := [(.int (2 : Int32)), (.ref b79)]) (wd23 hw) (wd24 hw) (wd25 hw) (wd26 hw) (by decide) (argsL := [(.int u2), (.int (2 : Int32))]) (con_bool l Z a0 hw n0 h83 X83.size u2 (2 : Int32)) (by decide) (W := 2) (Nat.le_of_ble_eq_true rfl) (by decide) (by decide) (by decide) rfl (lenOf pd4 rfl) rfl at_55 (pc' := 58) rfl fun T84 v84 h84 X84 q84 => ?_
      obtain ⟨rfl, rfl⟩ := q84
      replace X84 := X84.more (cells' := 1) (slots' := 3) (by decide) (by decide)
      show Jvm.OwnKit.Ends p e below s n0 16 128 _ T84 (mkF m 58 #[.val (.int u1), .val (.int u2), .val (.int u3), .val (.int (3 : Int32)), .val (.int (2 : Int32)), .val (.ref b79), .unset, .unset] [(.int (bl u2 (2 : Int32))), (.int (2 : Int32)), (.ref b79)])
      refine F_bastore X84 A83 (by decide) (i := 2) (by decide) (Nat.le_of_ble_eq_true rfl) ge79 (z := (bl u2 (2 : Int32))) (own_bl8 _ _) at_58 (pc' := 59) rfl fun T85 h85 X85 W85 A85 => ?_
      replace A85 : AV Z h85 b79 .byte [(.int (bl u2 (0 : Int32))), (.int (bl u2 (1 : Int32))), (.int (bl u2 (2 : Int32)))] := A85
      have E85_b79 := E83_b79.wr W85
      refine F_new X85 (wd5 hw) (wd6 hw) (wd7 hw) (by decide) (by decide) at_59 (pc' := 62) rfl fun T86 h86 b86 X86 Ex86 g86 ge86 E_b86 D86 => ?_
      have ne_b79_b86 : b79 ≠ b86 := Nat.ne_of_lt (Nat.lt_of_lt_of_le E85_b79.lt (Nat.le_of_eq g86.symm))
      have E86_b79 := E85_b79.ext Ex86
      have A86_b79 := A85.ext Ex86
      have F86_data_b86 : Fld Z h86 b86 "com/example/libdeleg/libdeleg/cose/CborReader" "data" "[B" .null := D86 (Or.inr (wd15 hw)) (ty := (.array .byte)) (by decide)
      have F86_position_b86 : Fld Z h86 b86 "com/example/libdeleg/libdeleg/cose/CborReader" "position" "I" (.int (0 : Int32)) := D86 (Or.inl (wd22 hw)) (ty := .int) (by decide)
      replace X86 := X86.more (cells' := 2) (slots' := 5) (by decide) (by decide)
      refine F_dup X86 at_62 rfl (pc' := 63) rfl ?_
      refine F_aload X86 at_63 rfl rfl (pc' := 65) rfl ?_
      refine F_init X86 (y := (⟨"com/example/libdeleg/libdeleg/cose/CborReader", "<init>", "([B)V"⟩ : MethodName)) (stk := [(.ref b86)]) rfl (wd8 hw) (wd9 hw) (wd7 hw) (wd10 hw) (by decide) (a := b86) (argsL := [(.ref b79)]) (conI l Z a0 hw n0 h86 X86.size b86 b79 E_b86 F86_data_b86 F86_position_b86 ge86) (by decide) (W := 1) (Nat.le_of_ble_eq_true rfl) (by decide) (by decide) (by decide) rfl (lenOf pd3 rfl) rfl at_65 (pc' := 68) rfl fun T87 v87 h87 X87 q87 => ?_
      obtain ⟨rfl, Kp87, E87_b86, F87_data_b86, F87_position_b86⟩ := q87
      have E87k_b79 := E86_b79.keep Kp87
      have E87k_b86 := E_b86.keep Kp87
      have A87k_b79 := A86_b79.keep Kp87 (ninS ne_b79_b86 nin0)
      replace X87 := X87.more (cells' := 2) (slots' := 5) (by decide) (by decide)
      show Jvm.OwnKit.Ends p e below s n0 16 128 _ T87 (mkF m 68 #[.val (.int u1), .val (.int u2), .val (.int u3), .val (.int (3 : Int32)), .val (.int (2 : Int32)), .val (.ref b79), .unset, .unset] [(.ref b86)])
      refine F_astore X87 at_68 rfl (Ls' := #[.val (.int u1), .val (.int u2), .val (.int u3), .val (.int (3 : Int32)), .val (.int (2 : Int32)), .val (.ref b79), .val (.ref b86), .unset]) rfl (pc' := 70) rfl ?_
      refine F_aload X87 at_70 rfl rfl (pc' := 72) rfl ?_
      refine F_callV X87 (y := (⟨"com/example/libdeleg/libdeleg/cose/CborReader", "atEnd", "()Z"⟩ : MethodName)) (stk := []) (wd16 hw) (wd17 hw) (wd19 hw) (wd18 hw) (wd7 hw) (wd20 hw) (by decide) (a := b86) E87_b86 (argsL := []) (conE l Z a0 hw n0 h87 X87.size b86 b79 [(.int (bl u2 (0 : Int32))), (.int (bl u2 (1 : Int32))), (.int (bl u2 (2 : Int32)))] (0 : Int32) (3 : Int32) F87_data_b86 F87_position_b86 A87k_b79 (by first | decide | rfl | exact own_bl _ _)) (by decide) (W := 0) (Nat.le_of_ble_eq_true rfl) (by decide) (by decide) (by decide) rfl (lenOf pd0 rfl) rfl at_72 (pc' := 75) rfl fun T88 v88 h88 X88 q88 => ?_
      obtain ⟨rfl, rfl⟩ := q88
      replace X88 := X88.more (cells' := 2) (slots' := 5) (by decide) (by decide)
      show Jvm.OwnKit.Ends p e below s n0 16 128 _ T88 (mkF m 75 #[.val (.int u1), .val (.int u2), .val (.int u3), .val (.int (3 : Int32)), .val (.int (2 : Int32)), .val (.ref b79), .val (.ref b86), .unset] [(.int (ae (0 : Int32) (3 : Int32)))])
      rw [show (ae (0 : Int32) (3 : Int32)) = (0 : Int32) from by decide]
      refine F_iloadN X88 at_75 rfl (pc' := 76) rfl ?_
      refine F_if_ne X88 at_76 (by decide) (pt := 83) (by decide) (pc' := 79) rfl (fun _ => ?_) (fun q => absurd q (by decide))
      refine F_iconst X88 at_83 (z := (0 : Int32)) (by decide) (pc' := 84) rfl ?_
      refine F_icmp_ne X88 at_84 (by decide) (pt := 91) (by decide) (pc' := 87) rfl (fun q => absurd q (by decide)) (fun _ => ?_)
      refine F_iconst X88 at_87 (z := (1 : Int32)) (by decide) (pc' := 88) rfl ?_
      refine F_goto X88 at_88 (by decide) (pc' := 92) (by decide) ?_
      refine F_istore X88 at_92 (Ls' := #[.val (.int u1), .val (.int u2), .val (.int u3), .val (.int (3 : Int32)), .val (.int (2 : Int32)), .val (.ref b79), .val (.ref b86), .val (.int (1 : Int32))]) rfl (pc' := 94) rfl ?_
      refine F_iload X88 at_94 rfl (pc' := 96) rfl ?_
      refine F_iconst X88 at_96 (z := (1 : Int32)) (by decide) (pc' := 97) rfl ?_
      refine F_icmp_lt X88 at_97 (by decide) (pt := 136) (by decide) (pc' := 100) rfl (fun q => absurd q (by decide)) (fun _ => ?_)
      refine F_aload X88 at_100 rfl rfl (pc' := 102) rfl ?_
      refine F_callV X88 (y := (⟨"com/example/libdeleg/libdeleg/cose/CborReader", "readBoolean", "()Z"⟩ : MethodName)) (stk := []) (wd27 hw) (wd28 hw) (wd30 hw) (wd29 hw) (wd7 hw) (wd31 hw) (by decide) (a := b86) E87_b86 (argsL := []) (conB l Z a0 hw n0 h87 X88.size b86 b79 [(.int (bl u2 (0 : Int32))), (.int (bl u2 (1 : Int32))), (.int (bl u2 (2 : Int32)))] (0 : Int32) (3 : Int32) (bl u2 (0 : Int32)) (1 : Int32) E87_b86 F87_data_b86 F87_position_b86 A87k_b79 ge86 ne_b79_b86 (by first | decide | rfl | exact own_bl _ _) (by first | decide | rfl | exact own_bl _ _) (by first | decide | rfl | exact own_bl _ _) (by first | decide | rfl | exact own_bl _ _) (by first | decide | rfl | exact own_bl _ _) (by first | decide | rfl | exact own_bl _ _)) (by decide) (W := 0) (Nat.le_of_ble_eq_true rfl) (by decide) (by decide) (by decide) rfl (lenOf pd0 rfl) rfl at_102 (pc' := 105) rfl fun T89 v89 h89 X89 q89 => ?_
      obtain ⟨rfl, Kp89, E89_b86, F89_data_b86, F89_position_b86⟩ := q89
      have E89k_b79 := E87k_b79.keep Kp89
      have E89k_b86 := E87_b86.keep Kp89
      have A89k_b79 := A87k_b79.keep Kp89 (ninS ne_b79_b86 nin0)
      replace X89 := X89.more (cells' := 2) (slots' := 5) (by decide) (by decide)
      show Jvm.OwnKit.Ends p e below s n0 16 128 _ T89 (mkF m 105 #[.val (.int u1), .val (.int u2), .val (.int u3), .val (.int (3 : Int32)), .val (.int (2 : Int32)), .val (.ref b79), .val (.ref b86), .val (.int (1 : Int32))] [(.int (rb (bl u2 (0 : Int32))))])
      refine F_pop X89 at_105 rfl (pc' := 106) rfl ?_
      refine F_iload X89 at_106 rfl (pc' := 108) rfl ?_
      refine F_if_eq X89 at_108 (by decide) (pt := 133) (by decide) (pc' := 111) rfl (fun q => absurd q (by decide)) (fun _ => ?_)
      refine F_aload X89 at_111 rfl rfl (pc' := 113) rfl ?_
      refine F_callV X89 (y := (⟨"com/example/libdeleg/libdeleg/cose/CborReader", "atEnd", "()Z"⟩ : MethodName)) (stk := []) (wd16 hw) (wd17 hw) (wd19 hw) (wd18 hw) (wd7 hw) (wd20 hw) (by decide) (a := b86) E89_b86 (argsL := []) (conE l Z a0 hw n0 h89 X89.size b86 b79 [(.int (bl u2 (0 : Int32))), (.int (bl u2 (1 : Int32))), (.int (bl u2 (2 : Int32)))] (1 : Int32) (3 : Int32) F89_data_b86 F89_position_b86 A89k_b79 (by first | decide | rfl | exact own_bl _ _)) (by decide) (W := 0) (Nat.le_of_ble_eq_true rfl) (by decide) (by decide) (by decide) rfl (lenOf pd0 rfl) rfl at_113 (pc' := 116) rfl fun T90 v90 h90 X90 q90 => ?_
      obtain ⟨rfl, rfl⟩ := q90
      replace X90 := X90.more (cells' := 2) (slots' := 5) (by decide) (by decide)
      show Jvm.OwnKit.Ends p e below s n0 16 128 _ T90 (mkF m 116 #[.val (.int u1), .val (.int u2), .val (.int u3), .val (.int (3 : Int32)), .val (.int (2 : Int32)), .val (.ref b79), .val (.ref b86), .val (.int (1 : Int32))] [(.int (ae (1 : Int32) (3 : Int32)))])
      rw [show (ae (1 : Int32) (3 : Int32)) = (0 : Int32) from by decide]
      refine F_iloadN X90 at_116 rfl (pc' := 117) rfl ?_
      refine F_iconst X90 at_117 (z := (1 : Int32)) (by decide) (pc' := 118) rfl ?_
      refine F_icmp_ne X90 at_118 (by decide) (pt := 125) (by decide) (pc' := 121) rfl (fun _ => ?_) (fun q => absurd q (by decide))
      refine F_iconst X90 at_125 (z := (0 : Int32)) (by decide) (pc' := 126) rfl ?_
      refine F_icmp_ne X90 at_126 (by decide) (pt := 133) (by decide) (pc' := 129) rfl (fun q => absurd q (by decide)) (fun _ => ?_)
      refine F_iconst X90 at_129 (z := (1 : Int32)) (by decide) (pc' := 130) rfl ?_
      refine F_goto X90 at_130 (by decide) (pc' := 134) (by decide) ?_
      refine F_istore X90 at_134 (Ls' := #[.val (.int u1), .val (.int u2), .val (.int u3), .val (.int (3 : Int32)), .val (.int (2 : Int32)), .val (.ref b79), .val (.ref b86), .val (.int (1 : Int32))]) rfl (pc' := 136) rfl ?_
      refine F_iload X90 at_136 rfl (pc' := 138) rfl ?_
      refine F_iconst X90 at_138 (z := (2 : Int32)) (by decide) (pc' := 139) rfl ?_
      refine F_icmp_lt X90 at_139 (by decide) (pt := 178) (by decide) (pc' := 142) rfl (fun q => absurd q (by decide)) (fun _ => ?_)
      refine F_aload X90 at_142 rfl rfl (pc' := 144) rfl ?_
      refine F_callV X90 (y := (⟨"com/example/libdeleg/libdeleg/cose/CborReader", "readBoolean", "()Z"⟩ : MethodName)) (stk := []) (wd27 hw) (wd28 hw) (wd30 hw) (wd29 hw) (wd7 hw) (wd31 hw) (by decide) (a := b86) E89_b86 (argsL := []) (conB l Z a0 hw n0 h89 X90.size b86 b79 [(.int (bl u2 (0 : Int32))), (.int (bl u2 (1 : Int32))), (.int (bl u2 (2 : Int32)))] (1 : Int32) (3 : Int32) (bl u2 (1 : Int32)) (2 : Int32) E89_b86 F89_data_b86 F89_position_b86 A89k_b79 ge86 ne_b79_b86 (by first | decide | rfl | exact own_bl _ _) (by first | decide | rfl | exact own_bl _ _) (by first | decide | rfl | exact own_bl _ _) (by first | decide | rfl | exact own_bl _ _) (by first | decide | rfl | exact own_bl _ _) (by first | decide | rfl | exact own_bl _ _)) (by decide) (W := 0) (Nat.le_of_ble_eq_true rfl) (by decide) (by decide) (by decide) rfl (lenOf pd0 rfl) rfl at_144 (pc' := 147) rfl fun T91 v91 h91 X91 q91 => ?_
      obtain ⟨rfl, Kp91, E91_b86, F91_data_b86, F91_position_b86⟩ := q91
      have E91k_b79 := E89k_b79.keep Kp91
      have E91k_b86 := E89_b86.keep Kp91
      have A91k_b79 := A89k_b79.keep Kp91 (ninS ne_b79_b86 nin0)
      replace X91 := X91.more (cells' := 2) (slots' := 5) (by decide) (by decide)
      show Jvm.OwnKit.Ends p e below s n0 16 128 _ T91 (mkF m 147 #[.val (.int u1), .val (.int u2), .val (.int u3), .val (.int (3 : Int32)), .val (.int (2 : Int32)), .val (.ref b79), .val (.ref b86), .val (.int (1 : Int32))] [(.int (rb (bl u2 (1 : Int32))))])
      refine F_pop X91 at_147 rfl (pc' := 148) rfl ?_
      refine F_iload X91 at_148 rfl (pc' := 150) rfl ?_
      refine F_if_eq X91 at_150 (by decide) (pt := 175) (by decide) (pc' := 153) rfl (fun q => absurd q (by decide)) (fun _ => ?_)
      refine F_aload X91 at_153 rfl rfl (pc' := 155) rfl ?_
      refine F_callV X91 (y := (⟨"com/example/libdeleg/libdeleg/cose/CborReader", "atEnd", "()Z"⟩ : MethodName)) (stk := []) (wd16 hw) (wd17 hw) (wd19 hw) (wd18 hw) (wd7 hw) (wd20 hw) (by decide) (a := b86) E91_b86 (argsL := []) (conE l Z a0 hw n0 h91 X91.size b86 b79 [(.int (bl u2 (0 : Int32))), (.int (bl u2 (1 : Int32))), (.int (bl u2 (2 : Int32)))] (2 : Int32) (3 : Int32) F91_data_b86 F91_position_b86 A91k_b79 (by first | decide | rfl | exact own_bl _ _)) (by decide) (W := 0) (Nat.le_of_ble_eq_true rfl) (by decide) (by decide) (by decide) rfl (lenOf pd0 rfl) rfl at_155 (pc' := 158) rfl fun T92 v92 h92 X92 q92 => ?_
      obtain ⟨rfl, rfl⟩ := q92
      replace X92 := X92.more (cells' := 2) (slots' := 5) (by decide) (by decide)
      show Jvm.OwnKit.Ends p e below s n0 16 128 _ T92 (mkF m 158 #[.val (.int u1), .val (.int u2), .val (.int u3), .val (.int (3 : Int32)), .val (.int (2 : Int32)), .val (.ref b79), .val (.ref b86), .val (.int (1 : Int32))] [(.int (ae (2 : Int32) (3 : Int32)))])
      rw [show (ae (2 : Int32) (3 : Int32)) = (0 : Int32) from by decide]
      refine F_iloadN X92 at_158 rfl (pc' := 159) rfl ?_
      refine F_iconst X92 at_159 (z := (2 : Int32)) (by decide) (pc' := 160) rfl ?_
      refine F_icmp_ne X92 at_160 (by decide) (pt := 167) (by decide) (pc' := 163) rfl (fun _ => ?_) (fun q => absurd q (by decide))
      refine F_iconst X92 at_167 (z := (0 : Int32)) (by decide) (pc' := 168) rfl ?_
      refine F_icmp_ne X92 at_168 (by decide) (pt := 175) (by decide) (pc' := 171) rfl (fun q => absurd q (by decide)) (fun _ => ?_)
      refine F_iconst X92 at_171 (z := (1 : Int32)) (by decide) (pc' := 172) rfl ?_
      refine F_goto X92 at_172 (by decide) (pc' := 176) (by decide) ?_
      refine F_istore X92 at_176 (Ls' := #[.val (.int u1), .val (.int u2), .val (.int u3), .val (.int (3 : Int32)), .val (.int (2 : Int32)), .val (.ref b79), .val (.ref b86), .val (.int (1 : Int32))]) rfl (pc' := 178) rfl ?_
      refine F_iload X92 at_178 rfl (pc' := 180) rfl ?_
      refine F_iconst X92 at_180 (z := (3 : Int32)) (by decide) (pc' := 181) rfl ?_
      refine F_icmp_lt X92 at_181 (by decide) (pt := 220) (by decide) (pc' := 184) rfl (fun _ => ?_) (fun q => absurd q (by decide))
      refine F_iload X92 at_220 rfl (pc' := 222) rfl ?_
      refine F_ireturn_boolean (z' := (1 : Int32)) X92 (by decide) at_222 rfl (by decide) (by decide) ?_
      exact rfl
    · rw [hs56]
      refine F_istore X55 at_11 (Ls' := #[.val (.int u1), .val (.int u2), .val (.int u3), .val (.int (3 : Int32)), .val (.int (3 : Int32)), .unset, .unset, .unset]) rfl (pc' := 13) rfl ?_
      refine F_iloadN X55 at_13 rfl (pc' := 14) rfl ?_
      refine F_newarray X55 (aty := .byte) (wd4 hw) (by decide) (cap := 3) (by decide) (by decide) (by decide) (by decide) (ad := "[B") rfl at_14 (pc' := 16) rfl fun T93 h93 b93 X93 Ex93 g93 ge93 E_b93 A93 => ?_
      replace A93 : AV Z h93 b93 .byte [(.int (0 : Int32)), (.int (0 : Int32)), (.int (0 : Int32))] := A93
      replace X93 := X93.more (cells' := 1) (slots' := 3) (by decide) (by decide)
      refine F_astore X93 at_16 rfl (Ls' := #[.val (.int u1), .val (.int u2), .val (.int u3), .val (.int (3 : Int32)), .val (.int (3 : Int32)), .val (.ref b93), .unset, .unset]) rfl (pc' := 18) rfl ?_
      refine F_iloadN X93 at_18 rfl (pc' := 19) rfl ?_
      refine F_if_le X93 at_19 (by decide) (pt := 31) (by decide) (pc' := 22) rfl (fun q => absurd q (by decide)) (fun _ => ?_)
      refine F_aload X93 at_22 rfl rfl (pc' := 24) rfl ?_
      refine F_iconst X93 at_24 (z := (0 : Int32)) (by decide) (pc' := 25) rfl ?_
      refine F_iloadN X93 at_25 rfl (pc' := 26) rfl ?_
      refine F_iconst X93 at_26 (z := (0 : Int32)) (by decide) (pc' := 27) rfl ?_
      refine F_callS X93 (y := (⟨"com/example/libdeleg/libdeleg/cose/CborReaderAtEndPinLaw", "bool", "(II)B"⟩ : MethodName)) (stk := [(.int (0 : Int32)), (.ref b93)]) (wd23 hw) (wd24 hw) (wd25 hw) (wd26 hw) (by decide) (argsL := [(.int u2), (.int (0 : Int32))]) (con_bool l Z a0 hw n0 h93 X93.size u2 (0 : Int32)) (by decide) (W := 2) (Nat.le_of_ble_eq_true rfl) (by decide) (by decide) (by decide) rfl (lenOf pd4 rfl) rfl at_27 (pc' := 30) rfl fun T94 v94 h94 X94 q94 => ?_
      obtain ⟨rfl, rfl⟩ := q94
      replace X94 := X94.more (cells' := 1) (slots' := 3) (by decide) (by decide)
      show Jvm.OwnKit.Ends p e below s n0 16 128 _ T94 (mkF m 30 #[.val (.int u1), .val (.int u2), .val (.int u3), .val (.int (3 : Int32)), .val (.int (3 : Int32)), .val (.ref b93), .unset, .unset] [(.int (bl u2 (0 : Int32))), (.int (0 : Int32)), (.ref b93)])
      refine F_bastore X94 A93 (by decide) (i := 0) (by decide) (Nat.le_of_ble_eq_true rfl) ge93 (z := (bl u2 (0 : Int32))) (own_bl8 _ _) at_30 (pc' := 31) rfl fun T95 h95 X95 W95 A95 => ?_
      replace A95 : AV Z h95 b93 .byte [(.int (bl u2 (0 : Int32))), (.int (0 : Int32)), (.int (0 : Int32))] := A95
      have E95_b93 := E_b93.wr W95
      refine F_iloadN X95 at_31 rfl (pc' := 32) rfl ?_
      refine F_iconst X95 at_32 (z := (1 : Int32)) (by decide) (pc' := 33) rfl ?_
      refine F_icmp_le X95 at_33 (by decide) (pt := 45) (by decide) (pc' := 36) rfl (fun q => absurd q (by decide)) (fun _ => ?_)
      refine F_aload X95 at_36 rfl rfl (pc' := 38) rfl ?_
      refine F_iconst X95 at_38 (z := (1 : Int32)) (by decide) (pc' := 39) rfl ?_
      refine F_iloadN X95 at_39 rfl (pc' := 40) rfl ?_
      refine F_iconst X95 at_40 (z := (1 : Int32)) (by decide) (pc' := 41) rfl ?_
      refine F_callS X95 (y := (⟨"com/example/libdeleg/libdeleg/cose/CborReaderAtEndPinLaw", "bool", "(II)B"⟩ : MethodName)) (stk := [(.int (1 : Int32)), (.ref b93)]) (wd23 hw) (wd24 hw) (wd25 hw) (wd26 hw) (by decide) (argsL := [(.int u2), (.int (1 : Int32))]) (con_bool l Z a0 hw n0 h95 X95.size u2 (1 : Int32)) (by decide) (W := 2) (Nat.le_of_ble_eq_true rfl) (by decide) (by decide) (by decide) rfl (lenOf pd4 rfl) rfl at_41 (pc' := 44) rfl fun T96 v96 h96 X96 q96 => ?_
      obtain ⟨rfl, rfl⟩ := q96
      replace X96 := X96.more (cells' := 1) (slots' := 3) (by decide) (by decide)
      show Jvm.OwnKit.Ends p e below s n0 16 128 _ T96 (mkF m 44 #[.val (.int u1), .val (.int u2), .val (.int u3), .val (.int (3 : Int32)), .val (.int (3 : Int32)), .val (.ref b93), .unset, .unset] [(.int (bl u2 (1 : Int32))), (.int (1 : Int32)), (.ref b93)])
      refine F_bastore X96 A95 (by decide) (i := 1) (by decide) (Nat.le_of_ble_eq_true rfl) ge93 (z := (bl u2 (1 : Int32))) (own_bl8 _ _) at_44 (pc' := 45) rfl fun T97 h97 X97 W97 A97 => ?_
      replace A97 : AV Z h97 b93 .byte [(.int (bl u2 (0 : Int32))), (.int (bl u2 (1 : Int32))), (.int (0 : Int32))] := A97
      have E97_b93 := E95_b93.wr W97
      refine F_iloadN X97 at_45 rfl (pc' := 46) rfl ?_
      refine F_iconst X97 at_46 (z := (2 : Int32)) (by decide) (pc' := 47) rfl ?_
      refine F_icmp_le X97 at_47 (by decide) (pt := 59) (by decide) (pc' := 50) rfl (fun q => absurd q (by decide)) (fun _ => ?_)
      refine F_aload X97 at_50 rfl rfl (pc' := 52) rfl ?_
      refine F_iconst X97 at_52 (z := (2 : Int32)) (by decide) (pc' := 53) rfl ?_
      refine F_iloadN X97 at_53 rfl (pc' := 54) rfl ?_
      refine F_iconst X97 at_54 (z := (2 : Int32)) (by decide) (pc' := 55) rfl ?_
      refine F_callS X97 (y := (⟨"com/example/libdeleg/libdeleg/cose/CborReaderAtEndPinLaw", "bool", "(II)B"⟩ : MethodName)) (stk := [(.int (2 : Int32)), (.ref b93)]) (wd23 hw) (wd24 hw) (wd25 hw) (wd26 hw) (by decide) (argsL := [(.int u2), (.int (2 : Int32))]) (con_bool l Z a0 hw n0 h97 X97.size u2 (2 : Int32)) (by decide) (W := 2) (Nat.le_of_ble_eq_true rfl) (by decide) (by decide) (by decide) rfl (lenOf pd4 rfl) rfl at_55 (pc' := 58) rfl fun T98 v98 h98 X98 q98 => ?_
      obtain ⟨rfl, rfl⟩ := q98
      replace X98 := X98.more (cells' := 1) (slots' := 3) (by decide) (by decide)
      show Jvm.OwnKit.Ends p e below s n0 16 128 _ T98 (mkF m 58 #[.val (.int u1), .val (.int u2), .val (.int u3), .val (.int (3 : Int32)), .val (.int (3 : Int32)), .val (.ref b93), .unset, .unset] [(.int (bl u2 (2 : Int32))), (.int (2 : Int32)), (.ref b93)])
      refine F_bastore X98 A97 (by decide) (i := 2) (by decide) (Nat.le_of_ble_eq_true rfl) ge93 (z := (bl u2 (2 : Int32))) (own_bl8 _ _) at_58 (pc' := 59) rfl fun T99 h99 X99 W99 A99 => ?_
      replace A99 : AV Z h99 b93 .byte [(.int (bl u2 (0 : Int32))), (.int (bl u2 (1 : Int32))), (.int (bl u2 (2 : Int32)))] := A99
      have E99_b93 := E97_b93.wr W99
      refine F_new X99 (wd5 hw) (wd6 hw) (wd7 hw) (by decide) (by decide) at_59 (pc' := 62) rfl fun T100 h100 b100 X100 Ex100 g100 ge100 E_b100 D100 => ?_
      have ne_b93_b100 : b93 ≠ b100 := Nat.ne_of_lt (Nat.lt_of_lt_of_le E99_b93.lt (Nat.le_of_eq g100.symm))
      have E100_b93 := E99_b93.ext Ex100
      have A100_b93 := A99.ext Ex100
      have F100_data_b100 : Fld Z h100 b100 "com/example/libdeleg/libdeleg/cose/CborReader" "data" "[B" .null := D100 (Or.inr (wd15 hw)) (ty := (.array .byte)) (by decide)
      have F100_position_b100 : Fld Z h100 b100 "com/example/libdeleg/libdeleg/cose/CborReader" "position" "I" (.int (0 : Int32)) := D100 (Or.inl (wd22 hw)) (ty := .int) (by decide)
      replace X100 := X100.more (cells' := 2) (slots' := 5) (by decide) (by decide)
      refine F_dup X100 at_62 rfl (pc' := 63) rfl ?_
      refine F_aload X100 at_63 rfl rfl (pc' := 65) rfl ?_
      refine F_init X100 (y := (⟨"com/example/libdeleg/libdeleg/cose/CborReader", "<init>", "([B)V"⟩ : MethodName)) (stk := [(.ref b100)]) rfl (wd8 hw) (wd9 hw) (wd7 hw) (wd10 hw) (by decide) (a := b100) (argsL := [(.ref b93)]) (conI l Z a0 hw n0 h100 X100.size b100 b93 E_b100 F100_data_b100 F100_position_b100 ge100) (by decide) (W := 1) (Nat.le_of_ble_eq_true rfl) (by decide) (by decide) (by decide) rfl (lenOf pd3 rfl) rfl at_65 (pc' := 68) rfl fun T101 v101 h101 X101 q101 => ?_
      obtain ⟨rfl, Kp101, E101_b100, F101_data_b100, F101_position_b100⟩ := q101
      have E101k_b93 := E100_b93.keep Kp101
      have E101k_b100 := E_b100.keep Kp101
      have A101k_b93 := A100_b93.keep Kp101 (ninS ne_b93_b100 nin0)
      replace X101 := X101.more (cells' := 2) (slots' := 5) (by decide) (by decide)
      show Jvm.OwnKit.Ends p e below s n0 16 128 _ T101 (mkF m 68 #[.val (.int u1), .val (.int u2), .val (.int u3), .val (.int (3 : Int32)), .val (.int (3 : Int32)), .val (.ref b93), .unset, .unset] [(.ref b100)])
      refine F_astore X101 at_68 rfl (Ls' := #[.val (.int u1), .val (.int u2), .val (.int u3), .val (.int (3 : Int32)), .val (.int (3 : Int32)), .val (.ref b93), .val (.ref b100), .unset]) rfl (pc' := 70) rfl ?_
      refine F_aload X101 at_70 rfl rfl (pc' := 72) rfl ?_
      refine F_callV X101 (y := (⟨"com/example/libdeleg/libdeleg/cose/CborReader", "atEnd", "()Z"⟩ : MethodName)) (stk := []) (wd16 hw) (wd17 hw) (wd19 hw) (wd18 hw) (wd7 hw) (wd20 hw) (by decide) (a := b100) E101_b100 (argsL := []) (conE l Z a0 hw n0 h101 X101.size b100 b93 [(.int (bl u2 (0 : Int32))), (.int (bl u2 (1 : Int32))), (.int (bl u2 (2 : Int32)))] (0 : Int32) (3 : Int32) F101_data_b100 F101_position_b100 A101k_b93 (by first | decide | rfl | exact own_bl _ _)) (by decide) (W := 0) (Nat.le_of_ble_eq_true rfl) (by decide) (by decide) (by decide) rfl (lenOf pd0 rfl) rfl at_72 (pc' := 75) rfl fun T102 v102 h102 X102 q102 => ?_
      obtain ⟨rfl, rfl⟩ := q102
      replace X102 := X102.more (cells' := 2) (slots' := 5) (by decide) (by decide)
      show Jvm.OwnKit.Ends p e below s n0 16 128 _ T102 (mkF m 75 #[.val (.int u1), .val (.int u2), .val (.int u3), .val (.int (3 : Int32)), .val (.int (3 : Int32)), .val (.ref b93), .val (.ref b100), .unset] [(.int (ae (0 : Int32) (3 : Int32)))])
      rw [show (ae (0 : Int32) (3 : Int32)) = (0 : Int32) from by decide]
      refine F_iloadN X102 at_75 rfl (pc' := 76) rfl ?_
      refine F_if_ne X102 at_76 (by decide) (pt := 83) (by decide) (pc' := 79) rfl (fun _ => ?_) (fun q => absurd q (by decide))
      refine F_iconst X102 at_83 (z := (0 : Int32)) (by decide) (pc' := 84) rfl ?_
      refine F_icmp_ne X102 at_84 (by decide) (pt := 91) (by decide) (pc' := 87) rfl (fun q => absurd q (by decide)) (fun _ => ?_)
      refine F_iconst X102 at_87 (z := (1 : Int32)) (by decide) (pc' := 88) rfl ?_
      refine F_goto X102 at_88 (by decide) (pc' := 92) (by decide) ?_
      refine F_istore X102 at_92 (Ls' := #[.val (.int u1), .val (.int u2), .val (.int u3), .val (.int (3 : Int32)), .val (.int (3 : Int32)), .val (.ref b93), .val (.ref b100), .val (.int (1 : Int32))]) rfl (pc' := 94) rfl ?_
      refine F_iload X102 at_94 rfl (pc' := 96) rfl ?_
      refine F_iconst X102 at_96 (z := (1 : Int32)) (by decide) (pc' := 97) rfl ?_
      refine F_icmp_lt X102 at_97 (by decide) (pt := 136) (by decide) (pc' := 100) rfl (fun q => absurd q (by decide)) (fun _ => ?_)
      refine F_aload X102 at_100 rfl rfl (pc' := 102) rfl ?_
      refine F_callV X102 (y := (⟨"com/example/libdeleg/libdeleg/cose/CborReader", "readBoolean", "()Z"⟩ : MethodName)) (stk := []) (wd27 hw) (wd28 hw) (wd30 hw) (wd29 hw) (wd7 hw) (wd31 hw) (by decide) (a := b100) E101_b100 (argsL := []) (conB l Z a0 hw n0 h101 X102.size b100 b93 [(.int (bl u2 (0 : Int32))), (.int (bl u2 (1 : Int32))), (.int (bl u2 (2 : Int32)))] (0 : Int32) (3 : Int32) (bl u2 (0 : Int32)) (1 : Int32) E101_b100 F101_data_b100 F101_position_b100 A101k_b93 ge100 ne_b93_b100 (by first | decide | rfl | exact own_bl _ _) (by first | decide | rfl | exact own_bl _ _) (by first | decide | rfl | exact own_bl _ _) (by first | decide | rfl | exact own_bl _ _) (by first | decide | rfl | exact own_bl _ _) (by first | decide | rfl | exact own_bl _ _)) (by decide) (W := 0) (Nat.le_of_ble_eq_true rfl) (by decide) (by decide) (by decide) rfl (lenOf pd0 rfl) rfl at_102 (pc' := 105) rfl fun T103 v103 h103 X103 q103 => ?_
      obtain ⟨rfl, Kp103, E103_b100, F103_data_b100, F103_position_b100⟩ := q103
      have E103k_b93 := E101k_b93.keep Kp103
      have E103k_b100 := E101_b100.keep Kp103
      have A103k_b93 := A101k_b93.keep Kp103 (ninS ne_b93_b100 nin0)
      replace X103 := X103.more (cells' := 2) (slots' := 5) (by decide) (by decide)
      show Jvm.OwnKit.Ends p e below s n0 16 128 _ T103 (mkF m 105 #[.val (.int u1), .val (.int u2), .val (.int u3), .val (.int (3 : Int32)), .val (.int (3 : Int32)), .val (.ref b93), .val (.ref b100), .val (.int (1 : Int32))] [(.int (rb (bl u2 (0 : Int32))))])
      refine F_pop X103 at_105 rfl (pc' := 106) rfl ?_
      refine F_iload X103 at_106 rfl (pc' := 108) rfl ?_
      refine F_if_eq X103 at_108 (by decide) (pt := 133) (by decide) (pc' := 111) rfl (fun q => absurd q (by decide)) (fun _ => ?_)
      refine F_aload X103 at_111 rfl rfl (pc' := 113) rfl ?_
      refine F_callV X103 (y := (⟨"com/example/libdeleg/libdeleg/cose/CborReader", "atEnd", "()Z"⟩ : MethodName)) (stk := []) (wd16 hw) (wd17 hw) (wd19 hw) (wd18 hw) (wd7 hw) (wd20 hw) (by decide) (a := b100) E103_b100 (argsL := []) (conE l Z a0 hw n0 h103 X103.size b100 b93 [(.int (bl u2 (0 : Int32))), (.int (bl u2 (1 : Int32))), (.int (bl u2 (2 : Int32)))] (1 : Int32) (3 : Int32) F103_data_b100 F103_position_b100 A103k_b93 (by first | decide | rfl | exact own_bl _ _)) (by decide) (W := 0) (Nat.le_of_ble_eq_true rfl) (by decide) (by decide) (by decide) rfl (lenOf pd0 rfl) rfl at_113 (pc' := 116) rfl fun T104 v104 h104 X104 q104 => ?_
      obtain ⟨rfl, rfl⟩ := q104
      replace X104 := X104.more (cells' := 2) (slots' := 5) (by decide) (by decide)
      show Jvm.OwnKit.Ends p e below s n0 16 128 _ T104 (mkF m 116 #[.val (.int u1), .val (.int u2), .val (.int u3), .val (.int (3 : Int32)), .val (.int (3 : Int32)), .val (.ref b93), .val (.ref b100), .val (.int (1 : Int32))] [(.int (ae (1 : Int32) (3 : Int32)))])
      rw [show (ae (1 : Int32) (3 : Int32)) = (0 : Int32) from by decide]
      refine F_iloadN X104 at_116 rfl (pc' := 117) rfl ?_
      refine F_iconst X104 at_117 (z := (1 : Int32)) (by decide) (pc' := 118) rfl ?_
      refine F_icmp_ne X104 at_118 (by decide) (pt := 125) (by decide) (pc' := 121) rfl (fun _ => ?_) (fun q => absurd q (by decide))
      refine F_iconst X104 at_125 (z := (0 : Int32)) (by decide) (pc' := 126) rfl ?_
      refine F_icmp_ne X104 at_126 (by decide) (pt := 133) (by decide) (pc' := 129) rfl (fun q => absurd q (by decide)) (fun _ => ?_)
      refine F_iconst X104 at_129 (z := (1 : Int32)) (by decide) (pc' := 130) rfl ?_
      refine F_goto X104 at_130 (by decide) (pc' := 134) (by decide) ?_
      refine F_istore X104 at_134 (Ls' := #[.val (.int u1), .val (.int u2), .val (.int u3), .val (.int (3 : Int32)), .val (.int (3 : Int32)), .val (.ref b93), .val (.ref b100), .val (.int (1 : Int32))]) rfl (pc' := 136) rfl ?_
      refine F_iload X104 at_136 rfl (pc' := 138) rfl ?_
      refine F_iconst X104 at_138 (z := (2 : Int32)) (by decide) (pc' := 139) rfl ?_
      refine F_icmp_lt X104 at_139 (by decide) (pt := 178) (by decide) (pc' := 142) rfl (fun q => absurd q (by decide)) (fun _ => ?_)
      refine F_aload X104 at_142 rfl rfl (pc' := 144) rfl ?_
      refine F_callV X104 (y := (⟨"com/example/libdeleg/libdeleg/cose/CborReader", "readBoolean", "()Z"⟩ : MethodName)) (stk := []) (wd27 hw) (wd28 hw) (wd30 hw) (wd29 hw) (wd7 hw) (wd31 hw) (by decide) (a := b100) E103_b100 (argsL := []) (conB l Z a0 hw n0 h103 X104.size b100 b93 [(.int (bl u2 (0 : Int32))), (.int (bl u2 (1 : Int32))), (.int (bl u2 (2 : Int32)))] (1 : Int32) (3 : Int32) (bl u2 (1 : Int32)) (2 : Int32) E103_b100 F103_data_b100 F103_position_b100 A103k_b93 ge100 ne_b93_b100 (by first | decide | rfl | exact own_bl _ _) (by first | decide | rfl | exact own_bl _ _) (by first | decide | rfl | exact own_bl _ _) (by first | decide | rfl | exact own_bl _ _) (by first | decide | rfl | exact own_bl _ _) (by first | decide | rfl | exact own_bl _ _)) (by decide) (W := 0) (Nat.le_of_ble_eq_true rfl) (by decide) (by decide) (by decide) rfl (lenOf pd0 rfl) rfl at_144 (pc' := 147) rfl fun T105 v105 h105 X105 q105 => ?_
      obtain ⟨rfl, Kp105, E105_b100, F105_data_b100, F105_position_b100⟩ := q105
      have E105k_b93 := E103k_b93.keep Kp105
      have E105k_b100 := E103_b100.keep Kp105
      have A105k_b93 := A103k_b93.keep Kp105 (ninS ne_b93_b100 nin0)
      replace X105 := X105.more (cells' := 2) (slots' := 5) (by decide) (by decide)
      show Jvm.OwnKit.Ends p e below s n0 16 128 _ T105 (mkF m 147 #[.val (.int u1), .val (.int u2), .val (.int u3), .val (.int (3 : Int32)), .val (.int (3 : Int32)), .val (.ref b93), .val (.ref b100), .val (.int (1 : Int32))] [(.int (rb (bl u2 (1 : Int32))))])
      refine F_pop X105 at_147 rfl (pc' := 148) rfl ?_
      refine F_iload X105 at_148 rfl (pc' := 150) rfl ?_
      refine F_if_eq X105 at_150 (by decide) (pt := 175) (by decide) (pc' := 153) rfl (fun q => absurd q (by decide)) (fun _ => ?_)
      refine F_aload X105 at_153 rfl rfl (pc' := 155) rfl ?_
      refine F_callV X105 (y := (⟨"com/example/libdeleg/libdeleg/cose/CborReader", "atEnd", "()Z"⟩ : MethodName)) (stk := []) (wd16 hw) (wd17 hw) (wd19 hw) (wd18 hw) (wd7 hw) (wd20 hw) (by decide) (a := b100) E105_b100 (argsL := []) (conE l Z a0 hw n0 h105 X105.size b100 b93 [(.int (bl u2 (0 : Int32))), (.int (bl u2 (1 : Int32))), (.int (bl u2 (2 : Int32)))] (2 : Int32) (3 : Int32) F105_data_b100 F105_position_b100 A105k_b93 (by first | decide | rfl | exact own_bl _ _)) (by decide) (W := 0) (Nat.le_of_ble_eq_true rfl) (by decide) (by decide) (by decide) rfl (lenOf pd0 rfl) rfl at_155 (pc' := 158) rfl fun T106 v106 h106 X106 q106 => ?_
      obtain ⟨rfl, rfl⟩ := q106
      replace X106 := X106.more (cells' := 2) (slots' := 5) (by decide) (by decide)
      show Jvm.OwnKit.Ends p e below s n0 16 128 _ T106 (mkF m 158 #[.val (.int u1), .val (.int u2), .val (.int u3), .val (.int (3 : Int32)), .val (.int (3 : Int32)), .val (.ref b93), .val (.ref b100), .val (.int (1 : Int32))] [(.int (ae (2 : Int32) (3 : Int32)))])
      rw [show (ae (2 : Int32) (3 : Int32)) = (0 : Int32) from by decide]
      refine F_iloadN X106 at_158 rfl (pc' := 159) rfl ?_
      refine F_iconst X106 at_159 (z := (2 : Int32)) (by decide) (pc' := 160) rfl ?_
      refine F_icmp_ne X106 at_160 (by decide) (pt := 167) (by decide) (pc' := 163) rfl (fun _ => ?_) (fun q => absurd q (by decide))
      refine F_iconst X106 at_167 (z := (0 : Int32)) (by decide) (pc' := 168) rfl ?_
      refine F_icmp_ne X106 at_168 (by decide) (pt := 175) (by decide) (pc' := 171) rfl (fun q => absurd q (by decide)) (fun _ => ?_)
      refine F_iconst X106 at_171 (z := (1 : Int32)) (by decide) (pc' := 172) rfl ?_
      refine F_goto X106 at_172 (by decide) (pc' := 176) (by decide) ?_
      refine F_istore X106 at_176 (Ls' := #[.val (.int u1), .val (.int u2), .val (.int u3), .val (.int (3 : Int32)), .val (.int (3 : Int32)), .val (.ref b93), .val (.ref b100), .val (.int (1 : Int32))]) rfl (pc' := 178) rfl ?_
      refine F_iload X106 at_178 rfl (pc' := 180) rfl ?_
      refine F_iconst X106 at_180 (z := (3 : Int32)) (by decide) (pc' := 181) rfl ?_
      refine F_icmp_lt X106 at_181 (by decide) (pt := 220) (by decide) (pc' := 184) rfl (fun q => absurd q (by decide)) (fun _ => ?_)
      refine F_aload X106 at_184 rfl rfl (pc' := 186) rfl ?_
      refine F_callV X106 (y := (⟨"com/example/libdeleg/libdeleg/cose/CborReader", "readBoolean", "()Z"⟩ : MethodName)) (stk := []) (wd27 hw) (wd28 hw) (wd30 hw) (wd29 hw) (wd7 hw) (wd31 hw) (by decide) (a := b100) E105_b100 (argsL := []) (conB l Z a0 hw n0 h105 X106.size b100 b93 [(.int (bl u2 (0 : Int32))), (.int (bl u2 (1 : Int32))), (.int (bl u2 (2 : Int32)))] (2 : Int32) (3 : Int32) (bl u2 (2 : Int32)) (3 : Int32) E105_b100 F105_data_b100 F105_position_b100 A105k_b93 ge100 ne_b93_b100 (by first | decide | rfl | exact own_bl _ _) (by first | decide | rfl | exact own_bl _ _) (by first | decide | rfl | exact own_bl _ _) (by first | decide | rfl | exact own_bl _ _) (by first | decide | rfl | exact own_bl _ _) (by first | decide | rfl | exact own_bl _ _)) (by decide) (W := 0) (Nat.le_of_ble_eq_true rfl) (by decide) (by decide) (by decide) rfl (lenOf pd0 rfl) rfl at_186 (pc' := 189) rfl fun T107 v107 h107 X107 q107 => ?_
      obtain ⟨rfl, Kp107, E107_b100, F107_data_b100, F107_position_b100⟩ := q107
      have E107k_b93 := E105k_b93.keep Kp107
      have E107k_b100 := E105_b100.keep Kp107
      have A107k_b93 := A105k_b93.keep Kp107 (ninS ne_b93_b100 nin0)
      replace X107 := X107.more (cells' := 2) (slots' := 5) (by decide) (by decide)
      show Jvm.OwnKit.Ends p e below s n0 16 128 _ T107 (mkF m 189 #[.val (.int u1), .val (.int u2), .val (.int u3), .val (.int (3 : Int32)), .val (.int (3 : Int32)), .val (.ref b93), .val (.ref b100), .val (.int (1 : Int32))] [(.int (rb (bl u2 (2 : Int32))))])
      refine F_pop X107 at_189 rfl (pc' := 190) rfl ?_
      refine F_iload X107 at_190 rfl (pc' := 192) rfl ?_
      refine F_if_eq X107 at_192 (by decide) (pt := 217) (by decide) (pc' := 195) rfl (fun q => absurd q (by decide)) (fun _ => ?_)
      refine F_aload X107 at_195 rfl rfl (pc' := 197) rfl ?_
      refine F_callV X107 (y := (⟨"com/example/libdeleg/libdeleg/cose/CborReader", "atEnd", "()Z"⟩ : MethodName)) (stk := []) (wd16 hw) (wd17 hw) (wd19 hw) (wd18 hw) (wd7 hw) (wd20 hw) (by decide) (a := b100) E107_b100 (argsL := []) (conE l Z a0 hw n0 h107 X107.size b100 b93 [(.int (bl u2 (0 : Int32))), (.int (bl u2 (1 : Int32))), (.int (bl u2 (2 : Int32)))] (3 : Int32) (3 : Int32) F107_data_b100 F107_position_b100 A107k_b93 (by first | decide | rfl | exact own_bl _ _)) (by decide) (W := 0) (Nat.le_of_ble_eq_true rfl) (by decide) (by decide) (by decide) rfl (lenOf pd0 rfl) rfl at_197 (pc' := 200) rfl fun T108 v108 h108 X108 q108 => ?_
      obtain ⟨rfl, rfl⟩ := q108
      replace X108 := X108.more (cells' := 2) (slots' := 5) (by decide) (by decide)
      show Jvm.OwnKit.Ends p e below s n0 16 128 _ T108 (mkF m 200 #[.val (.int u1), .val (.int u2), .val (.int u3), .val (.int (3 : Int32)), .val (.int (3 : Int32)), .val (.ref b93), .val (.ref b100), .val (.int (1 : Int32))] [(.int (ae (3 : Int32) (3 : Int32)))])
      rw [show (ae (3 : Int32) (3 : Int32)) = (1 : Int32) from by decide]
      refine F_iloadN X108 at_200 rfl (pc' := 201) rfl ?_
      refine F_iconst X108 at_201 (z := (3 : Int32)) (by decide) (pc' := 202) rfl ?_
      refine F_icmp_ne X108 at_202 (by decide) (pt := 209) (by decide) (pc' := 205) rfl (fun q => absurd q (by decide)) (fun _ => ?_)
      refine F_iconst X108 at_205 (z := (1 : Int32)) (by decide) (pc' := 206) rfl ?_
      refine F_goto X108 at_206 (by decide) (pc' := 210) (by decide) ?_
      refine F_icmp_ne X108 at_210 (by decide) (pt := 217) (by decide) (pc' := 213) rfl (fun q => absurd q (by decide)) (fun _ => ?_)
      refine F_iconst X108 at_213 (z := (1 : Int32)) (by decide) (pc' := 214) rfl ?_
      refine F_goto X108 at_214 (by decide) (pc' := 218) (by decide) ?_
      refine F_istore X108 at_218 (Ls' := #[.val (.int u1), .val (.int u2), .val (.int u3), .val (.int (3 : Int32)), .val (.int (3 : Int32)), .val (.ref b93), .val (.ref b100), .val (.int (1 : Int32))]) rfl (pc' := 220) rfl ?_
      refine F_iload X108 at_220 rfl (pc' := 222) rfl ?_
      refine F_ireturn_boolean (z' := (1 : Int32)) X108 (by decide) at_222 rfl (by decide) (by decide) ?_
      exact rfl
set_option maxRecDepth 65536 in
set_option maxHeartbeats 40000000 in
theorem comes_1 {Post : Tables → Env → Array Value → State → Outcome → State → Prop} (hpost : ∀ tb e args s v u, (limb_1_1.after args s (.returned v) u = true ∧ limb_1_2.after args s (.returned v) u = true ∧ True) → FrameEnd s (.returned v) u (Jvm.fieldLocs frame_1_writes args s ++ Jvm.arrayLocs frame_1_arrays args s ++ Jvm.staticLocs frame_1_statics s) 16 128 → Post tb e args s (.returned v) u) :
    ArmFor flags0 classFile x code maxLocals ret World_1 tables_1 room_1 Calls_1 rest_1 Pre_1 Post := by
  intro l hfl _ _ p e ha hc hk s m args below hf hA hF happ hP
  obtain ⟨hcalls, hrest, hpre⟩ := hP
  obtain ⟨-, -, -, hnamed, -, -, -, hat⟩ := (Spec.applies_iff hf).mp happ
  obtain ⟨hg, hn⟩ := and_e (Cond.before_iff.mp (show (Jvm.Cond.and given_1 narrow_1).before args s = true from hpre))
  obtain ⟨g0, r0⟩ := and_e hg
  obtain ⟨v0, r1⟩ := and_e r0
  obtain ⟨v1, r2⟩ := and_e r1
  obtain ⟨w0, w1, w2, rfl⟩ : ∃ w0 w1 w2 : Value, args = #[w0, w1, w2] := by
    have hs : args.size = 3 := by simpa [Cond.value, given_1] using g0
    obtain ⟨L⟩ := args
    match L, hs with
    | [w0, w1, w2], _ => exact ⟨w0, w1, w2, rfl⟩
  have hw := fun d (hd : d ∈ tables_1) => atoms_spec (ws := Jvm.Cond.code x code maxLocals ret :: tables_1) hat d (List.mem_cons_of_mem _ hd)
  obtain ⟨i0, ei0⟩ := is_v v0
  obtain rfl : w0 = (.int i0) := Option.some.inj ei0
  obtain ⟨i1, ei1⟩ := is_v v1
  obtain rfl : w1 = (.int i1) := Option.some.inj ei1
  obtain ⟨i2, ei2⟩ := is_v r2
  obtain rfl : w2 = (.int i2) := Option.some.inj ei2
  obtain ⟨n, o, h1, h2, h3, _, L, rfl, ⟨rfl, N⟩, hq⟩ := con0 l s _ hw s.heap.size s.heap (Nat.le_refl _) i0 i1 i2 tables_1 p e ha hc hk s m _ below hf ((Spec.applies_iff_loose hf).mp happ).1 ⟨rfl, State.Warmed39.refl s, rfl⟩ trivial
  refine ⟨n, _, h1, h2, h3, hpost _ _ _ _ _ _ ⟨Cond.after_iff.mpr rfl, Cond.after_iff.mpr (eq_i res_at (Term.int_eval (1)) rfl), trivial⟩ ⟨hq.1, hq.2.1, (hq.2.2.sift fun y hy => Or.inr (N y hy)).mono (by decide) (by decide)⟩⟩
theorem main_1_1 : Claimed_1_1 := comes_1 fun _ _ _ _ _ _ h hF => ⟨h.1, hF⟩
theorem main_1_2 : Claimed_1_2 := comes_1 fun _ _ _ _ _ _ h hF => ⟨h.2.1, hF⟩
end Jvm.Pilot.@@N@@
namespace Jvm.Pilot.@@N@@
open Jvm Jvm.ClassFile Sem Op Lib Jvm.Free Jvm.Stand Jvm.Pilot.@@N@@.Jvm.D
/-! MADE BY PROGRAM (witnessworld.py) out of the Statement's table words and the real class files: 10 classes; the members and pool entries that the words name. The judged class is class 1, her method 2. -/
namespace start1
open Jvm.ClassFile
def u (s : String) : CpInfo := .utf8 (stringToUtf16 s)
/-- a pool by its gaps: so many unusable entries, then the entry; so many at the end -/
def gap : Nat → List CpInfo → List CpInfo
  | 0, r => r
  | n + 1, r => .unusable :: gap n r
def poolList (es : List (Nat × CpInfo)) (last : Nat) : List CpInfo := es.foldr (fun e r => gap e.1 (e.2 :: r)) (gap last [])
def pool (es : List (Nat × CpInfo)) (last : Nat) : Array CpInfo := ⟨poolList es last⟩
def fileOf (pool : Array CpInfo) (this : Nat) (attrs : Array Attribute := #[]) (ms : Array MethodInfo := #[]) (fl : Nat := 33) (sup : Nat := 0) (ifs : Array Nat := #[]) (fds : Array FieldInfo := #[]) : ClassFile where
  minorVersion := 0
  majorVersion := 65
  constantPool := pool
  accessFlags := fl
  thisClass := this
  superClass := sup
  interfaces := ifs
  fields := fds
  methods := ms
  attributes := attrs
def plain (name : String) (sup : Option ClassId) : Class where
  name := name
  kind := .ordinary
  loader := none
  accessFlags := 33
  super := sup
  interfaces := #[]
  cf := none
  fields := #[]
  methods := #[]
  instanceTypes := #[]
  staticTypes := #[]
  resolved := #[]
  callSites := []
  init := .initialized
  statics := none
  mirror := none

def pool0 : Array CpInfo := pool [(5, u "<init>"), (0, u "()V"), (1, .class_ 10), (1, u "java/lang/Object")] 113

def k0c0 : Code := { maxStack := 0, maxLocals := 1, code := object_method_1_code, exceptionTable := #[], attributes := #[] }
def k0m0 : Method := { name := "<init>", desc := "()V", sig := { parameters := [], returnType := none }, accessFlags := 1, code := some k0c0 }
/-- java/lang/Object -/
def k0 : Class := { plain "java/lang/Object" none with
  accessFlags := 33
  interfaces := #[]
  cf := some (fileOf pool0 8 #[] #[{ accessFlags := 1, nameIndex := 5, descriptorIndex := 6, attributes := #[] }] 33 0 #[] #[])
  fields := #[]
  methods := #[k0m0]
  instanceTypes := #[]
  staticTypes := #[]
  resolved := Array.replicate 124 none
  statics := none }

def pool1 : Array CpInfo := pool [(2, .class_ 4), (1, u "java/lang/Object"), (0, u "<init>"), (0, u "()V"), (0, .methodref 8 9), (0, .class_ 10), (0, .nameAndType 11 12), (0, u "java/lang/Math"), (0, u "min"), (0, u "(II)I"), (0, .methodref 14 15), (0, .class_ 16), (0, .nameAndType 17 18), (0, u "com/example/libdeleg/libdeleg/cose/CborReaderAtEndPinLaw"), (0, u "bool"), (0, u "(II)B"), (0, .class_ 20), (0, u "com/example/libdeleg/libdeleg/cose/CborReader"), (0, .methodref 19 22), (0, .nameAndType 5 23), (0, u "([B)V"), (0, .methodref 19 25), (0, .nameAndType 26 27), (0, u "atEnd"), (0, u "()Z"), (0, .methodref 19 29), (0, .nameAndType 30 27), (0, u "readBoolean"), (3, u "law"), (0, u "(III)Z")] 7

def k1m0 : Method := { name := "<init>", desc := "()V", sig := { parameters := [], returnType := none }, accessFlags := 2, code := none }
def k1c1 : Code := { maxStack := 2, maxLocals := 2, code := method_2_code, exceptionTable := #[], attributes := #[] }
def k1m1 : Method := { name := "bool", desc := "(II)B", sig := { parameters := [.int, .int], returnType := some .byte }, accessFlags := 10, code := some k1c1 }
def k1c2 : Code := { maxStack := 4, maxLocals := 8, code := code, exceptionTable := #[], attributes := #[] }
def k1m2 : Method := { name := "law", desc := "(III)Z", sig := { parameters := [.int, .int, .int], returnType := some .boolean }, accessFlags := 9, code := some k1c2 }
/-- com/example/libdeleg/libdeleg/cose/CborReaderAtEndPinLaw -/
def k1 : Class := { plain "com/example/libdeleg/libdeleg/cose/CborReaderAtEndPinLaw" (some 0) with
  accessFlags := 49
  interfaces := #[]
  cf := some (fileOf pool1 14 #[] #[{ accessFlags := 2, nameIndex := 5, descriptorIndex := 6, attributes := #[] }, { accessFlags := 10, nameIndex := 17, descriptorIndex := 18, attributes := #[] }, { accessFlags := 9, nameIndex := 34, descriptorIndex := 35, attributes := #[] }] 49 2 #[] #[])
  fields := #[]
  methods := #[k1m0, k1m1, k1m2]
  instanceTypes := #[]
  staticTypes := #[]
  resolved := Array.replicate 43 none
  statics := none }

def pool2 : Array CpInfo := pool [(1, .class_ 2), (0, u "java/lang/Math"), (1, .class_ 6), (1, u "java/lang/Object"), (0, u "<init>"), (0, u "()V"), (89, .class_ 100), (1, u "java/lang/Math$RandomNumberGeneratorHolder"), (71, u "negativeZeroFloatBits"), (0, u "J"), (2, u "negativeZeroDoubleBits"), (24, u "min"), (43, u "$assertionsDisabled"), (0, u "Z"), (88, u "(II)I"), (2, u "twoToTheDoubleScaleDown"), (0, u "D"), (4, u "twoToTheDoubleScaleUp"), (9, u "E"), (3, u "PI"), (2, u "TAU"), (2, u "DEGREES_TO_RADIANS"), (0, u "RADIANS_TO_DEGREES")] 94

def k2m0 : Method := { name := "<init>", desc := "()V", sig := { parameters := [], returnType := none }, accessFlags := 2, code := none }
def k2c1 : Code := { maxStack := 2, maxLocals := 2, code := jdk_29_method_69_code, exceptionTable := #[], attributes := #[] }
def k2m1 : Method := { name := "min", desc := "(II)I", sig := { parameters := [.int, .int], returnType := some .int }, accessFlags := 9, code := some k2c1 }
/-- java/lang/Math -/
def k2 : Class := { plain "java/lang/Math" (some 0) with
  accessFlags := 49
  interfaces := #[]
  cf := some (fileOf pool2 1 #[.nestMembers #[98]] #[{ accessFlags := 2, nameIndex := 7, descriptorIndex := 8, attributes := #[] }, { accessFlags := 9, nameIndex := 201, descriptorIndex := 335, attributes := #[] }] 49 4 #[] #[{ accessFlags := 25, nameIndex := 354, descriptorIndex := 339, attributes := #[] }, { accessFlags := 25, nameIndex := 358, descriptorIndex := 339, attributes := #[] }, { accessFlags := 25, nameIndex := 361, descriptorIndex := 339, attributes := #[] }, { accessFlags := 26, nameIndex := 364, descriptorIndex := 339, attributes := #[] }, { accessFlags := 26, nameIndex := 365, descriptorIndex := 339, attributes := #[] }, { accessFlags := 26, nameIndex := 172, descriptorIndex := 173, attributes := #[] }, { accessFlags := 26, nameIndex := 176, descriptorIndex := 173, attributes := #[] }, { accessFlags := 8, nameIndex := 344, descriptorIndex := 339, attributes := #[] }, { accessFlags := 8, nameIndex := 338, descriptorIndex := 339, attributes := #[] }, { accessFlags := 4120, nameIndex := 245, descriptorIndex := 246, attributes := #[] }])
  fields := #[{ name := "E", type := .double, accessFlags := 25, slot := 0, constantValue := 0 }, { name := "PI", type := .double, accessFlags := 25, slot := 1, constantValue := 0 }, { name := "TAU", type := .double, accessFlags := 25, slot := 2, constantValue := 0 }, { name := "DEGREES_TO_RADIANS", type := .double, accessFlags := 26, slot := 3, constantValue := 0 }, { name := "RADIANS_TO_DEGREES", type := .double, accessFlags := 26, slot := 4, constantValue := 0 }, { name := "negativeZeroFloatBits", type := .long, accessFlags := 26, slot := 5, constantValue := 0 }, { name := "negativeZeroDoubleBits", type := .long, accessFlags := 26, slot := 6, constantValue := 0 }, { name := "twoToTheDoubleScaleUp", type := .double, accessFlags := 8, slot := 7, constantValue := 0 }, { name := "twoToTheDoubleScaleDown", type := .double, accessFlags := 8, slot := 8, constantValue := 0 }, { name := "$assertionsDisabled", type := .boolean, accessFlags := 4120, slot := 9, constantValue := 0 }]
  methods := #[k2m0, k2m1]
  instanceTypes := #[]
  staticTypes := #[.double, .double, .double, .double, .double, .long, .long, .double, .double, .boolean]
  resolved := Array.replicate 460 none
  statics := none }

def pool3 : Array CpInfo := pool [(1, .methodref 2 3), (0, .class_ 4), (0, .nameAndType 5 6), (0, u "java/lang/Object"), (0, u "<init>"), (0, u "()V"), (7, .fieldref 15 16), (0, .class_ 17), (0, .nameAndType 18 19), (0, u "com/example/libdeleg/libdeleg/cose/CborReader"), (0, u "data"), (0, u "[B"), (0, .fieldref 15 21), (0, .nameAndType 22 23), (0, u "position"), (0, u "I"), (0, .methodref 15 25), (0, .nameAndType 26 27), (0, u "atEnd"), (0, u "()Z"), (5, .methodref 15 34), (0, .nameAndType 35 36), (0, u "peek"), (0, u "()B"), (161, u "TYPE_NAMES"), (0, u "[Ljava/lang/String;"), (28, u "MAX_DEPTH"), (2, u "SKIPPED_CHARS"), (1, u "CUT_SHORT"), (0, u "Ljava/lang/String;"), (0, u "RESERVED_HEAD"), (0, u "NOT_SHORTEST"), (0, u "NOT_UTF8"), (0, u "([B)V"), (10, u "readBoolean")] 22

def k3c0 : Code := { maxStack := 3, maxLocals := 2, code := prog_12_method_1_code, exceptionTable := #[], attributes := #[] }
def k3m0 : Method := { name := "<init>", desc := "([B)V", sig := { parameters := [(.array .byte)], returnType := none }, accessFlags := 1, code := some k3c0 }
def k3c1 : Code := { maxStack := 2, maxLocals := 1, code := prog_12_method_2_code, exceptionTable := #[], attributes := #[] }
def k3m1 : Method := { name := "atEnd", desc := "()Z", sig := { parameters := [], returnType := some .boolean }, accessFlags := 1, code := some k3c1 }
def k3c2 : Code := { maxStack := 3, maxLocals := 2, code := prog_12_method_8_code, exceptionTable := #[], attributes := #[] }
def k3m2 : Method := { name := "readBoolean", desc := "()Z", sig := { parameters := [], returnType := some .boolean }, accessFlags := 1, code := some k3c2 }
def k3c3 : Code := { maxStack := 3, maxLocals := 1, code := prog_12_method_23_code, exceptionTable := #[], attributes := #[] }
def k3m3 : Method := { name := "peek", desc := "()B", sig := { parameters := [], returnType := some .byte }, accessFlags := 2, code := some k3c3 }
/-- com/example/libdeleg/libdeleg/cose/CborReader -/
def k3 : Class := { plain "com/example/libdeleg/libdeleg/cose/CborReader" (some 0) with
  accessFlags := 49
  interfaces := #[]
  cf := some (fileOf pool3 15 #[] #[{ accessFlags := 1, nameIndex := 5, descriptorIndex := 238, attributes := #[] }, { accessFlags := 1, nameIndex := 26, descriptorIndex := 27, attributes := #[] }, { accessFlags := 1, nameIndex := 249, descriptorIndex := 27, attributes := #[] }, { accessFlags := 2, nameIndex := 35, descriptorIndex := 36, attributes := #[] }] 49 2 #[] #[{ accessFlags := 24, nameIndex := 228, descriptorIndex := 23, attributes := #[] }, { accessFlags := 26, nameIndex := 231, descriptorIndex := 23, attributes := #[] }, { accessFlags := 26, nameIndex := 233, descriptorIndex := 234, attributes := #[] }, { accessFlags := 26, nameIndex := 235, descriptorIndex := 234, attributes := #[] }, { accessFlags := 26, nameIndex := 236, descriptorIndex := 234, attributes := #[] }, { accessFlags := 26, nameIndex := 237, descriptorIndex := 234, attributes := #[] }, { accessFlags := 26, nameIndex := 198, descriptorIndex := 199, attributes := #[] }, { accessFlags := 18, nameIndex := 18, descriptorIndex := 19, attributes := #[] }, { accessFlags := 2, nameIndex := 22, descriptorIndex := 23, attributes := #[] }])
  fields := #[{ name := "MAX_DEPTH", type := .int, accessFlags := 24, slot := 0, constantValue := 0 }, { name := "SKIPPED_CHARS", type := .int, accessFlags := 26, slot := 1, constantValue := 0 }, { name := "CUT_SHORT", type := (.object "java/lang/String"), accessFlags := 26, slot := 2, constantValue := 0 }, { name := "RESERVED_HEAD", type := (.object "java/lang/String"), accessFlags := 26, slot := 3, constantValue := 0 }, { name := "NOT_SHORTEST", type := (.object "java/lang/String"), accessFlags := 26, slot := 4, constantValue := 0 }, { name := "NOT_UTF8", type := (.object "java/lang/String"), accessFlags := 26, slot := 5, constantValue := 0 }, { name := "TYPE_NAMES", type := (.array (.object "java/lang/String")), accessFlags := 26, slot := 6, constantValue := 0 }, { name := "data", type := (.array .byte), accessFlags := 18, slot := 0, constantValue := 0 }, { name := "position", type := .int, accessFlags := 2, slot := 1, constantValue := 0 }]
  methods := #[k3m0, k3m1, k3m2, k3m3]
  instanceTypes := #[(.array .byte), .int]
  staticTypes := #[.int, .int, (.object "java/lang/String"), (.object "java/lang/String"), (.object "java/lang/String"), (.object "java/lang/String"), (.array (.object "java/lang/String"))]
  resolved := Array.replicate 272 none
  statics := none }

def pool4 : Array CpInfo := pool [(1, u "java/lang/Cloneable"), (0, .class_ 1), (0, u "java/lang/Object"), (0, .class_ 3)] 3

/-- java/lang/Cloneable -/
def k4 : Class := { plain "java/lang/Cloneable" (some 0) with
  accessFlags := 1537
  interfaces := #[]
  cf := some (fileOf pool4 2 #[] #[] 1537 4 #[] #[])
  fields := #[]
  methods := #[]
  instanceTypes := #[]
  staticTypes := #[]
  resolved := Array.replicate 8 none
  statics := none }

def pool5 : Array CpInfo := pool [(1, u "java/io/Serializable"), (0, .class_ 1), (0, u "java/lang/Object"), (0, .class_ 3)] 3

/-- java/io/Serializable -/
def k5 : Class := { plain "java/io/Serializable" (some 0) with
  accessFlags := 1537
  interfaces := #[]
  cf := some (fileOf pool5 2 #[] #[] 1537 4 #[] #[])
  fields := #[]
  methods := #[]
  instanceTypes := #[]
  staticTypes := #[]
  resolved := Array.replicate 8 none
  statics := none }

/-- the primitive byte -/
def k6 : Class := { plain "byte" none with kind := .primitive 'B', accessFlags := 0x411 }
/-- [B -/
def k7 : Class := { plain "[B" (some 0) with kind := .array 6 .byte, interfaces := #[4, 5], accessFlags := 1041 }

/-- the primitive int -/
def k8 : Class := { plain "int" none with kind := .primitive 'I', accessFlags := 0x411 }
/-- [I -/
def k9 : Class := { plain "[I" (some 0) with kind := .array 8 .int, interfaces := #[4, 5], accessFlags := 1041 }

def heap : Heap := #[]
def classes : Array Class := #[k0, k1, k2, k3, k4, k5, k6, k7, k8, k9]
def interned : List (Array UInt16 × Addr) := []
def slotsUsed : Nat := 0
def theMethod : MethodId := ⟨1, 2⟩
def args0 : Array Value := #[.int 7, .int 6, .int 7]
def aboutOver (below : List Frame) : State where
  vm := { classes := classes, interned := interned.toArray }
  heap := heap
  slotsUsed := slotsUsed
  threads := #[{ frames := .invoking theMethod args0 :: below }]
def below0 : List Frame := [.native { method := ⟨0, 0⟩, args := #[] }]
def about1 : State := aboutOver below0
def p0 : Program := .bare "" "" ""
def e0 : Env := launch0.env 0 0 0
theorem w_frames : about1.frames = Frame.invoking theMethod args0 :: below0 := rfl
set_option maxRecDepth 65536 in
theorem w_args : argsFit about1.vm theMethod args0 = true := by decide +kernel
set_option maxRecDepth 65536 in
theorem w_heap : heapFits about1 = true := by decide +kernel
set_option maxRecDepth 65536 in
theorem w_runnable : about1.curStatus? = some .runnable := by decide +kernel
set_option maxRecDepth 65536 in
theorem w_alone : about1.alone = true := by decide +kernel
set_option maxRecDepth 65536 in
theorem w_named : about1.methodNamed? x = some theMethod := by decide +kernel
set_option maxRecDepth 65536 in
theorem w_hears : about1.hears theMethod below0 = true := by decide +kernel
set_option maxRecDepth 65536 in
theorem w_ripe : about1.ripe theMethod args0 below0 = true := by decide +kernel
theorem w_running : about1.status = .running := rfl
set_option maxRecDepth 65536 in
theorem w_room : about1.hasRoom e0.platform room_1 = true :=
  launch0.hasRoom_least _ room_1 (by decide +kernel) (by decide +kernel) (by decide +kernel) (by decide +kernel) (by decide +kernel) (by decide +kernel)
theorem allAtoms_all (ts : List Jvm.Cond) (a : Array Jvm.Value) (st : Jvm.State) : (allAtoms ts).before a st = ts.all (fun c => c.before a st) := by
  induction ts with
  | nil => rfl
  | cons c t ih =>
    show (Jvm.Cond.and c (allAtoms t)).before a st = _
    rw [Jvm.Cond.before_and, ih, List.all_cons]
def words1 : List Jvm.Cond := Jvm.Cond.code x code maxLocals ret :: tables_1
/-- a 'code' word, met by the world's own term for the bytes: nothing is compared byte by byte -/
theorem code_word {y : MethodName} {bytes : ByteArray} {mx : Nat} {rt : Option FieldType} {a : Array Value} {s : State} {m : MethodId} {meth : Method} {c : Code} (h1 : s.methodNamed? y = some m) (h2 : s.vm.method? m = some meth) (h3 : meth.code = some c) (h4 : c.code = bytes)
    (h5 : (c.maxLocals == mx && c.exceptionTable.isEmpty && decide (c.maxStack ≤ mostOperands) && decide (meth.sig.returnType = rt) && !meth.locks && decide (parseMethodDescriptor y.desc = some meth.sig)) = true) : (Jvm.Cond.code y bytes mx rt).before a s = true := by
  simp only [Bool.and_eq_true, beq_iff_eq, Bool.not_eq_true', decide_eq_true_eq] at h5
  obtain ⟨⟨⟨⟨⟨g1, g2⟩, g3⟩, g4⟩, g5⟩, g6⟩ := h5
  simp [Cond.before, Cond.holds, Cond.value, h1, h2, h3, h4, g1, g2, g3, g4, g5, g6]
def isCode : Jvm.Cond → Bool
  | .code _ _ _ _ => true
  | _ => false
theorem all_split {L : List Jvm.Cond} {P : Jvm.Cond → Bool} (h1 : L.all (fun c => isCode c || P c) = true) (h2 : ∀ c ∈ L.filter isCode, P c = true) : L.all P = true := by
  refine List.all_eq_true.mpr fun c hc => ?_
  have h := List.all_eq_true.mp h1 c hc
  rcases Bool.eq_false_or_eq_true (isCode c) with hi | hi
  · exact h2 c (List.mem_filter.mpr ⟨hc, hi⟩)
  · simpa [hi] using h
set_option maxRecDepth 65536 in
theorem w_c0 : (Jvm.Cond.code x code maxLocals ret).before args0 about1 = true := code_word (m := ⟨1, 2⟩) (meth := k1m2) (c := k1c2) (by decide +kernel) rfl rfl rfl (by decide +kernel)
set_option maxRecDepth 65536 in
theorem w_c1 : (Jvm.Cond.code ({ cls := "java/lang/Math", name := "min", desc := "(II)I" } : Jvm.MethodName) jdk_29_method_69_code (2 : Nat) (Option.some Jvm.ClassFile.FieldType.int)).before args0 about1 = true := code_word (m := ⟨2, 1⟩) (meth := k2m1) (c := k2c1) (by decide +kernel) rfl rfl rfl (by decide +kernel)
set_option maxRecDepth 65536 in
theorem w_c2 : (Jvm.Cond.code ({ cls := "com/example/libdeleg/libdeleg/cose/CborReader", name := "<init>", desc := "([B)V" } : Jvm.MethodName) prog_12_method_1_code (2 : Nat) (Option.none : Option Jvm.ClassFile.FieldType)).before args0 about1 = true := code_word (m := ⟨3, 0⟩) (meth := k3m0) (c := k3c0) (by decide +kernel) rfl rfl rfl (by decide +kernel)
set_option maxRecDepth 65536 in
theorem w_c3 : (Jvm.Cond.code ({ cls := "java/lang/Object", name := "<init>", desc := "()V" } : Jvm.MethodName) object_method_1_code (1 : Nat) (Option.none : Option Jvm.ClassFile.FieldType)).before args0 about1 = true := code_word (m := ⟨0, 0⟩) (meth := k0m0) (c := k0c0) (by decide +kernel) rfl rfl rfl (by decide +kernel)
set_option maxRecDepth 65536 in
theorem w_c4 : (Jvm.Cond.code ({ cls := "com/example/libdeleg/libdeleg/cose/CborReader", name := "atEnd", desc := "()Z" } : Jvm.MethodName) prog_12_method_2_code (1 : Nat) (Option.some Jvm.ClassFile.FieldType.boolean)).before args0 about1 = true := code_word (m := ⟨3, 1⟩) (meth := k3m1) (c := k3c1) (by decide +kernel) rfl rfl rfl (by decide +kernel)
set_option maxRecDepth 65536 in
theorem w_c5 : (Jvm.Cond.code ({ cls := "com/example/libdeleg/libdeleg/cose/CborReaderAtEndPinLaw", name := "bool", desc := "(II)B" } : Jvm.MethodName) method_2_code (2 : Nat) (Option.some Jvm.ClassFile.FieldType.byte)).before args0 about1 = true := code_word (m := ⟨1, 1⟩) (meth := k1m1) (c := k1c1) (by decide +kernel) rfl rfl rfl (by decide +kernel)
set_option maxRecDepth 65536 in
theorem w_c6 : (Jvm.Cond.code ({ cls := "com/example/libdeleg/libdeleg/cose/CborReader", name := "readBoolean", desc := "()Z" } : Jvm.MethodName) prog_12_method_8_code (2 : Nat) (Option.some Jvm.ClassFile.FieldType.boolean)).before args0 about1 = true := code_word (m := ⟨3, 2⟩) (meth := k3m2) (c := k3c2) (by decide +kernel) rfl rfl rfl (by decide +kernel)
set_option maxRecDepth 65536 in
theorem w_c7 : (Jvm.Cond.code ({ cls := "com/example/libdeleg/libdeleg/cose/CborReader", name := "peek", desc := "()B" } : Jvm.MethodName) prog_12_method_23_code (1 : Nat) (Option.some Jvm.ClassFile.FieldType.byte)).before args0 about1 = true := code_word (m := ⟨3, 3⟩) (meth := k3m3) (c := k3c3) (by decide +kernel) rfl rfl rfl (by decide +kernel)
def codes1 : List Jvm.Cond := [Jvm.Cond.code x code maxLocals ret, Jvm.Cond.code ({ cls := "java/lang/Math", name := "min", desc := "(II)I" } : Jvm.MethodName) jdk_29_method_69_code (2 : Nat) (Option.some Jvm.ClassFile.FieldType.int), Jvm.Cond.code ({ cls := "com/example/libdeleg/libdeleg/cose/CborReader", name := "<init>", desc := "([B)V" } : Jvm.MethodName) prog_12_method_1_code (2 : Nat) (Option.none : Option Jvm.ClassFile.FieldType), Jvm.Cond.code ({ cls := "java/lang/Object", name := "<init>", desc := "()V" } : Jvm.MethodName) object_method_1_code (1 : Nat) (Option.none : Option Jvm.ClassFile.FieldType), Jvm.Cond.code ({ cls := "com/example/libdeleg/libdeleg/cose/CborReader", name := "atEnd", desc := "()Z" } : Jvm.MethodName) prog_12_method_2_code (1 : Nat) (Option.some Jvm.ClassFile.FieldType.boolean), Jvm.Cond.code ({ cls := "com/example/libdeleg/libdeleg/cose/CborReaderAtEndPinLaw", name := "bool", desc := "(II)B" } : Jvm.MethodName) method_2_code (2 : Nat) (Option.some Jvm.ClassFile.FieldType.byte), Jvm.Cond.code ({ cls := "com/example/libdeleg/libdeleg/cose/CborReader", name := "readBoolean", desc := "()Z" } : Jvm.MethodName) prog_12_method_8_code (2 : Nat) (Option.some Jvm.ClassFile.FieldType.boolean), Jvm.Cond.code ({ cls := "com/example/libdeleg/libdeleg/cose/CborReader", name := "peek", desc := "()B" } : Jvm.MethodName) prog_12_method_23_code (1 : Nat) (Option.some Jvm.ClassFile.FieldType.byte)]
set_option maxRecDepth 65536 in
theorem codes_eq : words1.filter isCode = codes1 := rfl
theorem w_codes : ∀ c ∈ words1.filter isCode, c.before args0 about1 = true := by
  rw [codes_eq]
  intro c hc
  simp only [codes1, List.mem_cons, List.not_mem_nil, or_false] at hc
  rcases hc with rfl | rfl | rfl | rfl | rfl | rfl | rfl | rfl
  · exact w_c0
  · exact w_c1
  · exact w_c2
  · exact w_c3
  · exact w_c4
  · exact w_c5
  · exact w_c6
  · exact w_c7
set_option maxRecDepth 65536 in
theorem w_t1 : (words1.take 24).all (fun c => isCode c || c.before args0 about1) = true := by decide +kernel
set_option maxRecDepth 65536 in
theorem w_t2 : (words1.drop 24).all (fun c => isCode c || c.before args0 about1) = true := by decide +kernel
theorem w_tables : (allAtoms (Jvm.Cond.code x code maxLocals ret :: tables_1)).before args0 about1 = true := by
  rw [allAtoms_all]
  show words1.all (fun c => c.before args0 about1) = true
  refine all_split ?_ w_codes
  rw [← List.take_append_drop 24 words1, List.all_append, w_t1, w_t2]
  rfl
set_option maxRecDepth 65536 in
theorem w_case : (Jvm.Cond.and given_1 narrow_1).before args0 about1 = true := by decide +kernel
theorem w_applies : (headSpec (Jvm.Cond.code x code maxLocals ret :: tables_1) room_1).applies x e0.platform about1 = true :=
  (Spec.applies_iff w_frames).mpr ⟨w_running, w_runnable, w_alone, w_named, w_hears, w_ripe, w_room, w_tables⟩
theorem atStart : AtStart classFile x code maxLocals ret World_1 tables_1 room_1 Calls_1 rest_1 Pre_1 launch0 p0 e0 about1 theMethod args0 below0 :=
  ⟨lists_1, trivial, launch0.admits_env _ _ _, launch0.least_env, fairChoices_fair.cas, fairChoices_fair.clock, w_frames, w_args, w_heap, w_applies, trivial, trivial, w_case⟩
end start1
theorem witness_1 : WitnessClaimed_1 := ⟨start1.p0, start1.e0, start1.about1, start1.theMethod, start1.args0, start1.below0, start1.atStart⟩
end Jvm.Pilot.@@N@@

import JvmDerived
import JvmDerived.Pilot.@@N@@Statement
import JvmDerived.Pilot.@@N@@Code
set_option linter.unusedVariables false
set_option linter.unusedSimpArgs false
@@BLOCK:NumsL.lean.txt@@

namespace Jvm.OwnKit
open Sem ClassFile Op Lib Jvm.Stand Jvm.Free Jvm.LawKit Jvm.RoadKit
/-- where the run of one body stands: the heap h, cells and slots used at the most; nothing below n0 was written -/
def St (p : Program) (l : Launch) (e : Env) (R : Room) (s : State) (m : MethodId) (args : Array Value) (below : List Frame) (meth : Method) (c : Code) (Z : State) (code : ByteArray) (own : String) (ret : Option FieldType) (ml : Nat) (nm : String) (n0 : Nat) (T : State) (h : Heap) (cells slots : Nat) : Prop :=
  ∃ locs, Stand p l e R s m args below meth c T locs cells slots ∧ p.tables.exec = Jvm.exec ∧ Z.Warmed39 s.vm ∧ c.code = code ∧ s.vm.findClass own = some m.cls ∧ meth.sig.returnType = ret ∧ c.maxLocals = ml ∧ meth.name = nm ∧ meth.locks = false ∧ T.heap = h ∧ Fr n0 locs ∧ n0 ≤ s.heap.size
/-- the run from T with the top frame f ends, and returns as Q says -/
def Ends (p : Program) (e : Env) (below : List Frame) (s : State) (n0 C S : Nat) (Q : Option Value → Heap → Prop) (T : State) (f : JFrame) : Prop :=
  ∃ s₂ o, Steps p.tables e below (T.setTop f) s₂ ∧ s₂.status = .running ∧ Ended s₂ below o ∧ ∃ v L, o = .returned v ∧ (Q v s₂.heap ∧ Fr n0 L) ∧ FrameEnd s o s₂ L C S
/-- the contract of a body: called with 'as' at the heap h it returns as Q says -/
def Con (l : Launch) (y : MethodName) (bytes : ByteArray) (maxL : Nat) (ret : Option FieldType) (rm : Room) (C S : Nat) (Z : State) (n0 : Nat) (as : Array Value) (h : Heap) (Q : Option Value → Heap → Prop) : Prop :=
  ∀ ws, MetFree l y (head1 (Cond.code y bytes maxL ret :: ws) rm) (fun a U => a = as ∧ Z.Warmed39 U.vm ∧ U.heap = h) (fun _ _ _ _ _ => True) (fun _ U o U' => ∃ v L, o = .returned v ∧ (Q v U'.heap ∧ Fr n0 L) ∧ FrameEnd U o U' L C S)
theorem Ends.by {p : Program} {e : Env} {below : List Frame} {s : State} {n0 C S : Nat} {Q : Option Value → Heap → Prop} {T T' : State} {f f' : JFrame} (st : ∀ target, Steps p.tables e below (T'.setTop f') target → Steps p.tables e below (T.setTop f) target) (k : Ends p e below s n0 C S Q T' f') : Ends p e below s n0 C S Q T f := by
  obtain ⟨s₂, o, h1, r⟩ := k
  exact ⟨s₂, o, st _ h1, r⟩
theorem Con.body {l : Launch} {y : MethodName} {bytes : ByteArray} {maxL : Nat} {ret : Option FieldType} {rm : Room} {C S : Nat} {Z : State} {n0 : Nat} {as : Array Value} {h : Heap} {Q : Option Value → Heap → Prop} {own nm : String} (ho : y.cls = own) (hnm0 : y.name = nm) (hpl : plainFor y = true) (hn : n0 ≤ h.size)
    (B : ∀ (p : Program) (e : Env) (s : State) (m : MethodId) (below : List Frame) (meth : Method) (c : Code) (T : State), St p l e rm s m as below meth c Z bytes own ret maxL nm n0 T h 0 0 → Ends p e below s n0 C S Q T (entryFrame m as maxL)) : Con l y bytes maxL ret rm C S Z n0 as h Q := by
  subst ho hnm0
  intro ws
  refine MetFree.of_bodySF hpl hisR ?_
  intro p e s m args below meth c s₁ Bd hml0 hP hK
  obtain ⟨rfl, hZ, hh⟩ := hP
  have hnm := (name_of_methodNamed Bd.named Bd.method).1
  exact B p e s m below meth c s₁ ⟨[], Stand.of_body Bd, Bd.exec, hZ, Bd.bytes, findClass_of_methodNamed Bd.named, Bd.returns, hml0, hnm, Bd.notSynchronized, by rw [← hh, Bd.state]; rfl, Fr.nil n0, hh ▸ hn⟩

/-! plain facts on numbers -/
theorem own_len32 {n : Nat} (h : n < 2147483648) : n.toInt32.toNatClampNeg = n := by
  have e1 : (n.toInt32).toInt = n := len_toInt (by omega)
  simp only [Int32.toNatClampNeg, e1]; omega
theorem own_ofNat {n : Nat} (h : n < 2147483648) : (Int32.ofNat n).toInt = n := Int32.toInt_ofNat_of_lt (by omega)
theorem own_natOf {x : Int32} (h : 0 ≤ x.toInt) : x = Int32.ofNat x.toInt.toNat := by
  have r := rng32 x
  apply Int32.toInt_inj.mp
  rw [own_ofNat (by omega)]; omega
theorem own_maskN (x m : Int32) (k : Nat) (hk : k < 32) (hm : m.toBitVec.toNat = 2 ^ k - 1) : ∃ n : Nat, n < 2 ^ k ∧ (x &&& m) = Int32.ofNat n := by
  have e := Jvm.Kit.i32_mask x m (k := k) hk hm
  have p : (0 : Int) < 2 ^ k := Int.pow_pos (by decide)
  have a := Int.emod_nonneg x.toInt (Int.ne_of_gt p)
  have b := Int.emod_lt_of_pos x.toInt p
  refine ⟨(x &&& m).toInt.toNat, ?_, own_natOf (by omega)⟩
  rw [e]
  have c : ((x.toInt % 2 ^ k).toNat : Int) < ((2 ^ k : Nat) : Int) := by rw [Int.toNat_of_nonneg a]; simpa using b
  exact_mod_cast c
theorem own_rem (x m : Int32) (q : Nat) (hm : m.toInt = q) (h1 : 0 < q) : ∃ n : Nat, n < q ∧ (x &&& 2147483647) % m = Int32.ofNat n := by
  have e := Jvm.Kit.i32_mask x 2147483647 (k := 31) (by decide) (by decide)
  have p : 0 ≤ (x &&& 2147483647).toInt := by omega
  have e2 := Jvm.Kit.i32_rem_nonneg (y := m) p
  have hp : (0 : Int) < m.toInt := by omega
  have a := Int.emod_nonneg (x &&& 2147483647).toInt (Int.ne_of_gt hp)
  have b := Int.emod_lt_of_pos (x &&& 2147483647).toInt hp
  exact ⟨((x &&& 2147483647) % m).toInt.toNat, by omega, own_natOf (by omega)⟩
theorem own_m3 {x z : Int32} (h : x &&& (3 : Int32) = z) : z = 0 ∨ z = 1 ∨ z = 2 ∨ z = 3 := by
  obtain ⟨n, hn, e⟩ := own_maskN x 3 2 (by decide) (by decide)
  rw [← h, e]
  have : ∀ i : Fin 4, Int32.ofNat i = 0 ∨ Int32.ofNat i = 1 ∨ Int32.ofNat i = 2 ∨ Int32.ofNat i = 3 := by decide +kernel
  exact this ⟨n, hn⟩
theorem own_m1 {x z : Int32} (h : x &&& (1 : Int32) = z) : z = 0 ∨ z = 1 := by
  obtain ⟨n, hn, e⟩ := own_maskN x 1 1 (by decide) (by decide)
  rw [← h, e]
  have : ∀ i : Fin 2, Int32.ofNat i = 0 ∨ Int32.ofNat i = 1 := by decide +kernel
  exact this ⟨n, hn⟩
section Laws
variable {p : Program} {l : Launch} {e : Env} {R : Room} {s : State} {m : MethodId} {args : Array Value} {below : List Frame} {meth : Method} {c : Code} {Z : State} {code : ByteArray} {own : String} {ret : Option FieldType} {ml : Nat} {nm : String} {n0 : Nat} {T : State} {h : Heap} {cells slots : Nat} {C S : Nat} {Q : Option Value → Heap → Prop} {pc pc' : Nat} {Ls : Array Slot} {stk : List Value}
theorem St.more (X : St p l e R s m args below meth c Z code own ret ml nm n0 T h cells slots) {cells' slots' : Nat} (h1 : cells ≤ cells') (h2 : slots ≤ slots') : St p l e R s m args below meth c Z code own ret ml nm n0 T h cells' slots' := by
  obtain ⟨locs, Y, r⟩ := X
  exact ⟨locs, Y.more h1 h2, r⟩
theorem St.size (X : St p l e R s m args below meth c Z code own ret ml nm n0 T h cells slots) : n0 ≤ h.size := by
  obtain ⟨locs, Y, hx, hZ, hc, ho, hr, hm, hn, hk, rfl, hF, h0⟩ := X
  exact Nat.le_trans h0 (Y.same.2.1 : s.heap.size ≤ T.heap.size)

theorem F_iloadN (X : St p l e R s m args below meth c Z code own ret ml nm n0 T h cells slots) {k : Fin 4} {v : Int32} (hd : decode code pc = .ok (.iload_n k, 1)) (hl : Ls[k.val]? = some (.val (.int v))) (hp : pc + 1 = pc') (k : Ends p e below s n0 C S Q T (mkF m pc' Ls (.int v :: stk))) : Ends p e below s n0 C S Q T (mkF m pc Ls stk) := by
  obtain ⟨locs, Y, hx, hZ, hc, ho, hr, hm, hn, hk, hh, hF, h0⟩ := X
  subst hp
  exact k.by fun _ kt => XS.iloadN Y.here hx rfl (hb hc hd) hl kt
theorem F_iload (X : St p l e R s m args below meth c Z code own ret ml nm n0 T h cells slots) {k : Nat} {v : Int32} (hd : decode code pc = .ok (.iload k, 2)) (hl : Ls[k]? = some (.val (.int v))) (hp : pc + 2 = pc') (k : Ends p e below s n0 C S Q T (mkF m pc' Ls (.int v :: stk))) : Ends p e below s n0 C S Q T (mkF m pc Ls stk) := by
  obtain ⟨locs, Y, hx, hZ, hc, ho, hr, hm, hn, hk, hh, hF, h0⟩ := X
  subst hp
  exact k.by fun _ kt => XS.iload Y.here hx rfl (hb hc hd) hl kt
theorem F_istoreN (X : St p l e R s m args below meth c Z code own ret ml nm n0 T h cells slots) {k : Fin 4} {v : Int32} {Ls' : Array Slot} (hd : decode code pc = .ok (.istore_n k, 1)) (hl : storeLocals Ls k.val (.int v) = some Ls') (hp : pc + 1 = pc') (k : Ends p e below s n0 C S Q T (mkF m pc' Ls' stk)) : Ends p e below s n0 C S Q T (mkF m pc Ls (.int v :: stk)) := by
  obtain ⟨locs, Y, hx, hZ, hc, ho, hr, hm, hn, hk, hh, hF, h0⟩ := X
  subst hp
  exact k.by fun _ kt => XS.istoreN Y.here hx rfl (hb hc hd) rfl hl kt
theorem F_istore (X : St p l e R s m args below meth c Z code own ret ml nm n0 T h cells slots) {k : Nat} {v : Int32} {Ls' : Array Slot} (hd : decode code pc = .ok (.istore k, 2)) (hl : storeLocals Ls k (.int v) = some Ls') (hp : pc + 2 = pc') (k : Ends p e below s n0 C S Q T (mkF m pc' Ls' stk)) : Ends p e below s n0 C S Q T (mkF m pc Ls (.int v :: stk)) := by
  obtain ⟨locs, Y, hx, hZ, hc, ho, hr, hm, hn, hk, hh, hF, h0⟩ := X
  subst hp
  exact k.by fun _ kt => XS.istore Y.here hx rfl (hb hc hd) rfl hl kt
theorem F_lloadN (X : St p l e R s m args below meth c Z code own ret ml nm n0 T h cells slots) {k : Fin 4} {v : Int64} (hd : decode code pc = .ok (.lload_n k, 1)) (hl : Ls[k.val]? = some (.val (.long v))) (hp : pc + 1 = pc') (k : Ends p e below s n0 C S Q T (mkF m pc' Ls (.long v :: stk))) : Ends p e below s n0 C S Q T (mkF m pc Ls stk) := by
  obtain ⟨locs, Y, hx, hZ, hc, ho, hr, hm, hn, hk, hh, hF, h0⟩ := X
  subst hp
  exact k.by fun _ kt => XS.lloadN Y.here hx rfl (hb hc hd) hl kt
theorem F_lload (X : St p l e R s m args below meth c Z code own ret ml nm n0 T h cells slots) {k : Nat} {v : Int64} (hd : decode code pc = .ok (.lload k, 2)) (hl : Ls[k]? = some (.val (.long v))) (hp : pc + 2 = pc') (k : Ends p e below s n0 C S Q T (mkF m pc' Ls (.long v :: stk))) : Ends p e below s n0 C S Q T (mkF m pc Ls stk) := by
  obtain ⟨locs, Y, hx, hZ, hc, ho, hr, hm, hn, hk, hh, hF, h0⟩ := X
  subst hp
  exact k.by fun _ kt => XS.lload Y.here hx rfl (hb hc hd) hl kt
theorem F_lstoreN (X : St p l e R s m args below meth c Z code own ret ml nm n0 T h cells slots) {k : Fin 4} {v : Int64} {Ls' : Array Slot} (hd : decode code pc = .ok (.lstore_n k, 1)) (hl : storeLocals Ls k.val (.long v) = some Ls') (hp : pc + 1 = pc') (k : Ends p e below s n0 C S Q T (mkF m pc' Ls' stk)) : Ends p e below s n0 C S Q T (mkF m pc Ls (.long v :: stk)) := by
  obtain ⟨locs, Y, hx, hZ, hc, ho, hr, hm, hn, hk, hh, hF, h0⟩ := X
  subst hp
  exact k.by fun _ kt => XS.lstoreN Y.here hx rfl (hb hc hd) rfl hl kt
theorem F_lstore (X : St p l e R s m args below meth c Z code own ret ml nm n0 T h cells slots) {k : Nat} {v : Int64} {Ls' : Array Slot} (hd : decode code pc = .ok (.lstore k, 2)) (hl : storeLocals Ls k (.long v) = some Ls') (hp : pc + 2 = pc') (k : Ends p e below s n0 C S Q T (mkF m pc' Ls' stk)) : Ends p e below s n0 C S Q T (mkF m pc Ls (.long v :: stk)) := by
  obtain ⟨locs, Y, hx, hZ, hc, ho, hr, hm, hn, hk, hh, hF, h0⟩ := X
  subst hp
  exact k.by fun _ kt => XS.lstore Y.here hx rfl (hb hc hd) rfl hl kt
theorem F_aloadN (X : St p l e R s m args below meth c Z code own ret ml nm n0 T h cells slots) {k : Fin 4} {v : Value} (hd : decode code pc = .ok (.aload_n k, 1)) (hl : Ls[k.val]? = some (.val v)) (hv : v.isRef = true) (hp : pc + 1 = pc') (k : Ends p e below s n0 C S Q T (mkF m pc' Ls (v :: stk))) : Ends p e below s n0 C S Q T (mkF m pc Ls stk) := by
  obtain ⟨locs, Y, hx, hZ, hc, ho, hr, hm, hn, hk, hh, hF, h0⟩ := X
  subst hp
  exact k.by fun _ kt => XS.aloadN Y.here hx rfl (hb hc hd) hl hv kt
theorem F_aload (X : St p l e R s m args below meth c Z code own ret ml nm n0 T h cells slots) {k : Nat} {v : Value} (hd : decode code pc = .ok (.aload k, 2)) (hl : Ls[k]? = some (.val v)) (hv : v.isRef = true) (hp : pc + 2 = pc') (k : Ends p e below s n0 C S Q T (mkF m pc' Ls (v :: stk))) : Ends p e below s n0 C S Q T (mkF m pc Ls stk) := by
  obtain ⟨locs, Y, hx, hZ, hc, ho, hr, hm, hn, hk, hh, hF, h0⟩ := X
  subst hp
  exact k.by fun _ kt => XS.aload Y.here hx rfl (hb hc hd) hl hv kt
theorem F_astoreN (X : St p l e R s m args below meth c Z code own ret ml nm n0 T h cells slots) {k : Fin 4} {v : Value} {Ls' : Array Slot} (hd : decode code pc = .ok (.astore_n k, 1)) (hv : v.isRef = true) (hl : storeLocals Ls k.val v = some Ls') (hp : pc + 1 = pc') (k : Ends p e below s n0 C S Q T (mkF m pc' Ls' stk)) : Ends p e below s n0 C S Q T (mkF m pc Ls (v :: stk)) := by
  obtain ⟨locs, Y, hx, hZ, hc, ho, hr, hm, hn, hk, hh, hF, h0⟩ := X
  subst hp
  exact k.by fun _ kt => XS.astoreN Y.here hx rfl (hb hc hd) rfl hv hl kt
theorem F_astore (X : St p l e R s m args below meth c Z code own ret ml nm n0 T h cells slots) {k : Nat} {v : Value} {Ls' : Array Slot} (hd : decode code pc = .ok (.astore k, 2)) (hv : v.isRef = true) (hl : storeLocals Ls k v = some Ls') (hp : pc + 2 = pc') (k : Ends p e below s n0 C S Q T (mkF m pc' Ls' stk)) : Ends p e below s n0 C S Q T (mkF m pc Ls (v :: stk)) := by
  obtain ⟨locs, Y, hx, hZ, hc, ho, hr, hm, hn, hk, hh, hF, h0⟩ := X
  subst hp
  exact k.by fun _ kt => XS.astore Y.here hx rfl (hb hc hd) rfl hv hl kt
theorem F_iconst (X : St p l e R s m args below meth c Z code own ret ml nm n0 T h cells slots) {i : Int} {z : Int32} (hd : decode code pc = .ok (.iconst i, 1)) (hz : Int32.ofInt i = z) (hp : pc + 1 = pc') (k : Ends p e below s n0 C S Q T (mkF m pc' Ls (.int z :: stk))) : Ends p e below s n0 C S Q T (mkF m pc Ls stk) := by
  obtain ⟨locs, Y, hx, hZ, hc, ho, hr, hm, hn, hk, hh, hF, h0⟩ := X
  subst hp
  exact k.by fun _ kt => XS.iconst Y.here hx rfl (hb hc hd) (hz ▸ kt)
theorem F_bipush (X : St p l e R s m args below meth c Z code own ret ml nm n0 T h cells slots) {i : Int} {z : Int32} (hd : decode code pc = .ok (.bipush i, 2)) (hz : (Int8.ofInt i).toInt32 = z) (hp : pc + 2 = pc') (k : Ends p e below s n0 C S Q T (mkF m pc' Ls (.int z :: stk))) : Ends p e below s n0 C S Q T (mkF m pc Ls stk) := by
  obtain ⟨locs, Y, hx, hZ, hc, ho, hr, hm, hn, hk, hh, hF, h0⟩ := X
  subst hp
  exact k.by fun _ kt => XS.bipush Y.here hx rfl (hb hc hd) (hz ▸ kt)
theorem F_sipush (X : St p l e R s m args below meth c Z code own ret ml nm n0 T h cells slots) {i : Int} {z : Int32} (hd : decode code pc = .ok (.sipush i, 3)) (hz : (Int16.ofInt i).toInt32 = z) (hp : pc + 3 = pc') (k : Ends p e below s n0 C S Q T (mkF m pc' Ls (.int z :: stk))) : Ends p e below s n0 C S Q T (mkF m pc Ls stk) := by
  obtain ⟨locs, Y, hx, hZ, hc, ho, hr, hm, hn, hk, hh, hF, h0⟩ := X
  subst hp
  exact k.by fun _ kt => XS.sipush Y.here hx rfl (hb hc hd) (hz ▸ kt)
theorem F_lconst (X : St p l e R s m args below meth c Z code own ret ml nm n0 T h cells slots) {i : Fin 2} {z : Int64} (hd : decode code pc = .ok (.lconst i, 1)) (hz : Int64.ofNat i = z) (hp : pc + 1 = pc') (k : Ends p e below s n0 C S Q T (mkF m pc' Ls (.long z :: stk))) : Ends p e below s n0 C S Q T (mkF m pc Ls stk) := by
  obtain ⟨locs, Y, hx, hZ, hc, ho, hr, hm, hn, hk, hh, hF, h0⟩ := X
  subst hp
  exact k.by fun _ kt => XS.lconst Y.here hx rfl (hb hc hd) (hz ▸ kt)
theorem F_aconst_null (X : St p l e R s m args below meth c Z code own ret ml nm n0 T h cells slots)  (hd : decode code pc = .ok (.aconst_null, 1)) (hp : pc + 1 = pc') (k : Ends p e below s n0 C S Q T (mkF m pc' Ls (.null :: stk))) : Ends p e below s n0 C S Q T (mkF m pc Ls stk) := by
  obtain ⟨locs, Y, hx, hZ, hc, ho, hr, hm, hn, hk, hh, hF, h0⟩ := X
  subst hp
  exact k.by fun _ kt => XS.aconstNull Y.here hx rfl (hb hc hd) kt
theorem F_iadd (X : St p l e R s m args below meth c Z code own ret ml nm n0 T h cells slots) {x y z : Int32} (hd : decode code pc = .ok (.iadd, 1)) (hz : x + y = z) (hp : pc + 1 = pc') (k : Ends p e below s n0 C S Q T (mkF m pc' Ls (.int z :: stk))) : Ends p e below s n0 C S Q T (mkF m pc Ls (.int y :: .int x :: stk)) := by
  obtain ⟨locs, Y, hx, hZ, hc, ho, hr, hm, hn, hk, hh, hF, h0⟩ := X
  subst hp
  exact k.by fun _ kt => XS.iadd Y.here hx rfl (hb hc hd) rfl (hz ▸ kt)
theorem F_isub (X : St p l e R s m args below meth c Z code own ret ml nm n0 T h cells slots) {x y z : Int32} (hd : decode code pc = .ok (.isub, 1)) (hz : x - y = z) (hp : pc + 1 = pc') (k : Ends p e below s n0 C S Q T (mkF m pc' Ls (.int z :: stk))) : Ends p e below s n0 C S Q T (mkF m pc Ls (.int y :: .int x :: stk)) := by
  obtain ⟨locs, Y, hx, hZ, hc, ho, hr, hm, hn, hk, hh, hF, h0⟩ := X
  subst hp
  exact k.by fun _ kt => XS.isub Y.here hx rfl (hb hc hd) rfl (hz ▸ kt)
theorem F_imul (X : St p l e R s m args below meth c Z code own ret ml nm n0 T h cells slots) {x y z : Int32} (hd : decode code pc = .ok (.imul, 1)) (hz : x * y = z) (hp : pc + 1 = pc') (k : Ends p e below s n0 C S Q T (mkF m pc' Ls (.int z :: stk))) : Ends p e below s n0 C S Q T (mkF m pc Ls (.int y :: .int x :: stk)) := by
  obtain ⟨locs, Y, hx, hZ, hc, ho, hr, hm, hn, hk, hh, hF, h0⟩ := X
  subst hp
  exact k.by fun _ kt => XS.imul Y.here hx rfl (hb hc hd) rfl (hz ▸ kt)
theorem F_iand (X : St p l e R s m args below meth c Z code own ret ml nm n0 T h cells slots) {x y z : Int32} (hd : decode code pc = .ok (.iand, 1)) (hz : x &&& y = z) (hp : pc + 1 = pc') (k : Ends p e below s n0 C S Q T (mkF m pc' Ls (.int z :: stk))) : Ends p e below s n0 C S Q T (mkF m pc Ls (.int y :: .int x :: stk)) := by
  obtain ⟨locs, Y, hx, hZ, hc, ho, hr, hm, hn, hk, hh, hF, h0⟩ := X
  subst hp
  exact k.by fun _ kt => XS.iand Y.here hx rfl (hb hc hd) rfl (hz ▸ kt)
theorem F_ior (X : St p l e R s m args below meth c Z code own ret ml nm n0 T h cells slots) {x y z : Int32} (hd : decode code pc = .ok (.ior, 1)) (hz : x ||| y = z) (hp : pc + 1 = pc') (k : Ends p e below s n0 C S Q T (mkF m pc' Ls (.int z :: stk))) : Ends p e below s n0 C S Q T (mkF m pc Ls (.int y :: .int x :: stk)) := by
  obtain ⟨locs, Y, hx, hZ, hc, ho, hr, hm, hn, hk, hh, hF, h0⟩ := X
  subst hp
  exact k.by fun _ kt => XS.ior Y.here hx rfl (hb hc hd) rfl (hz ▸ kt)
theorem F_ixor (X : St p l e R s m args below meth c Z code own ret ml nm n0 T h cells slots) {x y z : Int32} (hd : decode code pc = .ok (.ixor, 1)) (hz : x ^^^ y = z) (hp : pc + 1 = pc') (k : Ends p e below s n0 C S Q T (mkF m pc' Ls (.int z :: stk))) : Ends p e below s n0 C S Q T (mkF m pc Ls (.int y :: .int x :: stk)) := by
  obtain ⟨locs, Y, hx, hZ, hc, ho, hr, hm, hn, hk, hh, hF, h0⟩ := X
  subst hp
  exact k.by fun _ kt => XS.ixor Y.here hx rfl (hb hc hd) rfl (hz ▸ kt)
theorem F_ishl (X : St p l e R s m args below meth c Z code own ret ml nm n0 T h cells slots) {x y z : Int32} (hd : decode code pc = .ok (.ishl, 1)) (hz : x <<< (y &&& 31) = z) (hp : pc + 1 = pc') (k : Ends p e below s n0 C S Q T (mkF m pc' Ls (.int z :: stk))) : Ends p e below s n0 C S Q T (mkF m pc Ls (.int y :: .int x :: stk)) := by
  obtain ⟨locs, Y, hx, hZ, hc, ho, hr, hm, hn, hk, hh, hF, h0⟩ := X
  subst hp
  exact k.by fun _ kt => XS.ishl Y.here hx rfl (hb hc hd) rfl (hz ▸ kt)
theorem F_ishr (X : St p l e R s m args below meth c Z code own ret ml nm n0 T h cells slots) {x y z : Int32} (hd : decode code pc = .ok (.ishr, 1)) (hz : x >>> (y &&& 31) = z) (hp : pc + 1 = pc') (k : Ends p e below s n0 C S Q T (mkF m pc' Ls (.int z :: stk))) : Ends p e below s n0 C S Q T (mkF m pc Ls (.int y :: .int x :: stk)) := by
  obtain ⟨locs, Y, hx, hZ, hc, ho, hr, hm, hn, hk, hh, hF, h0⟩ := X
  subst hp
  exact k.by fun _ kt => XS.ishr Y.here hx rfl (hb hc hd) rfl (hz ▸ kt)
theorem F_iushr (X : St p l e R s m args below meth c Z code own ret ml nm n0 T h cells slots) {x y z : Int32} (hd : decode code pc = .ok (.iushr, 1)) (hz : (x.toUInt32 >>> (y &&& 31).toUInt32).toInt32 = z) (hp : pc + 1 = pc') (k : Ends p e below s n0 C S Q T (mkF m pc' Ls (.int z :: stk))) : Ends p e below s n0 C S Q T (mkF m pc Ls (.int y :: .int x :: stk)) := by
  obtain ⟨locs, Y, hx, hZ, hc, ho, hr, hm, hn, hk, hh, hF, h0⟩ := X
  subst hp
  exact k.by fun _ kt => XS.iushr Y.here hx rfl (hb hc hd) rfl (hz ▸ kt)
theorem F_idiv (X : St p l e R s m args below meth c Z code own ret ml nm n0 T h cells slots) {x y z : Int32} (hd : decode code pc = .ok (.idiv, 1)) (hy : y ≠ 0) (hz : x / y = z) (hp : pc + 1 = pc') (k : Ends p e below s n0 C S Q T (mkF m pc' Ls (.int z :: stk))) : Ends p e below s n0 C S Q T (mkF m pc Ls (.int y :: .int x :: stk)) := by
  obtain ⟨locs, Y, hx, hZ, hc, ho, hr, hm, hn, hk, hh, hF, h0⟩ := X
  subst hp
  exact k.by fun _ kt => XS.idiv Y.here hx rfl (hb hc hd) rfl hy (hz ▸ kt)
theorem F_irem (X : St p l e R s m args below meth c Z code own ret ml nm n0 T h cells slots) {x y z : Int32} (hd : decode code pc = .ok (.irem, 1)) (hy : y ≠ 0) (hz : x % y = z) (hp : pc + 1 = pc') (k : Ends p e below s n0 C S Q T (mkF m pc' Ls (.int z :: stk))) : Ends p e below s n0 C S Q T (mkF m pc Ls (.int y :: .int x :: stk)) := by
  obtain ⟨locs, Y, hx, hZ, hc, ho, hr, hm, hn, hk, hh, hF, h0⟩ := X
  subst hp
  exact k.by fun _ kt => iremM Y hx rfl (hb hc hd) rfl hy (hz ▸ kt)
theorem F_ineg (X : St p l e R s m args below meth c Z code own ret ml nm n0 T h cells slots) {x z : Int32} (hd : decode code pc = .ok (.ineg, 1)) (hz : -x = z) (hp : pc + 1 = pc') (k : Ends p e below s n0 C S Q T (mkF m pc' Ls (.int z :: stk))) : Ends p e below s n0 C S Q T (mkF m pc Ls (.int x :: stk)) := by
  obtain ⟨locs, Y, hx, hZ, hc, ho, hr, hm, hn, hk, hh, hF, h0⟩ := X
  subst hp
  exact k.by fun _ kt => XS.ineg Y.here hx rfl (hb hc hd) rfl (hz ▸ kt)
theorem F_ladd (X : St p l e R s m args below meth c Z code own ret ml nm n0 T h cells slots) {x y z : Int64} (hd : decode code pc = .ok (.ladd, 1)) (hz : x + y = z) (hp : pc + 1 = pc') (k : Ends p e below s n0 C S Q T (mkF m pc' Ls (.long z :: stk))) : Ends p e below s n0 C S Q T (mkF m pc Ls (.long y :: .long x :: stk)) := by
  obtain ⟨locs, Y, hx, hZ, hc, ho, hr, hm, hn, hk, hh, hF, h0⟩ := X
  subst hp
  exact k.by fun _ kt => XS.ladd Y.here hx rfl (hb hc hd) rfl (hz ▸ kt)
theorem F_lsub (X : St p l e R s m args below meth c Z code own ret ml nm n0 T h cells slots) {x y z : Int64} (hd : decode code pc = .ok (.lsub, 1)) (hz : x - y = z) (hp : pc + 1 = pc') (k : Ends p e below s n0 C S Q T (mkF m pc' Ls (.long z :: stk))) : Ends p e below s n0 C S Q T (mkF m pc Ls (.long y :: .long x :: stk)) := by
  obtain ⟨locs, Y, hx, hZ, hc, ho, hr, hm, hn, hk, hh, hF, h0⟩ := X
  subst hp
  exact k.by fun _ kt => XS.lsub Y.here hx rfl (hb hc hd) rfl (hz ▸ kt)
theorem F_lmul (X : St p l e R s m args below meth c Z code own ret ml nm n0 T h cells slots) {x y z : Int64} (hd : decode code pc = .ok (.lmul, 1)) (hz : x * y = z) (hp : pc + 1 = pc') (k : Ends p e below s n0 C S Q T (mkF m pc' Ls (.long z :: stk))) : Ends p e below s n0 C S Q T (mkF m pc Ls (.long y :: .long x :: stk)) := by
  obtain ⟨locs, Y, hx, hZ, hc, ho, hr, hm, hn, hk, hh, hF, h0⟩ := X
  subst hp
  exact k.by fun _ kt => XS.lmul Y.here hx rfl (hb hc hd) rfl (hz ▸ kt)
theorem F_land (X : St p l e R s m args below meth c Z code own ret ml nm n0 T h cells slots) {x y z : Int64} (hd : decode code pc = .ok (.land, 1)) (hz : x &&& y = z) (hp : pc + 1 = pc') (k : Ends p e below s n0 C S Q T (mkF m pc' Ls (.long z :: stk))) : Ends p e below s n0 C S Q T (mkF m pc Ls (.long y :: .long x :: stk)) := by
  obtain ⟨locs, Y, hx, hZ, hc, ho, hr, hm, hn, hk, hh, hF, h0⟩ := X
  subst hp
  exact k.by fun _ kt => XS.land Y.here hx rfl (hb hc hd) rfl (hz ▸ kt)
theorem F_lor (X : St p l e R s m args below meth c Z code own ret ml nm n0 T h cells slots) {x y z : Int64} (hd : decode code pc = .ok (.lor, 1)) (hz : x ||| y = z) (hp : pc + 1 = pc') (k : Ends p e below s n0 C S Q T (mkF m pc' Ls (.long z :: stk))) : Ends p e below s n0 C S Q T (mkF m pc Ls (.long y :: .long x :: stk)) := by
  obtain ⟨locs, Y, hx, hZ, hc, ho, hr, hm, hn, hk, hh, hF, h0⟩ := X
  subst hp
  exact k.by fun _ kt => XS.lor Y.here hx rfl (hb hc hd) rfl (hz ▸ kt)
theorem F_lxor (X : St p l e R s m args below meth c Z code own ret ml nm n0 T h cells slots) {x y z : Int64} (hd : decode code pc = .ok (.lxor, 1)) (hz : x ^^^ y = z) (hp : pc + 1 = pc') (k : Ends p e below s n0 C S Q T (mkF m pc' Ls (.long z :: stk))) : Ends p e below s n0 C S Q T (mkF m pc Ls (.long y :: .long x :: stk)) := by
  obtain ⟨locs, Y, hx, hZ, hc, ho, hr, hm, hn, hk, hh, hF, h0⟩ := X
  subst hp
  exact k.by fun _ kt => XS.lxor Y.here hx rfl (hb hc hd) rfl (hz ▸ kt)
theorem F_lshl (X : St p l e R s m args below meth c Z code own ret ml nm n0 T h cells slots) {x z : Int64} {y : Int32} (hd : decode code pc = .ok (.lshl, 1)) (hz : x <<< (y &&& 0x3f).toInt64 = z) (hp : pc + 1 = pc') (k : Ends p e below s n0 C S Q T (mkF m pc' Ls (.long z :: stk))) : Ends p e below s n0 C S Q T (mkF m pc Ls (.int y :: .long x :: stk)) := by
  obtain ⟨locs, Y, hx, hZ, hc, ho, hr, hm, hn, hk, hh, hF, h0⟩ := X
  subst hp
  exact k.by fun _ kt => XS.lshl Y.here hx rfl (hb hc hd) rfl (hz ▸ kt)
theorem F_lshr (X : St p l e R s m args below meth c Z code own ret ml nm n0 T h cells slots) {x z : Int64} {y : Int32} (hd : decode code pc = .ok (.lshr, 1)) (hz : x >>> (y &&& 0x3f).toInt64 = z) (hp : pc + 1 = pc') (k : Ends p e below s n0 C S Q T (mkF m pc' Ls (.long z :: stk))) : Ends p e below s n0 C S Q T (mkF m pc Ls (.int y :: .long x :: stk)) := by
  obtain ⟨locs, Y, hx, hZ, hc, ho, hr, hm, hn, hk, hh, hF, h0⟩ := X
  subst hp
  exact k.by fun _ kt => XS.lshr Y.here hx rfl (hb hc hd) rfl (hz ▸ kt)
theorem F_lushr (X : St p l e R s m args below meth c Z code own ret ml nm n0 T h cells slots) {x z : Int64} {y : Int32} (hd : decode code pc = .ok (.lushr, 1)) (hz : (x.toUInt64 >>> (y &&& 0x3f).toInt64.toUInt64).toInt64 = z) (hp : pc + 1 = pc') (k : Ends p e below s n0 C S Q T (mkF m pc' Ls (.long z :: stk))) : Ends p e below s n0 C S Q T (mkF m pc Ls (.int y :: .long x :: stk)) := by
  obtain ⟨locs, Y, hx, hZ, hc, ho, hr, hm, hn, hk, hh, hF, h0⟩ := X
  subst hp
  exact k.by fun _ kt => XS.lushr Y.here hx rfl (hb hc hd) rfl (hz ▸ kt)
theorem F_ldiv (X : St p l e R s m args below meth c Z code own ret ml nm n0 T h cells slots) {x y z : Int64} (hd : decode code pc = .ok (.ldiv, 1)) (hy : y ≠ 0) (hz : x / y = z) (hp : pc + 1 = pc') (k : Ends p e below s n0 C S Q T (mkF m pc' Ls (.long z :: stk))) : Ends p e below s n0 C S Q T (mkF m pc Ls (.long y :: .long x :: stk)) := by
  obtain ⟨locs, Y, hx, hZ, hc, ho, hr, hm, hn, hk, hh, hF, h0⟩ := X
  subst hp
  exact k.by fun _ kt => XS.ldiv Y.here hx rfl (hb hc hd) rfl hy (hz ▸ kt)
theorem F_lrem (X : St p l e R s m args below meth c Z code own ret ml nm n0 T h cells slots) {x y z : Int64} (hd : decode code pc = .ok (.lrem, 1)) (hy : y ≠ 0) (hz : x - (x / y) * y = z) (hp : pc + 1 = pc') (k : Ends p e below s n0 C S Q T (mkF m pc' Ls (.long z :: stk))) : Ends p e below s n0 C S Q T (mkF m pc Ls (.long y :: .long x :: stk)) := by
  obtain ⟨locs, Y, hx, hZ, hc, ho, hr, hm, hn, hk, hh, hF, h0⟩ := X
  subst hp
  exact k.by fun _ kt => XS.lrem Y.here hx rfl (hb hc hd) rfl hy (hz ▸ kt)
theorem F_i2l (X : St p l e R s m args below meth c Z code own ret ml nm n0 T h cells slots) {x : Int32} {z : Int64} (hd : decode code pc = .ok (.i2l, 1)) (hz : x.toInt64 = z) (hp : pc + 1 = pc') (k : Ends p e below s n0 C S Q T (mkF m pc' Ls (.long z :: stk))) : Ends p e below s n0 C S Q T (mkF m pc Ls (.int x :: stk)) := by
  obtain ⟨locs, Y, hx, hZ, hc, ho, hr, hm, hn, hk, hh, hF, h0⟩ := X
  subst hp
  exact k.by fun _ kt => XS.i2l Y.here hx rfl (hb hc hd) rfl (hz ▸ kt)
theorem F_l2i (X : St p l e R s m args below meth c Z code own ret ml nm n0 T h cells slots) {x : Int64} {z : Int32} (hd : decode code pc = .ok (.l2i, 1)) (hz : x.toInt32 = z) (hp : pc + 1 = pc') (k : Ends p e below s n0 C S Q T (mkF m pc' Ls (.int z :: stk))) : Ends p e below s n0 C S Q T (mkF m pc Ls (.long x :: stk)) := by
  obtain ⟨locs, Y, hx, hZ, hc, ho, hr, hm, hn, hk, hh, hF, h0⟩ := X
  subst hp
  exact k.by fun _ kt => XS.l2i Y.here hx rfl (hb hc hd) rfl (hz ▸ kt)
theorem F_i2b (X : St p l e R s m args below meth c Z code own ret ml nm n0 T h cells slots) {x : Int32} {z : Int32} (hd : decode code pc = .ok (.i2b, 1)) (hz : x.toInt8.toInt32 = z) (hp : pc + 1 = pc') (k : Ends p e below s n0 C S Q T (mkF m pc' Ls (.int z :: stk))) : Ends p e below s n0 C S Q T (mkF m pc Ls (.int x :: stk)) := by
  obtain ⟨locs, Y, hx, hZ, hc, ho, hr, hm, hn, hk, hh, hF, h0⟩ := X
  subst hp
  exact k.by fun _ kt => XS.i2b Y.here hx rfl (hb hc hd) rfl (hz ▸ kt)
theorem F_i2c (X : St p l e R s m args below meth c Z code own ret ml nm n0 T h cells slots) {x : Int32} {z : Int32} (hd : decode code pc = .ok (.i2c, 1)) (hz : x.toUInt32.toUInt16.toUInt32.toInt32 = z) (hp : pc + 1 = pc') (k : Ends p e below s n0 C S Q T (mkF m pc' Ls (.int z :: stk))) : Ends p e below s n0 C S Q T (mkF m pc Ls (.int x :: stk)) := by
  obtain ⟨locs, Y, hx, hZ, hc, ho, hr, hm, hn, hk, hh, hF, h0⟩ := X
  subst hp
  exact k.by fun _ kt => XS.i2c Y.here hx rfl (hb hc hd) rfl (hz ▸ kt)
theorem F_i2s (X : St p l e R s m args below meth c Z code own ret ml nm n0 T h cells slots) {x : Int32} {z : Int32} (hd : decode code pc = .ok (.i2s, 1)) (hz : x.toInt16.toInt32 = z) (hp : pc + 1 = pc') (k : Ends p e below s n0 C S Q T (mkF m pc' Ls (.int z :: stk))) : Ends p e below s n0 C S Q T (mkF m pc Ls (.int x :: stk)) := by
  obtain ⟨locs, Y, hx, hZ, hc, ho, hr, hm, hn, hk, hh, hF, h0⟩ := X
  subst hp
  exact k.by fun _ kt => XS.i2s Y.here hx rfl (hb hc hd) rfl (hz ▸ kt)
theorem F_iinc (X : St p l e R s m args below meth c Z code own ret ml nm n0 T h cells slots) {k : Nat} {i : Int} {v : Int32} {Ls' : Array Slot} (hd : decode code pc = .ok (.iinc k i, 3)) (hl : Ls[k]? = some (.val (.int v))) (hl' : storeLocals Ls k (.int (v + Int32.ofInt i)) = some Ls') (hp : pc + 3 = pc') (k : Ends p e below s n0 C S Q T (mkF m pc' Ls' stk)) : Ends p e below s n0 C S Q T (mkF m pc Ls stk) := by
  obtain ⟨locs, Y, hx, hZ, hc, ho, hr, hm, hn, hk, hh, hF, h0⟩ := X
  subst hp
  exact k.by fun _ kt => XS.iinc Y.here hx rfl (hb hc hd) hl hl' kt
theorem F_dup (X : St p l e R s m args below meth c Z code own ret ml nm n0 T h cells slots) {v : Value} (hd : decode code pc = .ok (.dup, 1)) (hv : v.category = 1) (hp : pc + 1 = pc') (k : Ends p e below s n0 C S Q T (mkF m pc' Ls (v :: v :: stk))) : Ends p e below s n0 C S Q T (mkF m pc Ls (v :: stk)) := by
  obtain ⟨locs, Y, hx, hZ, hc, ho, hr, hm, hn, hk, hh, hF, h0⟩ := X
  subst hp
  exact k.by fun _ kt => XS.dup Y.here hx rfl (hb hc hd) rfl hv kt
theorem F_dup_x1 (X : St p l e R s m args below meth c Z code own ret ml nm n0 T h cells slots) {v w : Value} (hd : decode code pc = .ok (.dup_x1, 1)) (hv : v.category = 1) (hw : w.category = 1) (hp : pc + 1 = pc') (k : Ends p e below s n0 C S Q T (mkF m pc' Ls (v :: w :: v :: stk))) : Ends p e below s n0 C S Q T (mkF m pc Ls (v :: w :: stk)) := by
  obtain ⟨locs, Y, hx, hZ, hc, ho, hr, hm, hn, hk, hh, hF, h0⟩ := X
  subst hp
  exact k.by fun _ kt => XS.dupX1 Y.here hx rfl (hb hc hd) rfl hv hw kt
theorem F_dup2 (X : St p l e R s m args below meth c Z code own ret ml nm n0 T h cells slots) {v w : Value} (hd : decode code pc = .ok (.dup2, 1)) (hv : v.category = 1) (hw : w.category = 1) (hp : pc + 1 = pc') (k : Ends p e below s n0 C S Q T (mkF m pc' Ls (v :: w :: v :: w :: stk))) : Ends p e below s n0 C S Q T (mkF m pc Ls (v :: w :: stk)) := by
  obtain ⟨locs, Y, hx, hZ, hc, ho, hr, hm, hn, hk, hh, hF, h0⟩ := X
  subst hp
  exact k.by fun _ kt => XT.dup2 Y.here hx rfl (hb hc hd) rfl hv hw kt
theorem F_pop (X : St p l e R s m args below meth c Z code own ret ml nm n0 T h cells slots) {v : Value} (hd : decode code pc = .ok (.pop, 1)) (hv : v.category = 1) (hp : pc + 1 = pc') (k : Ends p e below s n0 C S Q T (mkF m pc' Ls stk)) : Ends p e below s n0 C S Q T (mkF m pc Ls (v :: stk)) := by
  obtain ⟨locs, Y, hx, hZ, hc, ho, hr, hm, hn, hk, hh, hF, h0⟩ := X
  subst hp
  exact k.by fun _ kt => XS.pop Y.here hx rfl (hb hc hd) rfl hv kt
theorem F_lcmp (X : St p l e R s m args below meth c Z code own ret ml nm n0 T h cells slots) {x y : Int64} (hd : decode code pc = .ok (.lcmp, 1)) (hp : pc + 1 = pc') (k : Ends p e below s n0 C S Q T (mkF m pc' Ls (.int (lcmpW x y) :: stk))) : Ends p e below s n0 C S Q T (mkF m pc Ls (.long y :: .long x :: stk)) := by
  obtain ⟨locs, Y, hx, hZ, hc, ho, hr, hm, hn, hk, hh, hF, h0⟩ := X
  subst hp
  exact k.by fun _ kt => XS.lcmp Y.here hx rfl (hb hc hd) rfl kt
theorem F_goto (X : St p l e R s m args below meth c Z code own ret ml nm n0 T h cells slots) {o : Int} (hd : decode code pc = .ok (.goto o, 3)) (hof : 0 ≤ (pc : Int) + o) (hp : ((pc : Int) + o).toNat = pc') (k : Ends p e below s n0 C S Q T (mkF m pc' Ls stk)) : Ends p e below s n0 C S Q T (mkF m pc Ls stk) := by
  obtain ⟨locs, Y, hx, hZ, hc, ho, hr, hm, hn, hk, hh, hF, h0⟩ := X
  exact k.by fun _ kt => XS.goto Y.here hx rfl rfl (hb hc hd) hof hp kt
theorem F_icmp_lt (X : St p l e R s m args below meth c Z code own ret ml nm n0 T h cells slots) {x y : Int32} {o : Int} {pt : Nat} (hd : decode code pc = .ok (.if_icmp .lt o, 3)) (hof : 0 ≤ (pc : Int) + o) (hp : ((pc : Int) + o).toNat = pt) (hq : pc + 3 = pc') (kt : (x < y) → Ends p e below s n0 C S Q T (mkF m pt Ls stk)) (kf : ¬ (x < y) → Ends p e below s n0 C S Q T (mkF m pc' Ls stk)) : Ends p e below s n0 C S Q T (mkF m pc Ls (.int y :: .int x :: stk)) := by
  obtain ⟨locs, Y, hx, hZ, hc, ho, hr, hm, hn, hk, hh, hF, h0⟩ := X
  subst hq
  by_cases q : x < y
  · exact (kt q).by fun _ z => XS.icmpYes Y.here hx rfl rfl (hb hc hd) rfl (tlt q).1 hof hp z
  · exact (kf q).by fun _ z => XS.icmpNo Y.here hx rfl (hb hc hd) rfl (flt q).1 z
theorem F_if_lt (X : St p l e R s m args below meth c Z code own ret ml nm n0 T h cells slots) {x : Int32} {o : Int} {pt : Nat} (hd : decode code pc = .ok (.ifCond .lt o, 3)) (hof : 0 ≤ (pc : Int) + o) (hp : ((pc : Int) + o).toNat = pt) (hq : pc + 3 = pc') (kt : (x < 0) → Ends p e below s n0 C S Q T (mkF m pt Ls stk)) (kf : ¬ (x < 0) → Ends p e below s n0 C S Q T (mkF m pc' Ls stk)) : Ends p e below s n0 C S Q T (mkF m pc Ls (.int x :: stk)) := by
  obtain ⟨locs, Y, hx, hZ, hc, ho, hr, hm, hn, hk, hh, hF, h0⟩ := X
  subst hq
  by_cases q : x < 0
  · exact (kt q).by fun _ z => XS.ifYes Y.here hx rfl rfl (hb hc hd) rfl ((if0 _ _).trans (tlt q).1) hof hp z
  · exact (kf q).by fun _ z => XS.ifNo Y.here hx rfl (hb hc hd) rfl ((if0 _ _).trans (flt q).1) z
theorem F_lif_lt (X : St p l e R s m args below meth c Z code own ret ml nm n0 T h cells slots) {x y : Int64} {o : Int} {pt : Nat} (hd : decode code pc = .ok (.ifCond .lt o, 3)) (hof : 0 ≤ (pc : Int) + o) (hp : ((pc : Int) + o).toNat = pt) (hq : pc + 3 = pc') (kt : (x < y) → Ends p e below s n0 C S Q T (mkF m pt Ls stk)) (kf : ¬ (x < y) → Ends p e below s n0 C S Q T (mkF m pc' Ls stk)) : Ends p e below s n0 C S Q T (mkF m pc Ls (.int (lcmpW x y) :: stk)) := by
  obtain ⟨locs, Y, hx, hZ, hc, ho, hr, hm, hn, hk, hh, hF, h0⟩ := X
  subst hq
  by_cases q : x < y
  · exact (kt q).by fun _ z => XS.ifYes Y.here hx rfl rfl (hb hc hd) rfl ((if0 _ _).trans (tlt ((lw_lt _ _).mpr q)).1) hof hp z
  · exact (kf q).by fun _ z => XS.ifNo Y.here hx rfl (hb hc hd) rfl ((if0 _ _).trans (flt (fun z => q ((lw_lt _ _).mp z))).1) z
theorem F_icmp_ge (X : St p l e R s m args below meth c Z code own ret ml nm n0 T h cells slots) {x y : Int32} {o : Int} {pt : Nat} (hd : decode code pc = .ok (.if_icmp .ge o, 3)) (hof : 0 ≤ (pc : Int) + o) (hp : ((pc : Int) + o).toNat = pt) (hq : pc + 3 = pc') (kt : ¬ (x < y) → Ends p e below s n0 C S Q T (mkF m pt Ls stk)) (kf : (x < y) → Ends p e below s n0 C S Q T (mkF m pc' Ls stk)) : Ends p e below s n0 C S Q T (mkF m pc Ls (.int y :: .int x :: stk)) := by
  obtain ⟨locs, Y, hx, hZ, hc, ho, hr, hm, hn, hk, hh, hF, h0⟩ := X
  subst hq
  by_cases q : x < y
  · exact (kf q).by fun _ z => XS.icmpNo Y.here hx rfl (hb hc hd) rfl (tlt q).2.1 z
  · exact (kt q).by fun _ z => XS.icmpYes Y.here hx rfl rfl (hb hc hd) rfl (flt q).2.1 hof hp z
theorem F_if_ge (X : St p l e R s m args below meth c Z code own ret ml nm n0 T h cells slots) {x : Int32} {o : Int} {pt : Nat} (hd : decode code pc = .ok (.ifCond .ge o, 3)) (hof : 0 ≤ (pc : Int) + o) (hp : ((pc : Int) + o).toNat = pt) (hq : pc + 3 = pc') (kt : ¬ (x < 0) → Ends p e below s n0 C S Q T (mkF m pt Ls stk)) (kf : (x < 0) → Ends p e below s n0 C S Q T (mkF m pc' Ls stk)) : Ends p e below s n0 C S Q T (mkF m pc Ls (.int x :: stk)) := by
  obtain ⟨locs, Y, hx, hZ, hc, ho, hr, hm, hn, hk, hh, hF, h0⟩ := X
  subst hq
  by_cases q : x < 0
  · exact (kf q).by fun _ z => XS.ifNo Y.here hx rfl (hb hc hd) rfl ((if0 _ _).trans (tlt q).2.1) z
  · exact (kt q).by fun _ z => XS.ifYes Y.here hx rfl rfl (hb hc hd) rfl ((if0 _ _).trans (flt q).2.1) hof hp z
theorem F_lif_ge (X : St p l e R s m args below meth c Z code own ret ml nm n0 T h cells slots) {x y : Int64} {o : Int} {pt : Nat} (hd : decode code pc = .ok (.ifCond .ge o, 3)) (hof : 0 ≤ (pc : Int) + o) (hp : ((pc : Int) + o).toNat = pt) (hq : pc + 3 = pc') (kt : ¬ (x < y) → Ends p e below s n0 C S Q T (mkF m pt Ls stk)) (kf : (x < y) → Ends p e below s n0 C S Q T (mkF m pc' Ls stk)) : Ends p e below s n0 C S Q T (mkF m pc Ls (.int (lcmpW x y) :: stk)) := by
  obtain ⟨locs, Y, hx, hZ, hc, ho, hr, hm, hn, hk, hh, hF, h0⟩ := X
  subst hq
  by_cases q : x < y
  · exact (kf q).by fun _ z => XS.ifNo Y.here hx rfl (hb hc hd) rfl ((if0 _ _).trans (tlt ((lw_lt _ _).mpr q)).2.1) z
  · exact (kt q).by fun _ z => XS.ifYes Y.here hx rfl rfl (hb hc hd) rfl ((if0 _ _).trans (flt (fun z => q ((lw_lt _ _).mp z))).2.1) hof hp z
theorem F_icmp_gt (X : St p l e R s m args below meth c Z code own ret ml nm n0 T h cells slots) {x y : Int32} {o : Int} {pt : Nat} (hd : decode code pc = .ok (.if_icmp .gt o, 3)) (hof : 0 ≤ (pc : Int) + o) (hp : ((pc : Int) + o).toNat = pt) (hq : pc + 3 = pc') (kt : (y < x) → Ends p e below s n0 C S Q T (mkF m pt Ls stk)) (kf : ¬ (y < x) → Ends p e below s n0 C S Q T (mkF m pc' Ls stk)) : Ends p e below s n0 C S Q T (mkF m pc Ls (.int y :: .int x :: stk)) := by
  obtain ⟨locs, Y, hx, hZ, hc, ho, hr, hm, hn, hk, hh, hF, h0⟩ := X
  subst hq
  by_cases q : y < x
  · exact (kt q).by fun _ z => XS.icmpYes Y.here hx rfl rfl (hb hc hd) rfl (tlt q).2.2.1 hof hp z
  · exact (kf q).by fun _ z => XS.icmpNo Y.here hx rfl (hb hc hd) rfl (flt q).2.2.1 z
theorem F_if_gt (X : St p l e R s m args below meth c Z code own ret ml nm n0 T h cells slots) {x : Int32} {o : Int} {pt : Nat} (hd : decode code pc = .ok (.ifCond .gt o, 3)) (hof : 0 ≤ (pc : Int) + o) (hp : ((pc : Int) + o).toNat = pt) (hq : pc + 3 = pc') (kt : (0 < x) → Ends p e below s n0 C S Q T (mkF m pt Ls stk)) (kf : ¬ (0 < x) → Ends p e below s n0 C S Q T (mkF m pc' Ls stk)) : Ends p e below s n0 C S Q T (mkF m pc Ls (.int x :: stk)) := by
  obtain ⟨locs, Y, hx, hZ, hc, ho, hr, hm, hn, hk, hh, hF, h0⟩ := X
  subst hq
  by_cases q : 0 < x
  · exact (kt q).by fun _ z => XS.ifYes Y.here hx rfl rfl (hb hc hd) rfl ((if0 _ _).trans (tlt q).2.2.1) hof hp z
  · exact (kf q).by fun _ z => XS.ifNo Y.here hx rfl (hb hc hd) rfl ((if0 _ _).trans (flt q).2.2.1) z
theorem F_lif_gt (X : St p l e R s m args below meth c Z code own ret ml nm n0 T h cells slots) {x y : Int64} {o : Int} {pt : Nat} (hd : decode code pc = .ok (.ifCond .gt o, 3)) (hof : 0 ≤ (pc : Int) + o) (hp : ((pc : Int) + o).toNat = pt) (hq : pc + 3 = pc') (kt : (y < x) → Ends p e below s n0 C S Q T (mkF m pt Ls stk)) (kf : ¬ (y < x) → Ends p e below s n0 C S Q T (mkF m pc' Ls stk)) : Ends p e below s n0 C S Q T (mkF m pc Ls (.int (lcmpW x y) :: stk)) := by
  obtain ⟨locs, Y, hx, hZ, hc, ho, hr, hm, hn, hk, hh, hF, h0⟩ := X
  subst hq
  by_cases q : y < x
  · exact (kt q).by fun _ z => XS.ifYes Y.here hx rfl rfl (hb hc hd) rfl ((if0 _ _).trans (tlt ((lw_gt _ _).mpr q)).2.2.1) hof hp z
  · exact (kf q).by fun _ z => XS.ifNo Y.here hx rfl (hb hc hd) rfl ((if0 _ _).trans (flt (fun z => q ((lw_gt _ _).mp z))).2.2.1) z
theorem F_icmp_le (X : St p l e R s m args below meth c Z code own ret ml nm n0 T h cells slots) {x y : Int32} {o : Int} {pt : Nat} (hd : decode code pc = .ok (.if_icmp .le o, 3)) (hof : 0 ≤ (pc : Int) + o) (hp : ((pc : Int) + o).toNat = pt) (hq : pc + 3 = pc') (kt : ¬ (y < x) → Ends p e below s n0 C S Q T (mkF m pt Ls stk)) (kf : (y < x) → Ends p e below s n0 C S Q T (mkF m pc' Ls stk)) : Ends p e below s n0 C S Q T (mkF m pc Ls (.int y :: .int x :: stk)) := by
  obtain ⟨locs, Y, hx, hZ, hc, ho, hr, hm, hn, hk, hh, hF, h0⟩ := X
  subst hq
  by_cases q : y < x
  · exact (kf q).by fun _ z => XS.icmpNo Y.here hx rfl (hb hc hd) rfl (tlt q).2.2.2 z
  · exact (kt q).by fun _ z => XS.icmpYes Y.here hx rfl rfl (hb hc hd) rfl (flt q).2.2.2 hof hp z
theorem F_if_le (X : St p l e R s m args below meth c Z code own ret ml nm n0 T h cells slots) {x : Int32} {o : Int} {pt : Nat} (hd : decode code pc = .ok (.ifCond .le o, 3)) (hof : 0 ≤ (pc : Int) + o) (hp : ((pc : Int) + o).toNat = pt) (hq : pc + 3 = pc') (kt : ¬ (0 < x) → Ends p e below s n0 C S Q T (mkF m pt Ls stk)) (kf : (0 < x) → Ends p e below s n0 C S Q T (mkF m pc' Ls stk)) : Ends p e below s n0 C S Q T (mkF m pc Ls (.int x :: stk)) := by
  obtain ⟨locs, Y, hx, hZ, hc, ho, hr, hm, hn, hk, hh, hF, h0⟩ := X
  subst hq
  by_cases q : 0 < x
  · exact (kf q).by fun _ z => XS.ifNo Y.here hx rfl (hb hc hd) rfl ((if0 _ _).trans (tlt q).2.2.2) z
  · exact (kt q).by fun _ z => XS.ifYes Y.here hx rfl rfl (hb hc hd) rfl ((if0 _ _).trans (flt q).2.2.2) hof hp z
theorem F_lif_le (X : St p l e R s m args below meth c Z code own ret ml nm n0 T h cells slots) {x y : Int64} {o : Int} {pt : Nat} (hd : decode code pc = .ok (.ifCond .le o, 3)) (hof : 0 ≤ (pc : Int) + o) (hp : ((pc : Int) + o).toNat = pt) (hq : pc + 3 = pc') (kt : ¬ (y < x) → Ends p e below s n0 C S Q T (mkF m pt Ls stk)) (kf : (y < x) → Ends p e below s n0 C S Q T (mkF m pc' Ls stk)) : Ends p e below s n0 C S Q T (mkF m pc Ls (.int (lcmpW x y) :: stk)) := by
  obtain ⟨locs, Y, hx, hZ, hc, ho, hr, hm, hn, hk, hh, hF, h0⟩ := X
  subst hq
  by_cases q : y < x
  · exact (kf q).by fun _ z => XS.ifNo Y.here hx rfl (hb hc hd) rfl ((if0 _ _).trans (tlt ((lw_gt _ _).mpr q)).2.2.2) z
  · exact (kt q).by fun _ z => XS.ifYes Y.here hx rfl rfl (hb hc hd) rfl ((if0 _ _).trans (flt (fun z => q ((lw_gt _ _).mp z))).2.2.2) hof hp z
theorem F_icmp_eq (X : St p l e R s m args below meth c Z code own ret ml nm n0 T h cells slots) {x y : Int32} {o : Int} {pt : Nat} (hd : decode code pc = .ok (.if_icmp .eq o, 3)) (hof : 0 ≤ (pc : Int) + o) (hp : ((pc : Int) + o).toNat = pt) (hq : pc + 3 = pc') (kt : (x = y) → Ends p e below s n0 C S Q T (mkF m pt Ls stk)) (kf : ¬ (x = y) → Ends p e below s n0 C S Q T (mkF m pc' Ls stk)) : Ends p e below s n0 C S Q T (mkF m pc Ls (.int y :: .int x :: stk)) := by
  obtain ⟨locs, Y, hx, hZ, hc, ho, hr, hm, hn, hk, hh, hF, h0⟩ := X
  subst hq
  by_cases q : x = y
  · exact (kt q).by fun _ z => XS.icmpYes Y.here hx rfl rfl (hb hc hd) rfl (teq q).1 hof hp z
  · exact (kf q).by fun _ z => XS.icmpNo Y.here hx rfl (hb hc hd) rfl (feq q).1 z
theorem F_if_eq (X : St p l e R s m args below meth c Z code own ret ml nm n0 T h cells slots) {x : Int32} {o : Int} {pt : Nat} (hd : decode code pc = .ok (.ifCond .eq o, 3)) (hof : 0 ≤ (pc : Int) + o) (hp : ((pc : Int) + o).toNat = pt) (hq : pc + 3 = pc') (kt : (x = 0) → Ends p e below s n0 C S Q T (mkF m pt Ls stk)) (kf : ¬ (x = 0) → Ends p e below s n0 C S Q T (mkF m pc' Ls stk)) : Ends p e below s n0 C S Q T (mkF m pc Ls (.int x :: stk)) := by
  obtain ⟨locs, Y, hx, hZ, hc, ho, hr, hm, hn, hk, hh, hF, h0⟩ := X
  subst hq
  by_cases q : x = 0
  · exact (kt q).by fun _ z => XS.ifYes Y.here hx rfl rfl (hb hc hd) rfl ((if0 _ _).trans (teq q).1) hof hp z
  · exact (kf q).by fun _ z => XS.ifNo Y.here hx rfl (hb hc hd) rfl ((if0 _ _).trans (feq q).1) z
theorem F_lif_eq (X : St p l e R s m args below meth c Z code own ret ml nm n0 T h cells slots) {x y : Int64} {o : Int} {pt : Nat} (hd : decode code pc = .ok (.ifCond .eq o, 3)) (hof : 0 ≤ (pc : Int) + o) (hp : ((pc : Int) + o).toNat = pt) (hq : pc + 3 = pc') (kt : (x = y) → Ends p e below s n0 C S Q T (mkF m pt Ls stk)) (kf : ¬ (x = y) → Ends p e below s n0 C S Q T (mkF m pc' Ls stk)) : Ends p e below s n0 C S Q T (mkF m pc Ls (.int (lcmpW x y) :: stk)) := by
  obtain ⟨locs, Y, hx, hZ, hc, ho, hr, hm, hn, hk, hh, hF, h0⟩ := X
  subst hq
  by_cases q : x = y
  · exact (kt q).by fun _ z => XS.ifYes Y.here hx rfl rfl (hb hc hd) rfl ((if0 _ _).trans (teq ((lw_eq _ _).mpr q)).1) hof hp z
  · exact (kf q).by fun _ z => XS.ifNo Y.here hx rfl (hb hc hd) rfl ((if0 _ _).trans (feq (fun z => q ((lw_eq _ _).mp z))).1) z
theorem F_icmp_ne (X : St p l e R s m args below meth c Z code own ret ml nm n0 T h cells slots) {x y : Int32} {o : Int} {pt : Nat} (hd : decode code pc = .ok (.if_icmp .ne o, 3)) (hof : 0 ≤ (pc : Int) + o) (hp : ((pc : Int) + o).toNat = pt) (hq : pc + 3 = pc') (kt : ¬ (x = y) → Ends p e below s n0 C S Q T (mkF m pt Ls stk)) (kf : (x = y) → Ends p e below s n0 C S Q T (mkF m pc' Ls stk)) : Ends p e below s n0 C S Q T (mkF m pc Ls (.int y :: .int x :: stk)) := by
  obtain ⟨locs, Y, hx, hZ, hc, ho, hr, hm, hn, hk, hh, hF, h0⟩ := X
  subst hq
  by_cases q : x = y
  · exact (kf q).by fun _ z => XS.icmpNo Y.here hx rfl (hb hc hd) rfl (teq q).2 z
  · exact (kt q).by fun _ z => XS.icmpYes Y.here hx rfl rfl (hb hc hd) rfl (feq q).2 hof hp z
theorem F_if_ne (X : St p l e R s m args below meth c Z code own ret ml nm n0 T h cells slots) {x : Int32} {o : Int} {pt : Nat} (hd : decode code pc = .ok (.ifCond .ne o, 3)) (hof : 0 ≤ (pc : Int) + o) (hp : ((pc : Int) + o).toNat = pt) (hq : pc + 3 = pc') (kt : ¬ (x = 0) → Ends p e below s n0 C S Q T (mkF m pt Ls stk)) (kf : (x = 0) → Ends p e below s n0 C S Q T (mkF m pc' Ls stk)) : Ends p e below s n0 C S Q T (mkF m pc Ls (.int x :: stk)) := by
  obtain ⟨locs, Y, hx, hZ, hc, ho, hr, hm, hn, hk, hh, hF, h0⟩ := X
  subst hq
  by_cases q : x = 0
  · exact (kf q).by fun _ z => XS.ifNo Y.here hx rfl (hb hc hd) rfl ((if0 _ _).trans (teq q).2) z
  · exact (kt q).by fun _ z => XS.ifYes Y.here hx rfl rfl (hb hc hd) rfl ((if0 _ _).trans (feq q).2) hof hp z
theorem F_lif_ne (X : St p l e R s m args below meth c Z code own ret ml nm n0 T h cells slots) {x y : Int64} {o : Int} {pt : Nat} (hd : decode code pc = .ok (.ifCond .ne o, 3)) (hof : 0 ≤ (pc : Int) + o) (hp : ((pc : Int) + o).toNat = pt) (hq : pc + 3 = pc') (kt : ¬ (x = y) → Ends p e below s n0 C S Q T (mkF m pt Ls stk)) (kf : (x = y) → Ends p e below s n0 C S Q T (mkF m pc' Ls stk)) : Ends p e below s n0 C S Q T (mkF m pc Ls (.int (lcmpW x y) :: stk)) := by
  obtain ⟨locs, Y, hx, hZ, hc, ho, hr, hm, hn, hk, hh, hF, h0⟩ := X
  subst hq
  by_cases q : x = y
  · exact (kf q).by fun _ z => XS.ifNo Y.here hx rfl (hb hc hd) rfl ((if0 _ _).trans (teq ((lw_eq _ _).mpr q)).2) z
  · exact (kt q).by fun _ z => XS.ifYes Y.here hx rfl rfl (hb hc hd) rfl ((if0 _ _).trans (feq (fun z => q ((lw_eq _ _).mp z))).2) hof hp z
theorem F_ifnull_null (X : St p l e R s m args below meth c Z code own ret ml nm n0 T h cells slots) {o : Int} {pt : Nat} (hd : decode code pc = .ok (.ifnull o, 3)) (hof : 0 ≤ (pc : Int) + o) (hp : ((pc : Int) + o).toNat = pt) (k : Ends p e below s n0 C S Q T (mkF m pt Ls stk)) : Ends p e below s n0 C S Q T (mkF m pc Ls (.null :: stk)) := by
  obtain ⟨locs, Y, hx, hZ, hc, ho, hr, hm, hn, hk, hh, hF, h0⟩ := X
  exact k.by fun _ z => XS.ifnullYes Y.here hx rfl rfl (hb hc hd) rfl hof hp z
theorem F_ifnull_ref (X : St p l e R s m args below meth c Z code own ret ml nm n0 T h cells slots) {a : Addr} {o : Int} (hd : decode code pc = .ok (.ifnull o, 3)) (hq : pc + 3 = pc') (k : Ends p e below s n0 C S Q T (mkF m pc' Ls stk)) : Ends p e below s n0 C S Q T (mkF m pc Ls (.ref a :: stk)) := by
  obtain ⟨locs, Y, hx, hZ, hc, ho, hr, hm, hn, hk, hh, hF, h0⟩ := X
  subst hq
  exact k.by fun _ z => XS.ifnullNo Y.here hx rfl (hb hc hd) rfl z
theorem F_ifnonnull_null (X : St p l e R s m args below meth c Z code own ret ml nm n0 T h cells slots) {o : Int} (hd : decode code pc = .ok (.ifnonnull o, 3)) (hq : pc + 3 = pc') (k : Ends p e below s n0 C S Q T (mkF m pc' Ls stk)) : Ends p e below s n0 C S Q T (mkF m pc Ls (.null :: stk)) := by
  obtain ⟨locs, Y, hx, hZ, hc, ho, hr, hm, hn, hk, hh, hF, h0⟩ := X
  subst hq
  exact k.by fun _ z => XS.ifnonnullNo Y.here hx rfl (hb hc hd) rfl z
theorem F_ifnonnull_ref (X : St p l e R s m args below meth c Z code own ret ml nm n0 T h cells slots) {a : Addr} {o : Int} {pt : Nat} (hd : decode code pc = .ok (.ifnonnull o, 3)) (hof : 0 ≤ (pc : Int) + o) (hp : ((pc : Int) + o).toNat = pt) (k : Ends p e below s n0 C S Q T (mkF m pt Ls stk)) : Ends p e below s n0 C S Q T (mkF m pc Ls (.ref a :: stk)) := by
  obtain ⟨locs, Y, hx, hZ, hc, ho, hr, hm, hn, hk, hh, hF, h0⟩ := X
  exact k.by fun _ z => XS.ifnonnullYes Y.here hx rfl rfl (hb hc hd) rfl hof hp z
theorem F_acmp (X : St p l e R s m args below meth c Z code own ret ml nm n0 T h cells slots) {cd : ACond} {v w : Value} {o : Int} {same : Bool} (hd : decode code pc = .ok (.if_acmp cd o, 3)) (h1 : v.isRef = true) (h2 : w.isRef = true) (hq : decide (v = w) = same) (hof : 0 ≤ (pc : Int) + o) (hp : pc' = if acV cd same = true then ((pc : Int) + o).toNat else pc + 3) (k : Ends p e below s n0 C S Q T (mkF m pc' Ls stk)) : Ends p e below s n0 C S Q T (mkF m pc Ls (w :: v :: stk)) := by
  obtain ⟨locs, Y, hx, hZ, hc, ho, hr, hm, hn, hk, hh, hF, h0⟩ := X
  exact k.by fun _ z => Jvm.RoadKit.acmp Y hx rfl h1 h2 rfl (hb hc hd) rfl hq hof hp z
variable {a0 : Array Value}
theorem F_ldcInt (X : St p l e R s m args below meth c Z code own ret ml nm n0 T h cells slots) {idx : Nat} {v : Int32} (w : (Cond.constant own idx v).before a0 Z = true) (hd : decode code pc = .ok (.ldc idx, 2)) (hp : pc + 2 = pc') (k : Ends p e below s n0 C S Q T (mkF m pc' Ls (.int v :: stk))) : Ends p e below s n0 C S Q T (mkF m pc Ls stk) := by
  obtain ⟨locs, Y, hx, hZ, hc, ho, hr, hm, hn, hk, hh, hF, h0⟩ := X
  subst hp
  exact k.by (Y.ldcInt hx ho (mvT hZ w) (g := mkF m pc Ls stk) rfl (hb hc hd))
theorem F_ldcwInt (X : St p l e R s m args below meth c Z code own ret ml nm n0 T h cells slots) {idx : Nat} {v : Int32} (w : (Cond.constant own idx v).before a0 Z = true) (hd : decode code pc = .ok (.ldc_w idx, 3)) (hp : pc + 3 = pc') (k : Ends p e below s n0 C S Q T (mkF m pc' Ls (.int v :: stk))) : Ends p e below s n0 C S Q T (mkF m pc Ls stk) := by
  obtain ⟨locs, Y, hx, hZ, hc, ho, hr, hm, hn, hk, hh, hF, h0⟩ := X
  subst hp
  exact k.by (Y.ldcwInt hx ho (mvT hZ w) (g := mkF m pc Ls stk) rfl (hb hc hd))
theorem F_ldc2Long (X : St p l e R s m args below meth c Z code own ret ml nm n0 T h cells slots) {idx : Nat} {v : Int64} (w : (Cond.constantLong own idx v).before a0 Z = true) (hd : decode code pc = .ok (.ldc2_w idx, 3)) (hp : pc + 3 = pc') (k : Ends p e below s n0 C S Q T (mkF m pc' Ls (.long v :: stk))) : Ends p e below s n0 C S Q T (mkF m pc Ls stk) := by
  obtain ⟨locs, Y, hx, hZ, hc, ho, hr, hm, hn, hk, hh, hF, h0⟩ := X
  subst hp
  exact k.by (Y.ldc2Long hx ho (mvT hZ w) (g := mkF m pc Ls stk) rfl (hb hc hd))
theorem F_ldc2Double (X : St p l e R s m args below meth c Z code own ret ml nm n0 T h cells slots) {idx : Nat} {v : UInt64} (w : (Cond.constantDouble own idx v).before a0 Z = true) (hd : decode code pc = .ok (.ldc2_w idx, 3)) (hp : pc + 3 = pc') (k : Ends p e below s n0 C S Q T (mkF m pc' Ls (.double v :: stk))) : Ends p e below s n0 C S Q T (mkF m pc Ls stk) := by
  obtain ⟨locs, Y, hx, hZ, hc, ho, hr, hm, hn, hk, hh, hF, h0⟩ := X
  subst hp
  exact k.by (Y.ldc2DoubleC hx ho (mvT hZ w) (g := mkF m pc Ls stk) rfl (hb hc hd))
theorem F_ireturn (X : St p l e R s m args below meth c Z code own ret ml nm n0 T h cells slots) {z : Int32} (hd : decode code pc = .ok (.ireturn, 1)) (hret : ret = some .int) (hC : cells ≤ C) (hS : slots ≤ S) (hQ : Q (some (.int z)) h) : Ends p e below s n0 C S Q T (mkF m pc Ls (.int z :: stk)) := by
  obtain ⟨locs, Y, hx, hZ, hc, ho, hr, hm, hn, hk, hh, hF, h0⟩ := X
  obtain ⟨fs, hl, hrun, hend, hW, hsame⟩ := Y.leave (v := some (.int z)) (fun z => by rw [hr, hret] at z; cases z) hk
  refine ⟨_, _, retOut Y hx (hr.trans hret) rfl (Or.inl ⟨rfl, Or.inl rfl, _, rfl⟩) (hb hc hd) hl, hrun, hend, _, _, rfl, ⟨?_, hF⟩, ⟨_, rfl⟩, hW, hsame.mono hC hS⟩
  show Q _ T.heap
  rw [hh]; exact hQ
theorem F_ireturn_boolean (X : St p l e R s m args below meth c Z code own ret ml nm n0 T h cells slots) {z z' : Int32} (hz : nar .boolean z = z') (hd : decode code pc = .ok (.ireturn, 1)) (hret : ret = some .boolean) (hC : cells ≤ C) (hS : slots ≤ S) (hQ : Q (some (.int z')) h) : Ends p e below s n0 C S Q T (mkF m pc Ls (.int z :: stk)) := by
  obtain ⟨locs, Y, hx, hZ, hc, ho, hr, hm, hn, hk, hh, hF, h0⟩ := X
  obtain ⟨fs, hl, hrun, hend, hW, hsame⟩ := Y.leave (v := some (.int z')) (fun z => by rw [hr, hret] at z; cases z) hk
  refine ⟨_, _, retN Y hx (t := .boolean) (hr.trans hret) (by simp) (hb hc hd) (hz ▸ hl), hrun, hend, _, _, rfl, ⟨?_, hF⟩, ⟨_, rfl⟩, hW, hsame.mono hC hS⟩
  show Q _ T.heap
  rw [hh]; exact hQ
theorem F_ireturn_byte (X : St p l e R s m args below meth c Z code own ret ml nm n0 T h cells slots) {z z' : Int32} (hz : nar .byte z = z') (hd : decode code pc = .ok (.ireturn, 1)) (hret : ret = some .byte) (hC : cells ≤ C) (hS : slots ≤ S) (hQ : Q (some (.int z')) h) : Ends p e below s n0 C S Q T (mkF m pc Ls (.int z :: stk)) := by
  obtain ⟨locs, Y, hx, hZ, hc, ho, hr, hm, hn, hk, hh, hF, h0⟩ := X
  obtain ⟨fs, hl, hrun, hend, hW, hsame⟩ := Y.leave (v := some (.int z')) (fun z => by rw [hr, hret] at z; cases z) hk
  refine ⟨_, _, retN Y hx (t := .byte) (hr.trans hret) (by simp) (hb hc hd) (hz ▸ hl), hrun, hend, _, _, rfl, ⟨?_, hF⟩, ⟨_, rfl⟩, hW, hsame.mono hC hS⟩
  show Q _ T.heap
  rw [hh]; exact hQ
theorem F_ireturn_char (X : St p l e R s m args below meth c Z code own ret ml nm n0 T h cells slots) {z z' : Int32} (hz : nar .char z = z') (hd : decode code pc = .ok (.ireturn, 1)) (hret : ret = some .char) (hC : cells ≤ C) (hS : slots ≤ S) (hQ : Q (some (.int z')) h) : Ends p e below s n0 C S Q T (mkF m pc Ls (.int z :: stk)) := by
  obtain ⟨locs, Y, hx, hZ, hc, ho, hr, hm, hn, hk, hh, hF, h0⟩ := X
  obtain ⟨fs, hl, hrun, hend, hW, hsame⟩ := Y.leave (v := some (.int z')) (fun z => by rw [hr, hret] at z; cases z) hk
  refine ⟨_, _, retN Y hx (t := .char) (hr.trans hret) (by simp) (hb hc hd) (hz ▸ hl), hrun, hend, _, _, rfl, ⟨?_, hF⟩, ⟨_, rfl⟩, hW, hsame.mono hC hS⟩
  show Q _ T.heap
  rw [hh]; exact hQ
theorem F_ireturn_short (X : St p l e R s m args below meth c Z code own ret ml nm n0 T h cells slots) {z z' : Int32} (hz : nar .short z = z') (hd : decode code pc = .ok (.ireturn, 1)) (hret : ret = some .short) (hC : cells ≤ C) (hS : slots ≤ S) (hQ : Q (some (.int z')) h) : Ends p e below s n0 C S Q T (mkF m pc Ls (.int z :: stk)) := by
  obtain ⟨locs, Y, hx, hZ, hc, ho, hr, hm, hn, hk, hh, hF, h0⟩ := X
  obtain ⟨fs, hl, hrun, hend, hW, hsame⟩ := Y.leave (v := some (.int z')) (fun z => by rw [hr, hret] at z; cases z) hk
  refine ⟨_, _, retN Y hx (t := .short) (hr.trans hret) (by simp) (hb hc hd) (hz ▸ hl), hrun, hend, _, _, rfl, ⟨?_, hF⟩, ⟨_, rfl⟩, hW, hsame.mono hC hS⟩
  show Q _ T.heap
  rw [hh]; exact hQ
theorem F_return (X : St p l e R s m args below meth c Z code own ret ml nm n0 T h cells slots)  (hd : decode code pc = .ok (.return_, 1)) (hret : ret = none) (hC : cells ≤ C) (hS : slots ≤ S) (hQ : Q (none) h) : Ends p e below s n0 C S Q T (mkF m pc Ls ([])) := by
  obtain ⟨locs, Y, hx, hZ, hc, ho, hr, hm, hn, hk, hh, hF, h0⟩ := X
  obtain ⟨fs, hl, hrun, hend, hW, hsame⟩ := Y.leave (v := none) (fun _ => rfl) hk
  refine ⟨_, _, Y.returnOut hx (hr.trans hret) (hb hc hd) hl, hrun, hend, _, _, rfl, ⟨?_, hF⟩, ⟨_, rfl⟩, hW, hsame.mono hC hS⟩
  show Q _ T.heap
  rw [hh]; exact hQ
theorem F_lreturn (X : St p l e R s m args below meth c Z code own ret ml nm n0 T h cells slots) {z : Int64} (hd : decode code pc = .ok (.lreturn, 1)) (hret : ret = some .long) (hC : cells ≤ C) (hS : slots ≤ S) (hQ : Q (some (.long z)) h) : Ends p e below s n0 C S Q T (mkF m pc Ls ([.long z])) := by
  obtain ⟨locs, Y, hx, hZ, hc, ho, hr, hm, hn, hk, hh, hF, h0⟩ := X
  obtain ⟨fs, hl, hrun, hend, hW, hsame⟩ := Y.leave (v := some (.long z)) (fun z => by rw [hr, hret] at z; cases z) hk
  refine ⟨_, _, Y.lreturnOut hx (hr.trans hret) (hb hc hd) hl, hrun, hend, _, _, rfl, ⟨?_, hF⟩, ⟨_, rfl⟩, hW, hsame.mono hC hS⟩
  show Q _ T.heap
  rw [hh]; exact hQ
theorem F_areturn (X : St p l e R s m args below meth c Z code own ret ml nm n0 T h cells slots) {v : Value} {t : FieldType} (ht : t.isReference = true) (hv : v.isRef = true) (hn' : narrow t v = v) (hd : decode code pc = .ok (.areturn, 1)) (hret : ret = some t) (hC : cells ≤ C) (hS : slots ≤ S) (hQ : Q (some v) h) : Ends p e below s n0 C S Q T (mkF m pc Ls (v :: stk)) := by
  obtain ⟨locs, Y, hx, hZ, hc, ho, hr, hm, hn, hk, hh, hF, h0⟩ := X
  obtain ⟨fs, hl, hrun, hend, hW, hsame⟩ := Y.leave (v := some v) (fun z => by rw [hr, hret] at z; cases z) hk
  refine ⟨_, _, retOut Y hx (hr.trans hret) hn' (Or.inr (Or.inr (Or.inr (Or.inr ⟨rfl, ht, hv⟩)))) (hb hc hd) hl, hrun, hend, _, _, rfl, ⟨?_, hF⟩, ⟨_, rfl⟩, hW, hsame.mono hC hS⟩
  show Q _ T.heap
  rw [hh]; exact hQ
theorem F_callS (X : St p l e R s m args below meth c Z code own ret ml nm n0 T h cells slots) {y : MethodName} {bytes : ByteArray} {maxL : Nat} {rt : Option FieldType} {rm : Room} {Q' : Option Value → Heap → Prop} {idx : Nat} (w1 : (Cond.methodLink own idx y).before a0 Z = true) (w2 : (Cond.static y).before a0 Z = true) (w3 : (Cond.initialized y.cls).before a0 Z = true) (w4 : (Cond.code y bytes maxL rt).before a0 Z = true) (hy : y.cls ≠ "java/lang/invoke/MethodHandle" ∧ y.cls ≠ "java/lang/invoke/VarHandle")
    {argsL : List Value} (K : Con l y bytes maxL rt rm rm.cells rm.slots Z n0 argsL.toArray h Q') (r1 : rm.frames + 1 ≤ R.frames) {W : Nat} (hW : (stk.map fun v => v.category).sum ≤ W) (r2 : W + (maxL + 11) + rm.locals ≤ R.locals) (r3 : cells + rm.cells ≤ R.cells) (r4 : slots + rm.slots ≤ R.slots) (hls : Ls.size = ml) (hlen : ∀ sig, parseMethodDescriptor y.desc = some sig → argsL.length = sig.parameters.length) {stk0 : List Value} (hst : stk0 = argsL.reverse ++ stk) (hd : decode code pc = .ok (.invokestatic idx, 3)) (hp : pc + 3 = pc')
    (k : ∀ (T' : State) (v : Option Value) (h' : Heap), St p l e R s m args below meth c Z code own ret ml nm n0 T' h' (cells + rm.cells) (slots + rm.slots) → Q' v h' → Ends p e below s n0 C S Q T' (mkF m pc' Ls (v.toList ++ stk))) : Ends p e below s n0 C S Q T (mkF m pc Ls stk0) := by
  obtain ⟨locs, Y, hx, hZ, hc, ho, hr, hm, hn, hk, hh, hF, h0⟩ := X
  subst hp hst
  obtain ⟨v, vm1, ⟨T', L', k', n'⟩, -, Y', ⟨L, q1, q2, q3, q4⟩, st⟩ := Jvm.LawKit.callS Y hx (y := y) ho (mvT hZ w1) (mvT hZ w2) (mvT hZ w3) (mvT hZ w4) hy (backOf (W := W) (Q := fun v h' L => Q' v h' ∧ Fr n0 L) (K []) hZ w4 w3 r1 r2) (g := mkF m pc Ls (argsL.reverse ++ stk)) rfl (by rw [hm]; exact hls) (argsL := argsL) (rest := stk) hlen rfl (by show 2 * 0 + _ ≤ _; omega) (hb hc hd) (fun _ _ => ⟨rfl, hh, r3, r4⟩)
  dsimp only [Pt.U, Pt.locs, Pt.cells, Pt.slots] at Y' q2 q3 q4 st q1
  subst q2 q3 q4
  obtain ⟨q1, q5⟩ := q1
  exact (k T' v T'.heap ⟨_, Y', hx, hZ, hc, ho, hr, hm, hn, hk, rfl, Fr.app hF q5, h0⟩ q1).by st
theorem F_init (X : St p l e R s m args below meth c Z code own ret ml nm n0 T h cells slots) {y : MethodName} {bytes : ByteArray} {maxL : Nat} {rm : Room} {Q' : Option Value → Heap → Prop} {idx : Nat} (hy1 : y.name = "<init>") (w1 : (Cond.methodLink own idx y).before a0 Z = true) (w2 : (Cond.instanceMethod y).before a0 Z = true) (w3 : (Cond.initialized y.cls).before a0 Z = true) (w4 : (Cond.code y bytes maxL none).before a0 Z = true) (hy : y.cls ≠ "java/lang/invoke/MethodHandle" ∧ y.cls ≠ "java/lang/invoke/VarHandle")
    {a : Addr} {argsL : List Value} (K : Con l y bytes maxL none rm rm.cells rm.slots Z n0 (.ref a :: argsL).toArray h Q') (r1 : rm.frames + 1 ≤ R.frames) {W : Nat} (hW : (stk.map fun v => v.category).sum ≤ W) (r2 : W + (maxL + 11) + rm.locals ≤ R.locals) (r3 : cells + rm.cells ≤ R.cells) (r4 : slots + rm.slots ≤ R.slots) (hls : Ls.size = ml) (hlen : ∀ sig, parseMethodDescriptor y.desc = some sig → argsL.length = sig.parameters.length) {stk0 : List Value} (hst : stk0 = argsL.reverse ++ .ref a :: stk) (hd : decode code pc = .ok (.invokespecial idx, 3)) (hp : pc + 3 = pc')
    (k : ∀ (T' : State) (v : Option Value) (h' : Heap), St p l e R s m args below meth c Z code own ret ml nm n0 T' h' (cells + rm.cells) (slots + rm.slots) → Q' v h' → Ends p e below s n0 C S Q T' (mkF m pc' Ls (v.toList ++ stk))) : Ends p e below s n0 C S Q T (mkF m pc Ls stk0) := by
  obtain ⟨locs, Y, hx, hZ, hc, ho, hr, hm, hn, hk, hh, hF, h0⟩ := X
  subst hp hst
  obtain ⟨v, vm1, ⟨T', L', k', n'⟩, -, Y', ⟨L, q1, q2, q3, q4⟩, st⟩ := Y.specialBack hx (y := y) hy1 ho (mvT hZ w1) (mvT hZ w2) (mvT hZ w4) hy (backOf (W := W) (Q := fun v h' L => Q' v h' ∧ Fr n0 L) (K []) hZ w4 w3 r1 r2) (g := mkF m pc Ls (argsL.reverse ++ .ref a :: stk)) rfl (by rw [hm]; exact hls) (Steps.refl _) (a := a) (argsL := argsL) (rest := stk) hlen rfl (by show 2 * 0 + _ ≤ _; omega) (hb hc hd) (fun _ _ => ⟨rfl, hh, r3, r4⟩)
  dsimp only [Pt.U, Pt.locs, Pt.cells, Pt.slots] at Y' q2 q3 q4 st q1
  subst q2 q3 q4
  obtain ⟨q1, q5⟩ := q1
  exact (k T' v T'.heap ⟨_, Y', hx, hZ, hc, ho, hr, hm, hn, hk, rfl, Fr.app hF q5, h0⟩ q1).by fun _ z => st.trans z
theorem F_callV (X : St p l e R s m args below meth c Z code own ret ml nm n0 T h cells slots) {y : MethodName} {bytes : ByteArray} {maxL : Nat} {rt : Option FieldType} {rm : Room} {Q' : Option Value → Heap → Prop} {idx : Nat} (w1 : (Cond.methodLink own idx y).before a0 Z = true) (w5 : (Cond.declares y).before a0 Z = true) (w6 : (Cond.selects y.cls y y).before a0 Z = true) (w2 : (Cond.instanceMethod y).before a0 Z = true) (w3 : (Cond.initialized y.cls).before a0 Z = true) (w4 : (Cond.code y bytes maxL rt).before a0 Z = true) (hy : y.cls ≠ "java/lang/invoke/MethodHandle" ∧ y.cls ≠ "java/lang/invoke/VarHandle")
    {a : Addr} (E : Exa Z h a y.cls) {argsL : List Value} (K : Con l y bytes maxL rt rm rm.cells rm.slots Z n0 (.ref a :: argsL).toArray h Q') (r1 : rm.frames + 1 ≤ R.frames) {W : Nat} (hW : (stk.map fun v => v.category).sum ≤ W) (r2 : W + (maxL + 11) + rm.locals ≤ R.locals) (r3 : cells + rm.cells ≤ R.cells) (r4 : slots + rm.slots ≤ R.slots) (hls : Ls.size = ml) (hlen : ∀ sig, parseMethodDescriptor y.desc = some sig → argsL.length = sig.parameters.length) {stk0 : List Value} (hst : stk0 = argsL.reverse ++ .ref a :: stk) (hd : decode code pc = .ok (.invokevirtual idx, 3)) (hp : pc + 3 = pc')
    (k : ∀ (T' : State) (v : Option Value) (h' : Heap), St p l e R s m args below meth c Z code own ret ml nm n0 T' h' (cells + rm.cells) (slots + rm.slots) → Q' v h' → Ends p e below s n0 C S Q T' (mkF m pc' Ls (v.toList ++ stk))) : Ends p e below s n0 C S Q T (mkF m pc Ls stk0) := by
  obtain ⟨locs, Y, hx, hZ, hc, ho, hr, hm, hn, hk, hh, hF, h0⟩ := X
  subst hp hst
  obtain ⟨cq, kq, qa, qb, qc⟩ := isOf hZ hh E
  obtain ⟨v, vm1, ⟨T', L', k', n'⟩, -, Y', ⟨L, q1, q2, q3, q4⟩, st⟩ := Y.virtualBack hx (y := y) (z := y) ho (mvT hZ w1) (mvT hZ w5) (notFace_of_selects (args := #[]) (mvT hZ w6)) (mvT hZ w6) (mvT hZ w2) hy (backOf (W := W) (Q := fun v h' L => Q' v h' ∧ Fr n0 L) (K []) hZ w4 w3 r1 r2) qa qc (g := mkF m pc Ls (argsL.reverse ++ .ref a :: stk)) rfl (by rw [hm]; exact hls) (Steps.refl _) (argsL := argsL) (rest := stk) hlen rfl (by show 2 * 0 + _ ≤ _; omega) (hb hc hd) (fun _ _ => ⟨rfl, hh, r3, r4⟩)
  dsimp only [Pt.U, Pt.locs, Pt.cells, Pt.slots] at Y' q2 q3 q4 st q1
  subst q2 q3 q4
  obtain ⟨q1, q5⟩ := q1
  exact (k T' v T'.heap ⟨_, Y', hx, hZ, hc, ho, hr, hm, hn, hk, rfl, Fr.app hF q5, h0⟩ q1).by fun _ z => st.trans z
theorem F_callP (X : St p l e R s m args below meth c Z code own ret ml nm n0 T h cells slots) {y : MethodName} {bytes : ByteArray} {maxL : Nat} {rt : Option FieldType} {rm : Room} {Q' : Option Value → Heap → Prop} {idx : Nat} {kk : Nat} (w1 : (Cond.methodLink own idx y).before a0 Z = true) (wp : (Cond.privateMethod y).before a0 Z = true) (wi : (Cond.instantiable y.cls kk).before a0 Z = true) (w2 : (Cond.instanceMethod y).before a0 Z = true) (w3 : (Cond.initialized y.cls).before a0 Z = true) (w4 : (Cond.code y bytes maxL rt).before a0 Z = true) (hy : y.cls ≠ "java/lang/invoke/MethodHandle" ∧ y.cls ≠ "java/lang/invoke/VarHandle")
    {a : Addr} (E : Exa Z h a y.cls) {argsL : List Value} (K : Con l y bytes maxL rt rm rm.cells rm.slots Z n0 (.ref a :: argsL).toArray h Q') (r1 : rm.frames + 1 ≤ R.frames) {W : Nat} (hW : (stk.map fun v => v.category).sum ≤ W) (r2 : W + (maxL + 11) + rm.locals ≤ R.locals) (r3 : cells + rm.cells ≤ R.cells) (r4 : slots + rm.slots ≤ R.slots) (hls : Ls.size = ml) (hlen : ∀ sig, parseMethodDescriptor y.desc = some sig → argsL.length = sig.parameters.length) {stk0 : List Value} (hst : stk0 = argsL.reverse ++ .ref a :: stk) (hd : decode code pc = .ok (.invokevirtual idx, 3)) (hp : pc + 3 = pc')
    (k : ∀ (T' : State) (v : Option Value) (h' : Heap), St p l e R s m args below meth c Z code own ret ml nm n0 T' h' (cells + rm.cells) (slots + rm.slots) → Q' v h' → Ends p e below s n0 C S Q T' (mkF m pc' Ls (v.toList ++ stk))) : Ends p e below s n0 C S Q T (mkF m pc Ls stk0) := by
  obtain ⟨locs, Y, hx, hZ, hc, ho, hr, hm, hn, hk, hh, hF, h0⟩ := X
  subst hp hst
  obtain ⟨cq, q, q'⟩ := E.cell
  have wi' : (Cond.instantiable y.cls kk).before args s = true := mvT hZ wi
  obtain ⟨c1, k1, i1, i2, -, i4, -⟩ := Cond.instantiable_spec wi'
  have hpr := Cond.privateMethod_at (mvP hZ wp (args := #[]))
  have hsel : (Cond.selects y.cls y y).before args s = true := selects_self_of_private i1 i2 (by simp at i4; exact i4.1) hpr (mvT hZ w2) hy
  obtain ⟨v, vm1, ⟨T', L', k', n'⟩, -, Y', ⟨L, q1, q2, q3, q4⟩, st⟩ := Y.privateBack hx (y := y) ho (mvT hZ w1) (mvT hZ w2) hsel hpr (mvT hZ w4) hy (backOf (W := W) (Q := fun v h' L => Q' v h' ∧ Fr n0 L) (K []) hZ w4 w3 r1 r2) (g := mkF m pc Ls (argsL.reverse ++ .ref a :: stk)) rfl (by rw [hm]; exact hls) (Steps.refl _) (a := a) (by rw [hh]; exact q) q' (argsL := argsL) (rest := stk) hlen rfl (by show 2 * 0 + _ ≤ _; omega) (hb hc hd) (fun _ _ => ⟨rfl, hh, r3, r4⟩)
  dsimp only [Pt.U, Pt.locs, Pt.cells, Pt.slots] at Y' q2 q3 q4 st q1
  subst q2 q3 q4
  obtain ⟨q1, q5⟩ := q1
  exact (k T' v T'.heap ⟨_, Y', hx, hZ, hc, ho, hr, hm, hn, hk, rfl, Fr.app hF q5, h0⟩ q1).by fun _ z => st.trans z
theorem F_objInit (X : St p l e R s m args below meth c Z code own ret ml nm n0 T h cells slots) {idx : Nat} {a : Addr} (w1 : (Cond.methodLink own idx Lib.objectInit).before a0 Z = true) (w2 : (Cond.instanceMethod Lib.objectInit).before a0 Z = true) (w3 : (Cond.code Lib.objectInit ⟨#[0xb1]⟩ 1 none).before a0 Z = true) (r1 : 1 ≤ R.frames) {W : Nat} (hW : (stk.map fun v => v.category).sum ≤ W) (r2 : W + 12 ≤ R.locals) (hls : Ls.size = ml) (hd : decode code pc = .ok (.invokespecial idx, 3)) (hp : pc + 3 = pc')
    (k : ∀ T' : State, St p l e R s m args below meth c Z code own ret ml nm n0 T' h cells slots → Ends p e below s n0 C S Q T' (mkF m pc' Ls stk)) : Ends p e below s n0 C S Q T (mkF m pc Ls (.ref a :: stk)) := by
  obtain ⟨locs, Y, hx, hZ, hc, ho, hr, hm, hn, hk, hh, hF, h0⟩ := X
  subst hp
  obtain ⟨T', Y', e', st⟩ := initO Y hx hZ ho w1 w2 w3 hh (g := mkF m pc Ls (.ref a :: stk)) rfl (by rw [hm]; exact hls) rfl (hb hc hd) r1 (W := W) (by show 2 * 0 + _ ≤ _; omega) r2
  exact (k T' ⟨_, Y', hx, hZ, hc, ho, hr, hm, hn, hk, e', hF, h0⟩).by st
theorem F_new (X : St p l e R s m args below meth c Z code own ret ml nm n0 T h cells slots) {idx n : Nat} {K : String} (w : (Cond.classLink own idx K).before a0 Z = true) (wi : (Cond.instantiable K n).before a0 Z = true) (wz : (Cond.initialized K).before a0 Z = true) (r3 : cells + 1 ≤ R.cells) (r4 : slots + n ≤ R.slots) (hd : decode code pc = .ok (.new idx, 3)) (hp : pc + 3 = pc')
    (k : ∀ (T' : State) (h' : Heap) (a : Addr), St p l e R s m args below meth c Z code own ret ml nm n0 T' h' (cells + 1) (slots + n) → Ext h h' → a = h.size → n0 ≤ a → Exa Z h' a K → (∀ {O nm d : String} {ty : FieldType}, Laid Z a0 K O nm d → parseFieldDescriptor d = some ty → Fld Z h' a O nm d (defaultValue ty)) → Ends p e below s n0 C S Q T' (mkF m pc' Ls (.ref a :: stk))) : Ends p e below s n0 C S Q T (mkF m pc Ls stk) := by
  have hsz := X.size
  obtain ⟨locs, Y, hx, hZ, hc, ho, hr, hm, hn, hk, hh, hF, h0⟩ := X
  subst hp
  obtain ⟨T', h', Y', e', E, A, D, -, st⟩ := newO Y hx hZ ho w wi wz hh (g := mkF m pc Ls stk) rfl (hb hc hd) r3 r4
  exact (k T' h' _ ⟨_, Y', hx, hZ, hc, ho, hr, hm, hn, hk, e', hF, h0⟩ E rfl hsz A D).by st
theorem F_getfield (X : St p l e R s m args below meth c Z code own ret ml nm n0 T h cells slots) {idx : Nat} {K f d : String} {a : Addr} {v : Value} (w : (Cond.fieldLink own idx K f d).before a0 Z = true) (F : Fld Z h a K f d v) (hd : decode code pc = .ok (.getfield idx, 3)) (hp : pc + 3 = pc')
    (k : ∀ T' : State, St p l e R s m args below meth c Z code own ret ml nm n0 T' h cells slots → Ends p e below s n0 C S Q T' (mkF m pc' Ls (v :: stk))) : Ends p e below s n0 C S Q T (mkF m pc Ls (.ref a :: stk)) := by
  obtain ⟨locs, Y, hx, hZ, hc, ho, hr, hm, hn, hk, hh, hF, h0⟩ := X
  subst hp
  obtain ⟨T', Y', e', st⟩ := getF Y hx hZ ho (host := "") (Or.inl w) Via.refl hh F (g := mkF m pc Ls (.ref a :: stk)) rfl rfl (hb hc hd)
  exact (k T' ⟨_, Y', hx, hZ, hc, ho, hr, hm, hn, hk, e', hF, h0⟩).by st
theorem F_putfield (X : St p l e R s m args below meth c Z code own ret ml nm n0 T h cells slots) {idx kk : Nat} {K f d : String} {a : Addr} {v old : Value} {ty : FieldType} (w : (Cond.fieldLink own idx K f d).before a0 Z = true) (F : Fld Z h a K f d old) (E : Exa Z h a K) (L : (Cond.lays K K f d).before a0 Z = true ∨ ((Cond.laysFinal K K f d).before a0 Z = true ∧ own = K ∧ nm = "<init>")) (wi : (Cond.instantiable K kk).before a0 Z = true) (hty : parseFieldDescriptor d = some ty) (hnr : narrow ty v = v) (hft : fits ty v = true) (ge : n0 ≤ a) (hd : decode code pc = .ok (.putfield idx, 3)) (hp : pc + 3 = pc')
    (k : ∀ (T' : State) (h' : Heap), St p l e R s m args below meth c Z code own ret ml nm n0 T' h' cells slots → Wr h h' a (Jvm.RoadKit.slotOf Z K f d) v → Ends p e below s n0 C S Q T' (mkF m pc' Ls stk)) : Ends p e below s n0 C S Q T (mkF m pc Ls (v :: .ref a :: stk)) := by
  obtain ⟨locs, Y, hx, hZ, hc, ho, hr, hm, hn, hk, hh, hF, h0⟩ := X
  subst hp
  obtain ⟨T', h', Y', e', W, st⟩ := putF Y hx hZ ho (host := "") (Or.inl w) Via.refl hh F E (L.imp id fun q => ⟨q.1, q.2.1, hn.trans q.2.2⟩) wi hty hnr hft (g := mkF m pc Ls (v :: .ref a :: stk)) rfl rfl (hb hc hd)
  exact (k T' h' ⟨_, Y', hx, hZ, hc, ho, hr, hm, hn, hk, e', Fr.snoc Y' hF ge, h0⟩ W).by st
theorem F_putfieldN (X : St p l e R s m args below meth c Z code own ret ml nm n0 T h cells slots) {idx kk : Nat} {K f d : String} {a : Addr} {v v' old : Value} {ty : FieldType} (w : (Cond.fieldLink own idx K f d).before a0 Z = true) (F : Fld Z h a K f d old) (E : Exa Z h a K) (L : (Cond.lays K K f d).before a0 Z = true ∨ ((Cond.laysFinal K K f d).before a0 Z = true ∧ own = K ∧ nm = "<init>")) (wi : (Cond.instantiable K kk).before a0 Z = true) (hty : parseFieldDescriptor d = some ty) (hnr : narrow ty v = v') (hft : fits ty v' = true) (ge : n0 ≤ a) (hd : decode code pc = .ok (.putfield idx, 3)) (hp : pc + 3 = pc')
    (k : ∀ (T' : State) (h' : Heap), St p l e R s m args below meth c Z code own ret ml nm n0 T' h' cells slots → Wr h h' a (Jvm.RoadKit.slotOf Z K f d) v' → Ends p e below s n0 C S Q T' (mkF m pc' Ls stk)) : Ends p e below s n0 C S Q T (mkF m pc Ls (v :: .ref a :: stk)) := by
  obtain ⟨locs, Y, hx, hZ, hc, ho, hr, hm, hn, hk, hh, hF, h0⟩ := X
  subst hp
  obtain ⟨T', h', Y', e', W, st⟩ := putFN Y hx hZ ho w Via.refl hh F E (L.imp id fun q => ⟨q.1, q.2.1, hn.trans q.2.2⟩) wi hty hnr hft (g := mkF m pc Ls (v :: .ref a :: stk)) rfl rfl (hb hc hd)
  exact (k T' h' ⟨_, Y', hx, hZ, hc, ho, hr, hm, hn, hk, e', Fr.snoc Y' hF ge, h0⟩ W).by st
/-- the array at a, of the component kind ty, holds just the values vs -/
def AV (Z : State) (h : Heap) (a : Addr) (ty : FieldType) (vs : List Value) : Prop := ∃ cl : Cell, Arr Z h a cl ty ∧ cl.slots.toList = vs ∧ vs.length < 2147483648 ∧ ∀ v ∈ vs, fits ty v = true
theorem AV.lt {a : Addr} {ty : FieldType} {vs : List Value} (A : AV Z h a ty vs) : a < h.size := by obtain ⟨cl, A, -⟩ := A; exact A.lt
theorem AV.ext {h' : Heap} {a : Addr} {ty : FieldType} {vs : List Value} (A : AV Z h a ty vs) (E : Ext h h') : AV Z h' a ty vs := by obtain ⟨cl, A, r⟩ := A; exact ⟨cl, A.ext E, r⟩
theorem AV.other {h' : Heap} {a b : Addr} {sl : Nat} {v : Value} {ty : FieldType} {vs : List Value} (A : AV Z h a ty vs) (W : Wr h h' b sl v) (q : a ≠ b) : AV Z h' a ty vs := by obtain ⟨cl, A, r⟩ := A; exact ⟨cl, A.other W q, r⟩
theorem AV.keep {h' : Heap} {a : Addr} {ws : List Addr} {ty : FieldType} {vs : List Value} (A : AV Z h a ty vs) (K : Keep h h' ws) (q : a ∉ ws) : AV Z h' a ty vs := by obtain ⟨cl, A, r⟩ := A; exact ⟨cl, ⟨K.2.1 a cl A.1 q, A.2⟩, r⟩
theorem AV.same {h' : Heap} {a : Addr} {j : Nat} {v : Value} {ty : FieldType} {vs : List Value} (A : AV Z h a ty vs) (W : Wr h h' a j v) (hf : fits ty v = true) : AV Z h' a ty (vs.set j v) := by
  obtain ⟨cl, A, r1, r2, r3⟩ := A
  refine ⟨cl.setSlot j v, A.same W, ?_, by simpa using r2, fun u hu => ?_⟩
  · rw [← r1]; simp [Cell.setSlot]
  · rcases List.mem_or_eq_of_mem_set hu with q | q
    · exact r3 u q
    · exact q ▸ hf
theorem idx_ok {cl : Cell} {vs : List Value} {v : Value} {j : Int32} (r1 : cl.slots.toList = vs) (hj : ¬ j < 0) (hv : vs[j.toNatClampNeg]? = some v) : ¬ (j < 0 ∨ cl.slots.size ≤ j.toNatClampNeg) ∧ cl.slots[j.toNatClampNeg]? = some v := by
  subst r1
  rw [Array.getElem?_toList] at hv
  exact ⟨fun q => q.elim hj fun q => (by rw [Array.getElem?_eq_none q] at hv; cases hv), hv⟩

theorem F_iaload (X : St p l e R s m args below meth c Z code own ret ml nm n0 T h cells slots) {a : Addr} {vs : List Value} {j : Int32} {v : Int32} (A : AV Z h a .int vs) (hj : ¬ j < 0) (hv : vs[j.toNatClampNeg]? = some (.int v)) (hd : decode code pc = .ok (.iaload, 1)) (hp : pc + 1 = pc') (k : Ends p e below s n0 C S Q T (mkF m pc' Ls (.int v :: stk))) : Ends p e below s n0 C S Q T (mkF m pc Ls (.int j :: .ref a :: stk)) := by
  obtain ⟨locs, Y, hx, hZ, hc, ho, hr, hm, hn, hk, hh, hF, h0⟩ := X
  subst hp
  obtain ⟨cl, A, r1, r2, r3⟩ := A
  obtain ⟨q1, q2⟩ := idx_ok r1 hj hv
  exact k.by fun _ z => Y.iaload hx (j := j) (by rw [hh]; exact A.1) (State.isArrayOf_alike hZ.alike A.2.1) A.2.2 q1 q2 (g := mkF m pc Ls (.int j :: .ref a :: stk)) rfl rfl (hb hc hd) _ z
theorem F_laload (X : St p l e R s m args below meth c Z code own ret ml nm n0 T h cells slots) {a : Addr} {vs : List Value} {j : Int32} {v : Int64} (A : AV Z h a .long vs) (hj : ¬ j < 0) (hv : vs[j.toNatClampNeg]? = some (.long v)) (hd : decode code pc = .ok (.laload, 1)) (hp : pc + 1 = pc') (k : Ends p e below s n0 C S Q T (mkF m pc' Ls (.long v :: stk))) : Ends p e below s n0 C S Q T (mkF m pc Ls (.int j :: .ref a :: stk)) := by
  obtain ⟨locs, Y, hx, hZ, hc, ho, hr, hm, hn, hk, hh, hF, h0⟩ := X
  subst hp
  obtain ⟨cl, A, r1, r2, r3⟩ := A
  obtain ⟨q1, q2⟩ := idx_ok r1 hj hv
  exact k.by fun _ z => Y.laload hx (j := j) (by rw [hh]; exact A.1) (State.isArrayOf_alike hZ.alike A.2.1) A.2.2 q1 q2 (g := mkF m pc Ls (.int j :: .ref a :: stk)) rfl rfl (hb hc hd) _ z
theorem F_baload (X : St p l e R s m args below meth c Z code own ret ml nm n0 T h cells slots) {a : Addr} {vs : List Value} {j : Int32} {v : Int32} (A : AV Z h a .byte vs) (hj : ¬ j < 0) (hv : vs[j.toNatClampNeg]? = some (.int v)) (hd : decode code pc = .ok (.baload, 1)) (hp : pc + 1 = pc') (k : Ends p e below s n0 C S Q T (mkF m pc' Ls (.int v :: stk))) : Ends p e below s n0 C S Q T (mkF m pc Ls (.int j :: .ref a :: stk)) := by
  obtain ⟨locs, Y, hx, hZ, hc, ho, hr, hm, hn, hk, hh, hF, h0⟩ := X
  subst hp
  obtain ⟨cl, A, r1, r2, r3⟩ := A
  obtain ⟨q1, q2⟩ := idx_ok r1 hj hv
  exact k.by fun _ z => Y.baloadBytes hx (j := j) (by rw [hh]; exact A.1) (State.isArrayOf_alike hZ.alike A.2.1) A.2.2 q1 q2 (g := mkF m pc Ls (.int j :: .ref a :: stk)) rfl rfl (hb hc hd) _ z
theorem F_arraylength (X : St p l e R s m args below meth c Z code own ret ml nm n0 T h cells slots) {a : Addr} {ty : FieldType} {vs : List Value} {z : Int32} (A : AV Z h a ty vs) (hz : vs.length.toInt32 = z) (hd : decode code pc = .ok (.arraylength, 1)) (hp : pc + 1 = pc') (k : Ends p e below s n0 C S Q T (mkF m pc' Ls (.int z :: stk))) : Ends p e below s n0 C S Q T (mkF m pc Ls (.ref a :: stk)) := by
  obtain ⟨locs, Y, hx, hZ, hc, ho, hr, hm, hn, hk, hh, hF, h0⟩ := X
  subst hp
  obtain ⟨cl, A, r1, r2, r3⟩ := A
  subst hz r1
  exact k.by fun _ z => Y.arraylength hx (by rw [hh]; exact A.1) (State.isArrayOf_alike hZ.alike A.2.1) (g := mkF m pc Ls (.ref a :: stk)) rfl rfl (hb hc hd) _ (by simpa using z)
theorem F_iastore (X : St p l e R s m args below meth c Z code own ret ml nm n0 T h cells slots) {a : Addr} {vs : List Value} {j : Int32} {x : Int32} {i : Nat} (A : AV Z h a .int vs) (hj : ¬ j < 0) (hi : j.toNatClampNeg = i) (hlt : i < vs.length) (ge : n0 ≤ a) (hd : decode code pc = .ok (.iastore, 1)) (hp : pc + 1 = pc')
    (k : ∀ (T' : State) (h' : Heap), St p l e R s m args below meth c Z code own ret ml nm n0 T' h' cells slots → Wr h h' a i (.int x) → AV Z h' a .int (vs.set i (.int x)) → Ends p e below s n0 C S Q T' (mkF m pc' Ls stk)) : Ends p e below s n0 C S Q T (mkF m pc Ls (.int x :: .int j :: .ref a :: stk)) := by
  obtain ⟨locs, Y, hx, hZ, hc, ho, hr, hm, hn, hk, hh, hF, h0⟩ := X
  subst hp hi
  have A0 := A
  obtain ⟨cl, A, r1, r2, r3⟩ := A
  subst r1
  obtain ⟨T', h', Y', e', W, st⟩ := stI Y hx hZ hh A (j := j) (x := x) (fun q => q.elim hj fun q => by simp at hlt; omega) (g := mkF m pc Ls (.int x :: .int j :: .ref a :: stk)) rfl rfl (hb hc hd)
  exact (k T' h' ⟨_, Y', hx, hZ, hc, ho, hr, hm, hn, hk, e', Fr.snoc Y' hF ge, h0⟩ W (A0.same W rfl)).by st
theorem F_lastore (X : St p l e R s m args below meth c Z code own ret ml nm n0 T h cells slots) {a : Addr} {vs : List Value} {j : Int32} {x : Int64} {i : Nat} (A : AV Z h a .long vs) (hj : ¬ j < 0) (hi : j.toNatClampNeg = i) (hlt : i < vs.length) (ge : n0 ≤ a) (hd : decode code pc = .ok (.lastore, 1)) (hp : pc + 1 = pc')
    (k : ∀ (T' : State) (h' : Heap), St p l e R s m args below meth c Z code own ret ml nm n0 T' h' cells slots → Wr h h' a i (.long x) → AV Z h' a .long (vs.set i (.long x)) → Ends p e below s n0 C S Q T' (mkF m pc' Ls stk)) : Ends p e below s n0 C S Q T (mkF m pc Ls (.long x :: .int j :: .ref a :: stk)) := by
  obtain ⟨locs, Y, hx, hZ, hc, ho, hr, hm, hn, hk, hh, hF, h0⟩ := X
  subst hp hi
  have A0 := A
  obtain ⟨cl, A, r1, r2, r3⟩ := A
  subst r1
  obtain ⟨T', h', Y', e', W, st⟩ := stJ Y hx hZ hh A (j := j) (x := x) (fun q => q.elim hj fun q => by simp at hlt; omega) (g := mkF m pc Ls (.long x :: .int j :: .ref a :: stk)) rfl rfl (hb hc hd)
  exact (k T' h' ⟨_, Y', hx, hZ, hc, ho, hr, hm, hn, hk, e', Fr.snoc Y' hF ge, h0⟩ W (A0.same W rfl)).by st
theorem F_bastore (X : St p l e R s m args below meth c Z code own ret ml nm n0 T h cells slots) {a : Addr} {vs : List Value} {j : Int32} {x : Int32} {i : Nat} (A : AV Z h a .byte vs) (hj : ¬ j < 0) (hi : j.toNatClampNeg = i) (hlt : i < vs.length) (ge : n0 ≤ a) {z : Int32} (hz : x.toInt8.toInt32 = z) (hd : decode code pc = .ok (.bastore, 1)) (hp : pc + 1 = pc')
    (k : ∀ (T' : State) (h' : Heap), St p l e R s m args below meth c Z code own ret ml nm n0 T' h' cells slots → Wr h h' a i (.int z) → AV Z h' a .byte (vs.set i (.int z)) → Ends p e below s n0 C S Q T' (mkF m pc' Ls stk)) : Ends p e below s n0 C S Q T (mkF m pc Ls (.int x :: .int j :: .ref a :: stk)) := by
  obtain ⟨locs, Y, hx, hZ, hc, ho, hr, hm, hn, hk, hh, hF, h0⟩ := X
  subst hp hi
  have A0 := A
  obtain ⟨cl, A, r1, r2, r3⟩ := A
  subst r1
  obtain ⟨T', h', Y', e', W, st⟩ := stB Y hx hZ hh A (j := j) (x := x) (fun q => q.elim hj fun q => by simp at hlt; omega) (g := mkF m pc Ls (.int x :: .int j :: .ref a :: stk)) rfl rfl (hb hc hd)
  subst hz
  exact (k T' h' ⟨_, Y', hx, hZ, hc, ho, hr, hm, hn, hk, e', Fr.snoc Y' hF ge, h0⟩ W (A0.same W (fits_nar_byte _))).by st
theorem F_newarray (X : St p l e R s m args below meth c Z code own ret ml nm n0 T h cells slots) {aty : ArrayType} {n : Int32} {cap : Nat} {ad : String} (w : (Cond.arrayClass (newarray.typeOf aty)).before a0 Z = true) (hn0 : ¬ n < 0) (hcap : n.toNatClampNeg = cap) (hbig : cap * 8 ≤ 536870912) (r3 : cells + 1 ≤ R.cells) (r4 : slots + cap ≤ R.slots) (had : "[" ++ (newarray.typeOf aty).toString = ad) (hd : decode code pc = .ok (.newarray aty, 2)) (hp : pc + 2 = pc')
    (k : ∀ (T' : State) (h' : Heap) (a : Addr), St p l e R s m args below meth c Z code own ret ml nm n0 T' h' (cells + 1) (slots + cap) → Ext h h' → a = h.size → n0 ≤ a → Exa Z h' a ad → AV Z h' a (newarray.typeOf aty) (List.replicate cap (defaultValue (newarray.typeOf aty))) → Ends p e below s n0 C S Q T' (mkF m pc' Ls (.ref a :: stk))) : Ends p e below s n0 C S Q T (mkF m pc Ls (.int n :: stk)) := by
  have hsz := X.size
  obtain ⟨locs, Y, hx, hZ, hc, ho, hr, hm, hn, hk, hh, hF, h0⟩ := X
  subst hp
  obtain ⟨T', h', cA, Y', e', E, A, EX, st⟩ := newPE Y hx hZ w hh (g := mkF m pc Ls (.int n :: stk)) rfl (hb hc hd) rfl hn0 (Nat.le_of_eq hcap) hbig r3 r4 had
  refine (k T' h' _ ⟨_, Y', hx, hZ, hc, ho, hr, hm, hn, hk, e', hF, h0⟩ E rfl hsz EX ⟨_, A, by simp [newA, hcap], by simp; omega, fun v hv => ?_⟩).by st
  rw [(List.mem_replicate.mp hv).2]
  cases aty <;> rfl
theorem AV.arv {a : Addr} {ty : FieldType} {vs : List Value} (A : AV Z h a ty vs) (dv : Value) : ∃ k, Arv Z h a k ty vs.length.toInt32 vs dv := by
  obtain ⟨cl, A, r1, r2, r3⟩ := A
  have e1 : (vs.length.toInt32).toInt = vs.length := len_toInt (by omega)
  have e2 : vs.length.toInt32.toNatClampNeg = vs.length := by simp only [Int32.toNatClampNeg, e1]; omega
  have sz : cl.slots.size = vs.length := by rw [← r1]; simp
  have g : ∀ i, i < vs.length → vs[i]? = some (vs.getD i dv) := fun i hi => by simp [List.getD_eq_getElem?_getD, hi]
  refine ⟨cl.cls, cl, A, rfl, by rw [e2]; exact sz, by simp only [Int32.lt_iff_toInt_lt, e1, Int32.reduceToInt]; omega, fun i hi => ?_, fun i hi => ?_⟩
  · rw [← Array.getElem?_toList, r1]; exact g i (sz ▸ hi)
  · exact r3 _ (List.mem_of_getElem? (g i (sz ▸ hi)))
theorem AV.of_arv {a : Addr} {ty : FieldType} {vs : List Value} {k : ClassId} {z : Int32} {dv : Value} (A : Arv Z h a k ty z vs dv) (hz : z.toNatClampNeg = vs.length) : AV Z h a ty vs := by
  obtain ⟨cl, A, r1, r2, r3, H, G⟩ := A
  have sz : cl.slots.size = vs.length := r2.trans hz
  have e : cl.slots.toList = vs := by
    apply List.ext_getElem?
    intro i
    rw [Array.getElem?_toList]
    by_cases hi : i < vs.length
    · rw [H i (by rw [sz]; exact hi)]; simp [List.getD_eq_getElem?_getD, hi]
    · rw [Array.getElem?_eq_none (by omega), List.getElem?_eq_none (by omega)]
  refine ⟨cl, A, e, by have := (back32 r3).2; omega, fun v hv => ?_⟩
  obtain ⟨i, hi, rfl⟩ := List.getElem_of_mem hv
  have q := G i (by rw [sz]; exact hi)
  simpa [List.getD_eq_getElem?_getD, hi] using q

theorem F_arraycopy (X : St p l e R s m args below meth c Z code own ret ml nm n0 T h cells slots) {idx : Nat} {a b : Addr} {ty : FieldType} {vs vd us vr : List Value} {sp dp nn : Int32} (w1 : (Cond.methodLink own idx Jvm.Stand.acN).before a0 Z = true) (w2 : (Cond.native Jvm.Stand.acN).before a0 Z = true) (w3 : (Cond.static Jvm.Stand.acN).before a0 Z = true) (w4 : (Cond.initialized "java/lang/System").before a0 Z = true)
    (A : AV Z h a ty vs) (B : AV Z h b ty vd) (dv : Value) (hty : refKind ty = false) (h1 : ¬ sp < 0) (h2 : ¬ dp < 0) (h3 : ¬ nn < 0) (h4 : sp.toNatClampNeg + nn.toNatClampNeg ≤ vs.length) (h5 : dp.toNatClampNeg + nn.toNatClampNeg ≤ vd.length)
    (hus : us = (List.range nn.toNatClampNeg).map fun i => vs.getD (sp.toNatClampNeg + i) dv) (hvr : vd.take dp.toNatClampNeg ++ us ++ vd.drop (dp.toNatClampNeg + nn.toNatClampNeg) = vr) (ge : n0 ≤ b) (hls : Ls.size = ml) (r1 : 1 ≤ R.frames) {W : Nat} (hW : (stk.map fun v => v.category).sum ≤ W) (r2 : W + (nativeFrameWords "java/lang/System" "arraycopy" 5 + 11) ≤ R.locals) (hd : decode code pc = .ok (.invokestatic idx, 3)) (hp : pc + 3 = pc')
    (k : ∀ (T' : State) (h' : Heap), St p l e R s m args below meth c Z code own ret ml nm n0 T' h' cells slots → Keep h h' [b] → AV Z h' b ty vr → Ends p e below s n0 C S Q T' (mkF m pc' Ls stk)) : Ends p e below s n0 C S Q T (mkF m pc Ls (.int nn :: .int dp :: .ref b :: .int sp :: .ref a :: stk)) := by
  obtain ⟨locs, Y, hx, hZ, hc, ho, hr, hm, hn, hk, hh, hF, h0⟩ := X
  have hla : vs.length < 2147483648 := by obtain ⟨_, _, _, q, _⟩ := A; exact q
  have hlb : vd.length < 2147483648 := by obtain ⟨_, _, _, q, _⟩ := B; exact q
  subst hp
  obtain ⟨ka, A⟩ := A.arv dv
  obtain ⟨kb, B0⟩ := B.arv dv
  obtain ⟨T', h', L, Y', e', N', K', B', st⟩ := cpA Y hx hZ ho w1 w2 w3 w4 hh A B0 (Or.inl ⟨rfl, hty⟩) h1 h2 h3 (by rw [own_len32 hla]; exact h4) (by rw [own_len32 hlb]; exact h5) hus h5 hF ge (g := mkF m pc Ls (.int nn :: .int dp :: .ref b :: .int sp :: .ref a :: stk)) rfl (by rw [hm]; exact hls) rfl (hb hc hd) r1 (W := W) (by show 2 * 0 + _ ≤ _; omega) r2
  rw [hvr] at B'
  exact (k T' h' ⟨_, Y', hx, hZ, hc, ho, hr, hm, hn, hk, e', N', h0⟩ K' (AV.of_arv B' (by rw [own_len32 hlb, ← hvr, hus]; simp; omega))).by st
theorem F_clone (X : St p l e R s m args below meth c Z code own ret ml nm n0 T h cells slots) {idx : Nat} {a : Addr} {ty : FieldType} {vs : List Value} {ad : String} {cap : Nat} (w1 : (Cond.methodLink own idx ⟨ad, "clone", "()Ljava/lang/Object;"⟩).before a0 Z = true) (w2 : (Cond.sameMethod ad "java/lang/Object" "clone" "()Ljava/lang/Object;").before a0 Z = true) (w3 : (Cond.native ⟨"java/lang/Object", "clone", "()Ljava/lang/Object;"⟩).before a0 Z = true)
    (w4 : (Cond.instanceMethod ⟨"java/lang/Object", "clone", "()Ljava/lang/Object;"⟩).before a0 Z = true) (w5 : (Cond.selects ad ⟨ad, "clone", "()Ljava/lang/Object;"⟩ ⟨"java/lang/Object", "clone", "()Ljava/lang/Object;"⟩).before a0 Z = true) (w6 : (Cond.castable ad "java/lang/Cloneable").before a0 Z = true)
    (A : AV Z h a ty vs) (E : Exa Z h a ad) (hls : Ls.size = ml) (r1 : 1 ≤ R.frames) {W : Nat} (hW : (stk.map fun v => v.category).sum ≤ W) (r2 : W + 14 ≤ R.locals) (hcap : vs.length ≤ cap) (r3 : cells + 1 ≤ R.cells) (r4 : slots + cap ≤ R.slots) (hd : decode code pc = .ok (.invokevirtual idx, 3)) (hp : pc + 3 = pc')
    (k : ∀ (T' : State) (h' : Heap) (b : Addr), St p l e R s m args below meth c Z code own ret ml nm n0 T' h' (cells + 1) (slots + cap) → Ext h h' → b = h.size → n0 ≤ b → Exa Z h' b ad → AV Z h' b ty vs → Ends p e below s n0 C S Q T' (mkF m pc' Ls (.ref b :: stk))) : Ends p e below s n0 C S Q T (mkF m pc Ls (.ref a :: stk)) := by
  have hsz := X.size
  obtain ⟨locs, Y, hx, hZ, hc, ho, hr, hm, hn, hk, hh, hF, h0⟩ := X
  subst hp
  obtain ⟨cl, A, q1, q2, q3⟩ := A
  have FC : FitC Z cl := fitC_of A fun i hi v hv => q3 v (by rw [← q1]; exact List.mem_of_getElem? (i := i) (by rw [Array.getElem?_toList]; exact hv))
  obtain ⟨T', h', Y', e', E', A', EX, st⟩ := cloneA Y hx hZ ho w1 w2 w3 w4 w5 w6 hh A E FC (g := mkF m pc Ls (.ref a :: stk)) rfl (by rw [hm]; exact hls) rfl (hb hc hd) r1 (W := W) (by show 2 * 0 + _ ≤ _; omega) r2 (cap := cap) (by rw [← q1] at hcap; simpa using hcap) r3 r4
  exact (k T' h' _ ⟨_, Y', hx, hZ, hc, ho, hr, hm, hn, hk, e', hF, h0⟩ E' rfl hsz EX ⟨_, A', q1, q2, q3⟩).by st
theorem F_checkcast (X : St p l e R s m args below meth c Z code own ret ml nm n0 T h cells slots) {idx : Nat} {a : Addr} {K : String} (w : (Cond.classLink own idx K).before a0 Z = true) (E : Exa Z h a K) (hd : decode code pc = .ok (.checkcast idx, 3)) (hp : pc + 3 = pc')
    (k : ∀ T' : State, St p l e R s m args below meth c Z code own ret ml nm n0 T' h cells slots → Ends p e below s n0 C S Q T' (mkF m pc' Ls (.ref a :: stk))) : Ends p e below s n0 C S Q T (mkF m pc Ls (.ref a :: stk)) := by
  obtain ⟨locs, Y, hx, hZ, hc, ho, hr, hm, hn, hk, hh, hF, h0⟩ := X
  subst hp
  obtain ⟨T', Y', e', st⟩ := castY Y hx hZ ho w hh (Ins.self E) (g := mkF m pc Ls (.ref a :: stk)) rfl rfl (hb hc hd)
  exact (k T' ⟨_, Y', hx, hZ, hc, ho, hr, hm, hn, hk, e', hF, h0⟩).by st
end Laws
end Jvm.OwnKit

namespace Jvm.Pilot.@@N@@
open Jvm Jvm.ClassFile Sem Op Lib Jvm.Free Jvm.Stand Jvm.LawKit Jvm.RoadKit Jvm.OwnKit Bundle Jvm.Pilot.@@N@@.Jvm.D
theorem wd0 {a0 : Array Value} {Z : State} (hw : ∀ d ∈ tables_1, d.before a0 Z = true) : (Jvm.Cond.classLink "com/example/frame4/frame4/ChunkPoolGiveBackPinLaw" (7 : Nat) "com/example/frame4/frame4/ChunkPool").before a0 Z = true := hw _ (List.mem_of_getElem? (i := 0) rfl)
theorem wd1 {a0 : Array Value} {Z : State} (hw : ∀ d ∈ tables_1, d.before a0 Z = true) : (Jvm.Cond.instantiable "com/example/frame4/frame4/ChunkPool" (2 : Nat)).before a0 Z = true := hw _ (List.mem_of_getElem? (i := 1) rfl)
theorem wd2 {a0 : Array Value} {Z : State} (hw : ∀ d ∈ tables_1, d.before a0 Z = true) : (Jvm.Cond.initialized "com/example/frame4/frame4/ChunkPool").before a0 Z = true := hw _ (List.mem_of_getElem? (i := 2) rfl)
theorem wd3 {a0 : Array Value} {Z : State} (hw : ∀ d ∈ tables_1, d.before a0 Z = true) : (Jvm.Cond.methodLink "com/example/frame4/frame4/ChunkPoolGiveBackPinLaw" (9 : Nat) ({ cls := "com/example/frame4/frame4/ChunkPool", name := "<init>", desc := "()V" } : Jvm.MethodName)).before a0 Z = true := hw _ (List.mem_of_getElem? (i := 3) rfl)
theorem wd4 {a0 : Array Value} {Z : State} (hw : ∀ d ∈ tables_1, d.before a0 Z = true) : (Jvm.Cond.instanceMethod ({ cls := "com/example/frame4/frame4/ChunkPool", name := "<init>", desc := "()V" } : Jvm.MethodName)).before a0 Z = true := hw _ (List.mem_of_getElem? (i := 4) rfl)
theorem wd5 {a0 : Array Value} {Z : State} (hw : ∀ d ∈ tables_1, d.before a0 Z = true) : (Jvm.Cond.code ({ cls := "com/example/frame4/frame4/ChunkPool", name := "<init>", desc := "()V" } : Jvm.MethodName) prog_4_method_1_code (1 : Nat) (Option.none : Option Jvm.ClassFile.FieldType)).before a0 Z = true := hw _ (List.mem_of_getElem? (i := 5) rfl)
theorem wd6 {a0 : Array Value} {Z : State} (hw : ∀ d ∈ tables_1, d.before a0 Z = true) : (Jvm.Cond.methodLink "com/example/frame4/frame4/ChunkPool" (1 : Nat) ({ cls := "java/lang/Object", name := "<init>", desc := "()V" } : Jvm.MethodName)).before a0 Z = true := hw _ (List.mem_of_getElem? (i := 6) rfl)
theorem wd7 {a0 : Array Value} {Z : State} (hw : ∀ d ∈ tables_1, d.before a0 Z = true) : (Jvm.Cond.instanceMethod ({ cls := "java/lang/Object", name := "<init>", desc := "()V" } : Jvm.MethodName)).before a0 Z = true := hw _ (List.mem_of_getElem? (i := 7) rfl)
theorem wd8 {a0 : Array Value} {Z : State} (hw : ∀ d ∈ tables_1, d.before a0 Z = true) : (Jvm.Cond.code ({ cls := "java/lang/Object", name := "<init>", desc := "()V" } : Jvm.MethodName) object_method_1_code (1 : Nat) (Option.none : Option Jvm.ClassFile.FieldType)).before a0 Z = true := hw _ (List.mem_of_getElem? (i := 8) rfl)
theorem wd9 {a0 : Array Value} {Z : State} (hw : ∀ d ∈ tables_1, d.before a0 Z = true) : (Jvm.Cond.classLink "com/example/frame4/frame4/ChunkPoolGiveBackPinLaw" (10 : Nat) "com/example/frame4/frame4/ChunkPool$Chunk").before a0 Z = true := hw _ (List.mem_of_getElem? (i := 9) rfl)
theorem wd10 {a0 : Array Value} {Z : State} (hw : ∀ d ∈ tables_1, d.before a0 Z = true) : (Jvm.Cond.instantiable "com/example/frame4/frame4/ChunkPool$Chunk" (2 : Nat)).before a0 Z = true := hw _ (List.mem_of_getElem? (i := 10) rfl)
theorem wd11 {a0 : Array Value} {Z : State} (hw : ∀ d ∈ tables_1, d.before a0 Z = true) : (Jvm.Cond.initialized "com/example/frame4/frame4/ChunkPool$Chunk").before a0 Z = true := hw _ (List.mem_of_getElem? (i := 11) rfl)
theorem wd12 {a0 : Array Value} {Z : State} (hw : ∀ d ∈ tables_1, d.before a0 Z = true) : (Jvm.Cond.methodLink "com/example/frame4/frame4/ChunkPoolGiveBackPinLaw" (12 : Nat) ({ cls := "com/example/frame4/frame4/ChunkPool$Chunk", name := "<init>", desc := "()V" } : Jvm.MethodName)).before a0 Z = true := hw _ (List.mem_of_getElem? (i := 12) rfl)
theorem wd13 {a0 : Array Value} {Z : State} (hw : ∀ d ∈ tables_1, d.before a0 Z = true) : (Jvm.Cond.instanceMethod ({ cls := "com/example/frame4/frame4/ChunkPool$Chunk", name := "<init>", desc := "()V" } : Jvm.MethodName)).before a0 Z = true := hw _ (List.mem_of_getElem? (i := 13) rfl)
theorem wd14 {a0 : Array Value} {Z : State} (hw : ∀ d ∈ tables_1, d.before a0 Z = true) : (Jvm.Cond.code ({ cls := "com/example/frame4/frame4/ChunkPool$Chunk", name := "<init>", desc := "()V" } : Jvm.MethodName) prog_5_method_1_code (1 : Nat) (Option.none : Option Jvm.ClassFile.FieldType)).before a0 Z = true := hw _ (List.mem_of_getElem? (i := 14) rfl)
theorem wd15 {a0 : Array Value} {Z : State} (hw : ∀ d ∈ tables_1, d.before a0 Z = true) : (Jvm.Cond.methodLink "com/example/frame4/frame4/ChunkPool$Chunk" (3 : Nat) ({ cls := "java/lang/Object", name := "<init>", desc := "()V" } : Jvm.MethodName)).before a0 Z = true := hw _ (List.mem_of_getElem? (i := 15) rfl)
theorem wd16 {a0 : Array Value} {Z : State} (hw : ∀ d ∈ tables_1, d.before a0 Z = true) : (Jvm.Cond.arrayClass Jvm.ClassFile.FieldType.byte).before a0 Z = true := hw _ (List.mem_of_getElem? (i := 16) rfl)
theorem wd17 {a0 : Array Value} {Z : State} (hw : ∀ d ∈ tables_1, d.before a0 Z = true) : (Jvm.Cond.fieldLink "com/example/frame4/frame4/ChunkPool$Chunk" (9 : Nat) "com/example/frame4/frame4/ChunkPool$Chunk" "bytes" "[B").before a0 Z = true := hw _ (List.mem_of_getElem? (i := 17) rfl)
theorem wd18 {a0 : Array Value} {Z : State} (hw : ∀ d ∈ tables_1, d.before a0 Z = true) : (Jvm.Cond.laysFinal "com/example/frame4/frame4/ChunkPool$Chunk" "com/example/frame4/frame4/ChunkPool$Chunk" "bytes" "[B").before a0 Z = true := hw _ (List.mem_of_getElem? (i := 18) rfl)
theorem wd19 {a0 : Array Value} {Z : State} (hw : ∀ d ∈ tables_1, d.before a0 Z = true) : (Jvm.Cond.methodLink "com/example/frame4/frame4/ChunkPoolGiveBackPinLaw" (21 : Nat) ({ cls := "com/example/frame4/frame4/ChunkPool", name := "take", desc := "()Lcom/example/frame4/frame4/ChunkPool$Chunk;" } : Jvm.MethodName)).before a0 Z = true := hw _ (List.mem_of_getElem? (i := 19) rfl)
theorem wd20 {a0 : Array Value} {Z : State} (hw : ∀ d ∈ tables_1, d.before a0 Z = true) : (Jvm.Cond.declares ({ cls := "com/example/frame4/frame4/ChunkPool", name := "take", desc := "()Lcom/example/frame4/frame4/ChunkPool$Chunk;" } : Jvm.MethodName)).before a0 Z = true := hw _ (List.mem_of_getElem? (i := 20) rfl)
theorem wd21 {a0 : Array Value} {Z : State} (hw : ∀ d ∈ tables_1, d.before a0 Z = true) : (Jvm.Cond.instanceMethod ({ cls := "com/example/frame4/frame4/ChunkPool", name := "take", desc := "()Lcom/example/frame4/frame4/ChunkPool$Chunk;" } : Jvm.MethodName)).before a0 Z = true := hw _ (List.mem_of_getElem? (i := 21) rfl)
theorem wd22 {a0 : Array Value} {Z : State} (hw : ∀ d ∈ tables_1, d.before a0 Z = true) : (Jvm.Cond.selects "com/example/frame4/frame4/ChunkPool" ({ cls := "com/example/frame4/frame4/ChunkPool", name := "take", desc := "()Lcom/example/frame4/frame4/ChunkPool$Chunk;" } : Jvm.MethodName) ({ cls := "com/example/frame4/frame4/ChunkPool", name := "take", desc := "()Lcom/example/frame4/frame4/ChunkPool$Chunk;" } : Jvm.MethodName)).before a0 Z = true := hw _ (List.mem_of_getElem? (i := 22) rfl)
theorem wd23 {a0 : Array Value} {Z : State} (hw : ∀ d ∈ tables_1, d.before a0 Z = true) : (Jvm.Cond.code ({ cls := "com/example/frame4/frame4/ChunkPool", name := "take", desc := "()Lcom/example/frame4/frame4/ChunkPool$Chunk;" } : Jvm.MethodName) prog_4_method_2_code (2 : Nat) (Option.some (Jvm.ClassFile.FieldType.object "com/example/frame4/frame4/ChunkPool$Chunk"))).before a0 Z = true := hw _ (List.mem_of_getElem? (i := 23) rfl)
theorem wd24 {a0 : Array Value} {Z : State} (hw : ∀ d ∈ tables_1, d.before a0 Z = true) : (Jvm.Cond.fieldLink "com/example/frame4/frame4/ChunkPool" (7 : Nat) "com/example/frame4/frame4/ChunkPool" "idle" "Lcom/example/frame4/frame4/ChunkPool$Chunk;").before a0 Z = true := hw _ (List.mem_of_getElem? (i := 24) rfl)
theorem wd25 {a0 : Array Value} {Z : State} (hw : ∀ d ∈ tables_1, d.before a0 Z = true) : (Jvm.Cond.lays "com/example/frame4/frame4/ChunkPool" "com/example/frame4/frame4/ChunkPool" "idle" "Lcom/example/frame4/frame4/ChunkPool$Chunk;").before a0 Z = true := hw _ (List.mem_of_getElem? (i := 25) rfl)
theorem wd26 {a0 : Array Value} {Z : State} (hw : ∀ d ∈ tables_1, d.before a0 Z = true) : (Jvm.Cond.classLink "com/example/frame4/frame4/ChunkPool" (13 : Nat) "com/example/frame4/frame4/ChunkPool$Chunk").before a0 Z = true := hw _ (List.mem_of_getElem? (i := 26) rfl)
theorem wd27 {a0 : Array Value} {Z : State} (hw : ∀ d ∈ tables_1, d.before a0 Z = true) : (Jvm.Cond.methodLink "com/example/frame4/frame4/ChunkPool" (15 : Nat) ({ cls := "com/example/frame4/frame4/ChunkPool$Chunk", name := "<init>", desc := "()V" } : Jvm.MethodName)).before a0 Z = true := hw _ (List.mem_of_getElem? (i := 27) rfl)
theorem wd28 {a0 : Array Value} {Z : State} (hw : ∀ d ∈ tables_1, d.before a0 Z = true) : (Jvm.Cond.methodLink "com/example/frame4/frame4/ChunkPoolGiveBackPinLaw" (25 : Nat) ({ cls := "com/example/frame4/frame4/ChunkPoolGiveBackPinLaw", name := "expect", desc := "(Lcom/example/frame4/frame4/ChunkPool$Chunk;IILcom/example/frame4/frame4/ChunkPool$Chunk;Lcom/example/frame4/frame4/ChunkPool$Chunk;Lcom/example/frame4/frame4/ChunkPool$Chunk;)Z" } : Jvm.MethodName)).before a0 Z = true := hw _ (List.mem_of_getElem? (i := 28) rfl)
theorem wd29 {a0 : Array Value} {Z : State} (hw : ∀ d ∈ tables_1, d.before a0 Z = true) : (Jvm.Cond.static ({ cls := "com/example/frame4/frame4/ChunkPoolGiveBackPinLaw", name := "expect", desc := "(Lcom/example/frame4/frame4/ChunkPool$Chunk;IILcom/example/frame4/frame4/ChunkPool$Chunk;Lcom/example/frame4/frame4/ChunkPool$Chunk;Lcom/example/frame4/frame4/ChunkPool$Chunk;)Z" } : Jvm.MethodName)).before a0 Z = true := hw _ (List.mem_of_getElem? (i := 29) rfl)
theorem wd30 {a0 : Array Value} {Z : State} (hw : ∀ d ∈ tables_1, d.before a0 Z = true) : (Jvm.Cond.initialized "com/example/frame4/frame4/ChunkPoolGiveBackPinLaw").before a0 Z = true := hw _ (List.mem_of_getElem? (i := 30) rfl)
theorem wd31 {a0 : Array Value} {Z : State} (hw : ∀ d ∈ tables_1, d.before a0 Z = true) : (Jvm.Cond.code ({ cls := "com/example/frame4/frame4/ChunkPoolGiveBackPinLaw", name := "expect", desc := "(Lcom/example/frame4/frame4/ChunkPool$Chunk;IILcom/example/frame4/frame4/ChunkPool$Chunk;Lcom/example/frame4/frame4/ChunkPool$Chunk;Lcom/example/frame4/frame4/ChunkPool$Chunk;)Z" } : Jvm.MethodName) method_3_code (8 : Nat) (Option.some Jvm.ClassFile.FieldType.boolean)).before a0 Z = true := hw _ (List.mem_of_getElem? (i := 31) rfl)
theorem wd32 {a0 : Array Value} {Z : State} (hw : ∀ d ∈ tables_1, d.before a0 Z = true) : (Jvm.Cond.fieldLink "com/example/frame4/frame4/ChunkPoolGiveBackPinLaw" (13 : Nat) "com/example/frame4/frame4/ChunkPool$Chunk" "next" "Lcom/example/frame4/frame4/ChunkPool$Chunk;").before a0 Z = true := hw _ (List.mem_of_getElem? (i := 32) rfl)
theorem wd33 {a0 : Array Value} {Z : State} (hw : ∀ d ∈ tables_1, d.before a0 Z = true) : (Jvm.Cond.lays "com/example/frame4/frame4/ChunkPool$Chunk" "com/example/frame4/frame4/ChunkPool$Chunk" "next" "Lcom/example/frame4/frame4/ChunkPool$Chunk;").before a0 Z = true := hw _ (List.mem_of_getElem? (i := 33) rfl)
theorem wd34 {a0 : Array Value} {Z : State} (hw : ∀ d ∈ tables_1, d.before a0 Z = true) : (Jvm.Cond.methodLink "com/example/frame4/frame4/ChunkPoolGiveBackPinLaw" (17 : Nat) ({ cls := "com/example/frame4/frame4/ChunkPool", name := "giveBack", desc := "(Lcom/example/frame4/frame4/ChunkPool$Chunk;)V" } : Jvm.MethodName)).before a0 Z = true := hw _ (List.mem_of_getElem? (i := 34) rfl)
theorem wd35 {a0 : Array Value} {Z : State} (hw : ∀ d ∈ tables_1, d.before a0 Z = true) : (Jvm.Cond.declares ({ cls := "com/example/frame4/frame4/ChunkPool", name := "giveBack", desc := "(Lcom/example/frame4/frame4/ChunkPool$Chunk;)V" } : Jvm.MethodName)).before a0 Z = true := hw _ (List.mem_of_getElem? (i := 35) rfl)
theorem wd36 {a0 : Array Value} {Z : State} (hw : ∀ d ∈ tables_1, d.before a0 Z = true) : (Jvm.Cond.instanceMethod ({ cls := "com/example/frame4/frame4/ChunkPool", name := "giveBack", desc := "(Lcom/example/frame4/frame4/ChunkPool$Chunk;)V" } : Jvm.MethodName)).before a0 Z = true := hw _ (List.mem_of_getElem? (i := 36) rfl)
theorem wd37 {a0 : Array Value} {Z : State} (hw : ∀ d ∈ tables_1, d.before a0 Z = true) : (Jvm.Cond.selects "com/example/frame4/frame4/ChunkPool" ({ cls := "com/example/frame4/frame4/ChunkPool", name := "giveBack", desc := "(Lcom/example/frame4/frame4/ChunkPool$Chunk;)V" } : Jvm.MethodName) ({ cls := "com/example/frame4/frame4/ChunkPool", name := "giveBack", desc := "(Lcom/example/frame4/frame4/ChunkPool$Chunk;)V" } : Jvm.MethodName)).before a0 Z = true := hw _ (List.mem_of_getElem? (i := 37) rfl)
theorem wd38 {a0 : Array Value} {Z : State} (hw : ∀ d ∈ tables_1, d.before a0 Z = true) : (Jvm.Cond.code ({ cls := "com/example/frame4/frame4/ChunkPool", name := "giveBack", desc := "(Lcom/example/frame4/frame4/ChunkPool$Chunk;)V" } : Jvm.MethodName) prog_4_method_3_code (2 : Nat) (Option.none : Option Jvm.ClassFile.FieldType)).before a0 Z = true := hw _ (List.mem_of_getElem? (i := 38) rfl)
theorem wd39 {a0 : Array Value} {Z : State} (hw : ∀ d ∈ tables_1, d.before a0 Z = true) : (Jvm.Cond.fieldLink "com/example/frame4/frame4/ChunkPool" (19 : Nat) "com/example/frame4/frame4/ChunkPool" "idleCount" "I").before a0 Z = true := hw _ (List.mem_of_getElem? (i := 39) rfl)
theorem wd40 {a0 : Array Value} {Z : State} (hw : ∀ d ∈ tables_1, d.before a0 Z = true) : (Jvm.Cond.lays "com/example/frame4/frame4/ChunkPool" "com/example/frame4/frame4/ChunkPool" "idleCount" "I").before a0 Z = true := hw _ (List.mem_of_getElem? (i := 40) rfl)
theorem wd41 {a0 : Array Value} {Z : State} (hw : ∀ d ∈ tables_1, d.before a0 Z = true) : (Jvm.Cond.fieldLink "com/example/frame4/frame4/ChunkPool" (16 : Nat) "com/example/frame4/frame4/ChunkPool$Chunk" "next" "Lcom/example/frame4/frame4/ChunkPool$Chunk;").before a0 Z = true := hw _ (List.mem_of_getElem? (i := 41) rfl)
theorem pd0 : parseMethodDescriptor "()V" = some ⟨[], none⟩ := by decide +kernel
theorem pd1 : parseMethodDescriptor "()Lcom/example/frame4/frame4/ChunkPool$Chunk;" = some ⟨[], some (.object "com/example/frame4/frame4/ChunkPool$Chunk")⟩ := by decide +kernel
theorem pd2 : parseMethodDescriptor "(Lcom/example/frame4/frame4/ChunkPool$Chunk;IILcom/example/frame4/frame4/ChunkPool$Chunk;Lcom/example/frame4/frame4/ChunkPool$Chunk;Lcom/example/frame4/frame4/ChunkPool$Chunk;)Z" = some ⟨[(.object "com/example/frame4/frame4/ChunkPool$Chunk"), .int, .int, (.object "com/example/frame4/frame4/ChunkPool$Chunk"), (.object "com/example/frame4/frame4/ChunkPool$Chunk"), (.object "com/example/frame4/frame4/ChunkPool$Chunk")], some .boolean⟩ := by decide +kernel
theorem pd3 : parseMethodDescriptor "(Lcom/example/frame4/frame4/ChunkPool$Chunk;)V" = some ⟨[(.object "com/example/frame4/frame4/ChunkPool$Chunk")], none⟩ := by decide +kernel

theorem d1_0 : decode prog_4_method_1_code 0 = .ok (.aload_n 0, 1) := by decide +kernel
theorem d1_1 : decode prog_4_method_1_code 1 = .ok (.invokespecial 1, 3) := by decide +kernel
theorem d1_4 : decode prog_4_method_1_code 4 = .ok (.return_, 1) := by decide +kernel
theorem pn1 : plainName "com/example/frame4/frame4/ChunkPool" = true := by first | (simp [plainName, overriddenIn]; done) | decide +kernel
theorem ef_conPI (m : MethodId) (x0 : Addr) : entryFrame m #[(.ref x0)] 1 = mkF m 0 #[.val (.ref x0)] [] := by first | (simp [entryFrame, mkF, argsToLocals, Value.category]; done) | rfl
set_option maxRecDepth 65536 in
set_option maxHeartbeats 40000000 in
theorem conPI (l : Launch) (Z : State) (a0 : Array Value) (hw : ∀ d ∈ tables_1, d.before a0 Z = true) (n0 : Nat) (h : Heap) (hn0 : n0 ≤ h.size) (o1 : Addr) :
    Con l (⟨"com/example/frame4/frame4/ChunkPool", "<init>", "()V"⟩ : MethodName) prog_4_method_1_code 1 none ({ frames := 1, cells := 0, slots := 0, locals := 12 } : Room) 0 0 Z n0 #[(.ref o1)] h (fun v h' => v = none ∧ h = h') := by
  refine Con.body (own := "com/example/frame4/frame4/ChunkPool") (nm := "<init>") rfl rfl (plainFor_of_name pn1) hn0 ?_
  intro p e s m below meth c T0 X0
  rw [ef_conPI]
  refine F_aloadN X0 d1_0 rfl rfl (pc' := 1) rfl ?_
  refine F_objInit X0 (wd6 hw) (wd7 hw) (wd8 hw) (by decide) (W := 0) (Nat.le_of_ble_eq_true rfl) (by decide) rfl d1_1 (pc' := 4) rfl fun T1 X1 => ?_
  refine F_return X1 d1_4 rfl (by decide) (by decide) ?_
  exact ⟨rfl, rfl⟩
theorem d3_0 : decode prog_5_method_1_code 0 = .ok (.aload_n 0, 1) := by decide +kernel
theorem d3_1 : decode prog_5_method_1_code 1 = .ok (.invokespecial 3, 3) := by decide +kernel
theorem d3_4 : decode prog_5_method_1_code 4 = .ok (.aload_n 0, 1) := by decide +kernel
theorem d3_5 : decode prog_5_method_1_code 5 = .ok (.sipush 4096, 3) := by decide +kernel
theorem d3_8 : decode prog_5_method_1_code 8 = .ok (.newarray .byte, 2) := by decide +kernel
theorem d3_10 : decode prog_5_method_1_code 10 = .ok (.putfield 9, 3) := by decide +kernel
theorem d3_13 : decode prog_5_method_1_code 13 = .ok (.return_, 1) := by decide +kernel
theorem pn3 : plainName "com/example/frame4/frame4/ChunkPool$Chunk" = true := by first | (simp [plainName, overriddenIn]; done) | decide +kernel
theorem ef_conCI (m : MethodId) (x0 : Addr) : entryFrame m #[(.ref x0)] 1 = mkF m 0 #[.val (.ref x0)] [] := by first | (simp [entryFrame, mkF, argsToLocals, Value.category]; done) | rfl
set_option maxRecDepth 65536 in
set_option maxHeartbeats 40000000 in
theorem conCI (l : Launch) (Z : State) (a0 : Array Value) (hw : ∀ d ∈ tables_1, d.before a0 Z = true) (n0 : Nat) (h : Heap) (hn0 : n0 ≤ h.size) (o1 : Addr) (E_o1 : Exa Z h o1 "com/example/frame4/frame4/ChunkPool$Chunk") (F_bytes_o1 : Fld Z h o1 "com/example/frame4/frame4/ChunkPool$Chunk" "bytes" "[B" .null) (F_next_o1 : Fld Z h o1 "com/example/frame4/frame4/ChunkPool$Chunk" "next" "Lcom/example/frame4/frame4/ChunkPool$Chunk;" .null) (ge_o1 : n0 ≤ o1) :
    Con l (⟨"com/example/frame4/frame4/ChunkPool$Chunk", "<init>", "()V"⟩ : MethodName) prog_5_method_1_code 1 none ({ frames := 1, cells := 1, slots := 4096, locals := 12 } : Room) 1 4096 Z n0 #[(.ref o1)] h (fun v h' => v = none ∧ Keep h h' [o1] ∧ Fld Z h' o1 "com/example/frame4/frame4/ChunkPool$Chunk" "next" "Lcom/example/frame4/frame4/ChunkPool$Chunk;" .null) := by
  refine Con.body (own := "com/example/frame4/frame4/ChunkPool$Chunk") (nm := "<init>") rfl rfl (plainFor_of_name pn3) hn0 ?_
  intro p e s m below meth c T0 X0
  rw [ef_conCI]
  refine F_aloadN X0 d3_0 rfl rfl (pc' := 1) rfl ?_
  refine F_objInit X0 (wd15 hw) (wd7 hw) (wd8 hw) (by decide) (W := 0) (Nat.le_of_ble_eq_true rfl) (by decide) rfl d3_1 (pc' := 4) rfl fun T1 X1 => ?_
  refine F_aloadN X1 d3_4 rfl rfl (pc' := 5) rfl ?_
  refine F_sipush X1 d3_5 (z := (4096 : Int32)) (by decide) (pc' := 8) rfl ?_
  refine F_newarray X1 (aty := .byte) (wd16 hw) (by decide) (cap := 4096) (by decide) (by decide) (by decide) (by decide) (ad := "[B") rfl d3_8 (pc' := 10) rfl fun T2 h2 b2 X2 Ex2 g2 ge2 E_b2 A2 => ?_
  replace A2 : AV Z h2 b2 .byte (List.replicate 4096 (.int (0 : Int32))) := A2
  have ne_o1_b2 : o1 ≠ b2 := Nat.ne_of_lt (Nat.lt_of_lt_of_le E_o1.lt (Nat.le_of_eq g2.symm))
  have E2_o1 := E_o1.ext Ex2
  have F2_bytes_o1 := F_bytes_o1.ext Ex2
  have F2_next_o1 := F_next_o1.ext Ex2
  have sz_b2 : h.size ≤ b2 := Nat.le_trans (Keep.refl h [o1]).1 (Nat.le_of_eq g2.symm)
  have K3 := (Keep.refl h [o1]).ext Ex2
  replace X2 := X2.more (cells' := 1) (slots' := 4096) (by decide) (by decide)
  refine F_putfield X2 (wd17 hw) F2_bytes_o1 E2_o1 (Or.inr ⟨(wd18 hw), rfl, rfl⟩) (wd10 hw) (ty := (.array .byte)) (by decide) rfl rfl ge_o1 d3_10 (pc' := 13) rfl fun T4 h4 X4 W4 => ?_
  have F4_bytes_o1 := F2_bytes_o1.same W4
  have E4_o1 := E2_o1.wr W4
  have E4_b2 := E_b2.wr W4
  have F4_next_o1 := F2_next_o1.other W4 (Or.inr (slot_ne (Or.inl (wd33 hw)) (Or.inr (wd18 hw)) (by decide) (t := (.object "com/example/frame4/frame4/ChunkPool$Chunk")) (t' := (.array .byte)) (by decide) (by decide)))
  have A4_b2 := A2.other W4 (Ne.symm ne_o1_b2)
  have K5 := K3.wr W4 (Or.inl (List.mem_of_getElem? (i := 0) rfl))
  refine F_return X4 d3_13 rfl (by decide) (by decide) ?_
  exact ⟨rfl, K5, F4_next_o1⟩
theorem d6_0 : decode prog_4_method_3_code 0 = .ok (.aload_n 0, 1) := by decide +kernel
theorem d6_1 : decode prog_4_method_3_code 1 = .ok (.getfield 19, 3) := by decide +kernel
theorem d6_4 : decode prog_4_method_3_code 4 = .ok (.sipush 1024, 3) := by decide +kernel
theorem d6_7 : decode prog_4_method_3_code 7 = .ok (.if_icmp .ge 26, 3) := by decide +kernel
theorem d6_10 : decode prog_4_method_3_code 10 = .ok (.aload_n 1, 1) := by decide +kernel
theorem d6_11 : decode prog_4_method_3_code 11 = .ok (.aload_n 0, 1) := by decide +kernel
theorem d6_12 : decode prog_4_method_3_code 12 = .ok (.getfield 7, 3) := by decide +kernel
theorem d6_15 : decode prog_4_method_3_code 15 = .ok (.putfield 16, 3) := by decide +kernel
theorem d6_18 : decode prog_4_method_3_code 18 = .ok (.aload_n 0, 1) := by decide +kernel
theorem d6_19 : decode prog_4_method_3_code 19 = .ok (.aload_n 1, 1) := by decide +kernel
theorem d6_20 : decode prog_4_method_3_code 20 = .ok (.putfield 7, 3) := by decide +kernel
theorem d6_23 : decode prog_4_method_3_code 23 = .ok (.aload_n 0, 1) := by decide +kernel
theorem d6_24 : decode prog_4_method_3_code 24 = .ok (.dup, 1) := by decide +kernel
theorem d6_25 : decode prog_4_method_3_code 25 = .ok (.getfield 19, 3) := by decide +kernel
theorem d6_28 : decode prog_4_method_3_code 28 = .ok (.iconst 1, 1) := by decide +kernel
theorem d6_29 : decode prog_4_method_3_code 29 = .ok (.iadd, 1) := by decide +kernel
theorem d6_30 : decode prog_4_method_3_code 30 = .ok (.putfield 19, 3) := by decide +kernel
theorem d6_33 : decode prog_4_method_3_code 33 = .ok (.return_, 1) := by decide +kernel
theorem pn6 : plainName "com/example/frame4/frame4/ChunkPool" = true := by first | (simp [plainName, overriddenIn]; done) | decide +kernel
theorem ef_conG0 (m : MethodId) (x0 : Addr) (x1 : Addr) : entryFrame m #[(.ref x0), (.ref x1)] 2 = mkF m 0 #[.val (.ref x0), .val (.ref x1)] [] := by first | (simp [entryFrame, mkF, argsToLocals, Value.category]; done) | rfl
set_option maxRecDepth 65536 in
set_option maxHeartbeats 40000000 in
theorem conG0 (l : Launch) (Z : State) (a0 : Array Value) (hw : ∀ d ∈ tables_1, d.before a0 Z = true) (n0 : Nat) (h : Heap) (hn0 : n0 ≤ h.size) (o1 : Addr) (o2 : Addr) (vn : Value) (E_o1 : Exa Z h o1 "com/example/frame4/frame4/ChunkPool") (E_o2 : Exa Z h o2 "com/example/frame4/frame4/ChunkPool$Chunk") (F_idle_o1 : Fld Z h o1 "com/example/frame4/frame4/ChunkPool" "idle" "Lcom/example/frame4/frame4/ChunkPool$Chunk;" .null) (F_idleCount_o1 : Fld Z h o1 "com/example/frame4/frame4/ChunkPool" "idleCount" "I" (.int (0 : Int32))) (F_next_o2 : Fld Z h o2 "com/example/frame4/frame4/ChunkPool$Chunk" "next" "Lcom/example/frame4/frame4/ChunkPool$Chunk;" vn) (ge_o1 : n0 ≤ o1) (ge_o2 : n0 ≤ o2) (ne_o1_o2 : o1 ≠ o2) :
    Con l (⟨"com/example/frame4/frame4/ChunkPool", "giveBack", "(Lcom/example/frame4/frame4/ChunkPool$Chunk;)V"⟩ : MethodName) prog_4_method_3_code 2 none ({ frames := 0, cells := 0, slots := 0, locals := 0 } : Room) 0 0 Z n0 #[(.ref o1), (.ref o2)] h (fun v h' => v = none ∧ Keep h h' [o1, o2] ∧ Fld Z h' o1 "com/example/frame4/frame4/ChunkPool" "idle" "Lcom/example/frame4/frame4/ChunkPool$Chunk;" (.ref o2) ∧ Fld Z h' o1 "com/example/frame4/frame4/ChunkPool" "idleCount" "I" (.int (1 : Int32)) ∧ Fld Z h' o2 "com/example/frame4/frame4/ChunkPool$Chunk" "next" "Lcom/example/frame4/frame4/ChunkPool$Chunk;" .null) := by
  refine Con.body (own := "com/example/frame4/frame4/ChunkPool") (nm := "giveBack") rfl rfl (plainFor_of_name pn6) hn0 ?_
  intro p e s m below meth c T0 X0
  rw [ef_conG0]
  refine F_aloadN X0 d6_0 rfl rfl (pc' := 1) rfl ?_
  refine F_getfield X0 (wd39 hw) F_idleCount_o1 d6_1 (pc' := 4) rfl fun T1 X1 => ?_
  refine F_sipush X1 d6_4 (z := (1024 : Int32)) (by decide) (pc' := 7) rfl ?_
  refine F_icmp_ge X1 d6_7 (by decide) (pt := 33) (by decide) (pc' := 10) rfl (fun q => absurd q (by decide)) (fun _ => ?_)
  refine F_aloadN X1 d6_10 rfl rfl (pc' := 11) rfl ?_
  refine F_aloadN X1 d6_11 rfl rfl (pc' := 12) rfl ?_
  refine F_getfield X1 (wd24 hw) F_idle_o1 d6_12 (pc' := 15) rfl fun T2 X2 => ?_
  refine F_putfield X2 (wd41 hw) F_next_o2 E_o2 (Or.inl (wd33 hw)) (wd10 hw) (ty := (.object "com/example/frame4/frame4/ChunkPool$Chunk")) (by decide) rfl rfl ge_o2 d6_15 (pc' := 18) rfl fun T3 h3 X3 W3 => ?_
  have F3_next_o2 := F_next_o2.same W3
  have E3_o1 := E_o1.wr W3
  have E3_o2 := E_o2.wr W3
  have F3_idle_o1 := F_idle_o1.other W3 (Or.inl ne_o1_o2)
  have F3_idleCount_o1 := F_idleCount_o1.other W3 (Or.inl ne_o1_o2)
  have K4 := (Keep.refl h [o1, o2]).wr W3 (Or.inl (List.mem_of_getElem? (i := 1) rfl))
  refine F_aloadN X3 d6_18 rfl rfl (pc' := 19) rfl ?_
  refine F_aloadN X3 d6_19 rfl rfl (pc' := 20) rfl ?_
  refine F_putfield X3 (wd24 hw) F3_idle_o1 E3_o1 (Or.inl (wd25 hw)) (wd1 hw) (ty := (.object "com/example/frame4/frame4/ChunkPool$Chunk")) (by decide) rfl rfl ge_o1 d6_20 (pc' := 23) rfl fun T5 h5 X5 W5 => ?_
  have F5_idle_o1 := F3_idle_o1.same W5
  have E5_o1 := E3_o1.wr W5
  have E5_o2 := E3_o2.wr W5
  have F5_idleCount_o1 := F3_idleCount_o1.other W5 (Or.inr (slot_ne (Or.inl (wd40 hw)) (Or.inl (wd25 hw)) (by decide) (t := .int) (t' := (.object "com/example/frame4/frame4/ChunkPool$Chunk")) (by decide) (by decide)))
  have F5_next_o2 := F3_next_o2.other W5 (Or.inl (Ne.symm ne_o1_o2))
  have K6 := K4.wr W5 (Or.inl (List.mem_of_getElem? (i := 0) rfl))
  refine F_aloadN X5 d6_23 rfl rfl (pc' := 24) rfl ?_
  refine F_dup X5 d6_24 rfl (pc' := 25) rfl ?_
  refine F_getfield X5 (wd39 hw) F5_idleCount_o1 d6_25 (pc' := 28) rfl fun T7 X7 => ?_
  refine F_iconst X7 d6_28 (z := (1 : Int32)) (by decide) (pc' := 29) rfl ?_
  refine F_iadd X7 d6_29 (z := (1 : Int32)) (by decide) (pc' := 30) rfl ?_
  refine F_putfield X7 (wd39 hw) F5_idleCount_o1 E5_o1 (Or.inl (wd40 hw)) (wd1 hw) (ty := .int) (by decide) rfl rfl ge_o1 d6_30 (pc' := 33) rfl fun T8 h8 X8 W8 => ?_
  have F8_idleCount_o1 := F5_idleCount_o1.same W8
  have E8_o1 := E5_o1.wr W8
  have E8_o2 := E5_o2.wr W8
  have F8_idle_o1 := F5_idle_o1.other W8 (Or.inr (slot_ne (Or.inl (wd25 hw)) (Or.inl (wd40 hw)) (by decide) (t := (.object "com/example/frame4/frame4/ChunkPool$Chunk")) (t' := .int) (by decide) (by decide)))
  have F8_next_o2 := F5_next_o2.other W8 (Or.inl (Ne.symm ne_o1_o2))
  have K9 := K6.wr W8 (Or.inl (List.mem_of_getElem? (i := 0) rfl))
  refine F_return X8 d6_33 rfl (by decide) (by decide) ?_
  exact ⟨rfl, K9, F8_idle_o1, F8_idleCount_o1, F8_next_o2⟩
theorem ef_conG1 (m : MethodId) (x0 : Addr) (x1 : Addr) : entryFrame m #[(.ref x0), (.ref x1)] 2 = mkF m 0 #[.val (.ref x0), .val (.ref x1)] [] := by first | (simp [entryFrame, mkF, argsToLocals, Value.category]; done) | rfl
set_option maxRecDepth 65536 in
set_option maxHeartbeats 40000000 in
theorem conG1 (l : Launch) (Z : State) (a0 : Array Value) (hw : ∀ d ∈ tables_1, d.before a0 Z = true) (n0 : Nat) (h : Heap) (hn0 : n0 ≤ h.size) (o1 : Addr) (o2 : Addr) (o3 : Addr) (vn : Value) (E_o1 : Exa Z h o1 "com/example/frame4/frame4/ChunkPool") (E_o2 : Exa Z h o2 "com/example/frame4/frame4/ChunkPool$Chunk") (F_idle_o1 : Fld Z h o1 "com/example/frame4/frame4/ChunkPool" "idle" "Lcom/example/frame4/frame4/ChunkPool$Chunk;" (.ref o3)) (F_idleCount_o1 : Fld Z h o1 "com/example/frame4/frame4/ChunkPool" "idleCount" "I" (.int (1 : Int32))) (F_next_o2 : Fld Z h o2 "com/example/frame4/frame4/ChunkPool$Chunk" "next" "Lcom/example/frame4/frame4/ChunkPool$Chunk;" vn) (ge_o1 : n0 ≤ o1) (ge_o2 : n0 ≤ o2) (ne_o1_o2 : o1 ≠ o2) :
    Con l (⟨"com/example/frame4/frame4/ChunkPool", "giveBack", "(Lcom/example/frame4/frame4/ChunkPool$Chunk;)V"⟩ : MethodName) prog_4_method_3_code 2 none ({ frames := 0, cells := 0, slots := 0, locals := 0 } : Room) 0 0 Z n0 #[(.ref o1), (.ref o2)] h (fun v h' => v = none ∧ Keep h h' [o1, o2] ∧ Fld Z h' o1 "com/example/frame4/frame4/ChunkPool" "idle" "Lcom/example/frame4/frame4/ChunkPool$Chunk;" (.ref o2) ∧ Fld Z h' o1 "com/example/frame4/frame4/ChunkPool" "idleCount" "I" (.int (2 : Int32)) ∧ Fld Z h' o2 "com/example/frame4/frame4/ChunkPool$Chunk" "next" "Lcom/example/frame4/frame4/ChunkPool$Chunk;" (.ref o3)) := by
  refine Con.body (own := "com/example/frame4/frame4/ChunkPool") (nm := "giveBack") rfl rfl (plainFor_of_name pn6) hn0 ?_
  intro p e s m below meth c T0 X0
  rw [ef_conG1]
  refine F_aloadN X0 d6_0 rfl rfl (pc' := 1) rfl ?_
  refine F_getfield X0 (wd39 hw) F_idleCount_o1 d6_1 (pc' := 4) rfl fun T1 X1 => ?_
  refine F_sipush X1 d6_4 (z := (1024 : Int32)) (by decide) (pc' := 7) rfl ?_
  refine F_icmp_ge X1 d6_7 (by decide) (pt := 33) (by decide) (pc' := 10) rfl (fun q => absurd q (by decide)) (fun _ => ?_)
  refine F_aloadN X1 d6_10 rfl rfl (pc' := 11) rfl ?_
  refine F_aloadN X1 d6_11 rfl rfl (pc' := 12) rfl ?_
  refine F_getfield X1 (wd24 hw) F_idle_o1 d6_12 (pc' := 15) rfl fun T2 X2 => ?_
  refine F_putfield X2 (wd41 hw) F_next_o2 E_o2 (Or.inl (wd33 hw)) (wd10 hw) (ty := (.object "com/example/frame4/frame4/ChunkPool$Chunk")) (by decide) rfl rfl ge_o2 d6_15 (pc' := 18) rfl fun T3 h3 X3 W3 => ?_
  have F3_next_o2 := F_next_o2.same W3
  have E3_o1 := E_o1.wr W3
  have E3_o2 := E_o2.wr W3
  have F3_idle_o1 := F_idle_o1.other W3 (Or.inl ne_o1_o2)
  have F3_idleCount_o1 := F_idleCount_o1.other W3 (Or.inl ne_o1_o2)
  have K4 := (Keep.refl h [o1, o2]).wr W3 (Or.inl (List.mem_of_getElem? (i := 1) rfl))
  refine F_aloadN X3 d6_18 rfl rfl (pc' := 19) rfl ?_
  refine F_aloadN X3 d6_19 rfl rfl (pc' := 20) rfl ?_
  refine F_putfield X3 (wd24 hw) F3_idle_o1 E3_o1 (Or.inl (wd25 hw)) (wd1 hw) (ty := (.object "com/example/frame4/frame4/ChunkPool$Chunk")) (by decide) rfl rfl ge_o1 d6_20 (pc' := 23) rfl fun T5 h5 X5 W5 => ?_
  have F5_idle_o1 := F3_idle_o1.same W5
  have E5_o1 := E3_o1.wr W5
  have E5_o2 := E3_o2.wr W5
  have F5_idleCount_o1 := F3_idleCount_o1.other W5 (Or.inr (slot_ne (Or.inl (wd40 hw)) (Or.inl (wd25 hw)) (by decide) (t := .int) (t' := (.object "com/example/frame4/frame4/ChunkPool$Chunk")) (by decide) (by decide)))
  have F5_next_o2 := F3_next_o2.other W5 (Or.inl (Ne.symm ne_o1_o2))
  have K6 := K4.wr W5 (Or.inl (List.mem_of_getElem? (i := 0) rfl))
  refine F_aloadN X5 d6_23 rfl rfl (pc' := 24) rfl ?_
  refine F_dup X5 d6_24 rfl (pc' := 25) rfl ?_
  refine F_getfield X5 (wd39 hw) F5_idleCount_o1 d6_25 (pc' := 28) rfl fun T7 X7 => ?_
  refine F_iconst X7 d6_28 (z := (1 : Int32)) (by decide) (pc' := 29) rfl ?_
  refine F_iadd X7 d6_29 (z := (2 : Int32)) (by decide) (pc' := 30) rfl ?_
  refine F_putfield X7 (wd39 hw) F5_idleCount_o1 E5_o1 (Or.inl (wd40 hw)) (wd1 hw) (ty := .int) (by decide) rfl rfl ge_o1 d6_30 (pc' := 33) rfl fun T8 h8 X8 W8 => ?_
  have F8_idleCount_o1 := F5_idleCount_o1.same W8
  have E8_o1 := E5_o1.wr W8
  have E8_o2 := E5_o2.wr W8
  have F8_idle_o1 := F5_idle_o1.other W8 (Or.inr (slot_ne (Or.inl (wd25 hw)) (Or.inl (wd40 hw)) (by decide) (t := (.object "com/example/frame4/frame4/ChunkPool$Chunk")) (t' := .int) (by decide) (by decide)))
  have F8_next_o2 := F5_next_o2.other W8 (Or.inl (Ne.symm ne_o1_o2))
  have K9 := K6.wr W8 (Or.inl (List.mem_of_getElem? (i := 0) rfl))
  refine F_return X8 d6_33 rfl (by decide) (by decide) ?_
  exact ⟨rfl, K9, F8_idle_o1, F8_idleCount_o1, F8_next_o2⟩
theorem ef_conG2 (m : MethodId) (x0 : Addr) (x1 : Addr) : entryFrame m #[(.ref x0), (.ref x1)] 2 = mkF m 0 #[.val (.ref x0), .val (.ref x1)] [] := by first | (simp [entryFrame, mkF, argsToLocals, Value.category]; done) | rfl
set_option maxRecDepth 65536 in
set_option maxHeartbeats 40000000 in
theorem conG2 (l : Launch) (Z : State) (a0 : Array Value) (hw : ∀ d ∈ tables_1, d.before a0 Z = true) (n0 : Nat) (h : Heap) (hn0 : n0 ≤ h.size) (o1 : Addr) (o2 : Addr) (o3 : Addr) (vn : Value) (E_o1 : Exa Z h o1 "com/example/frame4/frame4/ChunkPool") (E_o2 : Exa Z h o2 "com/example/frame4/frame4/ChunkPool$Chunk") (F_idle_o1 : Fld Z h o1 "com/example/frame4/frame4/ChunkPool" "idle" "Lcom/example/frame4/frame4/ChunkPool$Chunk;" (.ref o3)) (F_idleCount_o1 : Fld Z h o1 "com/example/frame4/frame4/ChunkPool" "idleCount" "I" (.int (2 : Int32))) (F_next_o2 : Fld Z h o2 "com/example/frame4/frame4/ChunkPool$Chunk" "next" "Lcom/example/frame4/frame4/ChunkPool$Chunk;" vn) (ge_o1 : n0 ≤ o1) (ge_o2 : n0 ≤ o2) (ne_o1_o2 : o1 ≠ o2) :
    Con l (⟨"com/example/frame4/frame4/ChunkPool", "giveBack", "(Lcom/example/frame4/frame4/ChunkPool$Chunk;)V"⟩ : MethodName) prog_4_method_3_code 2 none ({ frames := 0, cells := 0, slots := 0, locals := 0 } : Room) 0 0 Z n0 #[(.ref o1), (.ref o2)] h (fun v h' => v = none ∧ Keep h h' [o1, o2] ∧ Fld Z h' o1 "com/example/frame4/frame4/ChunkPool" "idle" "Lcom/example/frame4/frame4/ChunkPool$Chunk;" (.ref o2) ∧ Fld Z h' o1 "com/example/frame4/frame4/ChunkPool" "idleCount" "I" (.int (3 : Int32)) ∧ Fld Z h' o2 "com/example/frame4/frame4/ChunkPool$Chunk" "next" "Lcom/example/frame4/frame4/ChunkPool$Chunk;" (.ref o3)) := by
  refine Con.body (own := "com/example/frame4/frame4/ChunkPool") (nm := "giveBack") rfl rfl (plainFor_of_name pn6) hn0 ?_
  intro p e s m below meth c T0 X0
  rw [ef_conG2]
  refine F_aloadN X0 d6_0 rfl rfl (pc' := 1) rfl ?_
  refine F_getfield X0 (wd39 hw) F_idleCount_o1 d6_1 (pc' := 4) rfl fun T1 X1 => ?_
  refine F_sipush X1 d6_4 (z := (1024 : Int32)) (by decide) (pc' := 7) rfl ?_
  refine F_icmp_ge X1 d6_7 (by decide) (pt := 33) (by decide) (pc' := 10) rfl (fun q => absurd q (by decide)) (fun _ => ?_)
  refine F_aloadN X1 d6_10 rfl rfl (pc' := 11) rfl ?_
  refine F_aloadN X1 d6_11 rfl rfl (pc' := 12) rfl ?_
  refine F_getfield X1 (wd24 hw) F_idle_o1 d6_12 (pc' := 15) rfl fun T2 X2 => ?_
  refine F_putfield X2 (wd41 hw) F_next_o2 E_o2 (Or.inl (wd33 hw)) (wd10 hw) (ty := (.object "com/example/frame4/frame4/ChunkPool$Chunk")) (by decide) rfl rfl ge_o2 d6_15 (pc' := 18) rfl fun T3 h3 X3 W3 => ?_
  have F3_next_o2 := F_next_o2.same W3
  have E3_o1 := E_o1.wr W3
  have E3_o2 := E_o2.wr W3
  have F3_idle_o1 := F_idle_o1.other W3 (Or.inl ne_o1_o2)
  have F3_idleCount_o1 := F_idleCount_o1.other W3 (Or.inl ne_o1_o2)
  have K4 := (Keep.refl h [o1, o2]).wr W3 (Or.inl (List.mem_of_getElem? (i := 1) rfl))
  refine F_aloadN X3 d6_18 rfl rfl (pc' := 19) rfl ?_
  refine F_aloadN X3 d6_19 rfl rfl (pc' := 20) rfl ?_
  refine F_putfield X3 (wd24 hw) F3_idle_o1 E3_o1 (Or.inl (wd25 hw)) (wd1 hw) (ty := (.object "com/example/frame4/frame4/ChunkPool$Chunk")) (by decide) rfl rfl ge_o1 d6_20 (pc' := 23) rfl fun T5 h5 X5 W5 => ?_
  have F5_idle_o1 := F3_idle_o1.same W5
  have E5_o1 := E3_o1.wr W5
  have E5_o2 := E3_o2.wr W5
  have F5_idleCount_o1 := F3_idleCount_o1.other W5 (Or.inr (slot_ne (Or.inl (wd40 hw)) (Or.inl (wd25 hw)) (by decide) (t := .int) (t' := (.object "com/example/frame4/frame4/ChunkPool$Chunk")) (by decide) (by decide)))
  have F5_next_o2 := F3_next_o2.other W5 (Or.inl (Ne.symm ne_o1_o2))
  have K6 := K4.wr W5 (Or.inl (List.mem_of_getElem? (i := 0) rfl))
  refine F_aloadN X5 d6_23 rfl rfl (pc' := 24) rfl ?_
  refine F_dup X5 d6_24 rfl (pc' := 25) rfl ?_
  refine F_getfield X5 (wd39 hw) F5_idleCount_o1 d6_25 (pc' := 28) rfl fun T7 X7 => ?_
  refine F_iconst X7 d6_28 (z := (1 : Int32)) (by decide) (pc' := 29) rfl ?_
  refine F_iadd X7 d6_29 (z := (3 : Int32)) (by decide) (pc' := 30) rfl ?_
  refine F_putfield X7 (wd39 hw) F5_idleCount_o1 E5_o1 (Or.inl (wd40 hw)) (wd1 hw) (ty := .int) (by decide) rfl rfl ge_o1 d6_30 (pc' := 33) rfl fun T8 h8 X8 W8 => ?_
  have F8_idleCount_o1 := F5_idleCount_o1.same W8
  have E8_o1 := E5_o1.wr W8
  have E8_o2 := E5_o2.wr W8
  have F8_idle_o1 := F5_idle_o1.other W8 (Or.inr (slot_ne (Or.inl (wd25 hw)) (Or.inl (wd40 hw)) (by decide) (t := (.object "com/example/frame4/frame4/ChunkPool$Chunk")) (t' := .int) (by decide) (by decide)))
  have F8_next_o2 := F5_next_o2.other W8 (Or.inl (Ne.symm ne_o1_o2))
  have K9 := K6.wr W8 (Or.inl (List.mem_of_getElem? (i := 0) rfl))
  refine F_return X8 d6_33 rfl (by decide) (by decide) ?_
  exact ⟨rfl, K9, F8_idle_o1, F8_idleCount_o1, F8_next_o2⟩
theorem d4_0 : decode prog_4_method_2_code 0 = .ok (.aload_n 0, 1) := by decide +kernel
theorem d4_1 : decode prog_4_method_2_code 1 = .ok (.getfield 7, 3) := by decide +kernel
theorem d4_4 : decode prog_4_method_2_code 4 = .ok (.astore_n 1, 1) := by decide +kernel
theorem d4_5 : decode prog_4_method_2_code 5 = .ok (.aload_n 1, 1) := by decide +kernel
theorem d4_6 : decode prog_4_method_2_code 6 = .ok (.ifnonnull 14, 3) := by decide +kernel
theorem d4_9 : decode prog_4_method_2_code 9 = .ok (.new 13, 3) := by decide +kernel
theorem d4_12 : decode prog_4_method_2_code 12 = .ok (.dup, 1) := by decide +kernel
theorem d4_13 : decode prog_4_method_2_code 13 = .ok (.invokespecial 15, 3) := by decide +kernel
theorem d4_16 : decode prog_4_method_2_code 16 = .ok (.astore_n 1, 1) := by decide +kernel
theorem d4_17 : decode prog_4_method_2_code 17 = .ok (.goto 26, 3) := by decide +kernel
theorem d4_43 : decode prog_4_method_2_code 43 = .ok (.aload_n 1, 1) := by decide +kernel
theorem d4_44 : decode prog_4_method_2_code 44 = .ok (.areturn, 1) := by decide +kernel
theorem pn4 : plainName "com/example/frame4/frame4/ChunkPool" = true := by first | (simp [plainName, overriddenIn]; done) | decide +kernel
theorem ef_conT0 (m : MethodId) (x0 : Addr) : entryFrame m #[(.ref x0)] 2 = mkF m 0 #[.val (.ref x0), .unset] [] := by first | (simp [entryFrame, mkF, argsToLocals, Value.category]; done) | rfl
set_option maxRecDepth 65536 in
set_option maxHeartbeats 40000000 in
theorem conT0 (l : Launch) (Z : State) (a0 : Array Value) (hw : ∀ d ∈ tables_1, d.before a0 Z = true) (n0 : Nat) (h : Heap) (hn0 : n0 ≤ h.size) (o1 : Addr) (F_idle_o1 : Fld Z h o1 "com/example/frame4/frame4/ChunkPool" "idle" "Lcom/example/frame4/frame4/ChunkPool$Chunk;" .null) :
    Con l (⟨"com/example/frame4/frame4/ChunkPool", "take", "()Lcom/example/frame4/frame4/ChunkPool$Chunk;"⟩ : MethodName) prog_4_method_2_code 2 (some (.object "com/example/frame4/frame4/ChunkPool$Chunk")) ({ frames := 2, cells := 2, slots := 4098, locals := 26 } : Room) 2 4098 Z n0 #[(.ref o1)] h (fun v h' => ∃ fb : Addr, v = some (.ref fb) ∧ h.size ≤ fb ∧ Keep h h' [] ∧ Exa Z h' fb "com/example/frame4/frame4/ChunkPool$Chunk" ∧ Fld Z h' fb "com/example/frame4/frame4/ChunkPool$Chunk" "next" "Lcom/example/frame4/frame4/ChunkPool$Chunk;" .null) := by
  refine Con.body (own := "com/example/frame4/frame4/ChunkPool") (nm := "take") rfl rfl (plainFor_of_name pn4) hn0 ?_
  intro p e s m below meth c T0 X0
  rw [ef_conT0]
  refine F_aloadN X0 d4_0 rfl rfl (pc' := 1) rfl ?_
  refine F_getfield X0 (wd24 hw) F_idle_o1 d4_1 (pc' := 4) rfl fun T1 X1 => ?_
  refine F_astoreN X1 d4_4 rfl (Ls' := #[.val (.ref o1), .val .null]) rfl (pc' := 5) rfl ?_
  refine F_aloadN X1 d4_5 rfl rfl (pc' := 6) rfl ?_
  refine F_ifnonnull_null X1 d4_6 (pc' := 9) rfl ?_
  refine F_new X1 (wd26 hw) (wd10 hw) (wd11 hw) (by decide) (by decide) d4_9 (pc' := 12) rfl fun T2 h2 b2 X2 Ex2 g2 ge2 E_b2 D2 => ?_
  have ne_o1_b2 : o1 ≠ b2 := Nat.ne_of_lt (Nat.lt_of_lt_of_le F_idle_o1.lt (Nat.le_of_eq g2.symm))
  have F2_idle_o1 := F_idle_o1.ext Ex2
  have sz_b2 : h.size ≤ b2 := Nat.le_trans (Keep.refl h []).1 (Nat.le_of_eq g2.symm)
  have K3 := (Keep.refl h []).ext Ex2
  have F2_bytes_b2 : Fld Z h2 b2 "com/example/frame4/frame4/ChunkPool$Chunk" "bytes" "[B" .null := D2 (Or.inr (wd18 hw)) (ty := (.array .byte)) (by decide)
  have F2_next_b2 : Fld Z h2 b2 "com/example/frame4/frame4/ChunkPool$Chunk" "next" "Lcom/example/frame4/frame4/ChunkPool$Chunk;" .null := D2 (Or.inl (wd33 hw)) (ty := (.object "com/example/frame4/frame4/ChunkPool$Chunk")) (by decide)
  replace X2 := X2.more (cells' := 1) (slots' := 2) (by decide) (by decide)
  refine F_dup X2 d4_12 rfl (pc' := 13) rfl ?_
  refine F_init X2 (y := (⟨"com/example/frame4/frame4/ChunkPool$Chunk", "<init>", "()V"⟩ : MethodName)) (stk := [(.ref b2)]) rfl (wd27 hw) (wd13 hw) (wd11 hw) (wd14 hw) (by decide) (a := b2) (argsL := []) (conCI l Z a0 hw n0 h2 X2.size b2 E_b2 F2_bytes_b2 F2_next_b2 ge2) (by decide) (W := 1) (Nat.le_of_ble_eq_true rfl) (by decide) (by decide) (by decide) rfl (lenOf pd0 rfl) rfl d4_13 (pc' := 16) rfl fun T4 v4 h4 X4 q4 => ?_
  obtain ⟨rfl, Kp4, F4_next_b2⟩ := q4
  have E4k_b2 := E_b2.keep Kp4
  have F4k_idle_o1 := F2_idle_o1.keep Kp4 (ninS ne_o1_b2 nin0)
  have K5 := K3.trans Kp4 ((allS (Or.inr sz_b2) all0))
  replace X4 := X4.more (cells' := 2) (slots' := 4098) (by decide) (by decide)
  show Jvm.OwnKit.Ends p e below s n0 2 4098 _ T4 (mkF m 16 #[.val (.ref o1), .val .null] [(.ref b2)])
  refine F_astoreN X4 d4_16 rfl (Ls' := #[.val (.ref o1), .val (.ref b2)]) rfl (pc' := 17) rfl ?_
  refine F_goto X4 d4_17 (by decide) (pc' := 43) (by decide) ?_
  refine F_aloadN X4 d4_43 rfl rfl (pc' := 44) rfl ?_
  refine F_areturn X4 (t := (.object "com/example/frame4/frame4/ChunkPool$Chunk")) rfl rfl rfl d4_44 rfl (by decide) (by decide) ?_
  exact ⟨_, rfl, sz_b2, K5, E4k_b2, F4_next_b2⟩
theorem d4_20 : decode prog_4_method_2_code 20 = .ok (.aload_n 0, 1) := by decide +kernel
theorem d4_21 : decode prog_4_method_2_code 21 = .ok (.aload_n 1, 1) := by decide +kernel
theorem d4_22 : decode prog_4_method_2_code 22 = .ok (.getfield 16, 3) := by decide +kernel
theorem d4_25 : decode prog_4_method_2_code 25 = .ok (.putfield 7, 3) := by decide +kernel
theorem d4_28 : decode prog_4_method_2_code 28 = .ok (.aload_n 0, 1) := by decide +kernel
theorem d4_29 : decode prog_4_method_2_code 29 = .ok (.dup, 1) := by decide +kernel
theorem d4_30 : decode prog_4_method_2_code 30 = .ok (.getfield 19, 3) := by decide +kernel
theorem d4_33 : decode prog_4_method_2_code 33 = .ok (.iconst 1, 1) := by decide +kernel
theorem d4_34 : decode prog_4_method_2_code 34 = .ok (.isub, 1) := by decide +kernel
theorem d4_35 : decode prog_4_method_2_code 35 = .ok (.putfield 19, 3) := by decide +kernel
theorem d4_38 : decode prog_4_method_2_code 38 = .ok (.aload_n 1, 1) := by decide +kernel
theorem d4_39 : decode prog_4_method_2_code 39 = .ok (.aconst_null, 1) := by decide +kernel
theorem d4_40 : decode prog_4_method_2_code 40 = .ok (.putfield 16, 3) := by decide +kernel
theorem ef_conT1 (m : MethodId) (x0 : Addr) : entryFrame m #[(.ref x0)] 2 = mkF m 0 #[.val (.ref x0), .unset] [] := by first | (simp [entryFrame, mkF, argsToLocals, Value.category]; done) | rfl
set_option maxRecDepth 65536 in
set_option maxHeartbeats 40000000 in
theorem conT1 (l : Launch) (Z : State) (a0 : Array Value) (hw : ∀ d ∈ tables_1, d.before a0 Z = true) (n0 : Nat) (h : Heap) (hn0 : n0 ≤ h.size) (o1 : Addr) (o2 : Addr) (E_o1 : Exa Z h o1 "com/example/frame4/frame4/ChunkPool") (E_o2 : Exa Z h o2 "com/example/frame4/frame4/ChunkPool$Chunk") (F_idle_o1 : Fld Z h o1 "com/example/frame4/frame4/ChunkPool" "idle" "Lcom/example/frame4/frame4/ChunkPool$Chunk;" (.ref o2)) (F_idleCount_o1 : Fld Z h o1 "com/example/frame4/frame4/ChunkPool" "idleCount" "I" (.int (1 : Int32))) (F_next_o2 : Fld Z h o2 "com/example/frame4/frame4/ChunkPool$Chunk" "next" "Lcom/example/frame4/frame4/ChunkPool$Chunk;" .null) (ge_o1 : n0 ≤ o1) (ge_o2 : n0 ≤ o2) (ne_o1_o2 : o1 ≠ o2) :
    Con l (⟨"com/example/frame4/frame4/ChunkPool", "take", "()Lcom/example/frame4/frame4/ChunkPool$Chunk;"⟩ : MethodName) prog_4_method_2_code 2 (some (.object "com/example/frame4/frame4/ChunkPool$Chunk")) ({ frames := 0, cells := 0, slots := 0, locals := 0 } : Room) 0 0 Z n0 #[(.ref o1)] h (fun v h' => v = some (.ref o2) ∧ Keep h h' [o1, o2] ∧ Fld Z h' o1 "com/example/frame4/frame4/ChunkPool" "idle" "Lcom/example/frame4/frame4/ChunkPool$Chunk;" .null ∧ Fld Z h' o1 "com/example/frame4/frame4/ChunkPool" "idleCount" "I" (.int (0 : Int32)) ∧ Fld Z h' o2 "com/example/frame4/frame4/ChunkPool$Chunk" "next" "Lcom/example/frame4/frame4/ChunkPool$Chunk;" .null) := by
  refine Con.body (own := "com/example/frame4/frame4/ChunkPool") (nm := "take") rfl rfl (plainFor_of_name pn4) hn0 ?_
  intro p e s m below meth c T0 X0
  rw [ef_conT1]
  refine F_aloadN X0 d4_0 rfl rfl (pc' := 1) rfl ?_
  refine F_getfield X0 (wd24 hw) F_idle_o1 d4_1 (pc' := 4) rfl fun T1 X1 => ?_
  refine F_astoreN X1 d4_4 rfl (Ls' := #[.val (.ref o1), .val (.ref o2)]) rfl (pc' := 5) rfl ?_
  refine F_aloadN X1 d4_5 rfl rfl (pc' := 6) rfl ?_
  refine F_ifnonnull_ref X1 d4_6 (by decide) (pt := 20) (by decide) ?_
  refine F_aloadN X1 d4_20 rfl rfl (pc' := 21) rfl ?_
  refine F_aloadN X1 d4_21 rfl rfl (pc' := 22) rfl ?_
  refine F_getfield X1 (wd41 hw) F_next_o2 d4_22 (pc' := 25) rfl fun T2 X2 => ?_
  refine F_putfield X2 (wd24 hw) F_idle_o1 E_o1 (Or.inl (wd25 hw)) (wd1 hw) (ty := (.object "com/example/frame4/frame4/ChunkPool$Chunk")) (by decide) rfl rfl ge_o1 d4_25 (pc' := 28) rfl fun T3 h3 X3 W3 => ?_
  have F3_idle_o1 := F_idle_o1.same W3
  have E3_o1 := E_o1.wr W3
  have E3_o2 := E_o2.wr W3
  have F3_idleCount_o1 := F_idleCount_o1.other W3 (Or.inr (slot_ne (Or.inl (wd40 hw)) (Or.inl (wd25 hw)) (by decide) (t := .int) (t' := (.object "com/example/frame4/frame4/ChunkPool$Chunk")) (by decide) (by decide)))
  have F3_next_o2 := F_next_o2.other W3 (Or.inl (Ne.symm ne_o1_o2))
  have K4 := (Keep.refl h [o1, o2]).wr W3 (Or.inl (List.mem_of_getElem? (i := 0) rfl))
  refine F_aloadN X3 d4_28 rfl rfl (pc' := 29) rfl ?_
  refine F_dup X3 d4_29 rfl (pc' := 30) rfl ?_
  refine F_getfield X3 (wd39 hw) F3_idleCount_o1 d4_30 (pc' := 33) rfl fun T5 X5 => ?_
  refine F_iconst X5 d4_33 (z := (1 : Int32)) (by decide) (pc' := 34) rfl ?_
  refine F_isub X5 d4_34 (z := (0 : Int32)) (by decide) (pc' := 35) rfl ?_
  refine F_putfield X5 (wd39 hw) F3_idleCount_o1 E3_o1 (Or.inl (wd40 hw)) (wd1 hw) (ty := .int) (by decide) rfl rfl ge_o1 d4_35 (pc' := 38) rfl fun T6 h6 X6 W6 => ?_
  have F6_idleCount_o1 := F3_idleCount_o1.same W6
  have E6_o1 := E3_o1.wr W6
  have E6_o2 := E3_o2.wr W6
  have F6_idle_o1 := F3_idle_o1.other W6 (Or.inr (slot_ne (Or.inl (wd25 hw)) (Or.inl (wd40 hw)) (by decide) (t := (.object "com/example/frame4/frame4/ChunkPool$Chunk")) (t' := .int) (by decide) (by decide)))
  have F6_next_o2 := F3_next_o2.other W6 (Or.inl (Ne.symm ne_o1_o2))
  have K7 := K4.wr W6 (Or.inl (List.mem_of_getElem? (i := 0) rfl))
  refine F_aloadN X6 d4_38 rfl rfl (pc' := 39) rfl ?_
  refine F_aconst_null X6 d4_39 (pc' := 40) rfl ?_
  refine F_putfield X6 (wd41 hw) F6_next_o2 E6_o2 (Or.inl (wd33 hw)) (wd10 hw) (ty := (.object "com/example/frame4/frame4/ChunkPool$Chunk")) (by decide) rfl rfl ge_o2 d4_40 (pc' := 43) rfl fun T8 h8 X8 W8 => ?_
  have F8_next_o2 := F6_next_o2.same W8
  have E8_o1 := E6_o1.wr W8
  have E8_o2 := E6_o2.wr W8
  have F8_idle_o1 := F6_idle_o1.other W8 (Or.inl ne_o1_o2)
  have F8_idleCount_o1 := F6_idleCount_o1.other W8 (Or.inl ne_o1_o2)
  have K9 := K7.wr W8 (Or.inl (List.mem_of_getElem? (i := 1) rfl))
  refine F_aloadN X8 d4_43 rfl rfl (pc' := 44) rfl ?_
  refine F_areturn X8 (t := (.object "com/example/frame4/frame4/ChunkPool$Chunk")) rfl rfl rfl d4_44 rfl (by decide) (by decide) ?_
  exact ⟨rfl, K9, F8_idle_o1, F8_idleCount_o1, F8_next_o2⟩
theorem ef_conT2 (m : MethodId) (x0 : Addr) : entryFrame m #[(.ref x0)] 2 = mkF m 0 #[.val (.ref x0), .unset] [] := by first | (simp [entryFrame, mkF, argsToLocals, Value.category]; done) | rfl
set_option maxRecDepth 65536 in
set_option maxHeartbeats 40000000 in
theorem conT2 (l : Launch) (Z : State) (a0 : Array Value) (hw : ∀ d ∈ tables_1, d.before a0 Z = true) (n0 : Nat) (h : Heap) (hn0 : n0 ≤ h.size) (o1 : Addr) (o2 : Addr) (o3 : Addr) (E_o1 : Exa Z h o1 "com/example/frame4/frame4/ChunkPool") (E_o2 : Exa Z h o2 "com/example/frame4/frame4/ChunkPool$Chunk") (F_idle_o1 : Fld Z h o1 "com/example/frame4/frame4/ChunkPool" "idle" "Lcom/example/frame4/frame4/ChunkPool$Chunk;" (.ref o2)) (F_idleCount_o1 : Fld Z h o1 "com/example/frame4/frame4/ChunkPool" "idleCount" "I" (.int (2 : Int32))) (F_next_o2 : Fld Z h o2 "com/example/frame4/frame4/ChunkPool$Chunk" "next" "Lcom/example/frame4/frame4/ChunkPool$Chunk;" (.ref o3)) (ge_o1 : n0 ≤ o1) (ge_o2 : n0 ≤ o2) (ne_o1_o2 : o1 ≠ o2) :
    Con l (⟨"com/example/frame4/frame4/ChunkPool", "take", "()Lcom/example/frame4/frame4/ChunkPool$Chunk;"⟩ : MethodName) prog_4_method_2_code 2 (some (.object "com/example/frame4/frame4/ChunkPool$Chunk")) ({ frames := 0, cells := 0, slots := 0, locals := 0 } : Room) 0 0 Z n0 #[(.ref o1)] h (fun v h' => v = some (.ref o2) ∧ Keep h h' [o1, o2] ∧ Fld Z h' o1 "com/example/frame4/frame4/ChunkPool" "idle" "Lcom/example/frame4/frame4/ChunkPool$Chunk;" (.ref o3) ∧ Fld Z h' o1 "com/example/frame4/frame4/ChunkPool" "idleCount" "I" (.int (1 : Int32)) ∧ Fld Z h' o2 "com/example/frame4/frame4/ChunkPool$Chunk" "next" "Lcom/example/frame4/frame4/ChunkPool$Chunk;" .null) := by
  refine Con.body (own := "com/example/frame4/frame4/ChunkPool") (nm := "take") rfl rfl (plainFor_of_name pn4) hn0 ?_
  intro p e s m below meth c T0 X0
  rw [ef_conT2]
  refine F_aloadN X0 d4_0 rfl rfl (pc' := 1) rfl ?_
  refine F_getfield X0 (wd24 hw) F_idle_o1 d4_1 (pc' := 4) rfl fun T1 X1 => ?_
  refine F_astoreN X1 d4_4 rfl (Ls' := #[.val (.ref o1), .val (.ref o2)]) rfl (pc' := 5) rfl ?_
  refine F_aloadN X1 d4_5 rfl rfl (pc' := 6) rfl ?_
  refine F_ifnonnull_ref X1 d4_6 (by decide) (pt := 20) (by decide) ?_
  refine F_aloadN X1 d4_20 rfl rfl (pc' := 21) rfl ?_
  refine F_aloadN X1 d4_21 rfl rfl (pc' := 22) rfl ?_
  refine F_getfield X1 (wd41 hw) F_next_o2 d4_22 (pc' := 25) rfl fun T2 X2 => ?_
  refine F_putfield X2 (wd24 hw) F_idle_o1 E_o1 (Or.inl (wd25 hw)) (wd1 hw) (ty := (.object "com/example/frame4/frame4/ChunkPool$Chunk")) (by decide) rfl rfl ge_o1 d4_25 (pc' := 28) rfl fun T3 h3 X3 W3 => ?_
  have F3_idle_o1 := F_idle_o1.same W3
  have E3_o1 := E_o1.wr W3
  have E3_o2 := E_o2.wr W3
  have F3_idleCount_o1 := F_idleCount_o1.other W3 (Or.inr (slot_ne (Or.inl (wd40 hw)) (Or.inl (wd25 hw)) (by decide) (t := .int) (t' := (.object "com/example/frame4/frame4/ChunkPool$Chunk")) (by decide) (by decide)))
  have F3_next_o2 := F_next_o2.other W3 (Or.inl (Ne.symm ne_o1_o2))
  have K4 := (Keep.refl h [o1, o2]).wr W3 (Or.inl (List.mem_of_getElem? (i := 0) rfl))
  refine F_aloadN X3 d4_28 rfl rfl (pc' := 29) rfl ?_
  refine F_dup X3 d4_29 rfl (pc' := 30) rfl ?_
  refine F_getfield X3 (wd39 hw) F3_idleCount_o1 d4_30 (pc' := 33) rfl fun T5 X5 => ?_
  refine F_iconst X5 d4_33 (z := (1 : Int32)) (by decide) (pc' := 34) rfl ?_
  refine F_isub X5 d4_34 (z := (1 : Int32)) (by decide) (pc' := 35) rfl ?_
  refine F_putfield X5 (wd39 hw) F3_idleCount_o1 E3_o1 (Or.inl (wd40 hw)) (wd1 hw) (ty := .int) (by decide) rfl rfl ge_o1 d4_35 (pc' := 38) rfl fun T6 h6 X6 W6 => ?_
  have F6_idleCount_o1 := F3_idleCount_o1.same W6
  have E6_o1 := E3_o1.wr W6
  have E6_o2 := E3_o2.wr W6
  have F6_idle_o1 := F3_idle_o1.other W6 (Or.inr (slot_ne (Or.inl (wd25 hw)) (Or.inl (wd40 hw)) (by decide) (t := (.object "com/example/frame4/frame4/ChunkPool$Chunk")) (t' := .int) (by decide) (by decide)))
  have F6_next_o2 := F3_next_o2.other W6 (Or.inl (Ne.symm ne_o1_o2))
  have K7 := K4.wr W6 (Or.inl (List.mem_of_getElem? (i := 0) rfl))
  refine F_aloadN X6 d4_38 rfl rfl (pc' := 39) rfl ?_
  refine F_aconst_null X6 d4_39 (pc' := 40) rfl ?_
  refine F_putfield X6 (wd41 hw) F6_next_o2 E6_o2 (Or.inl (wd33 hw)) (wd10 hw) (ty := (.object "com/example/frame4/frame4/ChunkPool$Chunk")) (by decide) rfl rfl ge_o2 d4_40 (pc' := 43) rfl fun T8 h8 X8 W8 => ?_
  have F8_next_o2 := F6_next_o2.same W8
  have E8_o1 := E6_o1.wr W8
  have E8_o2 := E6_o2.wr W8
  have F8_idle_o1 := F6_idle_o1.other W8 (Or.inl ne_o1_o2)
  have F8_idleCount_o1 := F6_idleCount_o1.other W8 (Or.inl ne_o1_o2)
  have K9 := K7.wr W8 (Or.inl (List.mem_of_getElem? (i := 1) rfl))
  refine F_aloadN X8 d4_43 rfl rfl (pc' := 44) rfl ?_
  refine F_areturn X8 (t := (.object "com/example/frame4/frame4/ChunkPool$Chunk")) rfl rfl rfl d4_44 rfl (by decide) (by decide) ?_
  exact ⟨rfl, K9, F8_idle_o1, F8_idleCount_o1, F8_next_o2⟩
theorem ef_conT3 (m : MethodId) (x0 : Addr) : entryFrame m #[(.ref x0)] 2 = mkF m 0 #[.val (.ref x0), .unset] [] := by first | (simp [entryFrame, mkF, argsToLocals, Value.category]; done) | rfl
set_option maxRecDepth 65536 in
set_option maxHeartbeats 40000000 in
theorem conT3 (l : Launch) (Z : State) (a0 : Array Value) (hw : ∀ d ∈ tables_1, d.before a0 Z = true) (n0 : Nat) (h : Heap) (hn0 : n0 ≤ h.size) (o1 : Addr) (o2 : Addr) (o3 : Addr) (E_o1 : Exa Z h o1 "com/example/frame4/frame4/ChunkPool") (E_o2 : Exa Z h o2 "com/example/frame4/frame4/ChunkPool$Chunk") (F_idle_o1 : Fld Z h o1 "com/example/frame4/frame4/ChunkPool" "idle" "Lcom/example/frame4/frame4/ChunkPool$Chunk;" (.ref o2)) (F_idleCount_o1 : Fld Z h o1 "com/example/frame4/frame4/ChunkPool" "idleCount" "I" (.int (3 : Int32))) (F_next_o2 : Fld Z h o2 "com/example/frame4/frame4/ChunkPool$Chunk" "next" "Lcom/example/frame4/frame4/ChunkPool$Chunk;" (.ref o3)) (ge_o1 : n0 ≤ o1) (ge_o2 : n0 ≤ o2) (ne_o1_o2 : o1 ≠ o2) :
    Con l (⟨"com/example/frame4/frame4/ChunkPool", "take", "()Lcom/example/frame4/frame4/ChunkPool$Chunk;"⟩ : MethodName) prog_4_method_2_code 2 (some (.object "com/example/frame4/frame4/ChunkPool$Chunk")) ({ frames := 0, cells := 0, slots := 0, locals := 0 } : Room) 0 0 Z n0 #[(.ref o1)] h (fun v h' => v = some (.ref o2) ∧ Keep h h' [o1, o2] ∧ Fld Z h' o1 "com/example/frame4/frame4/ChunkPool" "idle" "Lcom/example/frame4/frame4/ChunkPool$Chunk;" (.ref o3) ∧ Fld Z h' o1 "com/example/frame4/frame4/ChunkPool" "idleCount" "I" (.int (2 : Int32)) ∧ Fld Z h' o2 "com/example/frame4/frame4/ChunkPool$Chunk" "next" "Lcom/example/frame4/frame4/ChunkPool$Chunk;" .null) := by
  refine Con.body (own := "com/example/frame4/frame4/ChunkPool") (nm := "take") rfl rfl (plainFor_of_name pn4) hn0 ?_
  intro p e s m below meth c T0 X0
  rw [ef_conT3]
  refine F_aloadN X0 d4_0 rfl rfl (pc' := 1) rfl ?_
  refine F_getfield X0 (wd24 hw) F_idle_o1 d4_1 (pc' := 4) rfl fun T1 X1 => ?_
  refine F_astoreN X1 d4_4 rfl (Ls' := #[.val (.ref o1), .val (.ref o2)]) rfl (pc' := 5) rfl ?_
  refine F_aloadN X1 d4_5 rfl rfl (pc' := 6) rfl ?_
  refine F_ifnonnull_ref X1 d4_6 (by decide) (pt := 20) (by decide) ?_
  refine F_aloadN X1 d4_20 rfl rfl (pc' := 21) rfl ?_
  refine F_aloadN X1 d4_21 rfl rfl (pc' := 22) rfl ?_
  refine F_getfield X1 (wd41 hw) F_next_o2 d4_22 (pc' := 25) rfl fun T2 X2 => ?_
  refine F_putfield X2 (wd24 hw) F_idle_o1 E_o1 (Or.inl (wd25 hw)) (wd1 hw) (ty := (.object "com/example/frame4/frame4/ChunkPool$Chunk")) (by decide) rfl rfl ge_o1 d4_25 (pc' := 28) rfl fun T3 h3 X3 W3 => ?_
  have F3_idle_o1 := F_idle_o1.same W3
  have E3_o1 := E_o1.wr W3
  have E3_o2 := E_o2.wr W3
  have F3_idleCount_o1 := F_idleCount_o1.other W3 (Or.inr (slot_ne (Or.inl (wd40 hw)) (Or.inl (wd25 hw)) (by decide) (t := .int) (t' := (.object "com/example/frame4/frame4/ChunkPool$Chunk")) (by decide) (by decide)))
  have F3_next_o2 := F_next_o2.other W3 (Or.inl (Ne.symm ne_o1_o2))
  have K4 := (Keep.refl h [o1, o2]).wr W3 (Or.inl (List.mem_of_getElem? (i := 0) rfl))
  refine F_aloadN X3 d4_28 rfl rfl (pc' := 29) rfl ?_
  refine F_dup X3 d4_29 rfl (pc' := 30) rfl ?_
  refine F_getfield X3 (wd39 hw) F3_idleCount_o1 d4_30 (pc' := 33) rfl fun T5 X5 => ?_
  refine F_iconst X5 d4_33 (z := (1 : Int32)) (by decide) (pc' := 34) rfl ?_
  refine F_isub X5 d4_34 (z := (2 : Int32)) (by decide) (pc' := 35) rfl ?_
  refine F_putfield X5 (wd39 hw) F3_idleCount_o1 E3_o1 (Or.inl (wd40 hw)) (wd1 hw) (ty := .int) (by decide) rfl rfl ge_o1 d4_35 (pc' := 38) rfl fun T6 h6 X6 W6 => ?_
  have F6_idleCount_o1 := F3_idleCount_o1.same W6
  have E6_o1 := E3_o1.wr W6
  have E6_o2 := E3_o2.wr W6
  have F6_idle_o1 := F3_idle_o1.other W6 (Or.inr (slot_ne (Or.inl (wd25 hw)) (Or.inl (wd40 hw)) (by decide) (t := (.object "com/example/frame4/frame4/ChunkPool$Chunk")) (t' := .int) (by decide) (by decide)))
  have F6_next_o2 := F3_next_o2.other W6 (Or.inl (Ne.symm ne_o1_o2))
  have K7 := K4.wr W6 (Or.inl (List.mem_of_getElem? (i := 0) rfl))
  refine F_aloadN X6 d4_38 rfl rfl (pc' := 39) rfl ?_
  refine F_aconst_null X6 d4_39 (pc' := 40) rfl ?_
  refine F_putfield X6 (wd41 hw) F6_next_o2 E6_o2 (Or.inl (wd33 hw)) (wd10 hw) (ty := (.object "com/example/frame4/frame4/ChunkPool$Chunk")) (by decide) rfl rfl ge_o2 d4_40 (pc' := 43) rfl fun T8 h8 X8 W8 => ?_
  have F8_next_o2 := F6_next_o2.same W8
  have E8_o1 := E6_o1.wr W8
  have E8_o2 := E6_o2.wr W8
  have F8_idle_o1 := F6_idle_o1.other W8 (Or.inl ne_o1_o2)
  have F8_idleCount_o1 := F6_idleCount_o1.other W8 (Or.inl ne_o1_o2)
  have K9 := K7.wr W8 (Or.inl (List.mem_of_getElem? (i := 1) rfl))
  refine F_aloadN X8 d4_43 rfl rfl (pc' := 44) rfl ?_
  refine F_areturn X8 (t := (.object "com/example/frame4/frame4/ChunkPool$Chunk")) rfl rfl rfl d4_44 rfl (by decide) (by decide) ?_
  exact ⟨rfl, K9, F8_idle_o1, F8_idleCount_o1, F8_next_o2⟩
theorem d5_0 : decode method_3_code 0 = .ok (.aload_n 0, 1) := by decide +kernel
theorem d5_1 : decode method_3_code 1 = .ok (.ifnull 10, 3) := by decide +kernel
theorem d5_4 : decode method_3_code 4 = .ok (.aload_n 0, 1) := by decide +kernel
theorem d5_5 : decode method_3_code 5 = .ok (.getfield 13, 3) := by decide +kernel
theorem d5_8 : decode method_3_code 8 = .ok (.ifnull 5, 3) := by decide +kernel
theorem d5_13 : decode method_3_code 13 = .ok (.iload_n 1, 1) := by decide +kernel
theorem d5_14 : decode method_3_code 14 = .ok (.iload_n 2, 1) := by decide +kernel
theorem d5_15 : decode method_3_code 15 = .ok (.if_icmp .ge 46, 3) := by decide +kernel
theorem d5_61 : decode method_3_code 61 = .ok (.aload_n 0, 1) := by decide +kernel
theorem d5_62 : decode method_3_code 62 = .ok (.aload_n 3, 1) := by decide +kernel
theorem d5_63 : decode method_3_code 63 = .ok (.if_acmp .eq 19, 3) := by decide +kernel
theorem d5_66 : decode method_3_code 66 = .ok (.aload_n 0, 1) := by decide +kernel
theorem d5_67 : decode method_3_code 67 = .ok (.aload 4, 2) := by decide +kernel
theorem d5_69 : decode method_3_code 69 = .ok (.if_acmp .eq 13, 3) := by decide +kernel
theorem d5_72 : decode method_3_code 72 = .ok (.aload_n 0, 1) := by decide +kernel
theorem d5_73 : decode method_3_code 73 = .ok (.aload 5, 2) := by decide +kernel
theorem d5_75 : decode method_3_code 75 = .ok (.if_acmp .eq 7, 3) := by decide +kernel
theorem d5_78 : decode method_3_code 78 = .ok (.iconst 1, 1) := by decide +kernel
theorem d5_79 : decode method_3_code 79 = .ok (.goto 4, 3) := by decide +kernel
theorem d5_83 : decode method_3_code 83 = .ok (.ireturn, 1) := by decide +kernel
theorem pn5 : plainName "com/example/frame4/frame4/ChunkPoolGiveBackPinLaw" = true := by first | (simp [plainName, overriddenIn]; done) | decide +kernel
theorem ef_conE0_0 (m : MethodId) (x0 : Addr) (x3 : Addr) (x4 : Addr) (x5 : Addr) : entryFrame m #[(.ref x0), (.int (0 : Int32)), (.int (0 : Int32)), (.ref x3), (.ref x4), (.ref x5)] 8 = mkF m 0 #[.val (.ref x0), .val (.int (0 : Int32)), .val (.int (0 : Int32)), .val (.ref x3), .val (.ref x4), .val (.ref x5), .unset, .unset] [] := by first | (simp [entryFrame, mkF, argsToLocals, Value.category]; done) | rfl
set_option maxRecDepth 65536 in
set_option maxHeartbeats 40000000 in
theorem conE0_0 (l : Launch) (Z : State) (a0 : Array Value) (hw : ∀ d ∈ tables_1, d.before a0 Z = true) (n0 : Nat) (h : Heap) (hn0 : n0 ≤ h.size) (o1 : Addr) (o4 : Addr) (o5 : Addr) (o6 : Addr) (F_next_o1 : Fld Z h o1 "com/example/frame4/frame4/ChunkPool$Chunk" "next" "Lcom/example/frame4/frame4/ChunkPool$Chunk;" .null) (ne_o1_o4 : o1 ≠ o4) (ne_o1_o5 : o1 ≠ o5) (ne_o1_o6 : o1 ≠ o6) :
    Con l (⟨"com/example/frame4/frame4/ChunkPoolGiveBackPinLaw", "expect", "(Lcom/example/frame4/frame4/ChunkPool$Chunk;IILcom/example/frame4/frame4/ChunkPool$Chunk;Lcom/example/frame4/frame4/ChunkPool$Chunk;Lcom/example/frame4/frame4/ChunkPool$Chunk;)Z"⟩ : MethodName) method_3_code 8 (some .boolean) ({ frames := 0, cells := 0, slots := 0, locals := 0 } : Room) 0 0 Z n0 #[(.ref o1), (.int (0 : Int32)), (.int (0 : Int32)), (.ref o4), (.ref o5), (.ref o6)] h (fun v h' => v = some (.int (1 : Int32)) ∧ h = h') := by
  refine Con.body (own := "com/example/frame4/frame4/ChunkPoolGiveBackPinLaw") (nm := "expect") rfl rfl (plainFor_of_name pn5) hn0 ?_
  intro p e s m below meth c T0 X0
  rw [ef_conE0_0]
  refine F_aloadN X0 d5_0 rfl rfl (pc' := 1) rfl ?_
  refine F_ifnull_ref X0 d5_1 (pc' := 4) rfl ?_
  refine F_aloadN X0 d5_4 rfl rfl (pc' := 5) rfl ?_
  refine F_getfield X0 (wd32 hw) F_next_o1 d5_5 (pc' := 8) rfl fun T1 X1 => ?_
  refine F_ifnull_null X1 d5_8 (by decide) (pt := 13) (by decide) ?_
  refine F_iloadN X1 d5_13 rfl (pc' := 14) rfl ?_
  refine F_iloadN X1 d5_14 rfl (pc' := 15) rfl ?_
  refine F_icmp_ge X1 d5_15 (by decide) (pt := 61) (by decide) (pc' := 18) rfl (fun _ => ?_) (fun q => absurd q (by decide))
  refine F_aloadN X1 d5_61 rfl rfl (pc' := 62) rfl ?_
  refine F_aloadN X1 d5_62 rfl rfl (pc' := 63) rfl ?_
  refine F_acmp X1 (same := false) d5_63 rfl rfl (decide_eq_false fun q => ne_o1_o4 (Value.ref.inj q)) (by decide) (pc' := 66) (by decide) ?_
  refine F_aloadN X1 d5_66 rfl rfl (pc' := 67) rfl ?_
  refine F_aload X1 d5_67 rfl rfl (pc' := 69) rfl ?_
  refine F_acmp X1 (same := false) d5_69 rfl rfl (decide_eq_false fun q => ne_o1_o5 (Value.ref.inj q)) (by decide) (pc' := 72) (by decide) ?_
  refine F_aloadN X1 d5_72 rfl rfl (pc' := 73) rfl ?_
  refine F_aload X1 d5_73 rfl rfl (pc' := 75) rfl ?_
  refine F_acmp X1 (same := false) d5_75 rfl rfl (decide_eq_false fun q => ne_o1_o6 (Value.ref.inj q)) (by decide) (pc' := 78) (by decide) ?_
  refine F_iconst X1 d5_78 (z := (1 : Int32)) (by decide) (pc' := 79) rfl ?_
  refine F_goto X1 d5_79 (by decide) (pc' := 83) (by decide) ?_
  refine F_ireturn_boolean (z' := (1 : Int32)) X1 (by decide) d5_83 rfl (by decide) (by decide) ?_
  exact ⟨rfl, rfl⟩
theorem ef_conE0_1 (m : MethodId) (x0 : Addr) (x3 : Addr) (x4 : Addr) (x5 : Addr) : entryFrame m #[(.ref x0), (.int (1 : Int32)), (.int (0 : Int32)), (.ref x3), (.ref x4), (.ref x5)] 8 = mkF m 0 #[.val (.ref x0), .val (.int (1 : Int32)), .val (.int (0 : Int32)), .val (.ref x3), .val (.ref x4), .val (.ref x5), .unset, .unset] [] := by first | (simp [entryFrame, mkF, argsToLocals, Value.category]; done) | rfl
set_option maxRecDepth 65536 in
set_option maxHeartbeats 40000000 in
theorem conE0_1 (l : Launch) (Z : State) (a0 : Array Value) (hw : ∀ d ∈ tables_1, d.before a0 Z = true) (n0 : Nat) (h : Heap) (hn0 : n0 ≤ h.size) (o1 : Addr) (o4 : Addr) (o5 : Addr) (o6 : Addr) (F_next_o1 : Fld Z h o1 "com/example/frame4/frame4/ChunkPool$Chunk" "next" "Lcom/example/frame4/frame4/ChunkPool$Chunk;" .null) (ne_o1_o4 : o1 ≠ o4) (ne_o1_o5 : o1 ≠ o5) (ne_o1_o6 : o1 ≠ o6) :
    Con l (⟨"com/example/frame4/frame4/ChunkPoolGiveBackPinLaw", "expect", "(Lcom/example/frame4/frame4/ChunkPool$Chunk;IILcom/example/frame4/frame4/ChunkPool$Chunk;Lcom/example/frame4/frame4/ChunkPool$Chunk;Lcom/example/frame4/frame4/ChunkPool$Chunk;)Z"⟩ : MethodName) method_3_code 8 (some .boolean) ({ frames := 0, cells := 0, slots := 0, locals := 0 } : Room) 0 0 Z n0 #[(.ref o1), (.int (1 : Int32)), (.int (0 : Int32)), (.ref o4), (.ref o5), (.ref o6)] h (fun v h' => v = some (.int (1 : Int32)) ∧ h = h') := by
  refine Con.body (own := "com/example/frame4/frame4/ChunkPoolGiveBackPinLaw") (nm := "expect") rfl rfl (plainFor_of_name pn5) hn0 ?_
  intro p e s m below meth c T0 X0
  rw [ef_conE0_1]
  refine F_aloadN X0 d5_0 rfl rfl (pc' := 1) rfl ?_
  refine F_ifnull_ref X0 d5_1 (pc' := 4) rfl ?_
  refine F_aloadN X0 d5_4 rfl rfl (pc' := 5) rfl ?_
  refine F_getfield X0 (wd32 hw) F_next_o1 d5_5 (pc' := 8) rfl fun T1 X1 => ?_
  refine F_ifnull_null X1 d5_8 (by decide) (pt := 13) (by decide) ?_
  refine F_iloadN X1 d5_13 rfl (pc' := 14) rfl ?_
  refine F_iloadN X1 d5_14 rfl (pc' := 15) rfl ?_
  refine F_icmp_ge X1 d5_15 (by decide) (pt := 61) (by decide) (pc' := 18) rfl (fun _ => ?_) (fun q => absurd q (by decide))
  refine F_aloadN X1 d5_61 rfl rfl (pc' := 62) rfl ?_
  refine F_aloadN X1 d5_62 rfl rfl (pc' := 63) rfl ?_
  refine F_acmp X1 (same := false) d5_63 rfl rfl (decide_eq_false fun q => ne_o1_o4 (Value.ref.inj q)) (by decide) (pc' := 66) (by decide) ?_
  refine F_aloadN X1 d5_66 rfl rfl (pc' := 67) rfl ?_
  refine F_aload X1 d5_67 rfl rfl (pc' := 69) rfl ?_
  refine F_acmp X1 (same := false) d5_69 rfl rfl (decide_eq_false fun q => ne_o1_o5 (Value.ref.inj q)) (by decide) (pc' := 72) (by decide) ?_
  refine F_aloadN X1 d5_72 rfl rfl (pc' := 73) rfl ?_
  refine F_aload X1 d5_73 rfl rfl (pc' := 75) rfl ?_
  refine F_acmp X1 (same := false) d5_75 rfl rfl (decide_eq_false fun q => ne_o1_o6 (Value.ref.inj q)) (by decide) (pc' := 78) (by decide) ?_
  refine F_iconst X1 d5_78 (z := (1 : Int32)) (by decide) (pc' := 79) rfl ?_
  refine F_goto X1 d5_79 (by decide) (pc' := 83) (by decide) ?_
  refine F_ireturn_boolean (z' := (1 : Int32)) X1 (by decide) d5_83 rfl (by decide) (by decide) ?_
  exact ⟨rfl, rfl⟩
theorem ef_conE0_2 (m : MethodId) (x0 : Addr) (x3 : Addr) (x4 : Addr) (x5 : Addr) : entryFrame m #[(.ref x0), (.int (2 : Int32)), (.int (0 : Int32)), (.ref x3), (.ref x4), (.ref x5)] 8 = mkF m 0 #[.val (.ref x0), .val (.int (2 : Int32)), .val (.int (0 : Int32)), .val (.ref x3), .val (.ref x4), .val (.ref x5), .unset, .unset] [] := by first | (simp [entryFrame, mkF, argsToLocals, Value.category]; done) | rfl
set_option maxRecDepth 65536 in
set_option maxHeartbeats 40000000 in
theorem conE0_2 (l : Launch) (Z : State) (a0 : Array Value) (hw : ∀ d ∈ tables_1, d.before a0 Z = true) (n0 : Nat) (h : Heap) (hn0 : n0 ≤ h.size) (o1 : Addr) (o4 : Addr) (o5 : Addr) (o6 : Addr) (F_next_o1 : Fld Z h o1 "com/example/frame4/frame4/ChunkPool$Chunk" "next" "Lcom/example/frame4/frame4/ChunkPool$Chunk;" .null) (ne_o1_o4 : o1 ≠ o4) (ne_o1_o5 : o1 ≠ o5) (ne_o1_o6 : o1 ≠ o6) :
    Con l (⟨"com/example/frame4/frame4/ChunkPoolGiveBackPinLaw", "expect", "(Lcom/example/frame4/frame4/ChunkPool$Chunk;IILcom/example/frame4/frame4/ChunkPool$Chunk;Lcom/example/frame4/frame4/ChunkPool$Chunk;Lcom/example/frame4/frame4/ChunkPool$Chunk;)Z"⟩ : MethodName) method_3_code 8 (some .boolean) ({ frames := 0, cells := 0, slots := 0, locals := 0 } : Room) 0 0 Z n0 #[(.ref o1), (.int (2 : Int32)), (.int (0 : Int32)), (.ref o4), (.ref o5), (.ref o6)] h (fun v h' => v = some (.int (1 : Int32)) ∧ h = h') := by
  refine Con.body (own := "com/example/frame4/frame4/ChunkPoolGiveBackPinLaw") (nm := "expect") rfl rfl (plainFor_of_name pn5) hn0 ?_
  intro p e s m below meth c T0 X0
  rw [ef_conE0_2]
  refine F_aloadN X0 d5_0 rfl rfl (pc' := 1) rfl ?_
  refine F_ifnull_ref X0 d5_1 (pc' := 4) rfl ?_
  refine F_aloadN X0 d5_4 rfl rfl (pc' := 5) rfl ?_
  refine F_getfield X0 (wd32 hw) F_next_o1 d5_5 (pc' := 8) rfl fun T1 X1 => ?_
  refine F_ifnull_null X1 d5_8 (by decide) (pt := 13) (by decide) ?_
  refine F_iloadN X1 d5_13 rfl (pc' := 14) rfl ?_
  refine F_iloadN X1 d5_14 rfl (pc' := 15) rfl ?_
  refine F_icmp_ge X1 d5_15 (by decide) (pt := 61) (by decide) (pc' := 18) rfl (fun _ => ?_) (fun q => absurd q (by decide))
  refine F_aloadN X1 d5_61 rfl rfl (pc' := 62) rfl ?_
  refine F_aloadN X1 d5_62 rfl rfl (pc' := 63) rfl ?_
  refine F_acmp X1 (same := false) d5_63 rfl rfl (decide_eq_false fun q => ne_o1_o4 (Value.ref.inj q)) (by decide) (pc' := 66) (by decide) ?_
  refine F_aloadN X1 d5_66 rfl rfl (pc' := 67) rfl ?_
  refine F_aload X1 d5_67 rfl rfl (pc' := 69) rfl ?_
  refine F_acmp X1 (same := false) d5_69 rfl rfl (decide_eq_false fun q => ne_o1_o5 (Value.ref.inj q)) (by decide) (pc' := 72) (by decide) ?_
  refine F_aloadN X1 d5_72 rfl rfl (pc' := 73) rfl ?_
  refine F_aload X1 d5_73 rfl rfl (pc' := 75) rfl ?_
  refine F_acmp X1 (same := false) d5_75 rfl rfl (decide_eq_false fun q => ne_o1_o6 (Value.ref.inj q)) (by decide) (pc' := 78) (by decide) ?_
  refine F_iconst X1 d5_78 (z := (1 : Int32)) (by decide) (pc' := 79) rfl ?_
  refine F_goto X1 d5_79 (by decide) (pc' := 83) (by decide) ?_
  refine F_ireturn_boolean (z' := (1 : Int32)) X1 (by decide) d5_83 rfl (by decide) (by decide) ?_
  exact ⟨rfl, rfl⟩
theorem ef_conE0_3 (m : MethodId) (x0 : Addr) (x3 : Addr) (x4 : Addr) (x5 : Addr) : entryFrame m #[(.ref x0), (.int (3 : Int32)), (.int (0 : Int32)), (.ref x3), (.ref x4), (.ref x5)] 8 = mkF m 0 #[.val (.ref x0), .val (.int (3 : Int32)), .val (.int (0 : Int32)), .val (.ref x3), .val (.ref x4), .val (.ref x5), .unset, .unset] [] := by first | (simp [entryFrame, mkF, argsToLocals, Value.category]; done) | rfl
set_option maxRecDepth 65536 in
set_option maxHeartbeats 40000000 in
theorem conE0_3 (l : Launch) (Z : State) (a0 : Array Value) (hw : ∀ d ∈ tables_1, d.before a0 Z = true) (n0 : Nat) (h : Heap) (hn0 : n0 ≤ h.size) (o1 : Addr) (o4 : Addr) (o5 : Addr) (o6 : Addr) (F_next_o1 : Fld Z h o1 "com/example/frame4/frame4/ChunkPool$Chunk" "next" "Lcom/example/frame4/frame4/ChunkPool$Chunk;" .null) (ne_o1_o4 : o1 ≠ o4) (ne_o1_o5 : o1 ≠ o5) (ne_o1_o6 : o1 ≠ o6) :
    Con l (⟨"com/example/frame4/frame4/ChunkPoolGiveBackPinLaw", "expect", "(Lcom/example/frame4/frame4/ChunkPool$Chunk;IILcom/example/frame4/frame4/ChunkPool$Chunk;Lcom/example/frame4/frame4/ChunkPool$Chunk;Lcom/example/frame4/frame4/ChunkPool$Chunk;)Z"⟩ : MethodName) method_3_code 8 (some .boolean) ({ frames := 0, cells := 0, slots := 0, locals := 0 } : Room) 0 0 Z n0 #[(.ref o1), (.int (3 : Int32)), (.int (0 : Int32)), (.ref o4), (.ref o5), (.ref o6)] h (fun v h' => v = some (.int (1 : Int32)) ∧ h = h') := by
  refine Con.body (own := "com/example/frame4/frame4/ChunkPoolGiveBackPinLaw") (nm := "expect") rfl rfl (plainFor_of_name pn5) hn0 ?_
  intro p e s m below meth c T0 X0
  rw [ef_conE0_3]
  refine F_aloadN X0 d5_0 rfl rfl (pc' := 1) rfl ?_
  refine F_ifnull_ref X0 d5_1 (pc' := 4) rfl ?_
  refine F_aloadN X0 d5_4 rfl rfl (pc' := 5) rfl ?_
  refine F_getfield X0 (wd32 hw) F_next_o1 d5_5 (pc' := 8) rfl fun T1 X1 => ?_
  refine F_ifnull_null X1 d5_8 (by decide) (pt := 13) (by decide) ?_
  refine F_iloadN X1 d5_13 rfl (pc' := 14) rfl ?_
  refine F_iloadN X1 d5_14 rfl (pc' := 15) rfl ?_
  refine F_icmp_ge X1 d5_15 (by decide) (pt := 61) (by decide) (pc' := 18) rfl (fun _ => ?_) (fun q => absurd q (by decide))
  refine F_aloadN X1 d5_61 rfl rfl (pc' := 62) rfl ?_
  refine F_aloadN X1 d5_62 rfl rfl (pc' := 63) rfl ?_
  refine F_acmp X1 (same := false) d5_63 rfl rfl (decide_eq_false fun q => ne_o1_o4 (Value.ref.inj q)) (by decide) (pc' := 66) (by decide) ?_
  refine F_aloadN X1 d5_66 rfl rfl (pc' := 67) rfl ?_
  refine F_aload X1 d5_67 rfl rfl (pc' := 69) rfl ?_
  refine F_acmp X1 (same := false) d5_69 rfl rfl (decide_eq_false fun q => ne_o1_o5 (Value.ref.inj q)) (by decide) (pc' := 72) (by decide) ?_
  refine F_aloadN X1 d5_72 rfl rfl (pc' := 73) rfl ?_
  refine F_aload X1 d5_73 rfl rfl (pc' := 75) rfl ?_
  refine F_acmp X1 (same := false) d5_75 rfl rfl (decide_eq_false fun q => ne_o1_o6 (Value.ref.inj q)) (by decide) (pc' := 78) (by decide) ?_
  refine F_iconst X1 d5_78 (z := (1 : Int32)) (by decide) (pc' := 79) rfl ?_
  refine F_goto X1 d5_79 (by decide) (pc' := 83) (by decide) ?_
  refine F_ireturn_boolean (z' := (1 : Int32)) X1 (by decide) d5_83 rfl (by decide) (by decide) ?_
  exact ⟨rfl, rfl⟩
theorem d5_18 : decode method_3_code 18 = .ok (.iload_n 2, 1) := by decide +kernel
theorem d5_19 : decode method_3_code 19 = .ok (.iconst 1, 1) := by decide +kernel
theorem d5_20 : decode method_3_code 20 = .ok (.isub, 1) := by decide +kernel
theorem d5_21 : decode method_3_code 21 = .ok (.iload_n 1, 1) := by decide +kernel
theorem d5_22 : decode method_3_code 22 = .ok (.isub, 1) := by decide +kernel
theorem d5_23 : decode method_3_code 23 = .ok (.istore 6, 2) := by decide +kernel
theorem d5_25 : decode method_3_code 25 = .ok (.iload 6, 2) := by decide +kernel
theorem d5_27 : decode method_3_code 27 = .ok (.ifCond .ne 7, 3) := by decide +kernel
theorem d5_30 : decode method_3_code 30 = .ok (.aload_n 3, 1) := by decide +kernel
theorem d5_31 : decode method_3_code 31 = .ok (.goto 16, 3) := by decide +kernel
theorem d5_47 : decode method_3_code 47 = .ok (.astore 7, 2) := by decide +kernel
theorem d5_49 : decode method_3_code 49 = .ok (.aload_n 0, 1) := by decide +kernel
theorem d5_50 : decode method_3_code 50 = .ok (.aload 7, 2) := by decide +kernel
theorem d5_52 : decode method_3_code 52 = .ok (.if_acmp .ne 7, 3) := by decide +kernel
theorem d5_55 : decode method_3_code 55 = .ok (.iconst 1, 1) := by decide +kernel
theorem d5_56 : decode method_3_code 56 = .ok (.goto 4, 3) := by decide +kernel
theorem d5_60 : decode method_3_code 60 = .ok (.ireturn, 1) := by decide +kernel
theorem ef_conE1_0 (m : MethodId) (x3 : Addr) (x4 : Addr) (x5 : Addr) : entryFrame m #[(.ref x3), (.int (0 : Int32)), (.int (1 : Int32)), (.ref x3), (.ref x4), (.ref x5)] 8 = mkF m 0 #[.val (.ref x3), .val (.int (0 : Int32)), .val (.int (1 : Int32)), .val (.ref x3), .val (.ref x4), .val (.ref x5), .unset, .unset] [] := by first | (simp [entryFrame, mkF, argsToLocals, Value.category]; done) | rfl
set_option maxRecDepth 65536 in
set_option maxHeartbeats 40000000 in
theorem conE1_0 (l : Launch) (Z : State) (a0 : Array Value) (hw : ∀ d ∈ tables_1, d.before a0 Z = true) (n0 : Nat) (h : Heap) (hn0 : n0 ≤ h.size) (o4 : Addr) (o5 : Addr) (o6 : Addr) (F_next_o4 : Fld Z h o4 "com/example/frame4/frame4/ChunkPool$Chunk" "next" "Lcom/example/frame4/frame4/ChunkPool$Chunk;" .null) :
    Con l (⟨"com/example/frame4/frame4/ChunkPoolGiveBackPinLaw", "expect", "(Lcom/example/frame4/frame4/ChunkPool$Chunk;IILcom/example/frame4/frame4/ChunkPool$Chunk;Lcom/example/frame4/frame4/ChunkPool$Chunk;Lcom/example/frame4/frame4/ChunkPool$Chunk;)Z"⟩ : MethodName) method_3_code 8 (some .boolean) ({ frames := 0, cells := 0, slots := 0, locals := 0 } : Room) 0 0 Z n0 #[(.ref o4), (.int (0 : Int32)), (.int (1 : Int32)), (.ref o4), (.ref o5), (.ref o6)] h (fun v h' => v = some (.int (1 : Int32)) ∧ h = h') := by
  refine Con.body (own := "com/example/frame4/frame4/ChunkPoolGiveBackPinLaw") (nm := "expect") rfl rfl (plainFor_of_name pn5) hn0 ?_
  intro p e s m below meth c T0 X0
  rw [ef_conE1_0]
  refine F_aloadN X0 d5_0 rfl rfl (pc' := 1) rfl ?_
  refine F_ifnull_ref X0 d5_1 (pc' := 4) rfl ?_
  refine F_aloadN X0 d5_4 rfl rfl (pc' := 5) rfl ?_
  refine F_getfield X0 (wd32 hw) F_next_o4 d5_5 (pc' := 8) rfl fun T1 X1 => ?_
  refine F_ifnull_null X1 d5_8 (by decide) (pt := 13) (by decide) ?_
  refine F_iloadN X1 d5_13 rfl (pc' := 14) rfl ?_
  refine F_iloadN X1 d5_14 rfl (pc' := 15) rfl ?_
  refine F_icmp_ge X1 d5_15 (by decide) (pt := 61) (by decide) (pc' := 18) rfl (fun q => absurd q (by decide)) (fun _ => ?_)
  refine F_iloadN X1 d5_18 rfl (pc' := 19) rfl ?_
  refine F_iconst X1 d5_19 (z := (1 : Int32)) (by decide) (pc' := 20) rfl ?_
  refine F_isub X1 d5_20 (z := (0 : Int32)) (by decide) (pc' := 21) rfl ?_
  refine F_iloadN X1 d5_21 rfl (pc' := 22) rfl ?_
  refine F_isub X1 d5_22 (z := (0 : Int32)) (by decide) (pc' := 23) rfl ?_
  refine F_istore X1 d5_23 (Ls' := #[.val (.ref o4), .val (.int (0 : Int32)), .val (.int (1 : Int32)), .val (.ref o4), .val (.ref o5), .val (.ref o6), .val (.int (0 : Int32)), .unset]) rfl (pc' := 25) rfl ?_
  refine F_iload X1 d5_25 rfl (pc' := 27) rfl ?_
  refine F_if_ne X1 d5_27 (by decide) (pt := 34) (by decide) (pc' := 30) rfl (fun q => absurd q (by decide)) (fun _ => ?_)
  refine F_aloadN X1 d5_30 rfl rfl (pc' := 31) rfl ?_
  refine F_goto X1 d5_31 (by decide) (pc' := 47) (by decide) ?_
  refine F_astore X1 d5_47 rfl (Ls' := #[.val (.ref o4), .val (.int (0 : Int32)), .val (.int (1 : Int32)), .val (.ref o4), .val (.ref o5), .val (.ref o6), .val (.int (0 : Int32)), .val (.ref o4)]) rfl (pc' := 49) rfl ?_
  refine F_aloadN X1 d5_49 rfl rfl (pc' := 50) rfl ?_
  refine F_aload X1 d5_50 rfl rfl (pc' := 52) rfl ?_
  refine F_acmp X1 (same := true) d5_52 rfl rfl (decide_eq_true rfl) (by decide) (pc' := 55) (by decide) ?_
  refine F_iconst X1 d5_55 (z := (1 : Int32)) (by decide) (pc' := 56) rfl ?_
  refine F_goto X1 d5_56 (by decide) (pc' := 60) (by decide) ?_
  refine F_ireturn_boolean (z' := (1 : Int32)) X1 (by decide) d5_60 rfl (by decide) (by decide) ?_
  exact ⟨rfl, rfl⟩
theorem ef_conE1_1 (m : MethodId) (x0 : Addr) (x3 : Addr) (x4 : Addr) (x5 : Addr) : entryFrame m #[(.ref x0), (.int (1 : Int32)), (.int (1 : Int32)), (.ref x3), (.ref x4), (.ref x5)] 8 = mkF m 0 #[.val (.ref x0), .val (.int (1 : Int32)), .val (.int (1 : Int32)), .val (.ref x3), .val (.ref x4), .val (.ref x5), .unset, .unset] [] := by first | (simp [entryFrame, mkF, argsToLocals, Value.category]; done) | rfl
set_option maxRecDepth 65536 in
set_option maxHeartbeats 40000000 in
theorem conE1_1 (l : Launch) (Z : State) (a0 : Array Value) (hw : ∀ d ∈ tables_1, d.before a0 Z = true) (n0 : Nat) (h : Heap) (hn0 : n0 ≤ h.size) (o1 : Addr) (o4 : Addr) (o5 : Addr) (o6 : Addr) (F_next_o1 : Fld Z h o1 "com/example/frame4/frame4/ChunkPool$Chunk" "next" "Lcom/example/frame4/frame4/ChunkPool$Chunk;" .null) (ne_o1_o4 : o1 ≠ o4) (ne_o1_o5 : o1 ≠ o5) (ne_o1_o6 : o1 ≠ o6) :
    Con l (⟨"com/example/frame4/frame4/ChunkPoolGiveBackPinLaw", "expect", "(Lcom/example/frame4/frame4/ChunkPool$Chunk;IILcom/example/frame4/frame4/ChunkPool$Chunk;Lcom/example/frame4/frame4/ChunkPool$Chunk;Lcom/example/frame4/frame4/ChunkPool$Chunk;)Z"⟩ : MethodName) method_3_code 8 (some .boolean) ({ frames := 0, cells := 0, slots := 0, locals := 0 } : Room) 0 0 Z n0 #[(.ref o1), (.int (1 : Int32)), (.int (1 : Int32)), (.ref o4), (.ref o5), (.ref o6)] h (fun v h' => v = some (.int (1 : Int32)) ∧ h = h') := by
  refine Con.body (own := "com/example/frame4/frame4/ChunkPoolGiveBackPinLaw") (nm := "expect") rfl rfl (plainFor_of_name pn5) hn0 ?_
  intro p e s m below meth c T0 X0
  rw [ef_conE1_1]
  refine F_aloadN X0 d5_0 rfl rfl (pc' := 1) rfl ?_
  refine F_ifnull_ref X0 d5_1 (pc' := 4) rfl ?_
  refine F_aloadN X0 d5_4 rfl rfl (pc' := 5) rfl ?_
  refine F_getfield X0 (wd32 hw) F_next_o1 d5_5 (pc' := 8) rfl fun T1 X1 => ?_
  refine F_ifnull_null X1 d5_8 (by decide) (pt := 13) (by decide) ?_
  refine F_iloadN X1 d5_13 rfl (pc' := 14) rfl ?_
  refine F_iloadN X1 d5_14 rfl (pc' := 15) rfl ?_
  refine F_icmp_ge X1 d5_15 (by decide) (pt := 61) (by decide) (pc' := 18) rfl (fun _ => ?_) (fun q => absurd q (by decide))
  refine F_aloadN X1 d5_61 rfl rfl (pc' := 62) rfl ?_
  refine F_aloadN X1 d5_62 rfl rfl (pc' := 63) rfl ?_
  refine F_acmp X1 (same := false) d5_63 rfl rfl (decide_eq_false fun q => ne_o1_o4 (Value.ref.inj q)) (by decide) (pc' := 66) (by decide) ?_
  refine F_aloadN X1 d5_66 rfl rfl (pc' := 67) rfl ?_
  refine F_aload X1 d5_67 rfl rfl (pc' := 69) rfl ?_
  refine F_acmp X1 (same := false) d5_69 rfl rfl (decide_eq_false fun q => ne_o1_o5 (Value.ref.inj q)) (by decide) (pc' := 72) (by decide) ?_
  refine F_aloadN X1 d5_72 rfl rfl (pc' := 73) rfl ?_
  refine F_aload X1 d5_73 rfl rfl (pc' := 75) rfl ?_
  refine F_acmp X1 (same := false) d5_75 rfl rfl (decide_eq_false fun q => ne_o1_o6 (Value.ref.inj q)) (by decide) (pc' := 78) (by decide) ?_
  refine F_iconst X1 d5_78 (z := (1 : Int32)) (by decide) (pc' := 79) rfl ?_
  refine F_goto X1 d5_79 (by decide) (pc' := 83) (by decide) ?_
  refine F_ireturn_boolean (z' := (1 : Int32)) X1 (by decide) d5_83 rfl (by decide) (by decide) ?_
  exact ⟨rfl, rfl⟩
theorem ef_conE1_2 (m : MethodId) (x0 : Addr) (x3 : Addr) (x4 : Addr) (x5 : Addr) : entryFrame m #[(.ref x0), (.int (2 : Int32)), (.int (1 : Int32)), (.ref x3), (.ref x4), (.ref x5)] 8 = mkF m 0 #[.val (.ref x0), .val (.int (2 : Int32)), .val (.int (1 : Int32)), .val (.ref x3), .val (.ref x4), .val (.ref x5), .unset, .unset] [] := by first | (simp [entryFrame, mkF, argsToLocals, Value.category]; done) | rfl
set_option maxRecDepth 65536 in
set_option maxHeartbeats 40000000 in
theorem conE1_2 (l : Launch) (Z : State) (a0 : Array Value) (hw : ∀ d ∈ tables_1, d.before a0 Z = true) (n0 : Nat) (h : Heap) (hn0 : n0 ≤ h.size) (o1 : Addr) (o4 : Addr) (o5 : Addr) (o6 : Addr) (F_next_o1 : Fld Z h o1 "com/example/frame4/frame4/ChunkPool$Chunk" "next" "Lcom/example/frame4/frame4/ChunkPool$Chunk;" .null) (ne_o1_o4 : o1 ≠ o4) (ne_o1_o5 : o1 ≠ o5) (ne_o1_o6 : o1 ≠ o6) :
    Con l (⟨"com/example/frame4/frame4/ChunkPoolGiveBackPinLaw", "expect", "(Lcom/example/frame4/frame4/ChunkPool$Chunk;IILcom/example/frame4/frame4/ChunkPool$Chunk;Lcom/example/frame4/frame4/ChunkPool$Chunk;Lcom/example/frame4/frame4/ChunkPool$Chunk;)Z"⟩ : MethodName) method_3_code 8 (some .boolean) ({ frames := 0, cells := 0, slots := 0, locals := 0 } : Room) 0 0 Z n0 #[(.ref o1), (.int (2 : Int32)), (.int (1 : Int32)), (.ref o4), (.ref o5), (.ref o6)] h (fun v h' => v = some (.int (1 : Int32)) ∧ h = h') := by
  refine Con.body (own := "com/example/frame4/frame4/ChunkPoolGiveBackPinLaw") (nm := "expect") rfl rfl (plainFor_of_name pn5) hn0 ?_
  intro p e s m below meth c T0 X0
  rw [ef_conE1_2]
  refine F_aloadN X0 d5_0 rfl rfl (pc' := 1) rfl ?_
  refine F_ifnull_ref X0 d5_1 (pc' := 4) rfl ?_
  refine F_aloadN X0 d5_4 rfl rfl (pc' := 5) rfl ?_
  refine F_getfield X0 (wd32 hw) F_next_o1 d5_5 (pc' := 8) rfl fun T1 X1 => ?_
  refine F_ifnull_null X1 d5_8 (by decide) (pt := 13) (by decide) ?_
  refine F_iloadN X1 d5_13 rfl (pc' := 14) rfl ?_
  refine F_iloadN X1 d5_14 rfl (pc' := 15) rfl ?_
  refine F_icmp_ge X1 d5_15 (by decide) (pt := 61) (by decide) (pc' := 18) rfl (fun _ => ?_) (fun q => absurd q (by decide))
  refine F_aloadN X1 d5_61 rfl rfl (pc' := 62) rfl ?_
  refine F_aloadN X1 d5_62 rfl rfl (pc' := 63) rfl ?_
  refine F_acmp X1 (same := false) d5_63 rfl rfl (decide_eq_false fun q => ne_o1_o4 (Value.ref.inj q)) (by decide) (pc' := 66) (by decide) ?_
  refine F_aloadN X1 d5_66 rfl rfl (pc' := 67) rfl ?_
  refine F_aload X1 d5_67 rfl rfl (pc' := 69) rfl ?_
  refine F_acmp X1 (same := false) d5_69 rfl rfl (decide_eq_false fun q => ne_o1_o5 (Value.ref.inj q)) (by decide) (pc' := 72) (by decide) ?_
  refine F_aloadN X1 d5_72 rfl rfl (pc' := 73) rfl ?_
  refine F_aload X1 d5_73 rfl rfl (pc' := 75) rfl ?_
  refine F_acmp X1 (same := false) d5_75 rfl rfl (decide_eq_false fun q => ne_o1_o6 (Value.ref.inj q)) (by decide) (pc' := 78) (by decide) ?_
  refine F_iconst X1 d5_78 (z := (1 : Int32)) (by decide) (pc' := 79) rfl ?_
  refine F_goto X1 d5_79 (by decide) (pc' := 83) (by decide) ?_
  refine F_ireturn_boolean (z' := (1 : Int32)) X1 (by decide) d5_83 rfl (by decide) (by decide) ?_
  exact ⟨rfl, rfl⟩
theorem ef_conE1_3 (m : MethodId) (x0 : Addr) (x3 : Addr) (x4 : Addr) (x5 : Addr) : entryFrame m #[(.ref x0), (.int (3 : Int32)), (.int (1 : Int32)), (.ref x3), (.ref x4), (.ref x5)] 8 = mkF m 0 #[.val (.ref x0), .val (.int (3 : Int32)), .val (.int (1 : Int32)), .val (.ref x3), .val (.ref x4), .val (.ref x5), .unset, .unset] [] := by first | (simp [entryFrame, mkF, argsToLocals, Value.category]; done) | rfl
set_option maxRecDepth 65536 in
set_option maxHeartbeats 40000000 in
theorem conE1_3 (l : Launch) (Z : State) (a0 : Array Value) (hw : ∀ d ∈ tables_1, d.before a0 Z = true) (n0 : Nat) (h : Heap) (hn0 : n0 ≤ h.size) (o1 : Addr) (o4 : Addr) (o5 : Addr) (o6 : Addr) (F_next_o1 : Fld Z h o1 "com/example/frame4/frame4/ChunkPool$Chunk" "next" "Lcom/example/frame4/frame4/ChunkPool$Chunk;" .null) (ne_o1_o4 : o1 ≠ o4) (ne_o1_o5 : o1 ≠ o5) (ne_o1_o6 : o1 ≠ o6) :
    Con l (⟨"com/example/frame4/frame4/ChunkPoolGiveBackPinLaw", "expect", "(Lcom/example/frame4/frame4/ChunkPool$Chunk;IILcom/example/frame4/frame4/ChunkPool$Chunk;Lcom/example/frame4/frame4/ChunkPool$Chunk;Lcom/example/frame4/frame4/ChunkPool$Chunk;)Z"⟩ : MethodName) method_3_code 8 (some .boolean) ({ frames := 0, cells := 0, slots := 0, locals := 0 } : Room) 0 0 Z n0 #[(.ref o1), (.int (3 : Int32)), (.int (1 : Int32)), (.ref o4), (.ref o5), (.ref o6)] h (fun v h' => v = some (.int (1 : Int32)) ∧ h = h') := by
  refine Con.body (own := "com/example/frame4/frame4/ChunkPoolGiveBackPinLaw") (nm := "expect") rfl rfl (plainFor_of_name pn5) hn0 ?_
  intro p e s m below meth c T0 X0
  rw [ef_conE1_3]
  refine F_aloadN X0 d5_0 rfl rfl (pc' := 1) rfl ?_
  refine F_ifnull_ref X0 d5_1 (pc' := 4) rfl ?_
  refine F_aloadN X0 d5_4 rfl rfl (pc' := 5) rfl ?_
  refine F_getfield X0 (wd32 hw) F_next_o1 d5_5 (pc' := 8) rfl fun T1 X1 => ?_
  refine F_ifnull_null X1 d5_8 (by decide) (pt := 13) (by decide) ?_
  refine F_iloadN X1 d5_13 rfl (pc' := 14) rfl ?_
  refine F_iloadN X1 d5_14 rfl (pc' := 15) rfl ?_
  refine F_icmp_ge X1 d5_15 (by decide) (pt := 61) (by decide) (pc' := 18) rfl (fun _ => ?_) (fun q => absurd q (by decide))
  refine F_aloadN X1 d5_61 rfl rfl (pc' := 62) rfl ?_
  refine F_aloadN X1 d5_62 rfl rfl (pc' := 63) rfl ?_
  refine F_acmp X1 (same := false) d5_63 rfl rfl (decide_eq_false fun q => ne_o1_o4 (Value.ref.inj q)) (by decide) (pc' := 66) (by decide) ?_
  refine F_aloadN X1 d5_66 rfl rfl (pc' := 67) rfl ?_
  refine F_aload X1 d5_67 rfl rfl (pc' := 69) rfl ?_
  refine F_acmp X1 (same := false) d5_69 rfl rfl (decide_eq_false fun q => ne_o1_o5 (Value.ref.inj q)) (by decide) (pc' := 72) (by decide) ?_
  refine F_aloadN X1 d5_72 rfl rfl (pc' := 73) rfl ?_
  refine F_aload X1 d5_73 rfl rfl (pc' := 75) rfl ?_
  refine F_acmp X1 (same := false) d5_75 rfl rfl (decide_eq_false fun q => ne_o1_o6 (Value.ref.inj q)) (by decide) (pc' := 78) (by decide) ?_
  refine F_iconst X1 d5_78 (z := (1 : Int32)) (by decide) (pc' := 79) rfl ?_
  refine F_goto X1 d5_79 (by decide) (pc' := 83) (by decide) ?_
  refine F_ireturn_boolean (z' := (1 : Int32)) X1 (by decide) d5_83 rfl (by decide) (by decide) ?_
  exact ⟨rfl, rfl⟩
theorem d5_34 : decode method_3_code 34 = .ok (.iload 6, 2) := by decide +kernel
theorem d5_36 : decode method_3_code 36 = .ok (.iconst 1, 1) := by decide +kernel
theorem d5_37 : decode method_3_code 37 = .ok (.if_icmp .ne 8, 3) := by decide +kernel
theorem d5_40 : decode method_3_code 40 = .ok (.aload 4, 2) := by decide +kernel
theorem d5_42 : decode method_3_code 42 = .ok (.goto 5, 3) := by decide +kernel
theorem ef_conE2_0 (m : MethodId) (x4 : Addr) (x3 : Addr) (x5 : Addr) : entryFrame m #[(.ref x4), (.int (0 : Int32)), (.int (2 : Int32)), (.ref x3), (.ref x4), (.ref x5)] 8 = mkF m 0 #[.val (.ref x4), .val (.int (0 : Int32)), .val (.int (2 : Int32)), .val (.ref x3), .val (.ref x4), .val (.ref x5), .unset, .unset] [] := by first | (simp [entryFrame, mkF, argsToLocals, Value.category]; done) | rfl
set_option maxRecDepth 65536 in
set_option maxHeartbeats 40000000 in
theorem conE2_0 (l : Launch) (Z : State) (a0 : Array Value) (hw : ∀ d ∈ tables_1, d.before a0 Z = true) (n0 : Nat) (h : Heap) (hn0 : n0 ≤ h.size) (o5 : Addr) (o4 : Addr) (o6 : Addr) (F_next_o5 : Fld Z h o5 "com/example/frame4/frame4/ChunkPool$Chunk" "next" "Lcom/example/frame4/frame4/ChunkPool$Chunk;" .null) :
    Con l (⟨"com/example/frame4/frame4/ChunkPoolGiveBackPinLaw", "expect", "(Lcom/example/frame4/frame4/ChunkPool$Chunk;IILcom/example/frame4/frame4/ChunkPool$Chunk;Lcom/example/frame4/frame4/ChunkPool$Chunk;Lcom/example/frame4/frame4/ChunkPool$Chunk;)Z"⟩ : MethodName) method_3_code 8 (some .boolean) ({ frames := 0, cells := 0, slots := 0, locals := 0 } : Room) 0 0 Z n0 #[(.ref o5), (.int (0 : Int32)), (.int (2 : Int32)), (.ref o4), (.ref o5), (.ref o6)] h (fun v h' => v = some (.int (1 : Int32)) ∧ h = h') := by
  refine Con.body (own := "com/example/frame4/frame4/ChunkPoolGiveBackPinLaw") (nm := "expect") rfl rfl (plainFor_of_name pn5) hn0 ?_
  intro p e s m below meth c T0 X0
  rw [ef_conE2_0]
  refine F_aloadN X0 d5_0 rfl rfl (pc' := 1) rfl ?_
  refine F_ifnull_ref X0 d5_1 (pc' := 4) rfl ?_
  refine F_aloadN X0 d5_4 rfl rfl (pc' := 5) rfl ?_
  refine F_getfield X0 (wd32 hw) F_next_o5 d5_5 (pc' := 8) rfl fun T1 X1 => ?_
  refine F_ifnull_null X1 d5_8 (by decide) (pt := 13) (by decide) ?_
  refine F_iloadN X1 d5_13 rfl (pc' := 14) rfl ?_
  refine F_iloadN X1 d5_14 rfl (pc' := 15) rfl ?_
  refine F_icmp_ge X1 d5_15 (by decide) (pt := 61) (by decide) (pc' := 18) rfl (fun q => absurd q (by decide)) (fun _ => ?_)
  refine F_iloadN X1 d5_18 rfl (pc' := 19) rfl ?_
  refine F_iconst X1 d5_19 (z := (1 : Int32)) (by decide) (pc' := 20) rfl ?_
  refine F_isub X1 d5_20 (z := (1 : Int32)) (by decide) (pc' := 21) rfl ?_
  refine F_iloadN X1 d5_21 rfl (pc' := 22) rfl ?_
  refine F_isub X1 d5_22 (z := (1 : Int32)) (by decide) (pc' := 23) rfl ?_
  refine F_istore X1 d5_23 (Ls' := #[.val (.ref o5), .val (.int (0 : Int32)), .val (.int (2 : Int32)), .val (.ref o4), .val (.ref o5), .val (.ref o6), .val (.int (1 : Int32)), .unset]) rfl (pc' := 25) rfl ?_
  refine F_iload X1 d5_25 rfl (pc' := 27) rfl ?_
  refine F_if_ne X1 d5_27 (by decide) (pt := 34) (by decide) (pc' := 30) rfl (fun _ => ?_) (fun q => absurd q (by decide))
  refine F_iload X1 d5_34 rfl (pc' := 36) rfl ?_
  refine F_iconst X1 d5_36 (z := (1 : Int32)) (by decide) (pc' := 37) rfl ?_
  refine F_icmp_ne X1 d5_37 (by decide) (pt := 45) (by decide) (pc' := 40) rfl (fun q => absurd q (by decide)) (fun _ => ?_)
  refine F_aload X1 d5_40 rfl rfl (pc' := 42) rfl ?_
  refine F_goto X1 d5_42 (by decide) (pc' := 47) (by decide) ?_
  refine F_astore X1 d5_47 rfl (Ls' := #[.val (.ref o5), .val (.int (0 : Int32)), .val (.int (2 : Int32)), .val (.ref o4), .val (.ref o5), .val (.ref o6), .val (.int (1 : Int32)), .val (.ref o5)]) rfl (pc' := 49) rfl ?_
  refine F_aloadN X1 d5_49 rfl rfl (pc' := 50) rfl ?_
  refine F_aload X1 d5_50 rfl rfl (pc' := 52) rfl ?_
  refine F_acmp X1 (same := true) d5_52 rfl rfl (decide_eq_true rfl) (by decide) (pc' := 55) (by decide) ?_
  refine F_iconst X1 d5_55 (z := (1 : Int32)) (by decide) (pc' := 56) rfl ?_
  refine F_goto X1 d5_56 (by decide) (pc' := 60) (by decide) ?_
  refine F_ireturn_boolean (z' := (1 : Int32)) X1 (by decide) d5_60 rfl (by decide) (by decide) ?_
  exact ⟨rfl, rfl⟩
theorem ef_conE2_1 (m : MethodId) (x3 : Addr) (x4 : Addr) (x5 : Addr) : entryFrame m #[(.ref x3), (.int (1 : Int32)), (.int (2 : Int32)), (.ref x3), (.ref x4), (.ref x5)] 8 = mkF m 0 #[.val (.ref x3), .val (.int (1 : Int32)), .val (.int (2 : Int32)), .val (.ref x3), .val (.ref x4), .val (.ref x5), .unset, .unset] [] := by first | (simp [entryFrame, mkF, argsToLocals, Value.category]; done) | rfl
set_option maxRecDepth 65536 in
set_option maxHeartbeats 40000000 in
theorem conE2_1 (l : Launch) (Z : State) (a0 : Array Value) (hw : ∀ d ∈ tables_1, d.before a0 Z = true) (n0 : Nat) (h : Heap) (hn0 : n0 ≤ h.size) (o4 : Addr) (o5 : Addr) (o6 : Addr) (F_next_o4 : Fld Z h o4 "com/example/frame4/frame4/ChunkPool$Chunk" "next" "Lcom/example/frame4/frame4/ChunkPool$Chunk;" .null) :
    Con l (⟨"com/example/frame4/frame4/ChunkPoolGiveBackPinLaw", "expect", "(Lcom/example/frame4/frame4/ChunkPool$Chunk;IILcom/example/frame4/frame4/ChunkPool$Chunk;Lcom/example/frame4/frame4/ChunkPool$Chunk;Lcom/example/frame4/frame4/ChunkPool$Chunk;)Z"⟩ : MethodName) method_3_code 8 (some .boolean) ({ frames := 0, cells := 0, slots := 0, locals := 0 } : Room) 0 0 Z n0 #[(.ref o4), (.int (1 : Int32)), (.int (2 : Int32)), (.ref o4), (.ref o5), (.ref o6)] h (fun v h' => v = some (.int (1 : Int32)) ∧ h = h') := by
  refine Con.body (own := "com/example/frame4/frame4/ChunkPoolGiveBackPinLaw") (nm := "expect") rfl rfl (plainFor_of_name pn5) hn0 ?_
  intro p e s m below meth c T0 X0
  rw [ef_conE2_1]
  refine F_aloadN X0 d5_0 rfl rfl (pc' := 1) rfl ?_
  refine F_ifnull_ref X0 d5_1 (pc' := 4) rfl ?_
  refine F_aloadN X0 d5_4 rfl rfl (pc' := 5) rfl ?_
  refine F_getfield X0 (wd32 hw) F_next_o4 d5_5 (pc' := 8) rfl fun T1 X1 => ?_
  refine F_ifnull_null X1 d5_8 (by decide) (pt := 13) (by decide) ?_
  refine F_iloadN X1 d5_13 rfl (pc' := 14) rfl ?_
  refine F_iloadN X1 d5_14 rfl (pc' := 15) rfl ?_
  refine F_icmp_ge X1 d5_15 (by decide) (pt := 61) (by decide) (pc' := 18) rfl (fun q => absurd q (by decide)) (fun _ => ?_)
  refine F_iloadN X1 d5_18 rfl (pc' := 19) rfl ?_
  refine F_iconst X1 d5_19 (z := (1 : Int32)) (by decide) (pc' := 20) rfl ?_
  refine F_isub X1 d5_20 (z := (1 : Int32)) (by decide) (pc' := 21) rfl ?_
  refine F_iloadN X1 d5_21 rfl (pc' := 22) rfl ?_
  refine F_isub X1 d5_22 (z := (0 : Int32)) (by decide) (pc' := 23) rfl ?_
  refine F_istore X1 d5_23 (Ls' := #[.val (.ref o4), .val (.int (1 : Int32)), .val (.int (2 : Int32)), .val (.ref o4), .val (.ref o5), .val (.ref o6), .val (.int (0 : Int32)), .unset]) rfl (pc' := 25) rfl ?_
  refine F_iload X1 d5_25 rfl (pc' := 27) rfl ?_
  refine F_if_ne X1 d5_27 (by decide) (pt := 34) (by decide) (pc' := 30) rfl (fun q => absurd q (by decide)) (fun _ => ?_)
  refine F_aloadN X1 d5_30 rfl rfl (pc' := 31) rfl ?_
  refine F_goto X1 d5_31 (by decide) (pc' := 47) (by decide) ?_
  refine F_astore X1 d5_47 rfl (Ls' := #[.val (.ref o4), .val (.int (1 : Int32)), .val (.int (2 : Int32)), .val (.ref o4), .val (.ref o5), .val (.ref o6), .val (.int (0 : Int32)), .val (.ref o4)]) rfl (pc' := 49) rfl ?_
  refine F_aloadN X1 d5_49 rfl rfl (pc' := 50) rfl ?_
  refine F_aload X1 d5_50 rfl rfl (pc' := 52) rfl ?_
  refine F_acmp X1 (same := true) d5_52 rfl rfl (decide_eq_true rfl) (by decide) (pc' := 55) (by decide) ?_
  refine F_iconst X1 d5_55 (z := (1 : Int32)) (by decide) (pc' := 56) rfl ?_
  refine F_goto X1 d5_56 (by decide) (pc' := 60) (by decide) ?_
  refine F_ireturn_boolean (z' := (1 : Int32)) X1 (by decide) d5_60 rfl (by decide) (by decide) ?_
  exact ⟨rfl, rfl⟩
theorem ef_conE2_2 (m : MethodId) (x0 : Addr) (x3 : Addr) (x4 : Addr) (x5 : Addr) : entryFrame m #[(.ref x0), (.int (2 : Int32)), (.int (2 : Int32)), (.ref x3), (.ref x4), (.ref x5)] 8 = mkF m 0 #[.val (.ref x0), .val (.int (2 : Int32)), .val (.int (2 : Int32)), .val (.ref x3), .val (.ref x4), .val (.ref x5), .unset, .unset] [] := by first | (simp [entryFrame, mkF, argsToLocals, Value.category]; done) | rfl
set_option maxRecDepth 65536 in
set_option maxHeartbeats 40000000 in
theorem conE2_2 (l : Launch) (Z : State) (a0 : Array Value) (hw : ∀ d ∈ tables_1, d.before a0 Z = true) (n0 : Nat) (h : Heap) (hn0 : n0 ≤ h.size) (o1 : Addr) (o4 : Addr) (o5 : Addr) (o6 : Addr) (F_next_o1 : Fld Z h o1 "com/example/frame4/frame4/ChunkPool$Chunk" "next" "Lcom/example/frame4/frame4/ChunkPool$Chunk;" .null) (ne_o1_o4 : o1 ≠ o4) (ne_o1_o5 : o1 ≠ o5) (ne_o1_o6 : o1 ≠ o6) :
    Con l (⟨"com/example/frame4/frame4/ChunkPoolGiveBackPinLaw", "expect", "(Lcom/example/frame4/frame4/ChunkPool$Chunk;IILcom/example/frame4/frame4/ChunkPool$Chunk;Lcom/example/frame4/frame4/ChunkPool$Chunk;Lcom/example/frame4/frame4/ChunkPool$Chunk;)Z"⟩ : MethodName) method_3_code 8 (some .boolean) ({ frames := 0, cells := 0, slots := 0, locals := 0 } : Room) 0 0 Z n0 #[(.ref o1), (.int (2 : Int32)), (.int (2 : Int32)), (.ref o4), (.ref o5), (.ref o6)] h (fun v h' => v = some (.int (1 : Int32)) ∧ h = h') := by
  refine Con.body (own := "com/example/frame4/frame4/ChunkPoolGiveBackPinLaw") (nm := "expect") rfl rfl (plainFor_of_name pn5) hn0 ?_
  intro p e s m below meth c T0 X0
  rw [ef_conE2_2]
  refine F_aloadN X0 d5_0 rfl rfl (pc' := 1) rfl ?_
  refine F_ifnull_ref X0 d5_1 (pc' := 4) rfl ?_
  refine F_aloadN X0 d5_4 rfl rfl (pc' := 5) rfl ?_
  refine F_getfield X0 (wd32 hw) F_next_o1 d5_5 (pc' := 8) rfl fun T1 X1 => ?_
  refine F_ifnull_null X1 d5_8 (by decide) (pt := 13) (by decide) ?_
  refine F_iloadN X1 d5_13 rfl (pc' := 14) rfl ?_
  refine F_iloadN X1 d5_14 rfl (pc' := 15) rfl ?_
  refine F_icmp_ge X1 d5_15 (by decide) (pt := 61) (by decide) (pc' := 18) rfl (fun _ => ?_) (fun q => absurd q (by decide))
  refine F_aloadN X1 d5_61 rfl rfl (pc' := 62) rfl ?_
  refine F_aloadN X1 d5_62 rfl rfl (pc' := 63) rfl ?_
  refine F_acmp X1 (same := false) d5_63 rfl rfl (decide_eq_false fun q => ne_o1_o4 (Value.ref.inj q)) (by decide) (pc' := 66) (by decide) ?_
  refine F_aloadN X1 d5_66 rfl rfl (pc' := 67) rfl ?_
  refine F_aload X1 d5_67 rfl rfl (pc' := 69) rfl ?_
  refine F_acmp X1 (same := false) d5_69 rfl rfl (decide_eq_false fun q => ne_o1_o5 (Value.ref.inj q)) (by decide) (pc' := 72) (by decide) ?_
  refine F_aloadN X1 d5_72 rfl rfl (pc' := 73) rfl ?_
  refine F_aload X1 d5_73 rfl rfl (pc' := 75) rfl ?_
  refine F_acmp X1 (same := false) d5_75 rfl rfl (decide_eq_false fun q => ne_o1_o6 (Value.ref.inj q)) (by decide) (pc' := 78) (by decide) ?_
  refine F_iconst X1 d5_78 (z := (1 : Int32)) (by decide) (pc' := 79) rfl ?_
  refine F_goto X1 d5_79 (by decide) (pc' := 83) (by decide) ?_
  refine F_ireturn_boolean (z' := (1 : Int32)) X1 (by decide) d5_83 rfl (by decide) (by decide) ?_
  exact ⟨rfl, rfl⟩
theorem ef_conE2_3 (m : MethodId) (x0 : Addr) (x3 : Addr) (x4 : Addr) (x5 : Addr) : entryFrame m #[(.ref x0), (.int (3 : Int32)), (.int (2 : Int32)), (.ref x3), (.ref x4), (.ref x5)] 8 = mkF m 0 #[.val (.ref x0), .val (.int (3 : Int32)), .val (.int (2 : Int32)), .val (.ref x3), .val (.ref x4), .val (.ref x5), .unset, .unset] [] := by first | (simp [entryFrame, mkF, argsToLocals, Value.category]; done) | rfl
set_option maxRecDepth 65536 in
set_option maxHeartbeats 40000000 in
theorem conE2_3 (l : Launch) (Z : State) (a0 : Array Value) (hw : ∀ d ∈ tables_1, d.before a0 Z = true) (n0 : Nat) (h : Heap) (hn0 : n0 ≤ h.size) (o1 : Addr) (o4 : Addr) (o5 : Addr) (o6 : Addr) (F_next_o1 : Fld Z h o1 "com/example/frame4/frame4/ChunkPool$Chunk" "next" "Lcom/example/frame4/frame4/ChunkPool$Chunk;" .null) (ne_o1_o4 : o1 ≠ o4) (ne_o1_o5 : o1 ≠ o5) (ne_o1_o6 : o1 ≠ o6) :
    Con l (⟨"com/example/frame4/frame4/ChunkPoolGiveBackPinLaw", "expect", "(Lcom/example/frame4/frame4/ChunkPool$Chunk;IILcom/example/frame4/frame4/ChunkPool$Chunk;Lcom/example/frame4/frame4/ChunkPool$Chunk;Lcom/example/frame4/frame4/ChunkPool$Chunk;)Z"⟩ : MethodName) method_3_code 8 (some .boolean) ({ frames := 0, cells := 0, slots := 0, locals := 0 } : Room) 0 0 Z n0 #[(.ref o1), (.int (3 : Int32)), (.int (2 : Int32)), (.ref o4), (.ref o5), (.ref o6)] h (fun v h' => v = some (.int (1 : Int32)) ∧ h = h') := by
  refine Con.body (own := "com/example/frame4/frame4/ChunkPoolGiveBackPinLaw") (nm := "expect") rfl rfl (plainFor_of_name pn5) hn0 ?_
  intro p e s m below meth c T0 X0
  rw [ef_conE2_3]
  refine F_aloadN X0 d5_0 rfl rfl (pc' := 1) rfl ?_
  refine F_ifnull_ref X0 d5_1 (pc' := 4) rfl ?_
  refine F_aloadN X0 d5_4 rfl rfl (pc' := 5) rfl ?_
  refine F_getfield X0 (wd32 hw) F_next_o1 d5_5 (pc' := 8) rfl fun T1 X1 => ?_
  refine F_ifnull_null X1 d5_8 (by decide) (pt := 13) (by decide) ?_
  refine F_iloadN X1 d5_13 rfl (pc' := 14) rfl ?_
  refine F_iloadN X1 d5_14 rfl (pc' := 15) rfl ?_
  refine F_icmp_ge X1 d5_15 (by decide) (pt := 61) (by decide) (pc' := 18) rfl (fun _ => ?_) (fun q => absurd q (by decide))
  refine F_aloadN X1 d5_61 rfl rfl (pc' := 62) rfl ?_
  refine F_aloadN X1 d5_62 rfl rfl (pc' := 63) rfl ?_
  refine F_acmp X1 (same := false) d5_63 rfl rfl (decide_eq_false fun q => ne_o1_o4 (Value.ref.inj q)) (by decide) (pc' := 66) (by decide) ?_
  refine F_aloadN X1 d5_66 rfl rfl (pc' := 67) rfl ?_
  refine F_aload X1 d5_67 rfl rfl (pc' := 69) rfl ?_
  refine F_acmp X1 (same := false) d5_69 rfl rfl (decide_eq_false fun q => ne_o1_o5 (Value.ref.inj q)) (by decide) (pc' := 72) (by decide) ?_
  refine F_aloadN X1 d5_72 rfl rfl (pc' := 73) rfl ?_
  refine F_aload X1 d5_73 rfl rfl (pc' := 75) rfl ?_
  refine F_acmp X1 (same := false) d5_75 rfl rfl (decide_eq_false fun q => ne_o1_o6 (Value.ref.inj q)) (by decide) (pc' := 78) (by decide) ?_
  refine F_iconst X1 d5_78 (z := (1 : Int32)) (by decide) (pc' := 79) rfl ?_
  refine F_goto X1 d5_79 (by decide) (pc' := 83) (by decide) ?_
  refine F_ireturn_boolean (z' := (1 : Int32)) X1 (by decide) d5_83 rfl (by decide) (by decide) ?_
  exact ⟨rfl, rfl⟩
theorem d5_45 : decode method_3_code 45 = .ok (.aload 5, 2) := by decide +kernel
theorem ef_conE3_0 (m : MethodId) (x5 : Addr) (x3 : Addr) (x4 : Addr) : entryFrame m #[(.ref x5), (.int (0 : Int32)), (.int (3 : Int32)), (.ref x3), (.ref x4), (.ref x5)] 8 = mkF m 0 #[.val (.ref x5), .val (.int (0 : Int32)), .val (.int (3 : Int32)), .val (.ref x3), .val (.ref x4), .val (.ref x5), .unset, .unset] [] := by first | (simp [entryFrame, mkF, argsToLocals, Value.category]; done) | rfl
set_option maxRecDepth 65536 in
set_option maxHeartbeats 40000000 in
theorem conE3_0 (l : Launch) (Z : State) (a0 : Array Value) (hw : ∀ d ∈ tables_1, d.before a0 Z = true) (n0 : Nat) (h : Heap) (hn0 : n0 ≤ h.size) (o6 : Addr) (o4 : Addr) (o5 : Addr) (F_next_o6 : Fld Z h o6 "com/example/frame4/frame4/ChunkPool$Chunk" "next" "Lcom/example/frame4/frame4/ChunkPool$Chunk;" .null) :
    Con l (⟨"com/example/frame4/frame4/ChunkPoolGiveBackPinLaw", "expect", "(Lcom/example/frame4/frame4/ChunkPool$Chunk;IILcom/example/frame4/frame4/ChunkPool$Chunk;Lcom/example/frame4/frame4/ChunkPool$Chunk;Lcom/example/frame4/frame4/ChunkPool$Chunk;)Z"⟩ : MethodName) method_3_code 8 (some .boolean) ({ frames := 0, cells := 0, slots := 0, locals := 0 } : Room) 0 0 Z n0 #[(.ref o6), (.int (0 : Int32)), (.int (3 : Int32)), (.ref o4), (.ref o5), (.ref o6)] h (fun v h' => v = some (.int (1 : Int32)) ∧ h = h') := by
  refine Con.body (own := "com/example/frame4/frame4/ChunkPoolGiveBackPinLaw") (nm := "expect") rfl rfl (plainFor_of_name pn5) hn0 ?_
  intro p e s m below meth c T0 X0
  rw [ef_conE3_0]
  refine F_aloadN X0 d5_0 rfl rfl (pc' := 1) rfl ?_
  refine F_ifnull_ref X0 d5_1 (pc' := 4) rfl ?_
  refine F_aloadN X0 d5_4 rfl rfl (pc' := 5) rfl ?_
  refine F_getfield X0 (wd32 hw) F_next_o6 d5_5 (pc' := 8) rfl fun T1 X1 => ?_
  refine F_ifnull_null X1 d5_8 (by decide) (pt := 13) (by decide) ?_
  refine F_iloadN X1 d5_13 rfl (pc' := 14) rfl ?_
  refine F_iloadN X1 d5_14 rfl (pc' := 15) rfl ?_
  refine F_icmp_ge X1 d5_15 (by decide) (pt := 61) (by decide) (pc' := 18) rfl (fun q => absurd q (by decide)) (fun _ => ?_)
  refine F_iloadN X1 d5_18 rfl (pc' := 19) rfl ?_
  refine F_iconst X1 d5_19 (z := (1 : Int32)) (by decide) (pc' := 20) rfl ?_
  refine F_isub X1 d5_20 (z := (2 : Int32)) (by decide) (pc' := 21) rfl ?_
  refine F_iloadN X1 d5_21 rfl (pc' := 22) rfl ?_
  refine F_isub X1 d5_22 (z := (2 : Int32)) (by decide) (pc' := 23) rfl ?_
  refine F_istore X1 d5_23 (Ls' := #[.val (.ref o6), .val (.int (0 : Int32)), .val (.int (3 : Int32)), .val (.ref o4), .val (.ref o5), .val (.ref o6), .val (.int (2 : Int32)), .unset]) rfl (pc' := 25) rfl ?_
  refine F_iload X1 d5_25 rfl (pc' := 27) rfl ?_
  refine F_if_ne X1 d5_27 (by decide) (pt := 34) (by decide) (pc' := 30) rfl (fun _ => ?_) (fun q => absurd q (by decide))
  refine F_iload X1 d5_34 rfl (pc' := 36) rfl ?_
  refine F_iconst X1 d5_36 (z := (1 : Int32)) (by decide) (pc' := 37) rfl ?_
  refine F_icmp_ne X1 d5_37 (by decide) (pt := 45) (by decide) (pc' := 40) rfl (fun _ => ?_) (fun q => absurd q (by decide))
  refine F_aload X1 d5_45 rfl rfl (pc' := 47) rfl ?_
  refine F_astore X1 d5_47 rfl (Ls' := #[.val (.ref o6), .val (.int (0 : Int32)), .val (.int (3 : Int32)), .val (.ref o4), .val (.ref o5), .val (.ref o6), .val (.int (2 : Int32)), .val (.ref o6)]) rfl (pc' := 49) rfl ?_
  refine F_aloadN X1 d5_49 rfl rfl (pc' := 50) rfl ?_
  refine F_aload X1 d5_50 rfl rfl (pc' := 52) rfl ?_
  refine F_acmp X1 (same := true) d5_52 rfl rfl (decide_eq_true rfl) (by decide) (pc' := 55) (by decide) ?_
  refine F_iconst X1 d5_55 (z := (1 : Int32)) (by decide) (pc' := 56) rfl ?_
  refine F_goto X1 d5_56 (by decide) (pc' := 60) (by decide) ?_
  refine F_ireturn_boolean (z' := (1 : Int32)) X1 (by decide) d5_60 rfl (by decide) (by decide) ?_
  exact ⟨rfl, rfl⟩
theorem ef_conE3_1 (m : MethodId) (x4 : Addr) (x3 : Addr) (x5 : Addr) : entryFrame m #[(.ref x4), (.int (1 : Int32)), (.int (3 : Int32)), (.ref x3), (.ref x4), (.ref x5)] 8 = mkF m 0 #[.val (.ref x4), .val (.int (1 : Int32)), .val (.int (3 : Int32)), .val (.ref x3), .val (.ref x4), .val (.ref x5), .unset, .unset] [] := by first | (simp [entryFrame, mkF, argsToLocals, Value.category]; done) | rfl
set_option maxRecDepth 65536 in
set_option maxHeartbeats 40000000 in
theorem conE3_1 (l : Launch) (Z : State) (a0 : Array Value) (hw : ∀ d ∈ tables_1, d.before a0 Z = true) (n0 : Nat) (h : Heap) (hn0 : n0 ≤ h.size) (o5 : Addr) (o4 : Addr) (o6 : Addr) (F_next_o5 : Fld Z h o5 "com/example/frame4/frame4/ChunkPool$Chunk" "next" "Lcom/example/frame4/frame4/ChunkPool$Chunk;" .null) :
    Con l (⟨"com/example/frame4/frame4/ChunkPoolGiveBackPinLaw", "expect", "(Lcom/example/frame4/frame4/ChunkPool$Chunk;IILcom/example/frame4/frame4/ChunkPool$Chunk;Lcom/example/frame4/frame4/ChunkPool$Chunk;Lcom/example/frame4/frame4/ChunkPool$Chunk;)Z"⟩ : MethodName) method_3_code 8 (some .boolean) ({ frames := 0, cells := 0, slots := 0, locals := 0 } : Room) 0 0 Z n0 #[(.ref o5), (.int (1 : Int32)), (.int (3 : Int32)), (.ref o4), (.ref o5), (.ref o6)] h (fun v h' => v = some (.int (1 : Int32)) ∧ h = h') := by
  refine Con.body (own := "com/example/frame4/frame4/ChunkPoolGiveBackPinLaw") (nm := "expect") rfl rfl (plainFor_of_name pn5) hn0 ?_
  intro p e s m below meth c T0 X0
  rw [ef_conE3_1]
  refine F_aloadN X0 d5_0 rfl rfl (pc' := 1) rfl ?_
  refine F_ifnull_ref X0 d5_1 (pc' := 4) rfl ?_
  refine F_aloadN X0 d5_4 rfl rfl (pc' := 5) rfl ?_
  refine F_getfield X0 (wd32 hw) F_next_o5 d5_5 (pc' := 8) rfl fun T1 X1 => ?_
  refine F_ifnull_null X1 d5_8 (by decide) (pt := 13) (by decide) ?_
  refine F_iloadN X1 d5_13 rfl (pc' := 14) rfl ?_
  refine F_iloadN X1 d5_14 rfl (pc' := 15) rfl ?_
  refine F_icmp_ge X1 d5_15 (by decide) (pt := 61) (by decide) (pc' := 18) rfl (fun q => absurd q (by decide)) (fun _ => ?_)
  refine F_iloadN X1 d5_18 rfl (pc' := 19) rfl ?_
  refine F_iconst X1 d5_19 (z := (1 : Int32)) (by decide) (pc' := 20) rfl ?_
  refine F_isub X1 d5_20 (z := (2 : Int32)) (by decide) (pc' := 21) rfl ?_
  refine F_iloadN X1 d5_21 rfl (pc' := 22) rfl ?_
  refine F_isub X1 d5_22 (z := (1 : Int32)) (by decide) (pc' := 23) rfl ?_
  refine F_istore X1 d5_23 (Ls' := #[.val (.ref o5), .val (.int (1 : Int32)), .val (.int (3 : Int32)), .val (.ref o4), .val (.ref o5), .val (.ref o6), .val (.int (1 : Int32)), .unset]) rfl (pc' := 25) rfl ?_
  refine F_iload X1 d5_25 rfl (pc' := 27) rfl ?_
  refine F_if_ne X1 d5_27 (by decide) (pt := 34) (by decide) (pc' := 30) rfl (fun _ => ?_) (fun q => absurd q (by decide))
  refine F_iload X1 d5_34 rfl (pc' := 36) rfl ?_
  refine F_iconst X1 d5_36 (z := (1 : Int32)) (by decide) (pc' := 37) rfl ?_
  refine F_icmp_ne X1 d5_37 (by decide) (pt := 45) (by decide) (pc' := 40) rfl (fun q => absurd q (by decide)) (fun _ => ?_)
  refine F_aload X1 d5_40 rfl rfl (pc' := 42) rfl ?_
  refine F_goto X1 d5_42 (by decide) (pc' := 47) (by decide) ?_
  refine F_astore X1 d5_47 rfl (Ls' := #[.val (.ref o5), .val (.int (1 : Int32)), .val (.int (3 : Int32)), .val (.ref o4), .val (.ref o5), .val (.ref o6), .val (.int (1 : Int32)), .val (.ref o5)]) rfl (pc' := 49) rfl ?_
  refine F_aloadN X1 d5_49 rfl rfl (pc' := 50) rfl ?_
  refine F_aload X1 d5_50 rfl rfl (pc' := 52) rfl ?_
  refine F_acmp X1 (same := true) d5_52 rfl rfl (decide_eq_true rfl) (by decide) (pc' := 55) (by decide) ?_
  refine F_iconst X1 d5_55 (z := (1 : Int32)) (by decide) (pc' := 56) rfl ?_
  refine F_goto X1 d5_56 (by decide) (pc' := 60) (by decide) ?_
  refine F_ireturn_boolean (z' := (1 : Int32)) X1 (by decide) d5_60 rfl (by decide) (by decide) ?_
  exact ⟨rfl, rfl⟩
theorem ef_conE3_2 (m : MethodId) (x3 : Addr) (x4 : Addr) (x5 : Addr) : entryFrame m #[(.ref x3), (.int (2 : Int32)), (.int (3 : Int32)), (.ref x3), (.ref x4), (.ref x5)] 8 = mkF m 0 #[.val (.ref x3), .val (.int (2 : Int32)), .val (.int (3 : Int32)), .val (.ref x3), .val (.ref x4), .val (.ref x5), .unset, .unset] [] := by first | (simp [entryFrame, mkF, argsToLocals, Value.category]; done) | rfl
set_option maxRecDepth 65536 in
set_option maxHeartbeats 40000000 in
theorem conE3_2 (l : Launch) (Z : State) (a0 : Array Value) (hw : ∀ d ∈ tables_1, d.before a0 Z = true) (n0 : Nat) (h : Heap) (hn0 : n0 ≤ h.size) (o4 : Addr) (o5 : Addr) (o6 : Addr) (F_next_o4 : Fld Z h o4 "com/example/frame4/frame4/ChunkPool$Chunk" "next" "Lcom/example/frame4/frame4/ChunkPool$Chunk;" .null) :
    Con l (⟨"com/example/frame4/frame4/ChunkPoolGiveBackPinLaw", "expect", "(Lcom/example/frame4/frame4/ChunkPool$Chunk;IILcom/example/frame4/frame4/ChunkPool$Chunk;Lcom/example/frame4/frame4/ChunkPool$Chunk;Lcom/example/frame4/frame4/ChunkPool$Chunk;)Z"⟩ : MethodName) method_3_code 8 (some .boolean) ({ frames := 0, cells := 0, slots := 0, locals := 0 } : Room) 0 0 Z n0 #[(.ref o4), (.int (2 : Int32)), (.int (3 : Int32)), (.ref o4), (.ref o5), (.ref o6)] h (fun v h' => v = some (.int (1 : Int32)) ∧ h = h') := by
  refine Con.body (own := "com/example/frame4/frame4/ChunkPoolGiveBackPinLaw") (nm := "expect") rfl rfl (plainFor_of_name pn5) hn0 ?_
  intro p e s m below meth c T0 X0
  rw [ef_conE3_2]
  refine F_aloadN X0 d5_0 rfl rfl (pc' := 1) rfl ?_
  refine F_ifnull_ref X0 d5_1 (pc' := 4) rfl ?_
  refine F_aloadN X0 d5_4 rfl rfl (pc' := 5) rfl ?_
  refine F_getfield X0 (wd32 hw) F_next_o4 d5_5 (pc' := 8) rfl fun T1 X1 => ?_
  refine F_ifnull_null X1 d5_8 (by decide) (pt := 13) (by decide) ?_
  refine F_iloadN X1 d5_13 rfl (pc' := 14) rfl ?_
  refine F_iloadN X1 d5_14 rfl (pc' := 15) rfl ?_
  refine F_icmp_ge X1 d5_15 (by decide) (pt := 61) (by decide) (pc' := 18) rfl (fun q => absurd q (by decide)) (fun _ => ?_)
  refine F_iloadN X1 d5_18 rfl (pc' := 19) rfl ?_
  refine F_iconst X1 d5_19 (z := (1 : Int32)) (by decide) (pc' := 20) rfl ?_
  refine F_isub X1 d5_20 (z := (2 : Int32)) (by decide) (pc' := 21) rfl ?_
  refine F_iloadN X1 d5_21 rfl (pc' := 22) rfl ?_
  refine F_isub X1 d5_22 (z := (0 : Int32)) (by decide) (pc' := 23) rfl ?_
  refine F_istore X1 d5_23 (Ls' := #[.val (.ref o4), .val (.int (2 : Int32)), .val (.int (3 : Int32)), .val (.ref o4), .val (.ref o5), .val (.ref o6), .val (.int (0 : Int32)), .unset]) rfl (pc' := 25) rfl ?_
  refine F_iload X1 d5_25 rfl (pc' := 27) rfl ?_
  refine F_if_ne X1 d5_27 (by decide) (pt := 34) (by decide) (pc' := 30) rfl (fun q => absurd q (by decide)) (fun _ => ?_)
  refine F_aloadN X1 d5_30 rfl rfl (pc' := 31) rfl ?_
  refine F_goto X1 d5_31 (by decide) (pc' := 47) (by decide) ?_
  refine F_astore X1 d5_47 rfl (Ls' := #[.val (.ref o4), .val (.int (2 : Int32)), .val (.int (3 : Int32)), .val (.ref o4), .val (.ref o5), .val (.ref o6), .val (.int (0 : Int32)), .val (.ref o4)]) rfl (pc' := 49) rfl ?_
  refine F_aloadN X1 d5_49 rfl rfl (pc' := 50) rfl ?_
  refine F_aload X1 d5_50 rfl rfl (pc' := 52) rfl ?_
  refine F_acmp X1 (same := true) d5_52 rfl rfl (decide_eq_true rfl) (by decide) (pc' := 55) (by decide) ?_
  refine F_iconst X1 d5_55 (z := (1 : Int32)) (by decide) (pc' := 56) rfl ?_
  refine F_goto X1 d5_56 (by decide) (pc' := 60) (by decide) ?_
  refine F_ireturn_boolean (z' := (1 : Int32)) X1 (by decide) d5_60 rfl (by decide) (by decide) ?_
  exact ⟨rfl, rfl⟩
theorem ef_conE3_3 (m : MethodId) (x0 : Addr) (x3 : Addr) (x4 : Addr) (x5 : Addr) : entryFrame m #[(.ref x0), (.int (3 : Int32)), (.int (3 : Int32)), (.ref x3), (.ref x4), (.ref x5)] 8 = mkF m 0 #[.val (.ref x0), .val (.int (3 : Int32)), .val (.int (3 : Int32)), .val (.ref x3), .val (.ref x4), .val (.ref x5), .unset, .unset] [] := by first | (simp [entryFrame, mkF, argsToLocals, Value.category]; done) | rfl
set_option maxRecDepth 65536 in
set_option maxHeartbeats 40000000 in
theorem conE3_3 (l : Launch) (Z : State) (a0 : Array Value) (hw : ∀ d ∈ tables_1, d.before a0 Z = true) (n0 : Nat) (h : Heap) (hn0 : n0 ≤ h.size) (o1 : Addr) (o4 : Addr) (o5 : Addr) (o6 : Addr) (F_next_o1 : Fld Z h o1 "com/example/frame4/frame4/ChunkPool$Chunk" "next" "Lcom/example/frame4/frame4/ChunkPool$Chunk;" .null) (ne_o1_o4 : o1 ≠ o4) (ne_o1_o5 : o1 ≠ o5) (ne_o1_o6 : o1 ≠ o6) :
    Con l (⟨"com/example/frame4/frame4/ChunkPoolGiveBackPinLaw", "expect", "(Lcom/example/frame4/frame4/ChunkPool$Chunk;IILcom/example/frame4/frame4/ChunkPool$Chunk;Lcom/example/frame4/frame4/ChunkPool$Chunk;Lcom/example/frame4/frame4/ChunkPool$Chunk;)Z"⟩ : MethodName) method_3_code 8 (some .boolean) ({ frames := 0, cells := 0, slots := 0, locals := 0 } : Room) 0 0 Z n0 #[(.ref o1), (.int (3 : Int32)), (.int (3 : Int32)), (.ref o4), (.ref o5), (.ref o6)] h (fun v h' => v = some (.int (1 : Int32)) ∧ h = h') := by
  refine Con.body (own := "com/example/frame4/frame4/ChunkPoolGiveBackPinLaw") (nm := "expect") rfl rfl (plainFor_of_name pn5) hn0 ?_
  intro p e s m below meth c T0 X0
  rw [ef_conE3_3]
  refine F_aloadN X0 d5_0 rfl rfl (pc' := 1) rfl ?_
  refine F_ifnull_ref X0 d5_1 (pc' := 4) rfl ?_
  refine F_aloadN X0 d5_4 rfl rfl (pc' := 5) rfl ?_
  refine F_getfield X0 (wd32 hw) F_next_o1 d5_5 (pc' := 8) rfl fun T1 X1 => ?_
  refine F_ifnull_null X1 d5_8 (by decide) (pt := 13) (by decide) ?_
  refine F_iloadN X1 d5_13 rfl (pc' := 14) rfl ?_
  refine F_iloadN X1 d5_14 rfl (pc' := 15) rfl ?_
  refine F_icmp_ge X1 d5_15 (by decide) (pt := 61) (by decide) (pc' := 18) rfl (fun _ => ?_) (fun q => absurd q (by decide))
  refine F_aloadN X1 d5_61 rfl rfl (pc' := 62) rfl ?_
  refine F_aloadN X1 d5_62 rfl rfl (pc' := 63) rfl ?_
  refine F_acmp X1 (same := false) d5_63 rfl rfl (decide_eq_false fun q => ne_o1_o4 (Value.ref.inj q)) (by decide) (pc' := 66) (by decide) ?_
  refine F_aloadN X1 d5_66 rfl rfl (pc' := 67) rfl ?_
  refine F_aload X1 d5_67 rfl rfl (pc' := 69) rfl ?_
  refine F_acmp X1 (same := false) d5_69 rfl rfl (decide_eq_false fun q => ne_o1_o5 (Value.ref.inj q)) (by decide) (pc' := 72) (by decide) ?_
  refine F_aloadN X1 d5_72 rfl rfl (pc' := 73) rfl ?_
  refine F_aload X1 d5_73 rfl rfl (pc' := 75) rfl ?_
  refine F_acmp X1 (same := false) d5_75 rfl rfl (decide_eq_false fun q => ne_o1_o6 (Value.ref.inj q)) (by decide) (pc' := 78) (by decide) ?_
  refine F_iconst X1 d5_78 (z := (1 : Int32)) (by decide) (pc' := 79) rfl ?_
  refine F_goto X1 d5_79 (by decide) (pc' := 83) (by decide) ?_
  refine F_ireturn_boolean (z' := (1 : Int32)) X1 (by decide) d5_83 rfl (by decide) (by decide) ?_
  exact ⟨rfl, rfl⟩
theorem pn0 : plainName "com/example/frame4/frame4/ChunkPoolGiveBackPinLaw" = true := by first | (simp [plainName, overriddenIn]; done) | decide +kernel
theorem ef_con0 (m : MethodId) (x0 : Int32) : entryFrame m #[(.int x0)] maxLocals = mkF m 0 #[.val (.int x0), .unset, .unset, .unset, .unset, .unset, .unset, .unset, .unset, .unset, .unset, .unset, .unset] [] := by first | (simp [entryFrame, mkF, argsToLocals, Value.category, maxLocals]; done) | rfl
set_option maxRecDepth 65536 in
set_option maxHeartbeats 40000000 in
theorem con0 (l : Launch) (Z : State) (a0 : Array Value) (hw : ∀ d ∈ tables_1, d.before a0 Z = true) (n0 : Nat) (h : Heap) (hn0 : n0 ≤ h.size) (u1 : Int32) :
    Con l x code maxLocals ret room_1 40 57472 Z n0 #[(.int u1)] h (fun v h' => v = some (.int (1 : Int32))) := by
  refine Con.body (own := "com/example/frame4/frame4/ChunkPoolGiveBackPinLaw") (nm := "law") rfl rfl (plainFor_of_name pn0) hn0 ?_
  intro p e s m below meth c T0 X0
  rw [ef_con0]
  refine F_iloadN X0 at_0 rfl (pc' := 1) rfl ?_
  refine F_iconst X0 at_1 (z := (3 : Int32)) (by decide) (pc' := 2) rfl ?_
  obtain ⟨nn, hnn⟩ : ∃ z : Int32, u1 &&& (3 : Int32) = z := ⟨_, rfl⟩
  refine F_iand X0 at_2 (z := nn) hnn (pc' := 3) rfl ?_
  rcases (own_m3 hnn) with rfl | rfl | rfl | rfl
  · refine F_istoreN X0 at_3 (Ls' := #[.val (.int u1), .val (.int (0 : Int32)), .unset, .unset, .unset, .unset, .unset, .unset, .unset, .unset, .unset, .unset, .unset]) rfl (pc' := 4) rfl ?_
    refine F_iloadN X0 at_4 rfl (pc' := 5) rfl ?_
    refine F_iconst X0 at_5 (z := (2 : Int32)) (by decide) (pc' := 6) rfl ?_
    refine F_iushr X0 at_6 rfl (pc' := 7) rfl ?_
    refine F_iconst X0 at_7 (z := (1 : Int32)) (by decide) (pc' := 8) rfl ?_
    refine F_iand X0 at_8 rfl (pc' := 9) rfl ?_
    refine F_if_eq X0 at_9 (by decide) (pt := 16) (by decide) (pc' := 12) rfl (fun hc9_1 => ?_) (fun hc9_1 => ?_)
    · refine F_iconst X0 at_16 (z := (0 : Int32)) (by decide) (pc' := 17) rfl ?_
      refine F_istoreN X0 at_17 (Ls' := #[.val (.int u1), .val (.int (0 : Int32)), .val (.int (0 : Int32)), .unset, .unset, .unset, .unset, .unset, .unset, .unset, .unset, .unset, .unset]) rfl (pc' := 18) rfl ?_
      refine F_new X0 (wd0 hw) (wd1 hw) (wd2 hw) (by decide) (by decide) at_18 (pc' := 21) rfl fun T2 h2 b2 X2 Ex2 g2 ge2 E_b2 D2 => ?_
      have F2_idle_b2 : Fld Z h2 b2 "com/example/frame4/frame4/ChunkPool" "idle" "Lcom/example/frame4/frame4/ChunkPool$Chunk;" .null := D2 (Or.inl (wd25 hw)) (ty := (.object "com/example/frame4/frame4/ChunkPool$Chunk")) (by decide)
      have F2_idleCount_b2 : Fld Z h2 b2 "com/example/frame4/frame4/ChunkPool" "idleCount" "I" (.int (0 : Int32)) := D2 (Or.inl (wd40 hw)) (ty := .int) (by decide)
      replace X2 := X2.more (cells' := 1) (slots' := 2) (by decide) (by decide)
      refine F_dup X2 at_21 rfl (pc' := 22) rfl ?_
      refine F_init X2 (y := (⟨"com/example/frame4/frame4/ChunkPool", "<init>", "()V"⟩ : MethodName)) (stk := [(.ref b2)]) rfl (wd3 hw) (wd4 hw) (wd2 hw) (wd5 hw) (by decide) (a := b2) (argsL := []) (conPI l Z a0 hw n0 h2 X2.size b2) (by decide) (W := 1) (Nat.le_of_ble_eq_true rfl) (by decide) (by decide) (by decide) rfl (lenOf pd0 rfl) rfl at_22 (pc' := 25) rfl fun T3 v3 h3 X3 q3 => ?_
      obtain ⟨rfl, rfl⟩ := q3
      replace X3 := X3.more (cells' := 1) (slots' := 2) (by decide) (by decide)
      show Jvm.OwnKit.Ends p e below s n0 40 57472 _ T3 (mkF m 25 #[.val (.int u1), .val (.int (0 : Int32)), .val (.int (0 : Int32)), .unset, .unset, .unset, .unset, .unset, .unset, .unset, .unset, .unset, .unset] [(.ref b2)])
      refine F_astoreN X3 at_25 rfl (Ls' := #[.val (.int u1), .val (.int (0 : Int32)), .val (.int (0 : Int32)), .val (.ref b2), .unset, .unset, .unset, .unset, .unset, .unset, .unset, .unset, .unset]) rfl (pc' := 26) rfl ?_
      refine F_new X3 (wd9 hw) (wd10 hw) (wd11 hw) (by decide) (by decide) at_26 (pc' := 29) rfl fun T4 h4 b4 X4 Ex4 g4 ge4 E_b4 D4 => ?_
      have ne_b2_b4 : b2 ≠ b4 := Nat.ne_of_lt (Nat.lt_of_lt_of_le E_b2.lt (Nat.le_of_eq g4.symm))
      have E4_b2 := E_b2.ext Ex4
      have F4_idle_b2 := F2_idle_b2.ext Ex4
      have F4_idleCount_b2 := F2_idleCount_b2.ext Ex4
      have F4_bytes_b4 : Fld Z h4 b4 "com/example/frame4/frame4/ChunkPool$Chunk" "bytes" "[B" .null := D4 (Or.inr (wd18 hw)) (ty := (.array .byte)) (by decide)
      have F4_next_b4 : Fld Z h4 b4 "com/example/frame4/frame4/ChunkPool$Chunk" "next" "Lcom/example/frame4/frame4/ChunkPool$Chunk;" .null := D4 (Or.inl (wd33 hw)) (ty := (.object "com/example/frame4/frame4/ChunkPool$Chunk")) (by decide)
      replace X4 := X4.more (cells' := 2) (slots' := 4) (by decide) (by decide)
      refine F_dup X4 at_29 rfl (pc' := 30) rfl ?_
      refine F_init X4 (y := (⟨"com/example/frame4/frame4/ChunkPool$Chunk", "<init>", "()V"⟩ : MethodName)) (stk := [(.ref b4)]) rfl (wd12 hw) (wd13 hw) (wd11 hw) (wd14 hw) (by decide) (a := b4) (argsL := []) (conCI l Z a0 hw n0 h4 X4.size b4 E_b4 F4_bytes_b4 F4_next_b4 ge4) (by decide) (W := 1) (Nat.le_of_ble_eq_true rfl) (by decide) (by decide) (by decide) rfl (lenOf pd0 rfl) rfl at_30 (pc' := 33) rfl fun T5 v5 h5 X5 q5 => ?_
      obtain ⟨rfl, Kp5, F5_next_b4⟩ := q5
      have E5k_b2 := E4_b2.keep Kp5
      have E5k_b4 := E_b4.keep Kp5
      have F5k_idle_b2 := F4_idle_b2.keep Kp5 (ninS ne_b2_b4 nin0)
      have F5k_idleCount_b2 := F4_idleCount_b2.keep Kp5 (ninS ne_b2_b4 nin0)
      replace X5 := X5.more (cells' := 3) (slots' := 4100) (by decide) (by decide)
      show Jvm.OwnKit.Ends p e below s n0 40 57472 _ T5 (mkF m 33 #[.val (.int u1), .val (.int (0 : Int32)), .val (.int (0 : Int32)), .val (.ref b2), .unset, .unset, .unset, .unset, .unset, .unset, .unset, .unset, .unset] [(.ref b4)])
      refine F_astore X5 at_33 rfl (Ls' := #[.val (.int u1), .val (.int (0 : Int32)), .val (.int (0 : Int32)), .val (.ref b2), .val (.ref b4), .unset, .unset, .unset, .unset, .unset, .unset, .unset, .unset]) rfl (pc' := 35) rfl ?_
      refine F_new X5 (wd9 hw) (wd10 hw) (wd11 hw) (by decide) (by decide) at_35 (pc' := 38) rfl fun T6 h6 b6 X6 Ex6 g6 ge6 E_b6 D6 => ?_
      have ne_b2_b6 : b2 ≠ b6 := Nat.ne_of_lt (Nat.lt_of_lt_of_le E5k_b2.lt (Nat.le_of_eq g6.symm))
      have ne_b4_b6 : b4 ≠ b6 := Nat.ne_of_lt (Nat.lt_of_lt_of_le E5k_b4.lt (Nat.le_of_eq g6.symm))
      have E6_b2 := E5k_b2.ext Ex6
      have E6_b4 := E5k_b4.ext Ex6
      have F6_idle_b2 := F5k_idle_b2.ext Ex6
      have F6_idleCount_b2 := F5k_idleCount_b2.ext Ex6
      have F6_next_b4 := F5_next_b4.ext Ex6
      have F6_bytes_b6 : Fld Z h6 b6 "com/example/frame4/frame4/ChunkPool$Chunk" "bytes" "[B" .null := D6 (Or.inr (wd18 hw)) (ty := (.array .byte)) (by decide)
      have F6_next_b6 : Fld Z h6 b6 "com/example/frame4/frame4/ChunkPool$Chunk" "next" "Lcom/example/frame4/frame4/ChunkPool$Chunk;" .null := D6 (Or.inl (wd33 hw)) (ty := (.object "com/example/frame4/frame4/ChunkPool$Chunk")) (by decide)
      replace X6 := X6.more (cells' := 4) (slots' := 4102) (by decide) (by decide)
      refine F_dup X6 at_38 rfl (pc' := 39) rfl ?_
      refine F_init X6 (y := (⟨"com/example/frame4/frame4/ChunkPool$Chunk", "<init>", "()V"⟩ : MethodName)) (stk := [(.ref b6)]) rfl (wd12 hw) (wd13 hw) (wd11 hw) (wd14 hw) (by decide) (a := b6) (argsL := []) (conCI l Z a0 hw n0 h6 X6.size b6 E_b6 F6_bytes_b6 F6_next_b6 ge6) (by decide) (W := 1) (Nat.le_of_ble_eq_true rfl) (by decide) (by decide) (by decide) rfl (lenOf pd0 rfl) rfl at_39 (pc' := 42) rfl fun T7 v7 h7 X7 q7 => ?_
      obtain ⟨rfl, Kp7, F7_next_b6⟩ := q7
      have E7k_b2 := E6_b2.keep Kp7
      have E7k_b4 := E6_b4.keep Kp7
      have E7k_b6 := E_b6.keep Kp7
      have F7k_idle_b2 := F6_idle_b2.keep Kp7 (ninS ne_b2_b6 nin0)
      have F7k_idleCount_b2 := F6_idleCount_b2.keep Kp7 (ninS ne_b2_b6 nin0)
      have F7k_next_b4 := F6_next_b4.keep Kp7 (ninS ne_b4_b6 nin0)
      replace X7 := X7.more (cells' := 5) (slots' := 8198) (by decide) (by decide)
      show Jvm.OwnKit.Ends p e below s n0 40 57472 _ T7 (mkF m 42 #[.val (.int u1), .val (.int (0 : Int32)), .val (.int (0 : Int32)), .val (.ref b2), .val (.ref b4), .unset, .unset, .unset, .unset, .unset, .unset, .unset, .unset] [(.ref b6)])
      refine F_astore X7 at_42 rfl (Ls' := #[.val (.int u1), .val (.int (0 : Int32)), .val (.int (0 : Int32)), .val (.ref b2), .val (.ref b4), .val (.ref b6), .unset, .unset, .unset, .unset, .unset, .unset, .unset]) rfl (pc' := 44) rfl ?_
      refine F_new X7 (wd9 hw) (wd10 hw) (wd11 hw) (by decide) (by decide) at_44 (pc' := 47) rfl fun T8 h8 b8 X8 Ex8 g8 ge8 E_b8 D8 => ?_
      have ne_b2_b8 : b2 ≠ b8 := Nat.ne_of_lt (Nat.lt_of_lt_of_le E7k_b2.lt (Nat.le_of_eq g8.symm))
      have ne_b4_b8 : b4 ≠ b8 := Nat.ne_of_lt (Nat.lt_of_lt_of_le E7k_b4.lt (Nat.le_of_eq g8.symm))
      have ne_b6_b8 : b6 ≠ b8 := Nat.ne_of_lt (Nat.lt_of_lt_of_le E7k_b6.lt (Nat.le_of_eq g8.symm))
      have E8_b2 := E7k_b2.ext Ex8
      have E8_b4 := E7k_b4.ext Ex8
      have E8_b6 := E7k_b6.ext Ex8
      have F8_idle_b2 := F7k_idle_b2.ext Ex8
      have F8_idleCount_b2 := F7k_idleCount_b2.ext Ex8
      have F8_next_b4 := F7k_next_b4.ext Ex8
      have F8_next_b6 := F7_next_b6.ext Ex8
      have F8_bytes_b8 : Fld Z h8 b8 "com/example/frame4/frame4/ChunkPool$Chunk" "bytes" "[B" .null := D8 (Or.inr (wd18 hw)) (ty := (.array .byte)) (by decide)
      have F8_next_b8 : Fld Z h8 b8 "com/example/frame4/frame4/ChunkPool$Chunk" "next" "Lcom/example/frame4/frame4/ChunkPool$Chunk;" .null := D8 (Or.inl (wd33 hw)) (ty := (.object "com/example/frame4/frame4/ChunkPool$Chunk")) (by decide)
      replace X8 := X8.more (cells' := 6) (slots' := 8200) (by decide) (by decide)
      refine F_dup X8 at_47 rfl (pc' := 48) rfl ?_
      refine F_init X8 (y := (⟨"com/example/frame4/frame4/ChunkPool$Chunk", "<init>", "()V"⟩ : MethodName)) (stk := [(.ref b8)]) rfl (wd12 hw) (wd13 hw) (wd11 hw) (wd14 hw) (by decide) (a := b8) (argsL := []) (conCI l Z a0 hw n0 h8 X8.size b8 E_b8 F8_bytes_b8 F8_next_b8 ge8) (by decide) (W := 1) (Nat.le_of_ble_eq_true rfl) (by decide) (by decide) (by decide) rfl (lenOf pd0 rfl) rfl at_48 (pc' := 51) rfl fun T9 v9 h9 X9 q9 => ?_
      obtain ⟨rfl, Kp9, F9_next_b8⟩ := q9
      have E9k_b2 := E8_b2.keep Kp9
      have E9k_b4 := E8_b4.keep Kp9
      have E9k_b6 := E8_b6.keep Kp9
      have E9k_b8 := E_b8.keep Kp9
      have F9k_idle_b2 := F8_idle_b2.keep Kp9 (ninS ne_b2_b8 nin0)
      have F9k_idleCount_b2 := F8_idleCount_b2.keep Kp9 (ninS ne_b2_b8 nin0)
      have F9k_next_b4 := F8_next_b4.keep Kp9 (ninS ne_b4_b8 nin0)
      have F9k_next_b6 := F8_next_b6.keep Kp9 (ninS ne_b6_b8 nin0)
      replace X9 := X9.more (cells' := 7) (slots' := 12296) (by decide) (by decide)
      show Jvm.OwnKit.Ends p e below s n0 40 57472 _ T9 (mkF m 51 #[.val (.int u1), .val (.int (0 : Int32)), .val (.int (0 : Int32)), .val (.ref b2), .val (.ref b4), .val (.ref b6), .unset, .unset, .unset, .unset, .unset, .unset, .unset] [(.ref b8)])
      refine F_astore X9 at_51 rfl (Ls' := #[.val (.int u1), .val (.int (0 : Int32)), .val (.int (0 : Int32)), .val (.ref b2), .val (.ref b4), .val (.ref b6), .val (.ref b8), .unset, .unset, .unset, .unset, .unset, .unset]) rfl (pc' := 53) rfl ?_
      refine F_iloadN X9 at_53 rfl (pc' := 54) rfl ?_
      refine F_if_eq X9 at_54 (by decide) (pt := 78) (by decide) (pc' := 57) rfl (fun _ => ?_) (fun q => absurd q (by decide))
      refine F_iloadN X9 at_78 rfl (pc' := 79) rfl ?_
      refine F_iconst X9 at_79 (z := (1 : Int32)) (by decide) (pc' := 80) rfl ?_
      refine F_icmp_lt X9 at_80 (by decide) (pt := 89) (by decide) (pc' := 83) rfl (fun _ => ?_) (fun q => absurd q (by decide))
      refine F_iloadN X9 at_89 rfl (pc' := 90) rfl ?_
      refine F_iconst X9 at_90 (z := (2 : Int32)) (by decide) (pc' := 91) rfl ?_
      refine F_icmp_lt X9 at_91 (by decide) (pt := 100) (by decide) (pc' := 94) rfl (fun _ => ?_) (fun q => absurd q (by decide))
      refine F_iloadN X9 at_100 rfl (pc' := 101) rfl ?_
      refine F_iconst X9 at_101 (z := (3 : Int32)) (by decide) (pc' := 102) rfl ?_
      refine F_icmp_lt X9 at_102 (by decide) (pt := 111) (by decide) (pc' := 105) rfl (fun _ => ?_) (fun q => absurd q (by decide))
      refine F_aloadN X9 at_111 rfl rfl (pc' := 112) rfl ?_
      refine F_callV X9 (y := (⟨"com/example/frame4/frame4/ChunkPool", "take", "()Lcom/example/frame4/frame4/ChunkPool$Chunk;"⟩ : MethodName)) (stk := []) (wd19 hw) (wd20 hw) (wd22 hw) (wd21 hw) (wd2 hw) (wd23 hw) (by decide) (a := b2) E9k_b2 (argsL := []) (conT0 l Z a0 hw n0 h9 X9.size b2 F9k_idle_b2) (by decide) (W := 0) (Nat.le_of_ble_eq_true rfl) (by decide) (by decide) (by decide) rfl (lenOf pd1 rfl) rfl at_112 (pc' := 115) rfl fun T10 v10 h10 X10 q10 => ?_
      obtain ⟨b10_fb, rfl, sz10_fb, Kp10, E10_b10_fb, F10_next_b10_fb⟩ := q10
      have ge_b10_fb : n0 ≤ b10_fb := Nat.le_trans X9.size sz10_fb
      have ne_b2_b10_fb : b2 ≠ b10_fb := Nat.ne_of_lt (Nat.lt_of_lt_of_le E9k_b2.lt sz10_fb)
      have ne_b4_b10_fb : b4 ≠ b10_fb := Nat.ne_of_lt (Nat.lt_of_lt_of_le E9k_b4.lt sz10_fb)
      have ne_b6_b10_fb : b6 ≠ b10_fb := Nat.ne_of_lt (Nat.lt_of_lt_of_le E9k_b6.lt sz10_fb)
      have ne_b8_b10_fb : b8 ≠ b10_fb := Nat.ne_of_lt (Nat.lt_of_lt_of_le E9k_b8.lt sz10_fb)
      have E10k_b2 := E9k_b2.keep Kp10
      have E10k_b4 := E9k_b4.keep Kp10
      have E10k_b6 := E9k_b6.keep Kp10
      have E10k_b8 := E9k_b8.keep Kp10
      have F10k_idle_b2 := F9k_idle_b2.keep Kp10 nin0
      have F10k_idleCount_b2 := F9k_idleCount_b2.keep Kp10 nin0
      have F10k_next_b4 := F9k_next_b4.keep Kp10 nin0
      have F10k_next_b6 := F9k_next_b6.keep Kp10 nin0
      have F10k_next_b8 := F9_next_b8.keep Kp10 nin0
      replace X10 := X10.more (cells' := 9) (slots' := 16394) (by decide) (by decide)
      show Jvm.OwnKit.Ends p e below s n0 40 57472 _ T10 (mkF m 115 #[.val (.int u1), .val (.int (0 : Int32)), .val (.int (0 : Int32)), .val (.ref b2), .val (.ref b4), .val (.ref b6), .val (.ref b8), .unset, .unset, .unset, .unset, .unset, .unset] [(.ref b10_fb)])
      refine F_astore X10 at_115 rfl (Ls' := #[.val (.int u1), .val (.int (0 : Int32)), .val (.int (0 : Int32)), .val (.ref b2), .val (.ref b4), .val (.ref b6), .val (.ref b8), .val (.ref b10_fb), .unset, .unset, .unset, .unset, .unset]) rfl (pc' := 117) rfl ?_
      refine F_aloadN X10 at_117 rfl rfl (pc' := 118) rfl ?_
      refine F_callV X10 (y := (⟨"com/example/frame4/frame4/ChunkPool", "take", "()Lcom/example/frame4/frame4/ChunkPool$Chunk;"⟩ : MethodName)) (stk := []) (wd19 hw) (wd20 hw) (wd22 hw) (wd21 hw) (wd2 hw) (wd23 hw) (by decide) (a := b2) E10k_b2 (argsL := []) (conT0 l Z a0 hw n0 h10 X10.size b2 F10k_idle_b2) (by decide) (W := 0) (Nat.le_of_ble_eq_true rfl) (by decide) (by decide) (by decide) rfl (lenOf pd1 rfl) rfl at_118 (pc' := 121) rfl fun T11 v11 h11 X11 q11 => ?_
      obtain ⟨b11_fb, rfl, sz11_fb, Kp11, E11_b11_fb, F11_next_b11_fb⟩ := q11
      have ge_b11_fb : n0 ≤ b11_fb := Nat.le_trans X10.size sz11_fb
      have ne_b2_b11_fb : b2 ≠ b11_fb := Nat.ne_of_lt (Nat.lt_of_lt_of_le E10k_b2.lt sz11_fb)
      have ne_b4_b11_fb : b4 ≠ b11_fb := Nat.ne_of_lt (Nat.lt_of_lt_of_le E10k_b4.lt sz11_fb)
      have ne_b6_b11_fb : b6 ≠ b11_fb := Nat.ne_of_lt (Nat.lt_of_lt_of_le E10k_b6.lt sz11_fb)
      have ne_b8_b11_fb : b8 ≠ b11_fb := Nat.ne_of_lt (Nat.lt_of_lt_of_le E10k_b8.lt sz11_fb)
      have ne_b10_fb_b11_fb : b10_fb ≠ b11_fb := Nat.ne_of_lt (Nat.lt_of_lt_of_le E10_b10_fb.lt sz11_fb)
      have E11k_b2 := E10k_b2.keep Kp11
      have E11k_b4 := E10k_b4.keep Kp11
      have E11k_b6 := E10k_b6.keep Kp11
      have E11k_b8 := E10k_b8.keep Kp11
      have E11k_b10_fb := E10_b10_fb.keep Kp11
      have F11k_idle_b2 := F10k_idle_b2.keep Kp11 nin0
      have F11k_idleCount_b2 := F10k_idleCount_b2.keep Kp11 nin0
      have F11k_next_b4 := F10k_next_b4.keep Kp11 nin0
      have F11k_next_b6 := F10k_next_b6.keep Kp11 nin0
      have F11k_next_b8 := F10k_next_b8.keep Kp11 nin0
      have F11k_next_b10_fb := F10_next_b10_fb.keep Kp11 nin0
      replace X11 := X11.more (cells' := 11) (slots' := 20492) (by decide) (by decide)
      show Jvm.OwnKit.Ends p e below s n0 40 57472 _ T11 (mkF m 121 #[.val (.int u1), .val (.int (0 : Int32)), .val (.int (0 : Int32)), .val (.ref b2), .val (.ref b4), .val (.ref b6), .val (.ref b8), .val (.ref b10_fb), .unset, .unset, .unset, .unset, .unset] [(.ref b11_fb)])
      refine F_astore X11 at_121 rfl (Ls' := #[.val (.int u1), .val (.int (0 : Int32)), .val (.int (0 : Int32)), .val (.ref b2), .val (.ref b4), .val (.ref b6), .val (.ref b8), .val (.ref b10_fb), .val (.ref b11_fb), .unset, .unset, .unset, .unset]) rfl (pc' := 123) rfl ?_
      refine F_aloadN X11 at_123 rfl rfl (pc' := 124) rfl ?_
      refine F_callV X11 (y := (⟨"com/example/frame4/frame4/ChunkPool", "take", "()Lcom/example/frame4/frame4/ChunkPool$Chunk;"⟩ : MethodName)) (stk := []) (wd19 hw) (wd20 hw) (wd22 hw) (wd21 hw) (wd2 hw) (wd23 hw) (by decide) (a := b2) E11k_b2 (argsL := []) (conT0 l Z a0 hw n0 h11 X11.size b2 F11k_idle_b2) (by decide) (W := 0) (Nat.le_of_ble_eq_true rfl) (by decide) (by decide) (by decide) rfl (lenOf pd1 rfl) rfl at_124 (pc' := 127) rfl fun T12 v12 h12 X12 q12 => ?_
      obtain ⟨b12_fb, rfl, sz12_fb, Kp12, E12_b12_fb, F12_next_b12_fb⟩ := q12
      have ge_b12_fb : n0 ≤ b12_fb := Nat.le_trans X11.size sz12_fb
      have ne_b2_b12_fb : b2 ≠ b12_fb := Nat.ne_of_lt (Nat.lt_of_lt_of_le E11k_b2.lt sz12_fb)
      have ne_b4_b12_fb : b4 ≠ b12_fb := Nat.ne_of_lt (Nat.lt_of_lt_of_le E11k_b4.lt sz12_fb)
      have ne_b6_b12_fb : b6 ≠ b12_fb := Nat.ne_of_lt (Nat.lt_of_lt_of_le E11k_b6.lt sz12_fb)
      have ne_b8_b12_fb : b8 ≠ b12_fb := Nat.ne_of_lt (Nat.lt_of_lt_of_le E11k_b8.lt sz12_fb)
      have ne_b10_fb_b12_fb : b10_fb ≠ b12_fb := Nat.ne_of_lt (Nat.lt_of_lt_of_le E11k_b10_fb.lt sz12_fb)
      have ne_b11_fb_b12_fb : b11_fb ≠ b12_fb := Nat.ne_of_lt (Nat.lt_of_lt_of_le E11_b11_fb.lt sz12_fb)
      have E12k_b2 := E11k_b2.keep Kp12
      have E12k_b4 := E11k_b4.keep Kp12
      have E12k_b6 := E11k_b6.keep Kp12
      have E12k_b8 := E11k_b8.keep Kp12
      have E12k_b10_fb := E11k_b10_fb.keep Kp12
      have E12k_b11_fb := E11_b11_fb.keep Kp12
      have F12k_idle_b2 := F11k_idle_b2.keep Kp12 nin0
      have F12k_idleCount_b2 := F11k_idleCount_b2.keep Kp12 nin0
      have F12k_next_b4 := F11k_next_b4.keep Kp12 nin0
      have F12k_next_b6 := F11k_next_b6.keep Kp12 nin0
      have F12k_next_b8 := F11k_next_b8.keep Kp12 nin0
      have F12k_next_b10_fb := F11k_next_b10_fb.keep Kp12 nin0
      have F12k_next_b11_fb := F11_next_b11_fb.keep Kp12 nin0
      replace X12 := X12.more (cells' := 13) (slots' := 24590) (by decide) (by decide)
      show Jvm.OwnKit.Ends p e below s n0 40 57472 _ T12 (mkF m 127 #[.val (.int u1), .val (.int (0 : Int32)), .val (.int (0 : Int32)), .val (.ref b2), .val (.ref b4), .val (.ref b6), .val (.ref b8), .val (.ref b10_fb), .val (.ref b11_fb), .unset, .unset, .unset, .unset] [(.ref b12_fb)])
      refine F_astore X12 at_127 rfl (Ls' := #[.val (.int u1), .val (.int (0 : Int32)), .val (.int (0 : Int32)), .val (.ref b2), .val (.ref b4), .val (.ref b6), .val (.ref b8), .val (.ref b10_fb), .val (.ref b11_fb), .val (.ref b12_fb), .unset, .unset, .unset]) rfl (pc' := 129) rfl ?_
      refine F_aloadN X12 at_129 rfl rfl (pc' := 130) rfl ?_
      refine F_callV X12 (y := (⟨"com/example/frame4/frame4/ChunkPool", "take", "()Lcom/example/frame4/frame4/ChunkPool$Chunk;"⟩ : MethodName)) (stk := []) (wd19 hw) (wd20 hw) (wd22 hw) (wd21 hw) (wd2 hw) (wd23 hw) (by decide) (a := b2) E12k_b2 (argsL := []) (conT0 l Z a0 hw n0 h12 X12.size b2 F12k_idle_b2) (by decide) (W := 0) (Nat.le_of_ble_eq_true rfl) (by decide) (by decide) (by decide) rfl (lenOf pd1 rfl) rfl at_130 (pc' := 133) rfl fun T13 v13 h13 X13 q13 => ?_
      obtain ⟨b13_fb, rfl, sz13_fb, Kp13, E13_b13_fb, F13_next_b13_fb⟩ := q13
      have ge_b13_fb : n0 ≤ b13_fb := Nat.le_trans X12.size sz13_fb
      have ne_b2_b13_fb : b2 ≠ b13_fb := Nat.ne_of_lt (Nat.lt_of_lt_of_le E12k_b2.lt sz13_fb)
      have ne_b4_b13_fb : b4 ≠ b13_fb := Nat.ne_of_lt (Nat.lt_of_lt_of_le E12k_b4.lt sz13_fb)
      have ne_b6_b13_fb : b6 ≠ b13_fb := Nat.ne_of_lt (Nat.lt_of_lt_of_le E12k_b6.lt sz13_fb)
      have ne_b8_b13_fb : b8 ≠ b13_fb := Nat.ne_of_lt (Nat.lt_of_lt_of_le E12k_b8.lt sz13_fb)
      have ne_b10_fb_b13_fb : b10_fb ≠ b13_fb := Nat.ne_of_lt (Nat.lt_of_lt_of_le E12k_b10_fb.lt sz13_fb)
      have ne_b11_fb_b13_fb : b11_fb ≠ b13_fb := Nat.ne_of_lt (Nat.lt_of_lt_of_le E12k_b11_fb.lt sz13_fb)
      have ne_b12_fb_b13_fb : b12_fb ≠ b13_fb := Nat.ne_of_lt (Nat.lt_of_lt_of_le E12_b12_fb.lt sz13_fb)
      have E13k_b2 := E12k_b2.keep Kp13
      have E13k_b4 := E12k_b4.keep Kp13
      have E13k_b6 := E12k_b6.keep Kp13
      have E13k_b8 := E12k_b8.keep Kp13
      have E13k_b10_fb := E12k_b10_fb.keep Kp13
      have E13k_b11_fb := E12k_b11_fb.keep Kp13
      have E13k_b12_fb := E12_b12_fb.keep Kp13
      have F13k_idle_b2 := F12k_idle_b2.keep Kp13 nin0
      have F13k_idleCount_b2 := F12k_idleCount_b2.keep Kp13 nin0
      have F13k_next_b4 := F12k_next_b4.keep Kp13 nin0
      have F13k_next_b6 := F12k_next_b6.keep Kp13 nin0
      have F13k_next_b8 := F12k_next_b8.keep Kp13 nin0
      have F13k_next_b10_fb := F12k_next_b10_fb.keep Kp13 nin0
      have F13k_next_b11_fb := F12k_next_b11_fb.keep Kp13 nin0
      have F13k_next_b12_fb := F12_next_b12_fb.keep Kp13 nin0
      replace X13 := X13.more (cells' := 15) (slots' := 28688) (by decide) (by decide)
      show Jvm.OwnKit.Ends p e below s n0 40 57472 _ T13 (mkF m 133 #[.val (.int u1), .val (.int (0 : Int32)), .val (.int (0 : Int32)), .val (.ref b2), .val (.ref b4), .val (.ref b6), .val (.ref b8), .val (.ref b10_fb), .val (.ref b11_fb), .val (.ref b12_fb), .unset, .unset, .unset] [(.ref b13_fb)])
      refine F_astore X13 at_133 rfl (Ls' := #[.val (.int u1), .val (.int (0 : Int32)), .val (.int (0 : Int32)), .val (.ref b2), .val (.ref b4), .val (.ref b6), .val (.ref b8), .val (.ref b10_fb), .val (.ref b11_fb), .val (.ref b12_fb), .val (.ref b13_fb), .unset, .unset]) rfl (pc' := 135) rfl ?_
      refine F_aload X13 at_135 rfl rfl (pc' := 137) rfl ?_
      refine F_iconst X13 at_137 (z := (0 : Int32)) (by decide) (pc' := 138) rfl ?_
      refine F_iloadN X13 at_138 rfl (pc' := 139) rfl ?_
      refine F_aload X13 at_139 rfl rfl (pc' := 141) rfl ?_
      refine F_aload X13 at_141 rfl rfl (pc' := 143) rfl ?_
      refine F_aload X13 at_143 rfl rfl (pc' := 145) rfl ?_
      refine F_callS X13 (y := (⟨"com/example/frame4/frame4/ChunkPoolGiveBackPinLaw", "expect", "(Lcom/example/frame4/frame4/ChunkPool$Chunk;IILcom/example/frame4/frame4/ChunkPool$Chunk;Lcom/example/frame4/frame4/ChunkPool$Chunk;Lcom/example/frame4/frame4/ChunkPool$Chunk;)Z"⟩ : MethodName)) (stk := []) (wd28 hw) (wd29 hw) (wd30 hw) (wd31 hw) (by decide) (argsL := [(.ref b10_fb), (.int (0 : Int32)), (.int (0 : Int32)), (.ref b4), (.ref b6), (.ref b8)]) (conE0_0 l Z a0 hw n0 h13 X13.size b10_fb b4 b6 b8 F13k_next_b10_fb (Ne.symm ne_b4_b10_fb) (Ne.symm ne_b6_b10_fb) (Ne.symm ne_b8_b10_fb)) (by decide) (W := 0) (Nat.le_of_ble_eq_true rfl) (by decide) (by decide) (by decide) rfl (lenOf pd2 rfl) rfl at_145 (pc' := 148) rfl fun T14 v14 h14 X14 q14 => ?_
      obtain ⟨rfl, rfl⟩ := q14
      replace X14 := X14.more (cells' := 15) (slots' := 28688) (by decide) (by decide)
      show Jvm.OwnKit.Ends p e below s n0 40 57472 _ T14 (mkF m 148 #[.val (.int u1), .val (.int (0 : Int32)), .val (.int (0 : Int32)), .val (.ref b2), .val (.ref b4), .val (.ref b6), .val (.ref b8), .val (.ref b10_fb), .val (.ref b11_fb), .val (.ref b12_fb), .val (.ref b13_fb), .unset, .unset] [(.int (1 : Int32))])
      refine F_if_eq X14 at_148 (by decide) (pt := 203) (by decide) (pc' := 151) rfl (fun q => absurd q (by decide)) (fun _ => ?_)
      refine F_aload X14 at_151 rfl rfl (pc' := 153) rfl ?_
      refine F_iconst X14 at_153 (z := (1 : Int32)) (by decide) (pc' := 154) rfl ?_
      refine F_iloadN X14 at_154 rfl (pc' := 155) rfl ?_
      refine F_aload X14 at_155 rfl rfl (pc' := 157) rfl ?_
      refine F_aload X14 at_157 rfl rfl (pc' := 159) rfl ?_
      refine F_aload X14 at_159 rfl rfl (pc' := 161) rfl ?_
      refine F_callS X14 (y := (⟨"com/example/frame4/frame4/ChunkPoolGiveBackPinLaw", "expect", "(Lcom/example/frame4/frame4/ChunkPool$Chunk;IILcom/example/frame4/frame4/ChunkPool$Chunk;Lcom/example/frame4/frame4/ChunkPool$Chunk;Lcom/example/frame4/frame4/ChunkPool$Chunk;)Z"⟩ : MethodName)) (stk := []) (wd28 hw) (wd29 hw) (wd30 hw) (wd31 hw) (by decide) (argsL := [(.ref b11_fb), (.int (1 : Int32)), (.int (0 : Int32)), (.ref b4), (.ref b6), (.ref b8)]) (conE0_1 l Z a0 hw n0 h13 X14.size b11_fb b4 b6 b8 F13k_next_b11_fb (Ne.symm ne_b4_b11_fb) (Ne.symm ne_b6_b11_fb) (Ne.symm ne_b8_b11_fb)) (by decide) (W := 0) (Nat.le_of_ble_eq_true rfl) (by decide) (by decide) (by decide) rfl (lenOf pd2 rfl) rfl at_161 (pc' := 164) rfl fun T15 v15 h15 X15 q15 => ?_
      obtain ⟨rfl, rfl⟩ := q15
      replace X15 := X15.more (cells' := 15) (slots' := 28688) (by decide) (by decide)
      show Jvm.OwnKit.Ends p e below s n0 40 57472 _ T15 (mkF m 164 #[.val (.int u1), .val (.int (0 : Int32)), .val (.int (0 : Int32)), .val (.ref b2), .val (.ref b4), .val (.ref b6), .val (.ref b8), .val (.ref b10_fb), .val (.ref b11_fb), .val (.ref b12_fb), .val (.ref b13_fb), .unset, .unset] [(.int (1 : Int32))])
      refine F_if_eq X15 at_164 (by decide) (pt := 203) (by decide) (pc' := 167) rfl (fun q => absurd q (by decide)) (fun _ => ?_)
      refine F_aload X15 at_167 rfl rfl (pc' := 169) rfl ?_
      refine F_iconst X15 at_169 (z := (2 : Int32)) (by decide) (pc' := 170) rfl ?_
      refine F_iloadN X15 at_170 rfl (pc' := 171) rfl ?_
      refine F_aload X15 at_171 rfl rfl (pc' := 173) rfl ?_
      refine F_aload X15 at_173 rfl rfl (pc' := 175) rfl ?_
      refine F_aload X15 at_175 rfl rfl (pc' := 177) rfl ?_
      refine F_callS X15 (y := (⟨"com/example/frame4/frame4/ChunkPoolGiveBackPinLaw", "expect", "(Lcom/example/frame4/frame4/ChunkPool$Chunk;IILcom/example/frame4/frame4/ChunkPool$Chunk;Lcom/example/frame4/frame4/ChunkPool$Chunk;Lcom/example/frame4/frame4/ChunkPool$Chunk;)Z"⟩ : MethodName)) (stk := []) (wd28 hw) (wd29 hw) (wd30 hw) (wd31 hw) (by decide) (argsL := [(.ref b12_fb), (.int (2 : Int32)), (.int (0 : Int32)), (.ref b4), (.ref b6), (.ref b8)]) (conE0_2 l Z a0 hw n0 h13 X15.size b12_fb b4 b6 b8 F13k_next_b12_fb (Ne.symm ne_b4_b12_fb) (Ne.symm ne_b6_b12_fb) (Ne.symm ne_b8_b12_fb)) (by decide) (W := 0) (Nat.le_of_ble_eq_true rfl) (by decide) (by decide) (by decide) rfl (lenOf pd2 rfl) rfl at_177 (pc' := 180) rfl fun T16 v16 h16 X16 q16 => ?_
      obtain ⟨rfl, rfl⟩ := q16
      replace X16 := X16.more (cells' := 15) (slots' := 28688) (by decide) (by decide)
      show Jvm.OwnKit.Ends p e below s n0 40 57472 _ T16 (mkF m 180 #[.val (.int u1), .val (.int (0 : Int32)), .val (.int (0 : Int32)), .val (.ref b2), .val (.ref b4), .val (.ref b6), .val (.ref b8), .val (.ref b10_fb), .val (.ref b11_fb), .val (.ref b12_fb), .val (.ref b13_fb), .unset, .unset] [(.int (1 : Int32))])
      refine F_if_eq X16 at_180 (by decide) (pt := 203) (by decide) (pc' := 183) rfl (fun q => absurd q (by decide)) (fun _ => ?_)
      refine F_aload X16 at_183 rfl rfl (pc' := 185) rfl ?_
      refine F_iconst X16 at_185 (z := (3 : Int32)) (by decide) (pc' := 186) rfl ?_
      refine F_iloadN X16 at_186 rfl (pc' := 187) rfl ?_
      refine F_aload X16 at_187 rfl rfl (pc' := 189) rfl ?_
      refine F_aload X16 at_189 rfl rfl (pc' := 191) rfl ?_
      refine F_aload X16 at_191 rfl rfl (pc' := 193) rfl ?_
      refine F_callS X16 (y := (⟨"com/example/frame4/frame4/ChunkPoolGiveBackPinLaw", "expect", "(Lcom/example/frame4/frame4/ChunkPool$Chunk;IILcom/example/frame4/frame4/ChunkPool$Chunk;Lcom/example/frame4/frame4/ChunkPool$Chunk;Lcom/example/frame4/frame4/ChunkPool$Chunk;)Z"⟩ : MethodName)) (stk := []) (wd28 hw) (wd29 hw) (wd30 hw) (wd31 hw) (by decide) (argsL := [(.ref b13_fb), (.int (3 : Int32)), (.int (0 : Int32)), (.ref b4), (.ref b6), (.ref b8)]) (conE0_3 l Z a0 hw n0 h13 X16.size b13_fb b4 b6 b8 F13_next_b13_fb (Ne.symm ne_b4_b13_fb) (Ne.symm ne_b6_b13_fb) (Ne.symm ne_b8_b13_fb)) (by decide) (W := 0) (Nat.le_of_ble_eq_true rfl) (by decide) (by decide) (by decide) rfl (lenOf pd2 rfl) rfl at_193 (pc' := 196) rfl fun T17 v17 h17 X17 q17 => ?_
      obtain ⟨rfl, rfl⟩ := q17
      replace X17 := X17.more (cells' := 15) (slots' := 28688) (by decide) (by decide)
      show Jvm.OwnKit.Ends p e below s n0 40 57472 _ T17 (mkF m 196 #[.val (.int u1), .val (.int (0 : Int32)), .val (.int (0 : Int32)), .val (.ref b2), .val (.ref b4), .val (.ref b6), .val (.ref b8), .val (.ref b10_fb), .val (.ref b11_fb), .val (.ref b12_fb), .val (.ref b13_fb), .unset, .unset] [(.int (1 : Int32))])
      refine F_if_eq X17 at_196 (by decide) (pt := 203) (by decide) (pc' := 199) rfl (fun q => absurd q (by decide)) (fun _ => ?_)
      refine F_iconst X17 at_199 (z := (1 : Int32)) (by decide) (pc' := 200) rfl ?_
      refine F_goto X17 at_200 (by decide) (pc' := 204) (by decide) ?_
      refine F_istore X17 at_204 (Ls' := #[.val (.int u1), .val (.int (0 : Int32)), .val (.int (0 : Int32)), .val (.ref b2), .val (.ref b4), .val (.ref b6), .val (.ref b8), .val (.ref b10_fb), .val (.ref b11_fb), .val (.ref b12_fb), .val (.ref b13_fb), .val (.int (1 : Int32)), .unset]) rfl (pc' := 206) rfl ?_
      refine F_aload X17 at_206 rfl rfl (pc' := 208) rfl ?_
      refine F_aload X17 at_208 rfl rfl (pc' := 210) rfl ?_
      refine F_acmp X17 (same := false) at_210 rfl rfl (decide_eq_false fun q => ne_b10_fb_b11_fb (Value.ref.inj q)) (by decide) (pc' := 213) (by decide) ?_
      refine F_aload X17 at_213 rfl rfl (pc' := 215) rfl ?_
      refine F_aload X17 at_215 rfl rfl (pc' := 217) rfl ?_
      refine F_acmp X17 (same := false) at_217 rfl rfl (decide_eq_false fun q => ne_b10_fb_b12_fb (Value.ref.inj q)) (by decide) (pc' := 220) (by decide) ?_
      refine F_aload X17 at_220 rfl rfl (pc' := 222) rfl ?_
      refine F_aload X17 at_222 rfl rfl (pc' := 224) rfl ?_
      refine F_acmp X17 (same := false) at_224 rfl rfl (decide_eq_false fun q => ne_b10_fb_b13_fb (Value.ref.inj q)) (by decide) (pc' := 227) (by decide) ?_
      refine F_aload X17 at_227 rfl rfl (pc' := 229) rfl ?_
      refine F_aload X17 at_229 rfl rfl (pc' := 231) rfl ?_
      refine F_acmp X17 (same := false) at_231 rfl rfl (decide_eq_false fun q => ne_b11_fb_b12_fb (Value.ref.inj q)) (by decide) (pc' := 234) (by decide) ?_
      refine F_aload X17 at_234 rfl rfl (pc' := 236) rfl ?_
      refine F_aload X17 at_236 rfl rfl (pc' := 238) rfl ?_
      refine F_acmp X17 (same := false) at_238 rfl rfl (decide_eq_false fun q => ne_b11_fb_b13_fb (Value.ref.inj q)) (by decide) (pc' := 241) (by decide) ?_
      refine F_aload X17 at_241 rfl rfl (pc' := 243) rfl ?_
      refine F_aload X17 at_243 rfl rfl (pc' := 245) rfl ?_
      refine F_acmp X17 (same := false) at_245 rfl rfl (decide_eq_false fun q => ne_b12_fb_b13_fb (Value.ref.inj q)) (by decide) (pc' := 248) (by decide) ?_
      refine F_iconst X17 at_248 (z := (1 : Int32)) (by decide) (pc' := 249) rfl ?_
      refine F_goto X17 at_249 (by decide) (pc' := 253) (by decide) ?_
      refine F_istore X17 at_253 (Ls' := #[.val (.int u1), .val (.int (0 : Int32)), .val (.int (0 : Int32)), .val (.ref b2), .val (.ref b4), .val (.ref b6), .val (.ref b8), .val (.ref b10_fb), .val (.ref b11_fb), .val (.ref b12_fb), .val (.ref b13_fb), .val (.int (1 : Int32)), .val (.int (1 : Int32))]) rfl (pc' := 255) rfl ?_
      refine F_iload X17 at_255 rfl (pc' := 257) rfl ?_
      refine F_if_eq X17 at_257 (by decide) (pt := 269) (by decide) (pc' := 260) rfl (fun q => absurd q (by decide)) (fun _ => ?_)
      refine F_iload X17 at_260 rfl (pc' := 262) rfl ?_
      refine F_if_eq X17 at_262 (by decide) (pt := 269) (by decide) (pc' := 265) rfl (fun q => absurd q (by decide)) (fun _ => ?_)
      refine F_iconst X17 at_265 (z := (1 : Int32)) (by decide) (pc' := 266) rfl ?_
      refine F_goto X17 at_266 (by decide) (pc' := 270) (by decide) ?_
      refine F_ireturn_boolean (z' := (1 : Int32)) X17 (by decide) at_270 rfl (by decide) (by decide) ?_
      exact rfl
    · refine F_iconst X0 at_12 (z := (1 : Int32)) (by decide) (pc' := 13) rfl ?_
      refine F_goto X0 at_13 (by decide) (pc' := 17) (by decide) ?_
      refine F_istoreN X0 at_17 (Ls' := #[.val (.int u1), .val (.int (0 : Int32)), .val (.int (1 : Int32)), .unset, .unset, .unset, .unset, .unset, .unset, .unset, .unset, .unset, .unset]) rfl (pc' := 18) rfl ?_
      refine F_new X0 (wd0 hw) (wd1 hw) (wd2 hw) (by decide) (by decide) at_18 (pc' := 21) rfl fun T18 h18 b18 X18 Ex18 g18 ge18 E_b18 D18 => ?_
      have F18_idle_b18 : Fld Z h18 b18 "com/example/frame4/frame4/ChunkPool" "idle" "Lcom/example/frame4/frame4/ChunkPool$Chunk;" .null := D18 (Or.inl (wd25 hw)) (ty := (.object "com/example/frame4/frame4/ChunkPool$Chunk")) (by decide)
      have F18_idleCount_b18 : Fld Z h18 b18 "com/example/frame4/frame4/ChunkPool" "idleCount" "I" (.int (0 : Int32)) := D18 (Or.inl (wd40 hw)) (ty := .int) (by decide)
      replace X18 := X18.more (cells' := 1) (slots' := 2) (by decide) (by decide)
      refine F_dup X18 at_21 rfl (pc' := 22) rfl ?_
      refine F_init X18 (y := (⟨"com/example/frame4/frame4/ChunkPool", "<init>", "()V"⟩ : MethodName)) (stk := [(.ref b18)]) rfl (wd3 hw) (wd4 hw) (wd2 hw) (wd5 hw) (by decide) (a := b18) (argsL := []) (conPI l Z a0 hw n0 h18 X18.size b18) (by decide) (W := 1) (Nat.le_of_ble_eq_true rfl) (by decide) (by decide) (by decide) rfl (lenOf pd0 rfl) rfl at_22 (pc' := 25) rfl fun T19 v19 h19 X19 q19 => ?_
      obtain ⟨rfl, rfl⟩ := q19
      replace X19 := X19.more (cells' := 1) (slots' := 2) (by decide) (by decide)
      show Jvm.OwnKit.Ends p e below s n0 40 57472 _ T19 (mkF m 25 #[.val (.int u1), .val (.int (0 : Int32)), .val (.int (1 : Int32)), .unset, .unset, .unset, .unset, .unset, .unset, .unset, .unset, .unset, .unset] [(.ref b18)])
      refine F_astoreN X19 at_25 rfl (Ls' := #[.val (.int u1), .val (.int (0 : Int32)), .val (.int (1 : Int32)), .val (.ref b18), .unset, .unset, .unset, .unset, .unset, .unset, .unset, .unset, .unset]) rfl (pc' := 26) rfl ?_
      refine F_new X19 (wd9 hw) (wd10 hw) (wd11 hw) (by decide) (by decide) at_26 (pc' := 29) rfl fun T20 h20 b20 X20 Ex20 g20 ge20 E_b20 D20 => ?_
      have ne_b18_b20 : b18 ≠ b20 := Nat.ne_of_lt (Nat.lt_of_lt_of_le E_b18.lt (Nat.le_of_eq g20.symm))
      have E20_b18 := E_b18.ext Ex20
      have F20_idle_b18 := F18_idle_b18.ext Ex20
      have F20_idleCount_b18 := F18_idleCount_b18.ext Ex20
      have F20_bytes_b20 : Fld Z h20 b20 "com/example/frame4/frame4/ChunkPool$Chunk" "bytes" "[B" .null := D20 (Or.inr (wd18 hw)) (ty := (.array .byte)) (by decide)
      have F20_next_b20 : Fld Z h20 b20 "com/example/frame4/frame4/ChunkPool$Chunk" "next" "Lcom/example/frame4/frame4/ChunkPool$Chunk;" .null := D20 (Or.inl (wd33 hw)) (ty := (.object "com/example/frame4/frame4/ChunkPool$Chunk")) (by decide)
      replace X20 := X20.more (cells' := 2) (slots' := 4) (by decide) (by decide)
      refine F_dup X20 at_29 rfl (pc' := 30) rfl ?_
      refine F_init X20 (y := (⟨"com/example/frame4/frame4/ChunkPool$Chunk", "<init>", "()V"⟩ : MethodName)) (stk := [(.ref b20)]) rfl (wd12 hw) (wd13 hw) (wd11 hw) (wd14 hw) (by decide) (a := b20) (argsL := []) (conCI l Z a0 hw n0 h20 X20.size b20 E_b20 F20_bytes_b20 F20_next_b20 ge20) (by decide) (W := 1) (Nat.le_of_ble_eq_true rfl) (by decide) (by decide) (by decide) rfl (lenOf pd0 rfl) rfl at_30 (pc' := 33) rfl fun T21 v21 h21 X21 q21 => ?_
      obtain ⟨rfl, Kp21, F21_next_b20⟩ := q21
      have E21k_b18 := E20_b18.keep Kp21
      have E21k_b20 := E_b20.keep Kp21
      have F21k_idle_b18 := F20_idle_b18.keep Kp21 (ninS ne_b18_b20 nin0)
      have F21k_idleCount_b18 := F20_idleCount_b18.keep Kp21 (ninS ne_b18_b20 nin0)
      replace X21 := X21.more (cells' := 3) (slots' := 4100) (by decide) (by decide)
      show Jvm.OwnKit.Ends p e below s n0 40 57472 _ T21 (mkF m 33 #[.val (.int u1), .val (.int (0 : Int32)), .val (.int (1 : Int32)), .val (.ref b18), .unset, .unset, .unset, .unset, .unset, .unset, .unset, .unset, .unset] [(.ref b20)])
      refine F_astore X21 at_33 rfl (Ls' := #[.val (.int u1), .val (.int (0 : Int32)), .val (.int (1 : Int32)), .val (.ref b18), .val (.ref b20), .unset, .unset, .unset, .unset, .unset, .unset, .unset, .unset]) rfl (pc' := 35) rfl ?_
      refine F_new X21 (wd9 hw) (wd10 hw) (wd11 hw) (by decide) (by decide) at_35 (pc' := 38) rfl fun T22 h22 b22 X22 Ex22 g22 ge22 E_b22 D22 => ?_
      have ne_b18_b22 : b18 ≠ b22 := Nat.ne_of_lt (Nat.lt_of_lt_of_le E21k_b18.lt (Nat.le_of_eq g22.symm))
      have ne_b20_b22 : b20 ≠ b22 := Nat.ne_of_lt (Nat.lt_of_lt_of_le E21k_b20.lt (Nat.le_of_eq g22.symm))
      have E22_b18 := E21k_b18.ext Ex22
      have E22_b20 := E21k_b20.ext Ex22
      have F22_idle_b18 := F21k_idle_b18.ext Ex22
      have F22_idleCount_b18 := F21k_idleCount_b18.ext Ex22
      have F22_next_b20 := F21_next_b20.ext Ex22
      have F22_bytes_b22 : Fld Z h22 b22 "com/example/frame4/frame4/ChunkPool$Chunk" "bytes" "[B" .null := D22 (Or.inr (wd18 hw)) (ty := (.array .byte)) (by decide)
      have F22_next_b22 : Fld Z h22 b22 "com/example/frame4/frame4/ChunkPool$Chunk" "next" "Lcom/example/frame4/frame4/ChunkPool$Chunk;" .null := D22 (Or.inl (wd33 hw)) (ty := (.object "com/example/frame4/frame4/ChunkPool$Chunk")) (by decide)
      replace X22 := X22.more (cells' := 4) (slots' := 4102) (by decide) (by decide)
      refine F_dup X22 at_38 rfl (pc' := 39) rfl ?_
      refine F_init X22 (y := (⟨"com/example/frame4/frame4/ChunkPool$Chunk", "<init>", "()V"⟩ : MethodName)) (stk := [(.ref b22)]) rfl (wd12 hw) (wd13 hw) (wd11 hw) (wd14 hw) (by decide) (a := b22) (argsL := []) (conCI l Z a0 hw n0 h22 X22.size b22 E_b22 F22_bytes_b22 F22_next_b22 ge22) (by decide) (W := 1) (Nat.le_of_ble_eq_true rfl) (by decide) (by decide) (by decide) rfl (lenOf pd0 rfl) rfl at_39 (pc' := 42) rfl fun T23 v23 h23 X23 q23 => ?_
      obtain ⟨rfl, Kp23, F23_next_b22⟩ := q23
      have E23k_b18 := E22_b18.keep Kp23
      have E23k_b20 := E22_b20.keep Kp23
      have E23k_b22 := E_b22.keep Kp23
      have F23k_idle_b18 := F22_idle_b18.keep Kp23 (ninS ne_b18_b22 nin0)
      have F23k_idleCount_b18 := F22_idleCount_b18.keep Kp23 (ninS ne_b18_b22 nin0)
      have F23k_next_b20 := F22_next_b20.keep Kp23 (ninS ne_b20_b22 nin0)
      replace X23 := X23.more (cells' := 5) (slots' := 8198) (by decide) (by decide)
      show Jvm.OwnKit.Ends p e below s n0 40 57472 _ T23 (mkF m 42 #[.val (.int u1), .val (.int (0 : Int32)), .val (.int (1 : Int32)), .val (.ref b18), .val (.ref b20), .unset, .unset, .unset, .unset, .unset, .unset, .unset, .unset] [(.ref b22)])
      refine F_astore X23 at_42 rfl (Ls' := #[.val (.int u1), .val (.int (0 : Int32)), .val (.int (1 : Int32)), .val (.ref b18), .val (.ref b20), .val (.ref b22), .unset, .unset, .unset, .unset, .unset, .unset, .unset]) rfl (pc' := 44) rfl ?_
      refine F_new X23 (wd9 hw) (wd10 hw) (wd11 hw) (by decide) (by decide) at_44 (pc' := 47) rfl fun T24 h24 b24 X24 Ex24 g24 ge24 E_b24 D24 => ?_
      have ne_b18_b24 : b18 ≠ b24 := Nat.ne_of_lt (Nat.lt_of_lt_of_le E23k_b18.lt (Nat.le_of_eq g24.symm))
      have ne_b20_b24 : b20 ≠ b24 := Nat.ne_of_lt (Nat.lt_of_lt_of_le E23k_b20.lt (Nat.le_of_eq g24.symm))
      have ne_b22_b24 : b22 ≠ b24 := Nat.ne_of_lt (Nat.lt_of_lt_of_le E23k_b22.lt (Nat.le_of_eq g24.symm))
      have E24_b18 := E23k_b18.ext Ex24
      have E24_b20 := E23k_b20.ext Ex24
      have E24_b22 := E23k_b22.ext Ex24
      have F24_idle_b18 := F23k_idle_b18.ext Ex24
      have F24_idleCount_b18 := F23k_idleCount_b18.ext Ex24
      have F24_next_b20 := F23k_next_b20.ext Ex24
      have F24_next_b22 := F23_next_b22.ext Ex24
      have F24_bytes_b24 : Fld Z h24 b24 "com/example/frame4/frame4/ChunkPool$Chunk" "bytes" "[B" .null := D24 (Or.inr (wd18 hw)) (ty := (.array .byte)) (by decide)
      have F24_next_b24 : Fld Z h24 b24 "com/example/frame4/frame4/ChunkPool$Chunk" "next" "Lcom/example/frame4/frame4/ChunkPool$Chunk;" .null := D24 (Or.inl (wd33 hw)) (ty := (.object "com/example/frame4/frame4/ChunkPool$Chunk")) (by decide)
      replace X24 := X24.more (cells' := 6) (slots' := 8200) (by decide) (by decide)
      refine F_dup X24 at_47 rfl (pc' := 48) rfl ?_
      refine F_init X24 (y := (⟨"com/example/frame4/frame4/ChunkPool$Chunk", "<init>", "()V"⟩ : MethodName)) (stk := [(.ref b24)]) rfl (wd12 hw) (wd13 hw) (wd11 hw) (wd14 hw) (by decide) (a := b24) (argsL := []) (conCI l Z a0 hw n0 h24 X24.size b24 E_b24 F24_bytes_b24 F24_next_b24 ge24) (by decide) (W := 1) (Nat.le_of_ble_eq_true rfl) (by decide) (by decide) (by decide) rfl (lenOf pd0 rfl) rfl at_48 (pc' := 51) rfl fun T25 v25 h25 X25 q25 => ?_
      obtain ⟨rfl, Kp25, F25_next_b24⟩ := q25
      have E25k_b18 := E24_b18.keep Kp25
      have E25k_b20 := E24_b20.keep Kp25
      have E25k_b22 := E24_b22.keep Kp25
      have E25k_b24 := E_b24.keep Kp25
      have F25k_idle_b18 := F24_idle_b18.keep Kp25 (ninS ne_b18_b24 nin0)
      have F25k_idleCount_b18 := F24_idleCount_b18.keep Kp25 (ninS ne_b18_b24 nin0)
      have F25k_next_b20 := F24_next_b20.keep Kp25 (ninS ne_b20_b24 nin0)
      have F25k_next_b22 := F24_next_b22.keep Kp25 (ninS ne_b22_b24 nin0)
      replace X25 := X25.more (cells' := 7) (slots' := 12296) (by decide) (by decide)
      show Jvm.OwnKit.Ends p e below s n0 40 57472 _ T25 (mkF m 51 #[.val (.int u1), .val (.int (0 : Int32)), .val (.int (1 : Int32)), .val (.ref b18), .val (.ref b20), .val (.ref b22), .unset, .unset, .unset, .unset, .unset, .unset, .unset] [(.ref b24)])
      refine F_astore X25 at_51 rfl (Ls' := #[.val (.int u1), .val (.int (0 : Int32)), .val (.int (1 : Int32)), .val (.ref b18), .val (.ref b20), .val (.ref b22), .val (.ref b24), .unset, .unset, .unset, .unset, .unset, .unset]) rfl (pc' := 53) rfl ?_
      refine F_iloadN X25 at_53 rfl (pc' := 54) rfl ?_
      refine F_if_eq X25 at_54 (by decide) (pt := 78) (by decide) (pc' := 57) rfl (fun q => absurd q (by decide)) (fun _ => ?_)
      refine F_aload X25 at_57 rfl rfl (pc' := 59) rfl ?_
      refine F_aload X25 at_59 rfl rfl (pc' := 61) rfl ?_
      refine F_putfield X25 (wd32 hw) F25k_next_b20 E25k_b20 (Or.inl (wd33 hw)) (wd10 hw) (ty := (.object "com/example/frame4/frame4/ChunkPool$Chunk")) (by decide) rfl rfl ge20 at_61 (pc' := 64) rfl fun T26 h26 X26 W26 => ?_
      have F26_next_b20 := F25k_next_b20.same W26
      have E26_b18 := E25k_b18.wr W26
      have E26_b20 := E25k_b20.wr W26
      have E26_b22 := E25k_b22.wr W26
      have E26_b24 := E25k_b24.wr W26
      have F26_idle_b18 := F25k_idle_b18.other W26 (Or.inl ne_b18_b20)
      have F26_idleCount_b18 := F25k_idleCount_b18.other W26 (Or.inl ne_b18_b20)
      have F26_next_b22 := F25k_next_b22.other W26 (Or.inl (Ne.symm ne_b20_b22))
      have F26_next_b24 := F25_next_b24.other W26 (Or.inl (Ne.symm ne_b20_b24))
      refine F_aload X26 at_64 rfl rfl (pc' := 66) rfl ?_
      refine F_aload X26 at_66 rfl rfl (pc' := 68) rfl ?_
      refine F_putfield X26 (wd32 hw) F26_next_b22 E26_b22 (Or.inl (wd33 hw)) (wd10 hw) (ty := (.object "com/example/frame4/frame4/ChunkPool$Chunk")) (by decide) rfl rfl ge22 at_68 (pc' := 71) rfl fun T27 h27 X27 W27 => ?_
      have F27_next_b22 := F26_next_b22.same W27
      have E27_b18 := E26_b18.wr W27
      have E27_b20 := E26_b20.wr W27
      have E27_b22 := E26_b22.wr W27
      have E27_b24 := E26_b24.wr W27
      have F27_idle_b18 := F26_idle_b18.other W27 (Or.inl ne_b18_b22)
      have F27_idleCount_b18 := F26_idleCount_b18.other W27 (Or.inl ne_b18_b22)
      have F27_next_b20 := F26_next_b20.other W27 (Or.inl ne_b20_b22)
      have F27_next_b24 := F26_next_b24.other W27 (Or.inl (Ne.symm ne_b22_b24))
      refine F_aload X27 at_71 rfl rfl (pc' := 73) rfl ?_
      refine F_aload X27 at_73 rfl rfl (pc' := 75) rfl ?_
      refine F_putfield X27 (wd32 hw) F27_next_b24 E27_b24 (Or.inl (wd33 hw)) (wd10 hw) (ty := (.object "com/example/frame4/frame4/ChunkPool$Chunk")) (by decide) rfl rfl ge24 at_75 (pc' := 78) rfl fun T28 h28 X28 W28 => ?_
      have F28_next_b24 := F27_next_b24.same W28
      have E28_b18 := E27_b18.wr W28
      have E28_b20 := E27_b20.wr W28
      have E28_b22 := E27_b22.wr W28
      have E28_b24 := E27_b24.wr W28
      have F28_idle_b18 := F27_idle_b18.other W28 (Or.inl ne_b18_b24)
      have F28_idleCount_b18 := F27_idleCount_b18.other W28 (Or.inl ne_b18_b24)
      have F28_next_b20 := F27_next_b20.other W28 (Or.inl ne_b20_b24)
      have F28_next_b22 := F27_next_b22.other W28 (Or.inl ne_b22_b24)
      refine F_iloadN X28 at_78 rfl (pc' := 79) rfl ?_
      refine F_iconst X28 at_79 (z := (1 : Int32)) (by decide) (pc' := 80) rfl ?_
      refine F_icmp_lt X28 at_80 (by decide) (pt := 89) (by decide) (pc' := 83) rfl (fun _ => ?_) (fun q => absurd q (by decide))
      refine F_iloadN X28 at_89 rfl (pc' := 90) rfl ?_
      refine F_iconst X28 at_90 (z := (2 : Int32)) (by decide) (pc' := 91) rfl ?_
      refine F_icmp_lt X28 at_91 (by decide) (pt := 100) (by decide) (pc' := 94) rfl (fun _ => ?_) (fun q => absurd q (by decide))
      refine F_iloadN X28 at_100 rfl (pc' := 101) rfl ?_
      refine F_iconst X28 at_101 (z := (3 : Int32)) (by decide) (pc' := 102) rfl ?_
      refine F_icmp_lt X28 at_102 (by decide) (pt := 111) (by decide) (pc' := 105) rfl (fun _ => ?_) (fun q => absurd q (by decide))
      refine F_aloadN X28 at_111 rfl rfl (pc' := 112) rfl ?_
      refine F_callV X28 (y := (⟨"com/example/frame4/frame4/ChunkPool", "take", "()Lcom/example/frame4/frame4/ChunkPool$Chunk;"⟩ : MethodName)) (stk := []) (wd19 hw) (wd20 hw) (wd22 hw) (wd21 hw) (wd2 hw) (wd23 hw) (by decide) (a := b18) E28_b18 (argsL := []) (conT0 l Z a0 hw n0 h28 X28.size b18 F28_idle_b18) (by decide) (W := 0) (Nat.le_of_ble_eq_true rfl) (by decide) (by decide) (by decide) rfl (lenOf pd1 rfl) rfl at_112 (pc' := 115) rfl fun T29 v29 h29 X29 q29 => ?_
      obtain ⟨b29_fb, rfl, sz29_fb, Kp29, E29_b29_fb, F29_next_b29_fb⟩ := q29
      have ge_b29_fb : n0 ≤ b29_fb := Nat.le_trans X28.size sz29_fb
      have ne_b18_b29_fb : b18 ≠ b29_fb := Nat.ne_of_lt (Nat.lt_of_lt_of_le E28_b18.lt sz29_fb)
      have ne_b20_b29_fb : b20 ≠ b29_fb := Nat.ne_of_lt (Nat.lt_of_lt_of_le E28_b20.lt sz29_fb)
      have ne_b22_b29_fb : b22 ≠ b29_fb := Nat.ne_of_lt (Nat.lt_of_lt_of_le E28_b22.lt sz29_fb)
      have ne_b24_b29_fb : b24 ≠ b29_fb := Nat.ne_of_lt (Nat.lt_of_lt_of_le E28_b24.lt sz29_fb)
      have E29k_b18 := E28_b18.keep Kp29
      have E29k_b20 := E28_b20.keep Kp29
      have E29k_b22 := E28_b22.keep Kp29
      have E29k_b24 := E28_b24.keep Kp29
      have F29k_idle_b18 := F28_idle_b18.keep Kp29 nin0
      have F29k_idleCount_b18 := F28_idleCount_b18.keep Kp29 nin0
      have F29k_next_b20 := F28_next_b20.keep Kp29 nin0
      have F29k_next_b22 := F28_next_b22.keep Kp29 nin0
      have F29k_next_b24 := F28_next_b24.keep Kp29 nin0
      replace X29 := X29.more (cells' := 9) (slots' := 16394) (by decide) (by decide)
      show Jvm.OwnKit.Ends p e below s n0 40 57472 _ T29 (mkF m 115 #[.val (.int u1), .val (.int (0 : Int32)), .val (.int (1 : Int32)), .val (.ref b18), .val (.ref b20), .val (.ref b22), .val (.ref b24), .unset, .unset, .unset, .unset, .unset, .unset] [(.ref b29_fb)])
      refine F_astore X29 at_115 rfl (Ls' := #[.val (.int u1), .val (.int (0 : Int32)), .val (.int (1 : Int32)), .val (.ref b18), .val (.ref b20), .val (.ref b22), .val (.ref b24), .val (.ref b29_fb), .unset, .unset, .unset, .unset, .unset]) rfl (pc' := 117) rfl ?_
      refine F_aloadN X29 at_117 rfl rfl (pc' := 118) rfl ?_
      refine F_callV X29 (y := (⟨"com/example/frame4/frame4/ChunkPool", "take", "()Lcom/example/frame4/frame4/ChunkPool$Chunk;"⟩ : MethodName)) (stk := []) (wd19 hw) (wd20 hw) (wd22 hw) (wd21 hw) (wd2 hw) (wd23 hw) (by decide) (a := b18) E29k_b18 (argsL := []) (conT0 l Z a0 hw n0 h29 X29.size b18 F29k_idle_b18) (by decide) (W := 0) (Nat.le_of_ble_eq_true rfl) (by decide) (by decide) (by decide) rfl (lenOf pd1 rfl) rfl at_118 (pc' := 121) rfl fun T30 v30 h30 X30 q30 => ?_
      obtain ⟨b30_fb, rfl, sz30_fb, Kp30, E30_b30_fb, F30_next_b30_fb⟩ := q30
      have ge_b30_fb : n0 ≤ b30_fb := Nat.le_trans X29.size sz30_fb
      have ne_b18_b30_fb : b18 ≠ b30_fb := Nat.ne_of_lt (Nat.lt_of_lt_of_le E29k_b18.lt sz30_fb)
      have ne_b20_b30_fb : b20 ≠ b30_fb := Nat.ne_of_lt (Nat.lt_of_lt_of_le E29k_b20.lt sz30_fb)
      have ne_b22_b30_fb : b22 ≠ b30_fb := Nat.ne_of_lt (Nat.lt_of_lt_of_le E29k_b22.lt sz30_fb)
      have ne_b24_b30_fb : b24 ≠ b30_fb := Nat.ne_of_lt (Nat.lt_of_lt_of_le E29k_b24.lt sz30_fb)
      have ne_b29_fb_b30_fb : b29_fb ≠ b30_fb := Nat.ne_of_lt (Nat.lt_of_lt_of_le E29_b29_fb.lt sz30_fb)
      have E30k_b18 := E29k_b18.keep Kp30
      have E30k_b20 := E29k_b20.keep Kp30
      have E30k_b22 := E29k_b22.keep Kp30
      have E30k_b24 := E29k_b24.keep Kp30
      have E30k_b29_fb := E29_b29_fb.keep Kp30
      have F30k_idle_b18 := F29k_idle_b18.keep Kp30 nin0
      have F30k_idleCount_b18 := F29k_idleCount_b18.keep Kp30 nin0
      have F30k_next_b20 := F29k_next_b20.keep Kp30 nin0
      have F30k_next_b22 := F29k_next_b22.keep Kp30 nin0
      have F30k_next_b24 := F29k_next_b24.keep Kp30 nin0
      have F30k_next_b29_fb := F29_next_b29_fb.keep Kp30 nin0
      replace X30 := X30.more (cells' := 11) (slots' := 20492) (by decide) (by decide)
      show Jvm.OwnKit.Ends p e below s n0 40 57472 _ T30 (mkF m 121 #[.val (.int u1), .val (.int (0 : Int32)), .val (.int (1 : Int32)), .val (.ref b18), .val (.ref b20), .val (.ref b22), .val (.ref b24), .val (.ref b29_fb), .unset, .unset, .unset, .unset, .unset] [(.ref b30_fb)])
      refine F_astore X30 at_121 rfl (Ls' := #[.val (.int u1), .val (.int (0 : Int32)), .val (.int (1 : Int32)), .val (.ref b18), .val (.ref b20), .val (.ref b22), .val (.ref b24), .val (.ref b29_fb), .val (.ref b30_fb), .unset, .unset, .unset, .unset]) rfl (pc' := 123) rfl ?_
      refine F_aloadN X30 at_123 rfl rfl (pc' := 124) rfl ?_
      refine F_callV X30 (y := (⟨"com/example/frame4/frame4/ChunkPool", "take", "()Lcom/example/frame4/frame4/ChunkPool$Chunk;"⟩ : MethodName)) (stk := []) (wd19 hw) (wd20 hw) (wd22 hw) (wd21 hw) (wd2 hw) (wd23 hw) (by decide) (a := b18) E30k_b18 (argsL := []) (conT0 l Z a0 hw n0 h30 X30.size b18 F30k_idle_b18) (by decide) (W := 0) (Nat.le_of_ble_eq_true rfl) (by decide) (by decide) (by decide) rfl (lenOf pd1 rfl) rfl at_124 (pc' := 127) rfl fun T31 v31 h31 X31 q31 => ?_
      obtain ⟨b31_fb, rfl, sz31_fb, Kp31, E31_b31_fb, F31_next_b31_fb⟩ := q31
      have ge_b31_fb : n0 ≤ b31_fb := Nat.le_trans X30.size sz31_fb
      have ne_b18_b31_fb : b18 ≠ b31_fb := Nat.ne_of_lt (Nat.lt_of_lt_of_le E30k_b18.lt sz31_fb)
      have ne_b20_b31_fb : b20 ≠ b31_fb := Nat.ne_of_lt (Nat.lt_of_lt_of_le E30k_b20.lt sz31_fb)
      have ne_b22_b31_fb : b22 ≠ b31_fb := Nat.ne_of_lt (Nat.lt_of_lt_of_le E30k_b22.lt sz31_fb)
      have ne_b24_b31_fb : b24 ≠ b31_fb := Nat.ne_of_lt (Nat.lt_of_lt_of_le E30k_b24.lt sz31_fb)
      have ne_b29_fb_b31_fb : b29_fb ≠ b31_fb := Nat.ne_of_lt (Nat.lt_of_lt_of_le E30k_b29_fb.lt sz31_fb)
      have ne_b30_fb_b31_fb : b30_fb ≠ b31_fb := Nat.ne_of_lt (Nat.lt_of_lt_of_le E30_b30_fb.lt sz31_fb)
      have E31k_b18 := E30k_b18.keep Kp31
      have E31k_b20 := E30k_b20.keep Kp31
      have E31k_b22 := E30k_b22.keep Kp31
      have E31k_b24 := E30k_b24.keep Kp31
      have E31k_b29_fb := E30k_b29_fb.keep Kp31
      have E31k_b30_fb := E30_b30_fb.keep Kp31
      have F31k_idle_b18 := F30k_idle_b18.keep Kp31 nin0
      have F31k_idleCount_b18 := F30k_idleCount_b18.keep Kp31 nin0
      have F31k_next_b20 := F30k_next_b20.keep Kp31 nin0
      have F31k_next_b22 := F30k_next_b22.keep Kp31 nin0
      have F31k_next_b24 := F30k_next_b24.keep Kp31 nin0
      have F31k_next_b29_fb := F30k_next_b29_fb.keep Kp31 nin0
      have F31k_next_b30_fb := F30_next_b30_fb.keep Kp31 nin0
      replace X31 := X31.more (cells' := 13) (slots' := 24590) (by decide) (by decide)
      show Jvm.OwnKit.Ends p e below s n0 40 57472 _ T31 (mkF m 127 #[.val (.int u1), .val (.int (0 : Int32)), .val (.int (1 : Int32)), .val (.ref b18), .val (.ref b20), .val (.ref b22), .val (.ref b24), .val (.ref b29_fb), .val (.ref b30_fb), .unset, .unset, .unset, .unset] [(.ref b31_fb)])
      refine F_astore X31 at_127 rfl (Ls' := #[.val (.int u1), .val (.int (0 : Int32)), .val (.int (1 : Int32)), .val (.ref b18), .val (.ref b20), .val (.ref b22), .val (.ref b24), .val (.ref b29_fb), .val (.ref b30_fb), .val (.ref b31_fb), .unset, .unset, .unset]) rfl (pc' := 129) rfl ?_
      refine F_aloadN X31 at_129 rfl rfl (pc' := 130) rfl ?_
      refine F_callV X31 (y := (⟨"com/example/frame4/frame4/ChunkPool", "take", "()Lcom/example/frame4/frame4/ChunkPool$Chunk;"⟩ : MethodName)) (stk := []) (wd19 hw) (wd20 hw) (wd22 hw) (wd21 hw) (wd2 hw) (wd23 hw) (by decide) (a := b18) E31k_b18 (argsL := []) (conT0 l Z a0 hw n0 h31 X31.size b18 F31k_idle_b18) (by decide) (W := 0) (Nat.le_of_ble_eq_true rfl) (by decide) (by decide) (by decide) rfl (lenOf pd1 rfl) rfl at_130 (pc' := 133) rfl fun T32 v32 h32 X32 q32 => ?_
      obtain ⟨b32_fb, rfl, sz32_fb, Kp32, E32_b32_fb, F32_next_b32_fb⟩ := q32
      have ge_b32_fb : n0 ≤ b32_fb := Nat.le_trans X31.size sz32_fb
      have ne_b18_b32_fb : b18 ≠ b32_fb := Nat.ne_of_lt (Nat.lt_of_lt_of_le E31k_b18.lt sz32_fb)
      have ne_b20_b32_fb : b20 ≠ b32_fb := Nat.ne_of_lt (Nat.lt_of_lt_of_le E31k_b20.lt sz32_fb)
      have ne_b22_b32_fb : b22 ≠ b32_fb := Nat.ne_of_lt (Nat.lt_of_lt_of_le E31k_b22.lt sz32_fb)
      have ne_b24_b32_fb : b24 ≠ b32_fb := Nat.ne_of_lt (Nat.lt_of_lt_of_le E31k_b24.lt sz32_fb)
      have ne_b29_fb_b32_fb : b29_fb ≠ b32_fb := Nat.ne_of_lt (Nat.lt_of_lt_of_le E31k_b29_fb.lt sz32_fb)
      have ne_b30_fb_b32_fb : b30_fb ≠ b32_fb := Nat.ne_of_lt (Nat.lt_of_lt_of_le E31k_b30_fb.lt sz32_fb)
      have ne_b31_fb_b32_fb : b31_fb ≠ b32_fb := Nat.ne_of_lt (Nat.lt_of_lt_of_le E31_b31_fb.lt sz32_fb)
      have E32k_b18 := E31k_b18.keep Kp32
      have E32k_b20 := E31k_b20.keep Kp32
      have E32k_b22 := E31k_b22.keep Kp32
      have E32k_b24 := E31k_b24.keep Kp32
      have E32k_b29_fb := E31k_b29_fb.keep Kp32
      have E32k_b30_fb := E31k_b30_fb.keep Kp32
      have E32k_b31_fb := E31_b31_fb.keep Kp32
      have F32k_idle_b18 := F31k_idle_b18.keep Kp32 nin0
      have F32k_idleCount_b18 := F31k_idleCount_b18.keep Kp32 nin0
      have F32k_next_b20 := F31k_next_b20.keep Kp32 nin0
      have F32k_next_b22 := F31k_next_b22.keep Kp32 nin0
      have F32k_next_b24 := F31k_next_b24.keep Kp32 nin0
      have F32k_next_b29_fb := F31k_next_b29_fb.keep Kp32 nin0
      have F32k_next_b30_fb := F31k_next_b30_fb.keep Kp32 nin0
      have F32k_next_b31_fb := F31_next_b31_fb.keep Kp32 nin0
      replace X32 := X32.more (cells' := 15) (slots' := 28688) (by decide) (by decide)
      show Jvm.OwnKit.Ends p e below s n0 40 57472 _ T32 (mkF m 133 #[.val (.int u1), .val (.int (0 : Int32)), .val (.int (1 : Int32)), .val (.ref b18), .val (.ref b20), .val (.ref b22), .val (.ref b24), .val (.ref b29_fb), .val (.ref b30_fb), .val (.ref b31_fb), .unset, .unset, .unset] [(.ref b32_fb)])
      refine F_astore X32 at_133 rfl (Ls' := #[.val (.int u1), .val (.int (0 : Int32)), .val (.int (1 : Int32)), .val (.ref b18), .val (.ref b20), .val (.ref b22), .val (.ref b24), .val (.ref b29_fb), .val (.ref b30_fb), .val (.ref b31_fb), .val (.ref b32_fb), .unset, .unset]) rfl (pc' := 135) rfl ?_
      refine F_aload X32 at_135 rfl rfl (pc' := 137) rfl ?_
      refine F_iconst X32 at_137 (z := (0 : Int32)) (by decide) (pc' := 138) rfl ?_
      refine F_iloadN X32 at_138 rfl (pc' := 139) rfl ?_
      refine F_aload X32 at_139 rfl rfl (pc' := 141) rfl ?_
      refine F_aload X32 at_141 rfl rfl (pc' := 143) rfl ?_
      refine F_aload X32 at_143 rfl rfl (pc' := 145) rfl ?_
      refine F_callS X32 (y := (⟨"com/example/frame4/frame4/ChunkPoolGiveBackPinLaw", "expect", "(Lcom/example/frame4/frame4/ChunkPool$Chunk;IILcom/example/frame4/frame4/ChunkPool$Chunk;Lcom/example/frame4/frame4/ChunkPool$Chunk;Lcom/example/frame4/frame4/ChunkPool$Chunk;)Z"⟩ : MethodName)) (stk := []) (wd28 hw) (wd29 hw) (wd30 hw) (wd31 hw) (by decide) (argsL := [(.ref b29_fb), (.int (0 : Int32)), (.int (0 : Int32)), (.ref b20), (.ref b22), (.ref b24)]) (conE0_0 l Z a0 hw n0 h32 X32.size b29_fb b20 b22 b24 F32k_next_b29_fb (Ne.symm ne_b20_b29_fb) (Ne.symm ne_b22_b29_fb) (Ne.symm ne_b24_b29_fb)) (by decide) (W := 0) (Nat.le_of_ble_eq_true rfl) (by decide) (by decide) (by decide) rfl (lenOf pd2 rfl) rfl at_145 (pc' := 148) rfl fun T33 v33 h33 X33 q33 => ?_
      obtain ⟨rfl, rfl⟩ := q33
      replace X33 := X33.more (cells' := 15) (slots' := 28688) (by decide) (by decide)
      show Jvm.OwnKit.Ends p e below s n0 40 57472 _ T33 (mkF m 148 #[.val (.int u1), .val (.int (0 : Int32)), .val (.int (1 : Int32)), .val (.ref b18), .val (.ref b20), .val (.ref b22), .val (.ref b24), .val (.ref b29_fb), .val (.ref b30_fb), .val (.ref b31_fb), .val (.ref b32_fb), .unset, .unset] [(.int (1 : Int32))])
      refine F_if_eq X33 at_148 (by decide) (pt := 203) (by decide) (pc' := 151) rfl (fun q => absurd q (by decide)) (fun _ => ?_)
      refine F_aload X33 at_151 rfl rfl (pc' := 153) rfl ?_
      refine F_iconst X33 at_153 (z := (1 : Int32)) (by decide) (pc' := 154) rfl ?_
      refine F_iloadN X33 at_154 rfl (pc' := 155) rfl ?_
      refine F_aload X33 at_155 rfl rfl (pc' := 157) rfl ?_
      refine F_aload X33 at_157 rfl rfl (pc' := 159) rfl ?_
      refine F_aload X33 at_159 rfl rfl (pc' := 161) rfl ?_
      refine F_callS X33 (y := (⟨"com/example/frame4/frame4/ChunkPoolGiveBackPinLaw", "expect", "(Lcom/example/frame4/frame4/ChunkPool$Chunk;IILcom/example/frame4/frame4/ChunkPool$Chunk;Lcom/example/frame4/frame4/ChunkPool$Chunk;Lcom/example/frame4/frame4/ChunkPool$Chunk;)Z"⟩ : MethodName)) (stk := []) (wd28 hw) (wd29 hw) (wd30 hw) (wd31 hw) (by decide) (argsL := [(.ref b30_fb), (.int (1 : Int32)), (.int (0 : Int32)), (.ref b20), (.ref b22), (.ref b24)]) (conE0_1 l Z a0 hw n0 h32 X33.size b30_fb b20 b22 b24 F32k_next_b30_fb (Ne.symm ne_b20_b30_fb) (Ne.symm ne_b22_b30_fb) (Ne.symm ne_b24_b30_fb)) (by decide) (W := 0) (Nat.le_of_ble_eq_true rfl) (by decide) (by decide) (by decide) rfl (lenOf pd2 rfl) rfl at_161 (pc' := 164) rfl fun T34 v34 h34 X34 q34 => ?_
      obtain ⟨rfl, rfl⟩ := q34
      replace X34 := X34.more (cells' := 15) (slots' := 28688) (by decide) (by decide)
      show Jvm.OwnKit.Ends p e below s n0 40 57472 _ T34 (mkF m 164 #[.val (.int u1), .val (.int (0 : Int32)), .val (.int (1 : Int32)), .val (.ref b18), .val (.ref b20), .val (.ref b22), .val (.ref b24), .val (.ref b29_fb), .val (.ref b30_fb), .val (.ref b31_fb), .val (.ref b32_fb), .unset, .unset] [(.int (1 : Int32))])
      refine F_if_eq X34 at_164 (by decide) (pt := 203) (by decide) (pc' := 167) rfl (fun q => absurd q (by decide)) (fun _ => ?_)
      refine F_aload X34 at_167 rfl rfl (pc' := 169) rfl ?_
      refine F_iconst X34 at_169 (z := (2 : Int32)) (by decide) (pc' := 170) rfl ?_
      refine F_iloadN X34 at_170 rfl (pc' := 171) rfl ?_
      refine F_aload X34 at_171 rfl rfl (pc' := 173) rfl ?_
      refine F_aload X34 at_173 rfl rfl (pc' := 175) rfl ?_
      refine F_aload X34 at_175 rfl rfl (pc' := 177) rfl ?_
      refine F_callS X34 (y := (⟨"com/example/frame4/frame4/ChunkPoolGiveBackPinLaw", "expect", "(Lcom/example/frame4/frame4/ChunkPool$Chunk;IILcom/example/frame4/frame4/ChunkPool$Chunk;Lcom/example/frame4/frame4/ChunkPool$Chunk;Lcom/example/frame4/frame4/ChunkPool$Chunk;)Z"⟩ : MethodName)) (stk := []) (wd28 hw) (wd29 hw) (wd30 hw) (wd31 hw) (by decide) (argsL := [(.ref b31_fb), (.int (2 : Int32)), (.int (0 : Int32)), (.ref b20), (.ref b22), (.ref b24)]) (conE0_2 l Z a0 hw n0 h32 X34.size b31_fb b20 b22 b24 F32k_next_b31_fb (Ne.symm ne_b20_b31_fb) (Ne.symm ne_b22_b31_fb) (Ne.symm ne_b24_b31_fb)) (by decide) (W := 0) (Nat.le_of_ble_eq_true rfl) (by decide) (by decide) (by decide) rfl (lenOf pd2 rfl) rfl at_177 (pc' := 180) rfl fun T35 v35 h35 X35 q35 => ?_
      obtain ⟨rfl, rfl⟩ := q35
      replace X35 := X35.more (cells' := 15) (slots' := 28688) (by decide) (by decide)
      show Jvm.OwnKit.Ends p e below s n0 40 57472 _ T35 (mkF m 180 #[.val (.int u1), .val (.int (0 : Int32)), .val (.int (1 : Int32)), .val (.ref b18), .val (.ref b20), .val (.ref b22), .val (.ref b24), .val (.ref b29_fb), .val (.ref b30_fb), .val (.ref b31_fb), .val (.ref b32_fb), .unset, .unset] [(.int (1 : Int32))])
      refine F_if_eq X35 at_180 (by decide) (pt := 203) (by decide) (pc' := 183) rfl (fun q => absurd q (by decide)) (fun _ => ?_)
      refine F_aload X35 at_183 rfl rfl (pc' := 185) rfl ?_
      refine F_iconst X35 at_185 (z := (3 : Int32)) (by decide) (pc' := 186) rfl ?_
      refine F_iloadN X35 at_186 rfl (pc' := 187) rfl ?_
      refine F_aload X35 at_187 rfl rfl (pc' := 189) rfl ?_
      refine F_aload X35 at_189 rfl rfl (pc' := 191) rfl ?_
      refine F_aload X35 at_191 rfl rfl (pc' := 193) rfl ?_
      refine F_callS X35 (y := (⟨"com/example/frame4/frame4/ChunkPoolGiveBackPinLaw", "expect", "(Lcom/example/frame4/frame4/ChunkPool$Chunk;IILcom/example/frame4/frame4/ChunkPool$Chunk;Lcom/example/frame4/frame4/ChunkPool$Chunk;Lcom/example/frame4/frame4/ChunkPool$Chunk;)Z"⟩ : MethodName)) (stk := []) (wd28 hw) (wd29 hw) (wd30 hw) (wd31 hw) (by decide) (argsL := [(.ref b32_fb), (.int (3 : Int32)), (.int (0 : Int32)), (.ref b20), (.ref b22), (.ref b24)]) (conE0_3 l Z a0 hw n0 h32 X35.size b32_fb b20 b22 b24 F32_next_b32_fb (Ne.symm ne_b20_b32_fb) (Ne.symm ne_b22_b32_fb) (Ne.symm ne_b24_b32_fb)) (by decide) (W := 0) (Nat.le_of_ble_eq_true rfl) (by decide) (by decide) (by decide) rfl (lenOf pd2 rfl) rfl at_193 (pc' := 196) rfl fun T36 v36 h36 X36 q36 => ?_
      obtain ⟨rfl, rfl⟩ := q36
      replace X36 := X36.more (cells' := 15) (slots' := 28688) (by decide) (by decide)
      show Jvm.OwnKit.Ends p e below s n0 40 57472 _ T36 (mkF m 196 #[.val (.int u1), .val (.int (0 : Int32)), .val (.int (1 : Int32)), .val (.ref b18), .val (.ref b20), .val (.ref b22), .val (.ref b24), .val (.ref b29_fb), .val (.ref b30_fb), .val (.ref b31_fb), .val (.ref b32_fb), .unset, .unset] [(.int (1 : Int32))])
      refine F_if_eq X36 at_196 (by decide) (pt := 203) (by decide) (pc' := 199) rfl (fun q => absurd q (by decide)) (fun _ => ?_)
      refine F_iconst X36 at_199 (z := (1 : Int32)) (by decide) (pc' := 200) rfl ?_
      refine F_goto X36 at_200 (by decide) (pc' := 204) (by decide) ?_
      refine F_istore X36 at_204 (Ls' := #[.val (.int u1), .val (.int (0 : Int32)), .val (.int (1 : Int32)), .val (.ref b18), .val (.ref b20), .val (.ref b22), .val (.ref b24), .val (.ref b29_fb), .val (.ref b30_fb), .val (.ref b31_fb), .val (.ref b32_fb), .val (.int (1 : Int32)), .unset]) rfl (pc' := 206) rfl ?_
      refine F_aload X36 at_206 rfl rfl (pc' := 208) rfl ?_
      refine F_aload X36 at_208 rfl rfl (pc' := 210) rfl ?_
      refine F_acmp X36 (same := false) at_210 rfl rfl (decide_eq_false fun q => ne_b29_fb_b30_fb (Value.ref.inj q)) (by decide) (pc' := 213) (by decide) ?_
      refine F_aload X36 at_213 rfl rfl (pc' := 215) rfl ?_
      refine F_aload X36 at_215 rfl rfl (pc' := 217) rfl ?_
      refine F_acmp X36 (same := false) at_217 rfl rfl (decide_eq_false fun q => ne_b29_fb_b31_fb (Value.ref.inj q)) (by decide) (pc' := 220) (by decide) ?_
      refine F_aload X36 at_220 rfl rfl (pc' := 222) rfl ?_
      refine F_aload X36 at_222 rfl rfl (pc' := 224) rfl ?_
      refine F_acmp X36 (same := false) at_224 rfl rfl (decide_eq_false fun q => ne_b29_fb_b32_fb (Value.ref.inj q)) (by decide) (pc' := 227) (by decide) ?_
      refine F_aload X36 at_227 rfl rfl (pc' := 229) rfl ?_
      refine F_aload X36 at_229 rfl rfl (pc' := 231) rfl ?_
      refine F_acmp X36 (same := false) at_231 rfl rfl (decide_eq_false fun q => ne_b30_fb_b31_fb (Value.ref.inj q)) (by decide) (pc' := 234) (by decide) ?_
      refine F_aload X36 at_234 rfl rfl (pc' := 236) rfl ?_
      refine F_aload X36 at_236 rfl rfl (pc' := 238) rfl ?_
      refine F_acmp X36 (same := false) at_238 rfl rfl (decide_eq_false fun q => ne_b30_fb_b32_fb (Value.ref.inj q)) (by decide) (pc' := 241) (by decide) ?_
      refine F_aload X36 at_241 rfl rfl (pc' := 243) rfl ?_
      refine F_aload X36 at_243 rfl rfl (pc' := 245) rfl ?_
      refine F_acmp X36 (same := false) at_245 rfl rfl (decide_eq_false fun q => ne_b31_fb_b32_fb (Value.ref.inj q)) (by decide) (pc' := 248) (by decide) ?_
      refine F_iconst X36 at_248 (z := (1 : Int32)) (by decide) (pc' := 249) rfl ?_
      refine F_goto X36 at_249 (by decide) (pc' := 253) (by decide) ?_
      refine F_istore X36 at_253 (Ls' := #[.val (.int u1), .val (.int (0 : Int32)), .val (.int (1 : Int32)), .val (.ref b18), .val (.ref b20), .val (.ref b22), .val (.ref b24), .val (.ref b29_fb), .val (.ref b30_fb), .val (.ref b31_fb), .val (.ref b32_fb), .val (.int (1 : Int32)), .val (.int (1 : Int32))]) rfl (pc' := 255) rfl ?_
      refine F_iload X36 at_255 rfl (pc' := 257) rfl ?_
      refine F_if_eq X36 at_257 (by decide) (pt := 269) (by decide) (pc' := 260) rfl (fun q => absurd q (by decide)) (fun _ => ?_)
      refine F_iload X36 at_260 rfl (pc' := 262) rfl ?_
      refine F_if_eq X36 at_262 (by decide) (pt := 269) (by decide) (pc' := 265) rfl (fun q => absurd q (by decide)) (fun _ => ?_)
      refine F_iconst X36 at_265 (z := (1 : Int32)) (by decide) (pc' := 266) rfl ?_
      refine F_goto X36 at_266 (by decide) (pc' := 270) (by decide) ?_
      refine F_ireturn_boolean (z' := (1 : Int32)) X36 (by decide) at_270 rfl (by decide) (by decide) ?_
      exact rfl
  · refine F_istoreN X0 at_3 (Ls' := #[.val (.int u1), .val (.int (1 : Int32)), .unset, .unset, .unset, .unset, .unset, .unset, .unset, .unset, .unset, .unset, .unset]) rfl (pc' := 4) rfl ?_
    refine F_iloadN X0 at_4 rfl (pc' := 5) rfl ?_
    refine F_iconst X0 at_5 (z := (2 : Int32)) (by decide) (pc' := 6) rfl ?_
    refine F_iushr X0 at_6 rfl (pc' := 7) rfl ?_
    refine F_iconst X0 at_7 (z := (1 : Int32)) (by decide) (pc' := 8) rfl ?_
    refine F_iand X0 at_8 rfl (pc' := 9) rfl ?_
    refine F_if_eq X0 at_9 (by decide) (pt := 16) (by decide) (pc' := 12) rfl (fun hc9_37 => ?_) (fun hc9_37 => ?_)
    · refine F_iconst X0 at_16 (z := (0 : Int32)) (by decide) (pc' := 17) rfl ?_
      refine F_istoreN X0 at_17 (Ls' := #[.val (.int u1), .val (.int (1 : Int32)), .val (.int (0 : Int32)), .unset, .unset, .unset, .unset, .unset, .unset, .unset, .unset, .unset, .unset]) rfl (pc' := 18) rfl ?_
      refine F_new X0 (wd0 hw) (wd1 hw) (wd2 hw) (by decide) (by decide) at_18 (pc' := 21) rfl fun T38 h38 b38 X38 Ex38 g38 ge38 E_b38 D38 => ?_
      have F38_idle_b38 : Fld Z h38 b38 "com/example/frame4/frame4/ChunkPool" "idle" "Lcom/example/frame4/frame4/ChunkPool$Chunk;" .null := D38 (Or.inl (wd25 hw)) (ty := (.object "com/example/frame4/frame4/ChunkPool$Chunk")) (by decide)
      have F38_idleCount_b38 : Fld Z h38 b38 "com/example/frame4/frame4/ChunkPool" "idleCount" "I" (.int (0 : Int32)) := D38 (Or.inl (wd40 hw)) (ty := .int) (by decide)
      replace X38 := X38.more (cells' := 1) (slots' := 2) (by decide) (by decide)
      refine F_dup X38 at_21 rfl (pc' := 22) rfl ?_
      refine F_init X38 (y := (⟨"com/example/frame4/frame4/ChunkPool", "<init>", "()V"⟩ : MethodName)) (stk := [(.ref b38)]) rfl (wd3 hw) (wd4 hw) (wd2 hw) (wd5 hw) (by decide) (a := b38) (argsL := []) (conPI l Z a0 hw n0 h38 X38.size b38) (by decide) (W := 1) (Nat.le_of_ble_eq_true rfl) (by decide) (by decide) (by decide) rfl (lenOf pd0 rfl) rfl at_22 (pc' := 25) rfl fun T39 v39 h39 X39 q39 => ?_
      obtain ⟨rfl, rfl⟩ := q39
      replace X39 := X39.more (cells' := 1) (slots' := 2) (by decide) (by decide)
      show Jvm.OwnKit.Ends p e below s n0 40 57472 _ T39 (mkF m 25 #[.val (.int u1), .val (.int (1 : Int32)), .val (.int (0 : Int32)), .unset, .unset, .unset, .unset, .unset, .unset, .unset, .unset, .unset, .unset] [(.ref b38)])
      refine F_astoreN X39 at_25 rfl (Ls' := #[.val (.int u1), .val (.int (1 : Int32)), .val (.int (0 : Int32)), .val (.ref b38), .unset, .unset, .unset, .unset, .unset, .unset, .unset, .unset, .unset]) rfl (pc' := 26) rfl ?_
      refine F_new X39 (wd9 hw) (wd10 hw) (wd11 hw) (by decide) (by decide) at_26 (pc' := 29) rfl fun T40 h40 b40 X40 Ex40 g40 ge40 E_b40 D40 => ?_
      have ne_b38_b40 : b38 ≠ b40 := Nat.ne_of_lt (Nat.lt_of_lt_of_le E_b38.lt (Nat.le_of_eq g40.symm))
      have E40_b38 := E_b38.ext Ex40
      have F40_idle_b38 := F38_idle_b38.ext Ex40
      have F40_idleCount_b38 := F38_idleCount_b38.ext Ex40
      have F40_bytes_b40 : Fld Z h40 b40 "com/example/frame4/frame4/ChunkPool$Chunk" "bytes" "[B" .null := D40 (Or.inr (wd18 hw)) (ty := (.array .byte)) (by decide)
      have F40_next_b40 : Fld Z h40 b40 "com/example/frame4/frame4/ChunkPool$Chunk" "next" "Lcom/example/frame4/frame4/ChunkPool$Chunk;" .null := D40 (Or.inl (wd33 hw)) (ty := (.object "com/example/frame4/frame4/ChunkPool$Chunk")) (by decide)
      replace X40 := X40.more (cells' := 2) (slots' := 4) (by decide) (by decide)
      refine F_dup X40 at_29 rfl (pc' := 30) rfl ?_
      refine F_init X40 (y := (⟨"com/example/frame4/frame4/ChunkPool$Chunk", "<init>", "()V"⟩ : MethodName)) (stk := [(.ref b40)]) rfl (wd12 hw) (wd13 hw) (wd11 hw) (wd14 hw) (by decide) (a := b40) (argsL := []) (conCI l Z a0 hw n0 h40 X40.size b40 E_b40 F40_bytes_b40 F40_next_b40 ge40) (by decide) (W := 1) (Nat.le_of_ble_eq_true rfl) (by decide) (by decide) (by decide) rfl (lenOf pd0 rfl) rfl at_30 (pc' := 33) rfl fun T41 v41 h41 X41 q41 => ?_
      obtain ⟨rfl, Kp41, F41_next_b40⟩ := q41
      have E41k_b38 := E40_b38.keep Kp41
      have E41k_b40 := E_b40.keep Kp41
      have F41k_idle_b38 := F40_idle_b38.keep Kp41 (ninS ne_b38_b40 nin0)
      have F41k_idleCount_b38 := F40_idleCount_b38.keep Kp41 (ninS ne_b38_b40 nin0)
      replace X41 := X41.more (cells' := 3) (slots' := 4100) (by decide) (by decide)
      show Jvm.OwnKit.Ends p e below s n0 40 57472 _ T41 (mkF m 33 #[.val (.int u1), .val (.int (1 : Int32)), .val (.int (0 : Int32)), .val (.ref b38), .unset, .unset, .unset, .unset, .unset, .unset, .unset, .unset, .unset] [(.ref b40)])
      refine F_astore X41 at_33 rfl (Ls' := #[.val (.int u1), .val (.int (1 : Int32)), .val (.int (0 : Int32)), .val (.ref b38), .val (.ref b40), .unset, .unset, .unset, .unset, .unset, .unset, .unset, .unset]) rfl (pc' := 35) rfl ?_
      refine F_new X41 (wd9 hw) (wd10 hw) (wd11 hw) (by decide) (by decide) at_35 (pc' := 38) rfl fun T42 h42 b42 X42 Ex42 g42 ge42 E_b42 D42 => ?_
      have ne_b38_b42 : b38 ≠ b42 := Nat.ne_of_lt (Nat.lt_of_lt_of_le E41k_b38.lt (Nat.le_of_eq g42.symm))
      have ne_b40_b42 : b40 ≠ b42 := Nat.ne_of_lt (Nat.lt_of_lt_of_le E41k_b40.lt (Nat.le_of_eq g42.symm))
      have E42_b38 := E41k_b38.ext Ex42
      have E42_b40 := E41k_b40.ext Ex42
      have F42_idle_b38 := F41k_idle_b38.ext Ex42
      have F42_idleCount_b38 := F41k_idleCount_b38.ext Ex42
      have F42_next_b40 := F41_next_b40.ext Ex42
      have F42_bytes_b42 : Fld Z h42 b42 "com/example/frame4/frame4/ChunkPool$Chunk" "bytes" "[B" .null := D42 (Or.inr (wd18 hw)) (ty := (.array .byte)) (by decide)
      have F42_next_b42 : Fld Z h42 b42 "com/example/frame4/frame4/ChunkPool$Chunk" "next" "Lcom/example/frame4/frame4/ChunkPool$Chunk;" .null := D42 (Or.inl (wd33 hw)) (ty := (.object "com/example/frame4/frame4/ChunkPool$Chunk")) (by decide)
      replace X42 := X42.more (cells' := 4) (slots' := 4102) (by decide) (by decide)
      refine F_dup X42 at_38 rfl (pc' := 39) rfl ?_
      refine F_init X42 (y := (⟨"com/example/frame4/frame4/ChunkPool$Chunk", "<init>", "()V"⟩ : MethodName)) (stk := [(.ref b42)]) rfl (wd12 hw) (wd13 hw) (wd11 hw) (wd14 hw) (by decide) (a := b42) (argsL := []) (conCI l Z a0 hw n0 h42 X42.size b42 E_b42 F42_bytes_b42 F42_next_b42 ge42) (by decide) (W := 1) (Nat.le_of_ble_eq_true rfl) (by decide) (by decide) (by decide) rfl (lenOf pd0 rfl) rfl at_39 (pc' := 42) rfl fun T43 v43 h43 X43 q43 => ?_
      obtain ⟨rfl, Kp43, F43_next_b42⟩ := q43
      have E43k_b38 := E42_b38.keep Kp43
      have E43k_b40 := E42_b40.keep Kp43
      have E43k_b42 := E_b42.keep Kp43
      have F43k_idle_b38 := F42_idle_b38.keep Kp43 (ninS ne_b38_b42 nin0)
      have F43k_idleCount_b38 := F42_idleCount_b38.keep Kp43 (ninS ne_b38_b42 nin0)
      have F43k_next_b40 := F42_next_b40.keep Kp43 (ninS ne_b40_b42 nin0)
      replace X43 := X43.more (cells' := 5) (slots' := 8198) (by decide) (by decide)
      show Jvm.OwnKit.Ends p e below s n0 40 57472 _ T43 (mkF m 42 #[.val (.int u1), .val (.int (1 : Int32)), .val (.int (0 : Int32)), .val (.ref b38), .val (.ref b40), .unset, .unset, .unset, .unset, .unset, .unset, .unset, .unset] [(.ref b42)])
      refine F_astore X43 at_42 rfl (Ls' := #[.val (.int u1), .val (.int (1 : Int32)), .val (.int (0 : Int32)), .val (.ref b38), .val (.ref b40), .val (.ref b42), .unset, .unset, .unset, .unset, .unset, .unset, .unset]) rfl (pc' := 44) rfl ?_
      refine F_new X43 (wd9 hw) (wd10 hw) (wd11 hw) (by decide) (by decide) at_44 (pc' := 47) rfl fun T44 h44 b44 X44 Ex44 g44 ge44 E_b44 D44 => ?_
      have ne_b38_b44 : b38 ≠ b44 := Nat.ne_of_lt (Nat.lt_of_lt_of_le E43k_b38.lt (Nat.le_of_eq g44.symm))
      have ne_b40_b44 : b40 ≠ b44 := Nat.ne_of_lt (Nat.lt_of_lt_of_le E43k_b40.lt (Nat.le_of_eq g44.symm))
      have ne_b42_b44 : b42 ≠ b44 := Nat.ne_of_lt (Nat.lt_of_lt_of_le E43k_b42.lt (Nat.le_of_eq g44.symm))
      have E44_b38 := E43k_b38.ext Ex44
      have E44_b40 := E43k_b40.ext Ex44
      have E44_b42 := E43k_b42.ext Ex44
      have F44_idle_b38 := F43k_idle_b38.ext Ex44
      have F44_idleCount_b38 := F43k_idleCount_b38.ext Ex44
      have F44_next_b40 := F43k_next_b40.ext Ex44
      have F44_next_b42 := F43_next_b42.ext Ex44
      have F44_bytes_b44 : Fld Z h44 b44 "com/example/frame4/frame4/ChunkPool$Chunk" "bytes" "[B" .null := D44 (Or.inr (wd18 hw)) (ty := (.array .byte)) (by decide)
      have F44_next_b44 : Fld Z h44 b44 "com/example/frame4/frame4/ChunkPool$Chunk" "next" "Lcom/example/frame4/frame4/ChunkPool$Chunk;" .null := D44 (Or.inl (wd33 hw)) (ty := (.object "com/example/frame4/frame4/ChunkPool$Chunk")) (by decide)
      replace X44 := X44.more (cells' := 6) (slots' := 8200) (by decide) (by decide)
      refine F_dup X44 at_47 rfl (pc' := 48) rfl ?_
      refine F_init X44 (y := (⟨"com/example/frame4/frame4/ChunkPool$Chunk", "<init>", "()V"⟩ : MethodName)) (stk := [(.ref b44)]) rfl (wd12 hw) (wd13 hw) (wd11 hw) (wd14 hw) (by decide) (a := b44) (argsL := []) (conCI l Z a0 hw n0 h44 X44.size b44 E_b44 F44_bytes_b44 F44_next_b44 ge44) (by decide) (W := 1) (Nat.le_of_ble_eq_true rfl) (by decide) (by decide) (by decide) rfl (lenOf pd0 rfl) rfl at_48 (pc' := 51) rfl fun T45 v45 h45 X45 q45 => ?_
      obtain ⟨rfl, Kp45, F45_next_b44⟩ := q45
      have E45k_b38 := E44_b38.keep Kp45
      have E45k_b40 := E44_b40.keep Kp45
      have E45k_b42 := E44_b42.keep Kp45
      have E45k_b44 := E_b44.keep Kp45
      have F45k_idle_b38 := F44_idle_b38.keep Kp45 (ninS ne_b38_b44 nin0)
      have F45k_idleCount_b38 := F44_idleCount_b38.keep Kp45 (ninS ne_b38_b44 nin0)
      have F45k_next_b40 := F44_next_b40.keep Kp45 (ninS ne_b40_b44 nin0)
      have F45k_next_b42 := F44_next_b42.keep Kp45 (ninS ne_b42_b44 nin0)
      replace X45 := X45.more (cells' := 7) (slots' := 12296) (by decide) (by decide)
      show Jvm.OwnKit.Ends p e below s n0 40 57472 _ T45 (mkF m 51 #[.val (.int u1), .val (.int (1 : Int32)), .val (.int (0 : Int32)), .val (.ref b38), .val (.ref b40), .val (.ref b42), .unset, .unset, .unset, .unset, .unset, .unset, .unset] [(.ref b44)])
      refine F_astore X45 at_51 rfl (Ls' := #[.val (.int u1), .val (.int (1 : Int32)), .val (.int (0 : Int32)), .val (.ref b38), .val (.ref b40), .val (.ref b42), .val (.ref b44), .unset, .unset, .unset, .unset, .unset, .unset]) rfl (pc' := 53) rfl ?_
      refine F_iloadN X45 at_53 rfl (pc' := 54) rfl ?_
      refine F_if_eq X45 at_54 (by decide) (pt := 78) (by decide) (pc' := 57) rfl (fun _ => ?_) (fun q => absurd q (by decide))
      refine F_iloadN X45 at_78 rfl (pc' := 79) rfl ?_
      refine F_iconst X45 at_79 (z := (1 : Int32)) (by decide) (pc' := 80) rfl ?_
      refine F_icmp_lt X45 at_80 (by decide) (pt := 89) (by decide) (pc' := 83) rfl (fun q => absurd q (by decide)) (fun _ => ?_)
      refine F_aloadN X45 at_83 rfl rfl (pc' := 84) rfl ?_
      refine F_aload X45 at_84 rfl rfl (pc' := 86) rfl ?_
      refine F_callV X45 (y := (⟨"com/example/frame4/frame4/ChunkPool", "giveBack", "(Lcom/example/frame4/frame4/ChunkPool$Chunk;)V"⟩ : MethodName)) (stk := []) (wd34 hw) (wd35 hw) (wd37 hw) (wd36 hw) (wd2 hw) (wd38 hw) (by decide) (a := b38) E45k_b38 (argsL := [(.ref b40)]) (conG0 l Z a0 hw n0 h45 X45.size b38 b40 .null E45k_b38 E45k_b40 F45k_idle_b38 F45k_idleCount_b38 F45k_next_b40 ge38 ge40 ne_b38_b40) (by decide) (W := 0) (Nat.le_of_ble_eq_true rfl) (by decide) (by decide) (by decide) rfl (lenOf pd3 rfl) rfl at_86 (pc' := 89) rfl fun T46 v46 h46 X46 q46 => ?_
      obtain ⟨rfl, Kp46, F46_idle_b38, F46_idleCount_b38, F46_next_b40⟩ := q46
      have E46k_b38 := E45k_b38.keep Kp46
      have E46k_b40 := E45k_b40.keep Kp46
      have E46k_b42 := E45k_b42.keep Kp46
      have E46k_b44 := E45k_b44.keep Kp46
      have F46k_next_b42 := F45k_next_b42.keep Kp46 (ninS (Ne.symm ne_b38_b42) (ninS (Ne.symm ne_b40_b42) nin0))
      have F46k_next_b44 := F45_next_b44.keep Kp46 (ninS (Ne.symm ne_b38_b44) (ninS (Ne.symm ne_b40_b44) nin0))
      replace X46 := X46.more (cells' := 7) (slots' := 12296) (by decide) (by decide)
      show Jvm.OwnKit.Ends p e below s n0 40 57472 _ T46 (mkF m 89 #[.val (.int u1), .val (.int (1 : Int32)), .val (.int (0 : Int32)), .val (.ref b38), .val (.ref b40), .val (.ref b42), .val (.ref b44), .unset, .unset, .unset, .unset, .unset, .unset] [])
      refine F_iloadN X46 at_89 rfl (pc' := 90) rfl ?_
      refine F_iconst X46 at_90 (z := (2 : Int32)) (by decide) (pc' := 91) rfl ?_
      refine F_icmp_lt X46 at_91 (by decide) (pt := 100) (by decide) (pc' := 94) rfl (fun _ => ?_) (fun q => absurd q (by decide))
      refine F_iloadN X46 at_100 rfl (pc' := 101) rfl ?_
      refine F_iconst X46 at_101 (z := (3 : Int32)) (by decide) (pc' := 102) rfl ?_
      refine F_icmp_lt X46 at_102 (by decide) (pt := 111) (by decide) (pc' := 105) rfl (fun _ => ?_) (fun q => absurd q (by decide))
      refine F_aloadN X46 at_111 rfl rfl (pc' := 112) rfl ?_
      refine F_callV X46 (y := (⟨"com/example/frame4/frame4/ChunkPool", "take", "()Lcom/example/frame4/frame4/ChunkPool$Chunk;"⟩ : MethodName)) (stk := []) (wd19 hw) (wd20 hw) (wd22 hw) (wd21 hw) (wd2 hw) (wd23 hw) (by decide) (a := b38) E46k_b38 (argsL := []) (conT1 l Z a0 hw n0 h46 X46.size b38 b40 E46k_b38 E46k_b40 F46_idle_b38 F46_idleCount_b38 F46_next_b40 ge38 ge40 ne_b38_b40) (by decide) (W := 0) (Nat.le_of_ble_eq_true rfl) (by decide) (by decide) (by decide) rfl (lenOf pd1 rfl) rfl at_112 (pc' := 115) rfl fun T47 v47 h47 X47 q47 => ?_
      obtain ⟨rfl, Kp47, F47_idle_b38, F47_idleCount_b38, F47_next_b40⟩ := q47
      have E47k_b38 := E46k_b38.keep Kp47
      have E47k_b40 := E46k_b40.keep Kp47
      have E47k_b42 := E46k_b42.keep Kp47
      have E47k_b44 := E46k_b44.keep Kp47
      have F47k_next_b42 := F46k_next_b42.keep Kp47 (ninS (Ne.symm ne_b38_b42) (ninS (Ne.symm ne_b40_b42) nin0))
      have F47k_next_b44 := F46k_next_b44.keep Kp47 (ninS (Ne.symm ne_b38_b44) (ninS (Ne.symm ne_b40_b44) nin0))
      replace X47 := X47.more (cells' := 7) (slots' := 12296) (by decide) (by decide)
      show Jvm.OwnKit.Ends p e below s n0 40 57472 _ T47 (mkF m 115 #[.val (.int u1), .val (.int (1 : Int32)), .val (.int (0 : Int32)), .val (.ref b38), .val (.ref b40), .val (.ref b42), .val (.ref b44), .unset, .unset, .unset, .unset, .unset, .unset] [(.ref b40)])
      refine F_astore X47 at_115 rfl (Ls' := #[.val (.int u1), .val (.int (1 : Int32)), .val (.int (0 : Int32)), .val (.ref b38), .val (.ref b40), .val (.ref b42), .val (.ref b44), .val (.ref b40), .unset, .unset, .unset, .unset, .unset]) rfl (pc' := 117) rfl ?_
      refine F_aloadN X47 at_117 rfl rfl (pc' := 118) rfl ?_
      refine F_callV X47 (y := (⟨"com/example/frame4/frame4/ChunkPool", "take", "()Lcom/example/frame4/frame4/ChunkPool$Chunk;"⟩ : MethodName)) (stk := []) (wd19 hw) (wd20 hw) (wd22 hw) (wd21 hw) (wd2 hw) (wd23 hw) (by decide) (a := b38) E47k_b38 (argsL := []) (conT0 l Z a0 hw n0 h47 X47.size b38 F47_idle_b38) (by decide) (W := 0) (Nat.le_of_ble_eq_true rfl) (by decide) (by decide) (by decide) rfl (lenOf pd1 rfl) rfl at_118 (pc' := 121) rfl fun T48 v48 h48 X48 q48 => ?_
      obtain ⟨b48_fb, rfl, sz48_fb, Kp48, E48_b48_fb, F48_next_b48_fb⟩ := q48
      have ge_b48_fb : n0 ≤ b48_fb := Nat.le_trans X47.size sz48_fb
      have ne_b38_b48_fb : b38 ≠ b48_fb := Nat.ne_of_lt (Nat.lt_of_lt_of_le E47k_b38.lt sz48_fb)
      have ne_b40_b48_fb : b40 ≠ b48_fb := Nat.ne_of_lt (Nat.lt_of_lt_of_le E47k_b40.lt sz48_fb)
      have ne_b42_b48_fb : b42 ≠ b48_fb := Nat.ne_of_lt (Nat.lt_of_lt_of_le E47k_b42.lt sz48_fb)
      have ne_b44_b48_fb : b44 ≠ b48_fb := Nat.ne_of_lt (Nat.lt_of_lt_of_le E47k_b44.lt sz48_fb)
      have E48k_b38 := E47k_b38.keep Kp48
      have E48k_b40 := E47k_b40.keep Kp48
      have E48k_b42 := E47k_b42.keep Kp48
      have E48k_b44 := E47k_b44.keep Kp48
      have F48k_idle_b38 := F47_idle_b38.keep Kp48 nin0
      have F48k_idleCount_b38 := F47_idleCount_b38.keep Kp48 nin0
      have F48k_next_b40 := F47_next_b40.keep Kp48 nin0
      have F48k_next_b42 := F47k_next_b42.keep Kp48 nin0
      have F48k_next_b44 := F47k_next_b44.keep Kp48 nin0
      replace X48 := X48.more (cells' := 9) (slots' := 16394) (by decide) (by decide)
      show Jvm.OwnKit.Ends p e below s n0 40 57472 _ T48 (mkF m 121 #[.val (.int u1), .val (.int (1 : Int32)), .val (.int (0 : Int32)), .val (.ref b38), .val (.ref b40), .val (.ref b42), .val (.ref b44), .val (.ref b40), .unset, .unset, .unset, .unset, .unset] [(.ref b48_fb)])
      refine F_astore X48 at_121 rfl (Ls' := #[.val (.int u1), .val (.int (1 : Int32)), .val (.int (0 : Int32)), .val (.ref b38), .val (.ref b40), .val (.ref b42), .val (.ref b44), .val (.ref b40), .val (.ref b48_fb), .unset, .unset, .unset, .unset]) rfl (pc' := 123) rfl ?_
      refine F_aloadN X48 at_123 rfl rfl (pc' := 124) rfl ?_
      refine F_callV X48 (y := (⟨"com/example/frame4/frame4/ChunkPool", "take", "()Lcom/example/frame4/frame4/ChunkPool$Chunk;"⟩ : MethodName)) (stk := []) (wd19 hw) (wd20 hw) (wd22 hw) (wd21 hw) (wd2 hw) (wd23 hw) (by decide) (a := b38) E48k_b38 (argsL := []) (conT0 l Z a0 hw n0 h48 X48.size b38 F48k_idle_b38) (by decide) (W := 0) (Nat.le_of_ble_eq_true rfl) (by decide) (by decide) (by decide) rfl (lenOf pd1 rfl) rfl at_124 (pc' := 127) rfl fun T49 v49 h49 X49 q49 => ?_
      obtain ⟨b49_fb, rfl, sz49_fb, Kp49, E49_b49_fb, F49_next_b49_fb⟩ := q49
      have ge_b49_fb : n0 ≤ b49_fb := Nat.le_trans X48.size sz49_fb
      have ne_b38_b49_fb : b38 ≠ b49_fb := Nat.ne_of_lt (Nat.lt_of_lt_of_le E48k_b38.lt sz49_fb)
      have ne_b40_b49_fb : b40 ≠ b49_fb := Nat.ne_of_lt (Nat.lt_of_lt_of_le E48k_b40.lt sz49_fb)
      have ne_b42_b49_fb : b42 ≠ b49_fb := Nat.ne_of_lt (Nat.lt_of_lt_of_le E48k_b42.lt sz49_fb)
      have ne_b44_b49_fb : b44 ≠ b49_fb := Nat.ne_of_lt (Nat.lt_of_lt_of_le E48k_b44.lt sz49_fb)
      have ne_b48_fb_b49_fb : b48_fb ≠ b49_fb := Nat.ne_of_lt (Nat.lt_of_lt_of_le E48_b48_fb.lt sz49_fb)
      have E49k_b38 := E48k_b38.keep Kp49
      have E49k_b40 := E48k_b40.keep Kp49
      have E49k_b42 := E48k_b42.keep Kp49
      have E49k_b44 := E48k_b44.keep Kp49
      have E49k_b48_fb := E48_b48_fb.keep Kp49
      have F49k_idle_b38 := F48k_idle_b38.keep Kp49 nin0
      have F49k_idleCount_b38 := F48k_idleCount_b38.keep Kp49 nin0
      have F49k_next_b40 := F48k_next_b40.keep Kp49 nin0
      have F49k_next_b42 := F48k_next_b42.keep Kp49 nin0
      have F49k_next_b44 := F48k_next_b44.keep Kp49 nin0
      have F49k_next_b48_fb := F48_next_b48_fb.keep Kp49 nin0
      replace X49 := X49.more (cells' := 11) (slots' := 20492) (by decide) (by decide)
      show Jvm.OwnKit.Ends p e below s n0 40 57472 _ T49 (mkF m 127 #[.val (.int u1), .val (.int (1 : Int32)), .val (.int (0 : Int32)), .val (.ref b38), .val (.ref b40), .val (.ref b42), .val (.ref b44), .val (.ref b40), .val (.ref b48_fb), .unset, .unset, .unset, .unset] [(.ref b49_fb)])
      refine F_astore X49 at_127 rfl (Ls' := #[.val (.int u1), .val (.int (1 : Int32)), .val (.int (0 : Int32)), .val (.ref b38), .val (.ref b40), .val (.ref b42), .val (.ref b44), .val (.ref b40), .val (.ref b48_fb), .val (.ref b49_fb), .unset, .unset, .unset]) rfl (pc' := 129) rfl ?_
      refine F_aloadN X49 at_129 rfl rfl (pc' := 130) rfl ?_
      refine F_callV X49 (y := (⟨"com/example/frame4/frame4/ChunkPool", "take", "()Lcom/example/frame4/frame4/ChunkPool$Chunk;"⟩ : MethodName)) (stk := []) (wd19 hw) (wd20 hw) (wd22 hw) (wd21 hw) (wd2 hw) (wd23 hw) (by decide) (a := b38) E49k_b38 (argsL := []) (conT0 l Z a0 hw n0 h49 X49.size b38 F49k_idle_b38) (by decide) (W := 0) (Nat.le_of_ble_eq_true rfl) (by decide) (by decide) (by decide) rfl (lenOf pd1 rfl) rfl at_130 (pc' := 133) rfl fun T50 v50 h50 X50 q50 => ?_
      obtain ⟨b50_fb, rfl, sz50_fb, Kp50, E50_b50_fb, F50_next_b50_fb⟩ := q50
      have ge_b50_fb : n0 ≤ b50_fb := Nat.le_trans X49.size sz50_fb
      have ne_b38_b50_fb : b38 ≠ b50_fb := Nat.ne_of_lt (Nat.lt_of_lt_of_le E49k_b38.lt sz50_fb)
      have ne_b40_b50_fb : b40 ≠ b50_fb := Nat.ne_of_lt (Nat.lt_of_lt_of_le E49k_b40.lt sz50_fb)
      have ne_b42_b50_fb : b42 ≠ b50_fb := Nat.ne_of_lt (Nat.lt_of_lt_of_le E49k_b42.lt sz50_fb)
      have ne_b44_b50_fb : b44 ≠ b50_fb := Nat.ne_of_lt (Nat.lt_of_lt_of_le E49k_b44.lt sz50_fb)
      have ne_b48_fb_b50_fb : b48_fb ≠ b50_fb := Nat.ne_of_lt (Nat.lt_of_lt_of_le E49k_b48_fb.lt sz50_fb)
      have ne_b49_fb_b50_fb : b49_fb ≠ b50_fb := Nat.ne_of_lt (Nat.lt_of_lt_of_le E49_b49_fb.lt sz50_fb)
      have E50k_b38 := E49k_b38.keep Kp50
      have E50k_b40 := E49k_b40.keep Kp50
      have E50k_b42 := E49k_b42.keep Kp50
      have E50k_b44 := E49k_b44.keep Kp50
      have E50k_b48_fb := E49k_b48_fb.keep Kp50
      have E50k_b49_fb := E49_b49_fb.keep Kp50
      have F50k_idle_b38 := F49k_idle_b38.keep Kp50 nin0
      have F50k_idleCount_b38 := F49k_idleCount_b38.keep Kp50 nin0
      have F50k_next_b40 := F49k_next_b40.keep Kp50 nin0
      have F50k_next_b42 := F49k_next_b42.keep Kp50 nin0
      have F50k_next_b44 := F49k_next_b44.keep Kp50 nin0
      have F50k_next_b48_fb := F49k_next_b48_fb.keep Kp50 nin0
      have F50k_next_b49_fb := F49_next_b49_fb.keep Kp50 nin0
      replace X50 := X50.more (cells' := 13) (slots' := 24590) (by decide) (by decide)
      show Jvm.OwnKit.Ends p e below s n0 40 57472 _ T50 (mkF m 133 #[.val (.int u1), .val (.int (1 : Int32)), .val (.int (0 : Int32)), .val (.ref b38), .val (.ref b40), .val (.ref b42), .val (.ref b44), .val (.ref b40), .val (.ref b48_fb), .val (.ref b49_fb), .unset, .unset, .unset] [(.ref b50_fb)])
      refine F_astore X50 at_133 rfl (Ls' := #[.val (.int u1), .val (.int (1 : Int32)), .val (.int (0 : Int32)), .val (.ref b38), .val (.ref b40), .val (.ref b42), .val (.ref b44), .val (.ref b40), .val (.ref b48_fb), .val (.ref b49_fb), .val (.ref b50_fb), .unset, .unset]) rfl (pc' := 135) rfl ?_
      refine F_aload X50 at_135 rfl rfl (pc' := 137) rfl ?_
      refine F_iconst X50 at_137 (z := (0 : Int32)) (by decide) (pc' := 138) rfl ?_
      refine F_iloadN X50 at_138 rfl (pc' := 139) rfl ?_
      refine F_aload X50 at_139 rfl rfl (pc' := 141) rfl ?_
      refine F_aload X50 at_141 rfl rfl (pc' := 143) rfl ?_
      refine F_aload X50 at_143 rfl rfl (pc' := 145) rfl ?_
      refine F_callS X50 (y := (⟨"com/example/frame4/frame4/ChunkPoolGiveBackPinLaw", "expect", "(Lcom/example/frame4/frame4/ChunkPool$Chunk;IILcom/example/frame4/frame4/ChunkPool$Chunk;Lcom/example/frame4/frame4/ChunkPool$Chunk;Lcom/example/frame4/frame4/ChunkPool$Chunk;)Z"⟩ : MethodName)) (stk := []) (wd28 hw) (wd29 hw) (wd30 hw) (wd31 hw) (by decide) (argsL := [(.ref b40), (.int (0 : Int32)), (.int (1 : Int32)), (.ref b40), (.ref b42), (.ref b44)]) (conE1_0 l Z a0 hw n0 h50 X50.size b40 b42 b44 F50k_next_b40) (by decide) (W := 0) (Nat.le_of_ble_eq_true rfl) (by decide) (by decide) (by decide) rfl (lenOf pd2 rfl) rfl at_145 (pc' := 148) rfl fun T51 v51 h51 X51 q51 => ?_
      obtain ⟨rfl, rfl⟩ := q51
      replace X51 := X51.more (cells' := 13) (slots' := 24590) (by decide) (by decide)
      show Jvm.OwnKit.Ends p e below s n0 40 57472 _ T51 (mkF m 148 #[.val (.int u1), .val (.int (1 : Int32)), .val (.int (0 : Int32)), .val (.ref b38), .val (.ref b40), .val (.ref b42), .val (.ref b44), .val (.ref b40), .val (.ref b48_fb), .val (.ref b49_fb), .val (.ref b50_fb), .unset, .unset] [(.int (1 : Int32))])
      refine F_if_eq X51 at_148 (by decide) (pt := 203) (by decide) (pc' := 151) rfl (fun q => absurd q (by decide)) (fun _ => ?_)
      refine F_aload X51 at_151 rfl rfl (pc' := 153) rfl ?_
      refine F_iconst X51 at_153 (z := (1 : Int32)) (by decide) (pc' := 154) rfl ?_
      refine F_iloadN X51 at_154 rfl (pc' := 155) rfl ?_
      refine F_aload X51 at_155 rfl rfl (pc' := 157) rfl ?_
      refine F_aload X51 at_157 rfl rfl (pc' := 159) rfl ?_
      refine F_aload X51 at_159 rfl rfl (pc' := 161) rfl ?_
      refine F_callS X51 (y := (⟨"com/example/frame4/frame4/ChunkPoolGiveBackPinLaw", "expect", "(Lcom/example/frame4/frame4/ChunkPool$Chunk;IILcom/example/frame4/frame4/ChunkPool$Chunk;Lcom/example/frame4/frame4/ChunkPool$Chunk;Lcom/example/frame4/frame4/ChunkPool$Chunk;)Z"⟩ : MethodName)) (stk := []) (wd28 hw) (wd29 hw) (wd30 hw) (wd31 hw) (by decide) (argsL := [(.ref b48_fb), (.int (1 : Int32)), (.int (1 : Int32)), (.ref b40), (.ref b42), (.ref b44)]) (conE1_1 l Z a0 hw n0 h50 X51.size b48_fb b40 b42 b44 F50k_next_b48_fb (Ne.symm ne_b40_b48_fb) (Ne.symm ne_b42_b48_fb) (Ne.symm ne_b44_b48_fb)) (by decide) (W := 0) (Nat.le_of_ble_eq_true rfl) (by decide) (by decide) (by decide) rfl (lenOf pd2 rfl) rfl at_161 (pc' := 164) rfl fun T52 v52 h52 X52 q52 => ?_
      obtain ⟨rfl, rfl⟩ := q52
      replace X52 := X52.more (cells' := 13) (slots' := 24590) (by decide) (by decide)
      show Jvm.OwnKit.Ends p e below s n0 40 57472 _ T52 (mkF m 164 #[.val (.int u1), .val (.int (1 : Int32)), .val (.int (0 : Int32)), .val (.ref b38), .val (.ref b40), .val (.ref b42), .val (.ref b44), .val (.ref b40), .val (.ref b48_fb), .val (.ref b49_fb), .val (.ref b50_fb), .unset, .unset] [(.int (1 : Int32))])
      refine F_if_eq X52 at_164 (by decide) (pt := 203) (by decide) (pc' := 167) rfl (fun q => absurd q (by decide)) (fun _ => ?_)
      refine F_aload X52 at_167 rfl rfl (pc' := 169) rfl ?_
      refine F_iconst X52 at_169 (z := (2 : Int32)) (by decide) (pc' := 170) rfl ?_
      refine F_iloadN X52 at_170 rfl (pc' := 171) rfl ?_
      refine F_aload X52 at_171 rfl rfl (pc' := 173) rfl ?_
      refine F_aload X52 at_173 rfl rfl (pc' := 175) rfl ?_
      refine F_aload X52 at_175 rfl rfl (pc' := 177) rfl ?_
      refine F_callS X52 (y := (⟨"com/example/frame4/frame4/ChunkPoolGiveBackPinLaw", "expect", "(Lcom/example/frame4/frame4/ChunkPool$Chunk;IILcom/example/frame4/frame4/ChunkPool$Chunk;Lcom/example/frame4/frame4/ChunkPool$Chunk;Lcom/example/frame4/frame4/ChunkPool$Chunk;)Z"⟩ : MethodName)) (stk := []) (wd28 hw) (wd29 hw) (wd30 hw) (wd31 hw) (by decide) (argsL := [(.ref b49_fb), (.int (2 : Int32)), (.int (1 : Int32)), (.ref b40), (.ref b42), (.ref b44)]) (conE1_2 l Z a0 hw n0 h50 X52.size b49_fb b40 b42 b44 F50k_next_b49_fb (Ne.symm ne_b40_b49_fb) (Ne.symm ne_b42_b49_fb) (Ne.symm ne_b44_b49_fb)) (by decide) (W := 0) (Nat.le_of_ble_eq_true rfl) (by decide) (by decide) (by decide) rfl (lenOf pd2 rfl) rfl at_177 (pc' := 180) rfl fun T53 v53 h53 X53 q53 => ?_
      obtain ⟨rfl, rfl⟩ := q53
      replace X53 := X53.more (cells' := 13) (slots' := 24590) (by decide) (by decide)
      show Jvm.OwnKit.Ends p e below s n0 40 57472 _ T53 (mkF m 180 #[.val (.int u1), .val (.int (1 : Int32)), .val (.int (0 : Int32)), .val (.ref b38), .val (.ref b40), .val (.ref b42), .val (.ref b44), .val (.ref b40), .val (.ref b48_fb), .val (.ref b49_fb), .val (.ref b50_fb), .unset, .unset] [(.int (1 : Int32))])
      refine F_if_eq X53 at_180 (by decide) (pt := 203) (by decide) (pc' := 183) rfl (fun q => absurd q (by decide)) (fun _ => ?_)
      refine F_aload X53 at_183 rfl rfl (pc' := 185) rfl ?_
      refine F_iconst X53 at_185 (z := (3 : Int32)) (by decide) (pc' := 186) rfl ?_
      refine F_iloadN X53 at_186 rfl (pc' := 187) rfl ?_
      refine F_aload X53 at_187 rfl rfl (pc' := 189) rfl ?_
      refine F_aload X53 at_189 rfl rfl (pc' := 191) rfl ?_
      refine F_aload X53 at_191 rfl rfl (pc' := 193) rfl ?_
      refine F_callS X53 (y := (⟨"com/example/frame4/frame4/ChunkPoolGiveBackPinLaw", "expect", "(Lcom/example/frame4/frame4/ChunkPool$Chunk;IILcom/example/frame4/frame4/ChunkPool$Chunk;Lcom/example/frame4/frame4/ChunkPool$Chunk;Lcom/example/frame4/frame4/ChunkPool$Chunk;)Z"⟩ : MethodName)) (stk := []) (wd28 hw) (wd29 hw) (wd30 hw) (wd31 hw) (by decide) (argsL := [(.ref b50_fb), (.int (3 : Int32)), (.int (1 : Int32)), (.ref b40), (.ref b42), (.ref b44)]) (conE1_3 l Z a0 hw n0 h50 X53.size b50_fb b40 b42 b44 F50_next_b50_fb (Ne.symm ne_b40_b50_fb) (Ne.symm ne_b42_b50_fb) (Ne.symm ne_b44_b50_fb)) (by decide) (W := 0) (Nat.le_of_ble_eq_true rfl) (by decide) (by decide) (by decide) rfl (lenOf pd2 rfl) rfl at_193 (pc' := 196) rfl fun T54 v54 h54 X54 q54 => ?_
      obtain ⟨rfl, rfl⟩ := q54
      replace X54 := X54.more (cells' := 13) (slots' := 24590) (by decide) (by decide)
      show Jvm.OwnKit.Ends p e below s n0 40 57472 _ T54 (mkF m 196 #[.val (.int u1), .val (.int (1 : Int32)), .val (.int (0 : Int32)), .val (.ref b38), .val (.ref b40), .val (.ref b42), .val (.ref b44), .val (.ref b40), .val (.ref b48_fb), .val (.ref b49_fb), .val (.ref b50_fb), .unset, .unset] [(.int (1 : Int32))])
      refine F_if_eq X54 at_196 (by decide) (pt := 203) (by decide) (pc' := 199) rfl (fun q => absurd q (by decide)) (fun _ => ?_)
      refine F_iconst X54 at_199 (z := (1 : Int32)) (by decide) (pc' := 200) rfl ?_
      refine F_goto X54 at_200 (by decide) (pc' := 204) (by decide) ?_
      refine F_istore X54 at_204 (Ls' := #[.val (.int u1), .val (.int (1 : Int32)), .val (.int (0 : Int32)), .val (.ref b38), .val (.ref b40), .val (.ref b42), .val (.ref b44), .val (.ref b40), .val (.ref b48_fb), .val (.ref b49_fb), .val (.ref b50_fb), .val (.int (1 : Int32)), .unset]) rfl (pc' := 206) rfl ?_
      refine F_aload X54 at_206 rfl rfl (pc' := 208) rfl ?_
      refine F_aload X54 at_208 rfl rfl (pc' := 210) rfl ?_
      refine F_acmp X54 (same := false) at_210 rfl rfl (decide_eq_false fun q => ne_b40_b48_fb (Value.ref.inj q)) (by decide) (pc' := 213) (by decide) ?_
      refine F_aload X54 at_213 rfl rfl (pc' := 215) rfl ?_
      refine F_aload X54 at_215 rfl rfl (pc' := 217) rfl ?_
      refine F_acmp X54 (same := false) at_217 rfl rfl (decide_eq_false fun q => ne_b40_b49_fb (Value.ref.inj q)) (by decide) (pc' := 220) (by decide) ?_
      refine F_aload X54 at_220 rfl rfl (pc' := 222) rfl ?_
      refine F_aload X54 at_222 rfl rfl (pc' := 224) rfl ?_
      refine F_acmp X54 (same := false) at_224 rfl rfl (decide_eq_false fun q => ne_b40_b50_fb (Value.ref.inj q)) (by decide) (pc' := 227) (by decide) ?_
      refine F_aload X54 at_227 rfl rfl (pc' := 229) rfl ?_
      refine F_aload X54 at_229 rfl rfl (pc' := 231) rfl ?_
      refine F_acmp X54 (same := false) at_231 rfl rfl (decide_eq_false fun q => ne_b48_fb_b49_fb (Value.ref.inj q)) (by decide) (pc' := 234) (by decide) ?_
      refine F_aload X54 at_234 rfl rfl (pc' := 236) rfl ?_
      refine F_aload X54 at_236 rfl rfl (pc' := 238) rfl ?_
      refine F_acmp X54 (same := false) at_238 rfl rfl (decide_eq_false fun q => ne_b48_fb_b50_fb (Value.ref.inj q)) (by decide) (pc' := 241) (by decide) ?_
      refine F_aload X54 at_241 rfl rfl (pc' := 243) rfl ?_
      refine F_aload X54 at_243 rfl rfl (pc' := 245) rfl ?_
      refine F_acmp X54 (same := false) at_245 rfl rfl (decide_eq_false fun q => ne_b49_fb_b50_fb (Value.ref.inj q)) (by decide) (pc' := 248) (by decide) ?_
      refine F_iconst X54 at_248 (z := (1 : Int32)) (by decide) (pc' := 249) rfl ?_
      refine F_goto X54 at_249 (by decide) (pc' := 253) (by decide) ?_
      refine F_istore X54 at_253 (Ls' := #[.val (.int u1), .val (.int (1 : Int32)), .val (.int (0 : Int32)), .val (.ref b38), .val (.ref b40), .val (.ref b42), .val (.ref b44), .val (.ref b40), .val (.ref b48_fb), .val (.ref b49_fb), .val (.ref b50_fb), .val (.int (1 : Int32)), .val (.int (1 : Int32))]) rfl (pc' := 255) rfl ?_
      refine F_iload X54 at_255 rfl (pc' := 257) rfl ?_
      refine F_if_eq X54 at_257 (by decide) (pt := 269) (by decide) (pc' := 260) rfl (fun q => absurd q (by decide)) (fun _ => ?_)
      refine F_iload X54 at_260 rfl (pc' := 262) rfl ?_
      refine F_if_eq X54 at_262 (by decide) (pt := 269) (by decide) (pc' := 265) rfl (fun q => absurd q (by decide)) (fun _ => ?_)
      refine F_iconst X54 at_265 (z := (1 : Int32)) (by decide) (pc' := 266) rfl ?_
      refine F_goto X54 at_266 (by decide) (pc' := 270) (by decide) ?_
      refine F_ireturn_boolean (z' := (1 : Int32)) X54 (by decide) at_270 rfl (by decide) (by decide) ?_
      exact rfl
    · refine F_iconst X0 at_12 (z := (1 : Int32)) (by decide) (pc' := 13) rfl ?_
      refine F_goto X0 at_13 (by decide) (pc' := 17) (by decide) ?_
      refine F_istoreN X0 at_17 (Ls' := #[.val (.int u1), .val (.int (1 : Int32)), .val (.int (1 : Int32)), .unset, .unset, .unset, .unset, .unset, .unset, .unset, .unset, .unset, .unset]) rfl (pc' := 18) rfl ?_
      refine F_new X0 (wd0 hw) (wd1 hw) (wd2 hw) (by decide) (by decide) at_18 (pc' := 21) rfl fun T55 h55 b55 X55 Ex55 g55 ge55 E_b55 D55 => ?_
      have F55_idle_b55 : Fld Z h55 b55 "com/example/frame4/frame4/ChunkPool" "idle" "Lcom/example/frame4/frame4/ChunkPool$Chunk;" .null := D55 (Or.inl (wd25 hw)) (ty := (.object "com/example/frame4/frame4/ChunkPool$Chunk")) (by decide)
      have F55_idleCount_b55 : Fld Z h55 b55 "com/example/frame4/frame4/ChunkPool" "idleCount" "I" (.int (0 : Int32)) := D55 (Or.inl (wd40 hw)) (ty := .int) (by decide)
      replace X55 := X55.more (cells' := 1) (slots' := 2) (by decide) (by decide)
      refine F_dup X55 at_21 rfl (pc' := 22) rfl ?_
      refine F_init X55 (y := (⟨"com/example/frame4/frame4/ChunkPool", "<init>", "()V"⟩ : MethodName)) (stk := [(.ref b55)]) rfl (wd3 hw) (wd4 hw) (wd2 hw) (wd5 hw) (by decide) (a := b55) (argsL := []) (conPI l Z a0 hw n0 h55 X55.size b55) (by decide) (W := 1) (Nat.le_of_ble_eq_true rfl) (by decide) (by decide) (by decide) rfl (lenOf pd0 rfl) rfl at_22 (pc' := 25) rfl fun T56 v56 h56 X56 q56 => ?_
      obtain ⟨rfl, rfl⟩ := q56
      replace X56 := X56.more (cells' := 1) (slots' := 2) (by decide) (by decide)
      show Jvm.OwnKit.Ends p e below s n0 40 57472 _ T56 (mkF m 25 #[.val (.int u1), .val (.int (1 : Int32)), .val (.int (1 : Int32)), .unset, .unset, .unset, .unset, .unset, .unset, .unset, .unset, .unset, .unset] [(.ref b55)])
      refine F_astoreN X56 at_25 rfl (Ls' := #[.val (.int u1), .val (.int (1 : Int32)), .val (.int (1 : Int32)), .val (.ref b55), .unset, .unset, .unset, .unset, .unset, .unset, .unset, .unset, .unset]) rfl (pc' := 26) rfl ?_
      refine F_new X56 (wd9 hw) (wd10 hw) (wd11 hw) (by decide) (by decide) at_26 (pc' := 29) rfl fun T57 h57 b57 X57 Ex57 g57 ge57 E_b57 D57 => ?_
      have ne_b55_b57 : b55 ≠ b57 := Nat.ne_of_lt (Nat.lt_of_lt_of_le E_b55.lt (Nat.le_of_eq g57.symm))
      have E57_b55 := E_b55.ext Ex57
      have F57_idle_b55 := F55_idle_b55.ext Ex57
      have F57_idleCount_b55 := F55_idleCount_b55.ext Ex57
      have F57_bytes_b57 : Fld Z h57 b57 "com/example/frame4/frame4/ChunkPool$Chunk" "bytes" "[B" .null := D57 (Or.inr (wd18 hw)) (ty := (.array .byte)) (by decide)
      have F57_next_b57 : Fld Z h57 b57 "com/example/frame4/frame4/ChunkPool$Chunk" "next" "Lcom/example/frame4/frame4/ChunkPool$Chunk;" .null := D57 (Or.inl (wd33 hw)) (ty := (.object "com/example/frame4/frame4/ChunkPool$Chunk")) (by decide)
      replace X57 := X57.more (cells' := 2) (slots' := 4) (by decide) (by decide)
      refine F_dup X57 at_29 rfl (pc' := 30) rfl ?_
      refine F_init X57 (y := (⟨"com/example/frame4/frame4/ChunkPool$Chunk", "<init>", "()V"⟩ : MethodName)) (stk := [(.ref b57)]) rfl (wd12 hw) (wd13 hw) (wd11 hw) (wd14 hw) (by decide) (a := b57) (argsL := []) (conCI l Z a0 hw n0 h57 X57.size b57 E_b57 F57_bytes_b57 F57_next_b57 ge57) (by decide) (W := 1) (Nat.le_of_ble_eq_true rfl) (by decide) (by decide) (by decide) rfl (lenOf pd0 rfl) rfl at_30 (pc' := 33) rfl fun T58 v58 h58 X58 q58 => ?_
      obtain ⟨rfl, Kp58, F58_next_b57⟩ := q58
      have E58k_b55 := E57_b55.keep Kp58
      have E58k_b57 := E_b57.keep Kp58
      have F58k_idle_b55 := F57_idle_b55.keep Kp58 (ninS ne_b55_b57 nin0)
      have F58k_idleCount_b55 := F57_idleCount_b55.keep Kp58 (ninS ne_b55_b57 nin0)
      replace X58 := X58.more (cells' := 3) (slots' := 4100) (by decide) (by decide)
      show Jvm.OwnKit.Ends p e below s n0 40 57472 _ T58 (mkF m 33 #[.val (.int u1), .val (.int (1 : Int32)), .val (.int (1 : Int32)), .val (.ref b55), .unset, .unset, .unset, .unset, .unset, .unset, .unset, .unset, .unset] [(.ref b57)])
      refine F_astore X58 at_33 rfl (Ls' := #[.val (.int u1), .val (.int (1 : Int32)), .val (.int (1 : Int32)), .val (.ref b55), .val (.ref b57), .unset, .unset, .unset, .unset, .unset, .unset, .unset, .unset]) rfl (pc' := 35) rfl ?_
      refine F_new X58 (wd9 hw) (wd10 hw) (wd11 hw) (by decide) (by decide) at_35 (pc' := 38) rfl fun T59 h59 b59 X59 Ex59 g59 ge59 E_b59 D59 => ?_
      have ne_b55_b59 : b55 ≠ b59 := Nat.ne_of_lt (Nat.lt_of_lt_of_le E58k_b55.lt (Nat.le_of_eq g59.symm))
      have ne_b57_b59 : b57 ≠ b59 := Nat.ne_of_lt (Nat.lt_of_lt_of_le E58k_b57.lt (Nat.le_of_eq g59.symm))
      have E59_b55 := E58k_b55.ext Ex59
      have E59_b57 := E58k_b57.ext Ex59
      have F59_idle_b55 := F58k_idle_b55.ext Ex59
      have F59_idleCount_b55 := F58k_idleCount_b55.ext Ex59
      have F59_next_b57 := F58_next_b57.ext Ex59
      have F59_bytes_b59 : Fld Z h59 b59 "com/example/frame4/frame4/ChunkPool$Chunk" "bytes" "[B" .null := D59 (Or.inr (wd18 hw)) (ty := (.array .byte)) (by decide)
      have F59_next_b59 : Fld Z h59 b59 "com/example/frame4/frame4/ChunkPool$Chunk" "next" "Lcom/example/frame4/frame4/ChunkPool$Chunk;" .null := D59 (Or.inl (wd33 hw)) (ty := (.object "com/example/frame4/frame4/ChunkPool$Chunk")) (by decide)
      replace X59 := X59.more (cells' := 4) (slots' := 4102) (by decide) (by decide)
      refine F_dup X59 at_38 rfl (pc' := 39) rfl ?_
      refine F_init X59 (y := (⟨"com/example/frame4/frame4/ChunkPool$Chunk", "<init>", "()V"⟩ : MethodName)) (stk := [(.ref b59)]) rfl (wd12 hw) (wd13 hw) (wd11 hw) (wd14 hw) (by decide) (a := b59) (argsL := []) (conCI l Z a0 hw n0 h59 X59.size b59 E_b59 F59_bytes_b59 F59_next_b59 ge59) (by decide) (W := 1) (Nat.le_of_ble_eq_true rfl) (by decide) (by decide) (by decide) rfl (lenOf pd0 rfl) rfl at_39 (pc' := 42) rfl fun T60 v60 h60 X60 q60 => ?_
      obtain ⟨rfl, Kp60, F60_next_b59⟩ := q60
      have E60k_b55 := E59_b55.keep Kp60
      have E60k_b57 := E59_b57.keep Kp60
      have E60k_b59 := E_b59.keep Kp60
      have F60k_idle_b55 := F59_idle_b55.keep Kp60 (ninS ne_b55_b59 nin0)
      have F60k_idleCount_b55 := F59_idleCount_b55.keep Kp60 (ninS ne_b55_b59 nin0)
      have F60k_next_b57 := F59_next_b57.keep Kp60 (ninS ne_b57_b59 nin0)
      replace X60 := X60.more (cells' := 5) (slots' := 8198) (by decide) (by decide)
      show Jvm.OwnKit.Ends p e below s n0 40 57472 _ T60 (mkF m 42 #[.val (.int u1), .val (.int (1 : Int32)), .val (.int (1 : Int32)), .val (.ref b55), .val (.ref b57), .unset, .unset, .unset, .unset, .unset, .unset, .unset, .unset] [(.ref b59)])
      refine F_astore X60 at_42 rfl (Ls' := #[.val (.int u1), .val (.int (1 : Int32)), .val (.int (1 : Int32)), .val (.ref b55), .val (.ref b57), .val (.ref b59), .unset, .unset, .unset, .unset, .unset, .unset, .unset]) rfl (pc' := 44) rfl ?_
      refine F_new X60 (wd9 hw) (wd10 hw) (wd11 hw) (by decide) (by decide) at_44 (pc' := 47) rfl fun T61 h61 b61 X61 Ex61 g61 ge61 E_b61 D61 => ?_
      have ne_b55_b61 : b55 ≠ b61 := Nat.ne_of_lt (Nat.lt_of_lt_of_le E60k_b55.lt (Nat.le_of_eq g61.symm))
      have ne_b57_b61 : b57 ≠ b61 := Nat.ne_of_lt (Nat.lt_of_lt_of_le E60k_b57.lt (Nat.le_of_eq g61.symm))
      have ne_b59_b61 : b59 ≠ b61 := Nat.ne_of_lt (Nat.lt_of_lt_of_le E60k_b59.lt (Nat.le_of_eq g61.symm))
      have E61_b55 := E60k_b55.ext Ex61
      have E61_b57 := E60k_b57.ext Ex61
      have E61_b59 := E60k_b59.ext Ex61
      have F61_idle_b55 := F60k_idle_b55.ext Ex61
      have F61_idleCount_b55 := F60k_idleCount_b55.ext Ex61
      have F61_next_b57 := F60k_next_b57.ext Ex61
      have F61_next_b59 := F60_next_b59.ext Ex61
      have F61_bytes_b61 : Fld Z h61 b61 "com/example/frame4/frame4/ChunkPool$Chunk" "bytes" "[B" .null := D61 (Or.inr (wd18 hw)) (ty := (.array .byte)) (by decide)
      have F61_next_b61 : Fld Z h61 b61 "com/example/frame4/frame4/ChunkPool$Chunk" "next" "Lcom/example/frame4/frame4/ChunkPool$Chunk;" .null := D61 (Or.inl (wd33 hw)) (ty := (.object "com/example/frame4/frame4/ChunkPool$Chunk")) (by decide)
      replace X61 := X61.more (cells' := 6) (slots' := 8200) (by decide) (by decide)
      refine F_dup X61 at_47 rfl (pc' := 48) rfl ?_
      refine F_init X61 (y := (⟨"com/example/frame4/frame4/ChunkPool$Chunk", "<init>", "()V"⟩ : MethodName)) (stk := [(.ref b61)]) rfl (wd12 hw) (wd13 hw) (wd11 hw) (wd14 hw) (by decide) (a := b61) (argsL := []) (conCI l Z a0 hw n0 h61 X61.size b61 E_b61 F61_bytes_b61 F61_next_b61 ge61) (by decide) (W := 1) (Nat.le_of_ble_eq_true rfl) (by decide) (by decide) (by decide) rfl (lenOf pd0 rfl) rfl at_48 (pc' := 51) rfl fun T62 v62 h62 X62 q62 => ?_
      obtain ⟨rfl, Kp62, F62_next_b61⟩ := q62
      have E62k_b55 := E61_b55.keep Kp62
      have E62k_b57 := E61_b57.keep Kp62
      have E62k_b59 := E61_b59.keep Kp62
      have E62k_b61 := E_b61.keep Kp62
      have F62k_idle_b55 := F61_idle_b55.keep Kp62 (ninS ne_b55_b61 nin0)
      have F62k_idleCount_b55 := F61_idleCount_b55.keep Kp62 (ninS ne_b55_b61 nin0)
      have F62k_next_b57 := F61_next_b57.keep Kp62 (ninS ne_b57_b61 nin0)
      have F62k_next_b59 := F61_next_b59.keep Kp62 (ninS ne_b59_b61 nin0)
      replace X62 := X62.more (cells' := 7) (slots' := 12296) (by decide) (by decide)
      show Jvm.OwnKit.Ends p e below s n0 40 57472 _ T62 (mkF m 51 #[.val (.int u1), .val (.int (1 : Int32)), .val (.int (1 : Int32)), .val (.ref b55), .val (.ref b57), .val (.ref b59), .unset, .unset, .unset, .unset, .unset, .unset, .unset] [(.ref b61)])
      refine F_astore X62 at_51 rfl (Ls' := #[.val (.int u1), .val (.int (1 : Int32)), .val (.int (1 : Int32)), .val (.ref b55), .val (.ref b57), .val (.ref b59), .val (.ref b61), .unset, .unset, .unset, .unset, .unset, .unset]) rfl (pc' := 53) rfl ?_
      refine F_iloadN X62 at_53 rfl (pc' := 54) rfl ?_
      refine F_if_eq X62 at_54 (by decide) (pt := 78) (by decide) (pc' := 57) rfl (fun q => absurd q (by decide)) (fun _ => ?_)
      refine F_aload X62 at_57 rfl rfl (pc' := 59) rfl ?_
      refine F_aload X62 at_59 rfl rfl (pc' := 61) rfl ?_
      refine F_putfield X62 (wd32 hw) F62k_next_b57 E62k_b57 (Or.inl (wd33 hw)) (wd10 hw) (ty := (.object "com/example/frame4/frame4/ChunkPool$Chunk")) (by decide) rfl rfl ge57 at_61 (pc' := 64) rfl fun T63 h63 X63 W63 => ?_
      have F63_next_b57 := F62k_next_b57.same W63
      have E63_b55 := E62k_b55.wr W63
      have E63_b57 := E62k_b57.wr W63
      have E63_b59 := E62k_b59.wr W63
      have E63_b61 := E62k_b61.wr W63
      have F63_idle_b55 := F62k_idle_b55.other W63 (Or.inl ne_b55_b57)
      have F63_idleCount_b55 := F62k_idleCount_b55.other W63 (Or.inl ne_b55_b57)
      have F63_next_b59 := F62k_next_b59.other W63 (Or.inl (Ne.symm ne_b57_b59))
      have F63_next_b61 := F62_next_b61.other W63 (Or.inl (Ne.symm ne_b57_b61))
      refine F_aload X63 at_64 rfl rfl (pc' := 66) rfl ?_
      refine F_aload X63 at_66 rfl rfl (pc' := 68) rfl ?_
      refine F_putfield X63 (wd32 hw) F63_next_b59 E63_b59 (Or.inl (wd33 hw)) (wd10 hw) (ty := (.object "com/example/frame4/frame4/ChunkPool$Chunk")) (by decide) rfl rfl ge59 at_68 (pc' := 71) rfl fun T64 h64 X64 W64 => ?_
      have F64_next_b59 := F63_next_b59.same W64
      have E64_b55 := E63_b55.wr W64
      have E64_b57 := E63_b57.wr W64
      have E64_b59 := E63_b59.wr W64
      have E64_b61 := E63_b61.wr W64
      have F64_idle_b55 := F63_idle_b55.other W64 (Or.inl ne_b55_b59)
      have F64_idleCount_b55 := F63_idleCount_b55.other W64 (Or.inl ne_b55_b59)
      have F64_next_b57 := F63_next_b57.other W64 (Or.inl ne_b57_b59)
      have F64_next_b61 := F63_next_b61.other W64 (Or.inl (Ne.symm ne_b59_b61))
      refine F_aload X64 at_71 rfl rfl (pc' := 73) rfl ?_
      refine F_aload X64 at_73 rfl rfl (pc' := 75) rfl ?_
      refine F_putfield X64 (wd32 hw) F64_next_b61 E64_b61 (Or.inl (wd33 hw)) (wd10 hw) (ty := (.object "com/example/frame4/frame4/ChunkPool$Chunk")) (by decide) rfl rfl ge61 at_75 (pc' := 78) rfl fun T65 h65 X65 W65 => ?_
      have F65_next_b61 := F64_next_b61.same W65
      have E65_b55 := E64_b55.wr W65
      have E65_b57 := E64_b57.wr W65
      have E65_b59 := E64_b59.wr W65
      have E65_b61 := E64_b61.wr W65
      have F65_idle_b55 := F64_idle_b55.other W65 (Or.inl ne_b55_b61)
      have F65_idleCount_b55 := F64_idleCount_b55.other W65 (Or.inl ne_b55_b61)
      have F65_next_b57 := F64_next_b57.other W65 (Or.inl ne_b57_b61)
      have F65_next_b59 := F64_next_b59.other W65 (Or.inl ne_b59_b61)
      refine F_iloadN X65 at_78 rfl (pc' := 79) rfl ?_
      refine F_iconst X65 at_79 (z := (1 : Int32)) (by decide) (pc' := 80) rfl ?_
      refine F_icmp_lt X65 at_80 (by decide) (pt := 89) (by decide) (pc' := 83) rfl (fun q => absurd q (by decide)) (fun _ => ?_)
      refine F_aloadN X65 at_83 rfl rfl (pc' := 84) rfl ?_
      refine F_aload X65 at_84 rfl rfl (pc' := 86) rfl ?_
      refine F_callV X65 (y := (⟨"com/example/frame4/frame4/ChunkPool", "giveBack", "(Lcom/example/frame4/frame4/ChunkPool$Chunk;)V"⟩ : MethodName)) (stk := []) (wd34 hw) (wd35 hw) (wd37 hw) (wd36 hw) (wd2 hw) (wd38 hw) (by decide) (a := b55) E65_b55 (argsL := [(.ref b57)]) (conG0 l Z a0 hw n0 h65 X65.size b55 b57 (.ref b59) E65_b55 E65_b57 F65_idle_b55 F65_idleCount_b55 F65_next_b57 ge55 ge57 ne_b55_b57) (by decide) (W := 0) (Nat.le_of_ble_eq_true rfl) (by decide) (by decide) (by decide) rfl (lenOf pd3 rfl) rfl at_86 (pc' := 89) rfl fun T66 v66 h66 X66 q66 => ?_
      obtain ⟨rfl, Kp66, F66_idle_b55, F66_idleCount_b55, F66_next_b57⟩ := q66
      have E66k_b55 := E65_b55.keep Kp66
      have E66k_b57 := E65_b57.keep Kp66
      have E66k_b59 := E65_b59.keep Kp66
      have E66k_b61 := E65_b61.keep Kp66
      have F66k_next_b59 := F65_next_b59.keep Kp66 (ninS (Ne.symm ne_b55_b59) (ninS (Ne.symm ne_b57_b59) nin0))
      have F66k_next_b61 := F65_next_b61.keep Kp66 (ninS (Ne.symm ne_b55_b61) (ninS (Ne.symm ne_b57_b61) nin0))
      replace X66 := X66.more (cells' := 7) (slots' := 12296) (by decide) (by decide)
      show Jvm.OwnKit.Ends p e below s n0 40 57472 _ T66 (mkF m 89 #[.val (.int u1), .val (.int (1 : Int32)), .val (.int (1 : Int32)), .val (.ref b55), .val (.ref b57), .val (.ref b59), .val (.ref b61), .unset, .unset, .unset, .unset, .unset, .unset] [])
      refine F_iloadN X66 at_89 rfl (pc' := 90) rfl ?_
      refine F_iconst X66 at_90 (z := (2 : Int32)) (by decide) (pc' := 91) rfl ?_
      refine F_icmp_lt X66 at_91 (by decide) (pt := 100) (by decide) (pc' := 94) rfl (fun _ => ?_) (fun q => absurd q (by decide))
      refine F_iloadN X66 at_100 rfl (pc' := 101) rfl ?_
      refine F_iconst X66 at_101 (z := (3 : Int32)) (by decide) (pc' := 102) rfl ?_
      refine F_icmp_lt X66 at_102 (by decide) (pt := 111) (by decide) (pc' := 105) rfl (fun _ => ?_) (fun q => absurd q (by decide))
      refine F_aloadN X66 at_111 rfl rfl (pc' := 112) rfl ?_
      refine F_callV X66 (y := (⟨"com/example/frame4/frame4/ChunkPool", "take", "()Lcom/example/frame4/frame4/ChunkPool$Chunk;"⟩ : MethodName)) (stk := []) (wd19 hw) (wd20 hw) (wd22 hw) (wd21 hw) (wd2 hw) (wd23 hw) (by decide) (a := b55) E66k_b55 (argsL := []) (conT1 l Z a0 hw n0 h66 X66.size b55 b57 E66k_b55 E66k_b57 F66_idle_b55 F66_idleCount_b55 F66_next_b57 ge55 ge57 ne_b55_b57) (by decide) (W := 0) (Nat.le_of_ble_eq_true rfl) (by decide) (by decide) (by decide) rfl (lenOf pd1 rfl) rfl at_112 (pc' := 115) rfl fun T67 v67 h67 X67 q67 => ?_
      obtain ⟨rfl, Kp67, F67_idle_b55, F67_idleCount_b55, F67_next_b57⟩ := q67
      have E67k_b55 := E66k_b55.keep Kp67
      have E67k_b57 := E66k_b57.keep Kp67
      have E67k_b59 := E66k_b59.keep Kp67
      have E67k_b61 := E66k_b61.keep Kp67
      have F67k_next_b59 := F66k_next_b59.keep Kp67 (ninS (Ne.symm ne_b55_b59) (ninS (Ne.symm ne_b57_b59) nin0))
      have F67k_next_b61 := F66k_next_b61.keep Kp67 (ninS (Ne.symm ne_b55_b61) (ninS (Ne.symm ne_b57_b61) nin0))
      replace X67 := X67.more (cells' := 7) (slots' := 12296) (by decide) (by decide)
      show Jvm.OwnKit.Ends p e below s n0 40 57472 _ T67 (mkF m 115 #[.val (.int u1), .val (.int (1 : Int32)), .val (.int (1 : Int32)), .val (.ref b55), .val (.ref b57), .val (.ref b59), .val (.ref b61), .unset, .unset, .unset, .unset, .unset, .unset] [(.ref b57)])
      refine F_astore X67 at_115 rfl (Ls' := #[.val (.int u1), .val (.int (1 : Int32)), .val (.int (1 : Int32)), .val (.ref b55), .val (.ref b57), .val (.ref b59), .val (.ref b61), .val (.ref b57), .unset, .unset, .unset, .unset, .unset]) rfl (pc' := 117) rfl ?_
      refine F_aloadN X67 at_117 rfl rfl (pc' := 118) rfl ?_
      refine F_callV X67 (y := (⟨"com/example/frame4/frame4/ChunkPool", "take", "()Lcom/example/frame4/frame4/ChunkPool$Chunk;"⟩ : MethodName)) (stk := []) (wd19 hw) (wd20 hw) (wd22 hw) (wd21 hw) (wd2 hw) (wd23 hw) (by decide) (a := b55) E67k_b55 (argsL := []) (conT0 l Z a0 hw n0 h67 X67.size b55 F67_idle_b55) (by decide) (W := 0) (Nat.le_of_ble_eq_true rfl) (by decide) (by decide) (by decide) rfl (lenOf pd1 rfl) rfl at_118 (pc' := 121) rfl fun T68 v68 h68 X68 q68 => ?_
      obtain ⟨b68_fb, rfl, sz68_fb, Kp68, E68_b68_fb, F68_next_b68_fb⟩ := q68
      have ge_b68_fb : n0 ≤ b68_fb := Nat.le_trans X67.size sz68_fb
      have ne_b55_b68_fb : b55 ≠ b68_fb := Nat.ne_of_lt (Nat.lt_of_lt_of_le E67k_b55.lt sz68_fb)
      have ne_b57_b68_fb : b57 ≠ b68_fb := Nat.ne_of_lt (Nat.lt_of_lt_of_le E67k_b57.lt sz68_fb)
      have ne_b59_b68_fb : b59 ≠ b68_fb := Nat.ne_of_lt (Nat.lt_of_lt_of_le E67k_b59.lt sz68_fb)
      have ne_b61_b68_fb : b61 ≠ b68_fb := Nat.ne_of_lt (Nat.lt_of_lt_of_le E67k_b61.lt sz68_fb)
      have E68k_b55 := E67k_b55.keep Kp68
      have E68k_b57 := E67k_b57.keep Kp68
      have E68k_b59 := E67k_b59.keep Kp68
      have E68k_b61 := E67k_b61.keep Kp68
      have F68k_idle_b55 := F67_idle_b55.keep Kp68 nin0
      have F68k_idleCount_b55 := F67_idleCount_b55.keep Kp68 nin0
      have F68k_next_b57 := F67_next_b57.keep Kp68 nin0
      have F68k_next_b59 := F67k_next_b59.keep Kp68 nin0
      have F68k_next_b61 := F67k_next_b61.keep Kp68 nin0
      replace X68 := X68.more (cells' := 9) (slots' := 16394) (by decide) (by decide)
      show Jvm.OwnKit.Ends p e below s n0 40 57472 _ T68 (mkF m 121 #[.val (.int u1), .val (.int (1 : Int32)), .val (.int (1 : Int32)), .val (.ref b55), .val (.ref b57), .val (.ref b59), .val (.ref b61), .val (.ref b57), .unset, .unset, .unset, .unset, .unset] [(.ref b68_fb)])
      refine F_astore X68 at_121 rfl (Ls' := #[.val (.int u1), .val (.int (1 : Int32)), .val (.int (1 : Int32)), .val (.ref b55), .val (.ref b57), .val (.ref b59), .val (.ref b61), .val (.ref b57), .val (.ref b68_fb), .unset, .unset, .unset, .unset]) rfl (pc' := 123) rfl ?_
      refine F_aloadN X68 at_123 rfl rfl (pc' := 124) rfl ?_
      refine F_callV X68 (y := (⟨"com/example/frame4/frame4/ChunkPool", "take", "()Lcom/example/frame4/frame4/ChunkPool$Chunk;"⟩ : MethodName)) (stk := []) (wd19 hw) (wd20 hw) (wd22 hw) (wd21 hw) (wd2 hw) (wd23 hw) (by decide) (a := b55) E68k_b55 (argsL := []) (conT0 l Z a0 hw n0 h68 X68.size b55 F68k_idle_b55) (by decide) (W := 0) (Nat.le_of_ble_eq_true rfl) (by decide) (by decide) (by decide) rfl (lenOf pd1 rfl) rfl at_124 (pc' := 127) rfl fun T69 v69 h69 X69 q69 => ?_
      obtain ⟨b69_fb, rfl, sz69_fb, Kp69, E69_b69_fb, F69_next_b69_fb⟩ := q69
      have ge_b69_fb : n0 ≤ b69_fb := Nat.le_trans X68.size sz69_fb
      have ne_b55_b69_fb : b55 ≠ b69_fb := Nat.ne_of_lt (Nat.lt_of_lt_of_le E68k_b55.lt sz69_fb)
      have ne_b57_b69_fb : b57 ≠ b69_fb := Nat.ne_of_lt (Nat.lt_of_lt_of_le E68k_b57.lt sz69_fb)
      have ne_b59_b69_fb : b59 ≠ b69_fb := Nat.ne_of_lt (Nat.lt_of_lt_of_le E68k_b59.lt sz69_fb)
      have ne_b61_b69_fb : b61 ≠ b69_fb := Nat.ne_of_lt (Nat.lt_of_lt_of_le E68k_b61.lt sz69_fb)
      have ne_b68_fb_b69_fb : b68_fb ≠ b69_fb := Nat.ne_of_lt (Nat.lt_of_lt_of_le E68_b68_fb.lt sz69_fb)
      have E69k_b55 := E68k_b55.keep Kp69
      have E69k_b57 := E68k_b57.keep Kp69
      have E69k_b59 := E68k_b59.keep Kp69
      have E69k_b61 := E68k_b61.keep Kp69
      have E69k_b68_fb := E68_b68_fb.keep Kp69
      have F69k_idle_b55 := F68k_idle_b55.keep Kp69 nin0
      have F69k_idleCount_b55 := F68k_idleCount_b55.keep Kp69 nin0
      have F69k_next_b57 := F68k_next_b57.keep Kp69 nin0
      have F69k_next_b59 := F68k_next_b59.keep Kp69 nin0
      have F69k_next_b61 := F68k_next_b61.keep Kp69 nin0
      have F69k_next_b68_fb := F68_next_b68_fb.keep Kp69 nin0
      replace X69 := X69.more (cells' := 11) (slots' := 20492) (by decide) (by decide)
      show Jvm.OwnKit.Ends p e below s n0 40 57472 _ T69 (mkF m 127 #[.val (.int u1), .val (.int (1 : Int32)), .val (.int (1 : Int32)), .val (.ref b55), .val (.ref b57), .val (.ref b59), .val (.ref b61), .val (.ref b57), .val (.ref b68_fb), .unset, .unset, .unset, .unset] [(.ref b69_fb)])
      refine F_astore X69 at_127 rfl (Ls' := #[.val (.int u1), .val (.int (1 : Int32)), .val (.int (1 : Int32)), .val (.ref b55), .val (.ref b57), .val (.ref b59), .val (.ref b61), .val (.ref b57), .val (.ref b68_fb), .val (.ref b69_fb), .unset, .unset, .unset]) rfl (pc' := 129) rfl ?_
      refine F_aloadN X69 at_129 rfl rfl (pc' := 130) rfl ?_
      refine F_callV X69 (y := (⟨"com/example/frame4/frame4/ChunkPool", "take", "()Lcom/example/frame4/frame4/ChunkPool$Chunk;"⟩ : MethodName)) (stk := []) (wd19 hw) (wd20 hw) (wd22 hw) (wd21 hw) (wd2 hw) (wd23 hw) (by decide) (a := b55) E69k_b55 (argsL := []) (conT0 l Z a0 hw n0 h69 X69.size b55 F69k_idle_b55) (by decide) (W := 0) (Nat.le_of_ble_eq_true rfl) (by decide) (by decide) (by decide) rfl (lenOf pd1 rfl) rfl at_130 (pc' := 133) rfl fun T70 v70 h70 X70 q70 => ?_
      obtain ⟨b70_fb, rfl, sz70_fb, Kp70, E70_b70_fb, F70_next_b70_fb⟩ := q70
      have ge_b70_fb : n0 ≤ b70_fb := Nat.le_trans X69.size sz70_fb
      have ne_b55_b70_fb : b55 ≠ b70_fb := Nat.ne_of_lt (Nat.lt_of_lt_of_le E69k_b55.lt sz70_fb)
      have ne_b57_b70_fb : b57 ≠ b70_fb := Nat.ne_of_lt (Nat.lt_of_lt_of_le E69k_b57.lt sz70_fb)
      have ne_b59_b70_fb : b59 ≠ b70_fb := Nat.ne_of_lt (Nat.lt_of_lt_of_le E69k_b59.lt sz70_fb)
      have ne_b61_b70_fb : b61 ≠ b70_fb := Nat.ne_of_lt (Nat.lt_of_lt_of_le E69k_b61.lt sz70_fb)
      have ne_b68_fb_b70_fb : b68_fb ≠ b70_fb := Nat.ne_of_lt (Nat.lt_of_lt_of_le E69k_b68_fb.lt sz70_fb)
      have ne_b69_fb_b70_fb : b69_fb ≠ b70_fb := Nat.ne_of_lt (Nat.lt_of_lt_of_le E69_b69_fb.lt sz70_fb)
      have E70k_b55 := E69k_b55.keep Kp70
      have E70k_b57 := E69k_b57.keep Kp70
      have E70k_b59 := E69k_b59.keep Kp70
      have E70k_b61 := E69k_b61.keep Kp70
      have E70k_b68_fb := E69k_b68_fb.keep Kp70
      have E70k_b69_fb := E69_b69_fb.keep Kp70
      have F70k_idle_b55 := F69k_idle_b55.keep Kp70 nin0
      have F70k_idleCount_b55 := F69k_idleCount_b55.keep Kp70 nin0
      have F70k_next_b57 := F69k_next_b57.keep Kp70 nin0
      have F70k_next_b59 := F69k_next_b59.keep Kp70 nin0
      have F70k_next_b61 := F69k_next_b61.keep Kp70 nin0
      have F70k_next_b68_fb := F69k_next_b68_fb.keep Kp70 nin0
      have F70k_next_b69_fb := F69_next_b69_fb.keep Kp70 nin0
      replace X70 := X70.more (cells' := 13) (slots' := 24590) (by decide) (by decide)
      show Jvm.OwnKit.Ends p e below s n0 40 57472 _ T70 (mkF m 133 #[.val (.int u1), .val (.int (1 : Int32)), .val (.int (1 : Int32)), .val (.ref b55), .val (.ref b57), .val (.ref b59), .val (.ref b61), .val (.ref b57), .val (.ref b68_fb), .val (.ref b69_fb), .unset, .unset, .unset] [(.ref b70_fb)])
      refine F_astore X70 at_133 rfl (Ls' := #[.val (.int u1), .val (.int (1 : Int32)), .val (.int (1 : Int32)), .val (.ref b55), .val (.ref b57), .val (.ref b59), .val (.ref b61), .val (.ref b57), .val (.ref b68_fb), .val (.ref b69_fb), .val (.ref b70_fb), .unset, .unset]) rfl (pc' := 135) rfl ?_
      refine F_aload X70 at_135 rfl rfl (pc' := 137) rfl ?_
      refine F_iconst X70 at_137 (z := (0 : Int32)) (by decide) (pc' := 138) rfl ?_
      refine F_iloadN X70 at_138 rfl (pc' := 139) rfl ?_
      refine F_aload X70 at_139 rfl rfl (pc' := 141) rfl ?_
      refine F_aload X70 at_141 rfl rfl (pc' := 143) rfl ?_
      refine F_aload X70 at_143 rfl rfl (pc' := 145) rfl ?_
      refine F_callS X70 (y := (⟨"com/example/frame4/frame4/ChunkPoolGiveBackPinLaw", "expect", "(Lcom/example/frame4/frame4/ChunkPool$Chunk;IILcom/example/frame4/frame4/ChunkPool$Chunk;Lcom/example/frame4/frame4/ChunkPool$Chunk;Lcom/example/frame4/frame4/ChunkPool$Chunk;)Z"⟩ : MethodName)) (stk := []) (wd28 hw) (wd29 hw) (wd30 hw) (wd31 hw) (by decide) (argsL := [(.ref b57), (.int (0 : Int32)), (.int (1 : Int32)), (.ref b57), (.ref b59), (.ref b61)]) (conE1_0 l Z a0 hw n0 h70 X70.size b57 b59 b61 F70k_next_b57) (by decide) (W := 0) (Nat.le_of_ble_eq_true rfl) (by decide) (by decide) (by decide) rfl (lenOf pd2 rfl) rfl at_145 (pc' := 148) rfl fun T71 v71 h71 X71 q71 => ?_
      obtain ⟨rfl, rfl⟩ := q71
      replace X71 := X71.more (cells' := 13) (slots' := 24590) (by decide) (by decide)
      show Jvm.OwnKit.Ends p e below s n0 40 57472 _ T71 (mkF m 148 #[.val (.int u1), .val (.int (1 : Int32)), .val (.int (1 : Int32)), .val (.ref b55), .val (.ref b57), .val (.ref b59), .val (.ref b61), .val (.ref b57), .val (.ref b68_fb), .val (.ref b69_fb), .val (.ref b70_fb), .unset, .unset] [(.int (1 : Int32))])
      refine F_if_eq X71 at_148 (by decide) (pt := 203) (by decide) (pc' := 151) rfl (fun q => absurd q (by decide)) (fun _ => ?_)
      refine F_aload X71 at_151 rfl rfl (pc' := 153) rfl ?_
      refine F_iconst X71 at_153 (z := (1 : Int32)) (by decide) (pc' := 154) rfl ?_
      refine F_iloadN X71 at_154 rfl (pc' := 155) rfl ?_
      refine F_aload X71 at_155 rfl rfl (pc' := 157) rfl ?_
      refine F_aload X71 at_157 rfl rfl (pc' := 159) rfl ?_
      refine F_aload X71 at_159 rfl rfl (pc' := 161) rfl ?_
      refine F_callS X71 (y := (⟨"com/example/frame4/frame4/ChunkPoolGiveBackPinLaw", "expect", "(Lcom/example/frame4/frame4/ChunkPool$Chunk;IILcom/example/frame4/frame4/ChunkPool$Chunk;Lcom/example/frame4/frame4/ChunkPool$Chunk;Lcom/example/frame4/frame4/ChunkPool$Chunk;)Z"⟩ : MethodName)) (stk := []) (wd28 hw) (wd29 hw) (wd30 hw) (wd31 hw) (by decide) (argsL := [(.ref b68_fb), (.int (1 : Int32)), (.int (1 : Int32)), (.ref b57), (.ref b59), (.ref b61)]) (conE1_1 l Z a0 hw n0 h70 X71.size b68_fb b57 b59 b61 F70k_next_b68_fb (Ne.symm ne_b57_b68_fb) (Ne.symm ne_b59_b68_fb) (Ne.symm ne_b61_b68_fb)) (by decide) (W := 0) (Nat.le_of_ble_eq_true rfl) (by decide) (by decide) (by decide) rfl (lenOf pd2 rfl) rfl at_161 (pc' := 164) rfl fun T72 v72 h72 X72 q72 => ?_
      obtain ⟨rfl, rfl⟩ := q72
      replace X72 := X72.more (cells' := 13) (slots' := 24590) (by decide) (by decide)
      show Jvm.OwnKit.Ends p e below s n0 40 57472 _ T72 (mkF m 164 #[.val (.int u1), .val (.int (1 : Int32)), .val (.int (1 : Int32)), .val (.ref b55), .val (.ref b57), .val (.ref b59), .val (.ref b61), .val (.ref b57), .val (.ref b68_fb), .val (.ref b69_fb), .val (.ref b70_fb), .unset, .unset] [(.int (1 : Int32))])
      refine F_if_eq X72 at_164 (by decide) (pt := 203) (by decide) (pc' := 167) rfl (fun q => absurd q (by decide)) (fun _ => ?_)
      refine F_aload X72 at_167 rfl rfl (pc' := 169) rfl ?_
      refine F_iconst X72 at_169 (z := (2 : Int32)) (by decide) (pc' := 170) rfl ?_
      refine F_iloadN X72 at_170 rfl (pc' := 171) rfl ?_
      refine F_aload X72 at_171 rfl rfl (pc' := 173) rfl ?_
      refine F_aload X72 at_173 rfl rfl (pc' := 175) rfl ?_
      refine F_aload X72 at_175 rfl rfl (pc' := 177) rfl ?_
      refine F_callS X72 (y := (⟨"com/example/frame4/frame4/ChunkPoolGiveBackPinLaw", "expect", "(Lcom/example/frame4/frame4/ChunkPool$Chunk;IILcom/example/frame4/frame4/ChunkPool$Chunk;Lcom/example/frame4/frame4/ChunkPool$Chunk;Lcom/example/frame4/frame4/ChunkPool$Chunk;)Z"⟩ : MethodName)) (stk := []) (wd28 hw) (wd29 hw) (wd30 hw) (wd31 hw) (by decide) (argsL := [(.ref b69_fb), (.int (2 : Int32)), (.int (1 : Int32)), (.ref b57), (.ref b59), (.ref b61)]) (conE1_2 l Z a0 hw n0 h70 X72.size b69_fb b57 b59 b61 F70k_next_b69_fb (Ne.symm ne_b57_b69_fb) (Ne.symm ne_b59_b69_fb) (Ne.symm ne_b61_b69_fb)) (by decide) (W := 0) (Nat.le_of_ble_eq_true rfl) (by decide) (by decide) (by decide) rfl (lenOf pd2 rfl) rfl at_177 (pc' := 180) rfl fun T73 v73 h73 X73 q73 => ?_
      obtain ⟨rfl, rfl⟩ := q73
      replace X73 := X73.more (cells' := 13) (slots' := 24590) (by decide) (by decide)
      show Jvm.OwnKit.Ends p e below s n0 40 57472 _ T73 (mkF m 180 #[.val (.int u1), .val (.int (1 : Int32)), .val (.int (1 : Int32)), .val (.ref b55), .val (.ref b57), .val (.ref b59), .val (.ref b61), .val (.ref b57), .val (.ref b68_fb), .val (.ref b69_fb), .val (.ref b70_fb), .unset, .unset] [(.int (1 : Int32))])
      refine F_if_eq X73 at_180 (by decide) (pt := 203) (by decide) (pc' := 183) rfl (fun q => absurd q (by decide)) (fun _ => ?_)
      refine F_aload X73 at_183 rfl rfl (pc' := 185) rfl ?_
      refine F_iconst X73 at_185 (z := (3 : Int32)) (by decide) (pc' := 186) rfl ?_
      refine F_iloadN X73 at_186 rfl (pc' := 187) rfl ?_
      refine F_aload X73 at_187 rfl rfl (pc' := 189) rfl ?_
      refine F_aload X73 at_189 rfl rfl (pc' := 191) rfl ?_
      refine F_aload X73 at_191 rfl rfl (pc' := 193) rfl ?_
      refine F_callS X73 (y := (⟨"com/example/frame4/frame4/ChunkPoolGiveBackPinLaw", "expect", "(Lcom/example/frame4/frame4/ChunkPool$Chunk;IILcom/example/frame4/frame4/ChunkPool$Chunk;Lcom/example/frame4/frame4/ChunkPool$Chunk;Lcom/example/frame4/frame4/ChunkPool$Chunk;)Z"⟩ : MethodName)) (stk := []) (wd28 hw) (wd29 hw) (wd30 hw) (wd31 hw) (by decide) (argsL := [(.ref b70_fb), (.int (3 : Int32)), (.int (1 : Int32)), (.ref b57), (.ref b59), (.ref b61)]) (conE1_3 l Z a0 hw n0 h70 X73.size b70_fb b57 b59 b61 F70_next_b70_fb (Ne.symm ne_b57_b70_fb) (Ne.symm ne_b59_b70_fb) (Ne.symm ne_b61_b70_fb)) (by decide) (W := 0) (Nat.le_of_ble_eq_true rfl) (by decide) (by decide) (by decide) rfl (lenOf pd2 rfl) rfl at_193 (pc' := 196) rfl fun T74 v74 h74 X74 q74 => ?_
      obtain ⟨rfl, rfl⟩ := q74
      replace X74 := X74.more (cells' := 13) (slots' := 24590) (by decide) (by decide)
      show Jvm.OwnKit.Ends p e below s n0 40 57472 _ T74 (mkF m 196 #[.val (.int u1), .val (.int (1 : Int32)), .val (.int (1 : Int32)), .val (.ref b55), .val (.ref b57), .val (.ref b59), .val (.ref b61), .val (.ref b57), .val (.ref b68_fb), .val (.ref b69_fb), .val (.ref b70_fb), .unset, .unset] [(.int (1 : Int32))])
      refine F_if_eq X74 at_196 (by decide) (pt := 203) (by decide) (pc' := 199) rfl (fun q => absurd q (by decide)) (fun _ => ?_)
      refine F_iconst X74 at_199 (z := (1 : Int32)) (by decide) (pc' := 200) rfl ?_
      refine F_goto X74 at_200 (by decide) (pc' := 204) (by decide) ?_
      refine F_istore X74 at_204 (Ls' := #[.val (.int u1), .val (.int (1 : Int32)), .val (.int (1 : Int32)), .val (.ref b55), .val (.ref b57), .val (.ref b59), .val (.ref b61), .val (.ref b57), .val (.ref b68_fb), .val (.ref b69_fb), .val (.ref b70_fb), .val (.int (1 : Int32)), .unset]) rfl (pc' := 206) rfl ?_
      refine F_aload X74 at_206 rfl rfl (pc' := 208) rfl ?_
      refine F_aload X74 at_208 rfl rfl (pc' := 210) rfl ?_
      refine F_acmp X74 (same := false) at_210 rfl rfl (decide_eq_false fun q => ne_b57_b68_fb (Value.ref.inj q)) (by decide) (pc' := 213) (by decide) ?_
      refine F_aload X74 at_213 rfl rfl (pc' := 215) rfl ?_
      refine F_aload X74 at_215 rfl rfl (pc' := 217) rfl ?_
      refine F_acmp X74 (same := false) at_217 rfl rfl (decide_eq_false fun q => ne_b57_b69_fb (Value.ref.inj q)) (by decide) (pc' := 220) (by decide) ?_
      refine F_aload X74 at_220 rfl rfl (pc' := 222) rfl ?_
      refine F_aload X74 at_222 rfl rfl (pc' := 224) rfl ?_
      refine F_acmp X74 (same := false) at_224 rfl rfl (decide_eq_false fun q => ne_b57_b70_fb (Value.ref.inj q)) (by decide) (pc' := 227) (by decide) ?_
      refine F_aload X74 at_227 rfl rfl (pc' := 229) rfl ?_
      refine F_aload X74 at_229 rfl rfl (pc' := 231) rfl ?_
      refine F_acmp X74 (same := false) at_231 rfl rfl (decide_eq_false fun q => ne_b68_fb_b69_fb (Value.ref.inj q)) (by decide) (pc' := 234) (by decide) ?_
      refine F_aload X74 at_234 rfl rfl (pc' := 236) rfl ?_
      refine F_aload X74 at_236 rfl rfl (pc' := 238) rfl ?_
      refine F_acmp X74 (same := false) at_238 rfl rfl (decide_eq_false fun q => ne_b68_fb_b70_fb (Value.ref.inj q)) (by decide) (pc' := 241) (by decide) ?_
      refine F_aload X74 at_241 rfl rfl (pc' := 243) rfl ?_
      refine F_aload X74 at_243 rfl rfl (pc' := 245) rfl ?_
      refine F_acmp X74 (same := false) at_245 rfl rfl (decide_eq_false fun q => ne_b69_fb_b70_fb (Value.ref.inj q)) (by decide) (pc' := 248) (by decide) ?_
      refine F_iconst X74 at_248 (z := (1 : Int32)) (by decide) (pc' := 249) rfl ?_
      refine F_goto X74 at_249 (by decide) (pc' := 253) (by decide) ?_
      refine F_istore X74 at_253 (Ls' := #[.val (.int u1), .val (.int (1 : Int32)), .val (.int (1 : Int32)), .val (.ref b55), .val (.ref b57), .val (.ref b59), .val (.ref b61), .val (.ref b57), .val (.ref b68_fb), .val (.ref b69_fb), .val (.ref b70_fb), .val (.int (1 : Int32)), .val (.int (1 : Int32))]) rfl (pc' := 255) rfl ?_
      refine F_iload X74 at_255 rfl (pc' := 257) rfl ?_
      refine F_if_eq X74 at_257 (by decide) (pt := 269) (by decide) (pc' := 260) rfl (fun q => absurd q (by decide)) (fun _ => ?_)
      refine F_iload X74 at_260 rfl (pc' := 262) rfl ?_
      refine F_if_eq X74 at_262 (by decide) (pt := 269) (by decide) (pc' := 265) rfl (fun q => absurd q (by decide)) (fun _ => ?_)
      refine F_iconst X74 at_265 (z := (1 : Int32)) (by decide) (pc' := 266) rfl ?_
      refine F_goto X74 at_266 (by decide) (pc' := 270) (by decide) ?_
      refine F_ireturn_boolean (z' := (1 : Int32)) X74 (by decide) at_270 rfl (by decide) (by decide) ?_
      exact rfl
  · refine F_istoreN X0 at_3 (Ls' := #[.val (.int u1), .val (.int (2 : Int32)), .unset, .unset, .unset, .unset, .unset, .unset, .unset, .unset, .unset, .unset, .unset]) rfl (pc' := 4) rfl ?_
    refine F_iloadN X0 at_4 rfl (pc' := 5) rfl ?_
    refine F_iconst X0 at_5 (z := (2 : Int32)) (by decide) (pc' := 6) rfl ?_
    refine F_iushr X0 at_6 rfl (pc' := 7) rfl ?_
    refine F_iconst X0 at_7 (z := (1 : Int32)) (by decide) (pc' := 8) rfl ?_
    refine F_iand X0 at_8 rfl (pc' := 9) rfl ?_
    refine F_if_eq X0 at_9 (by decide) (pt := 16) (by decide) (pc' := 12) rfl (fun hc9_75 => ?_) (fun hc9_75 => ?_)
    · refine F_iconst X0 at_16 (z := (0 : Int32)) (by decide) (pc' := 17) rfl ?_
      refine F_istoreN X0 at_17 (Ls' := #[.val (.int u1), .val (.int (2 : Int32)), .val (.int (0 : Int32)), .unset, .unset, .unset, .unset, .unset, .unset, .unset, .unset, .unset, .unset]) rfl (pc' := 18) rfl ?_
      refine F_new X0 (wd0 hw) (wd1 hw) (wd2 hw) (by decide) (by decide) at_18 (pc' := 21) rfl fun T76 h76 b76 X76 Ex76 g76 ge76 E_b76 D76 => ?_
      have F76_idle_b76 : Fld Z h76 b76 "com/example/frame4/frame4/ChunkPool" "idle" "Lcom/example/frame4/frame4/ChunkPool$Chunk;" .null := D76 (Or.inl (wd25 hw)) (ty := (.object "com/example/frame4/frame4/ChunkPool$Chunk")) (by decide)
      have F76_idleCount_b76 : Fld Z h76 b76 "com/example/frame4/frame4/ChunkPool" "idleCount" "I" (.int (0 : Int32)) := D76 (Or.inl (wd40 hw)) (ty := .int) (by decide)
      replace X76 := X76.more (cells' := 1) (slots' := 2) (by decide) (by decide)
      refine F_dup X76 at_21 rfl (pc' := 22) rfl ?_
      refine F_init X76 (y := (⟨"com/example/frame4/frame4/ChunkPool", "<init>", "()V"⟩ : MethodName)) (stk := [(.ref b76)]) rfl (wd3 hw) (wd4 hw) (wd2 hw) (wd5 hw) (by decide) (a := b76) (argsL := []) (conPI l Z a0 hw n0 h76 X76.size b76) (by decide) (W := 1) (Nat.le_of_ble_eq_true rfl) (by decide) (by decide) (by decide) rfl (lenOf pd0 rfl) rfl at_22 (pc' := 25) rfl fun T77 v77 h77 X77 q77 => ?_
      obtain ⟨rfl, rfl⟩ := q77
      replace X77 := X77.more (cells' := 1) (slots' := 2) (by decide) (by decide)
      show Jvm.OwnKit.Ends p e below s n0 40 57472 _ T77 (mkF m 25 #[.val (.int u1), .val (.int (2 : Int32)), .val (.int (0 : Int32)), .unset, .unset, .unset, .unset, .unset, .unset, .unset, .unset, .unset, .unset] [(.ref b76)])
      refine F_astoreN X77 at_25 rfl (Ls' := #[.val (.int u1), .val (.int (2 : Int32)), .val (.int (0 : Int32)), .val (.ref b76), .unset, .unset, .unset, .unset, .unset, .unset, .unset, .unset, .unset]) rfl (pc' := 26) rfl ?_
      refine F_new X77 (wd9 hw) (wd10 hw) (wd11 hw) (by decide) (by decide) at_26 (pc' := 29) rfl fun T78 h78 b78 X78 Ex78 g78 ge78 E_b78 D78 => ?_
      have ne_b76_b78 : b76 ≠ b78 := Nat.ne_of_lt (Nat.lt_of_lt_of_le E_b76.lt (Nat.le_of_eq g78.symm))
      have E78_b76 := E_b76.ext Ex78
      have F78_idle_b76 := F76_idle_b76.ext Ex78
      have F78_idleCount_b76 := F76_idleCount_b76.ext Ex78
      have F78_bytes_b78 : Fld Z h78 b78 "com/example/frame4/frame4/ChunkPool$Chunk" "bytes" "[B" .null := D78 (Or.inr (wd18 hw)) (ty := (.array .byte)) (by decide)
      have F78_next_b78 : Fld Z h78 b78 "com/example/frame4/frame4/ChunkPool$Chunk" "next" "Lcom/example/frame4/frame4/ChunkPool$Chunk;" .null := D78 (Or.inl (wd33 hw)) (ty := (.object "com/example/frame4/frame4/ChunkPool$Chunk")) (by decide)
      replace X78 := X78.more (cells' := 2) (slots' := 4) (by decide) (by decide)
      refine F_dup X78 at_29 rfl (pc' := 30) rfl ?_
      refine F_init X78 (y := (⟨"com/example/frame4/frame4/ChunkPool$Chunk", "<init>", "()V"⟩ : MethodName)) (stk := [(.ref b78)]) rfl (wd12 hw) (wd13 hw) (wd11 hw) (wd14 hw) (by decide) (a := b78) (argsL := []) (conCI l Z a0 hw n0 h78 X78.size b78 E_b78 F78_bytes_b78 F78_next_b78 ge78) (by decide) (W := 1) (Nat.le_of_ble_eq_true rfl) (by decide) (by decide) (by decide) rfl (lenOf pd0 rfl) rfl at_30 (pc' := 33) rfl fun T79 v79 h79 X79 q79 => ?_
      obtain ⟨rfl, Kp79, F79_next_b78⟩ := q79
      have E79k_b76 := E78_b76.keep Kp79
      have E79k_b78 := E_b78.keep Kp79
      have F79k_idle_b76 := F78_idle_b76.keep Kp79 (ninS ne_b76_b78 nin0)
      have F79k_idleCount_b76 := F78_idleCount_b76.keep Kp79 (ninS ne_b76_b78 nin0)
      replace X79 := X79.more (cells' := 3) (slots' := 4100) (by decide) (by decide)
      show Jvm.OwnKit.Ends p e below s n0 40 57472 _ T79 (mkF m 33 #[.val (.int u1), .val (.int (2 : Int32)), .val (.int (0 : Int32)), .val (.ref b76), .unset, .unset, .unset, .unset, .unset, .unset, .unset, .unset, .unset] [(.ref b78)])
      refine F_astore X79 at_33 rfl (Ls' := #[.val (.int u1), .val (.int (2 : Int32)), .val (.int (0 : Int32)), .val (.ref b76), .val (.ref b78), .unset, .unset, .unset, .unset, .unset, .unset, .unset, .unset]) rfl (pc' := 35) rfl ?_
      refine F_new X79 (wd9 hw) (wd10 hw) (wd11 hw) (by decide) (by decide) at_35 (pc' := 38) rfl fun T80 h80 b80 X80 Ex80 g80 ge80 E_b80 D80 => ?_
      have ne_b76_b80 : b76 ≠ b80 := Nat.ne_of_lt (Nat.lt_of_lt_of_le E79k_b76.lt (Nat.le_of_eq g80.symm))
      have ne_b78_b80 : b78 ≠ b80 := Nat.ne_of_lt (Nat.lt_of_lt_of_le E79k_b78.lt (Nat.le_of_eq g80.symm))
      have E80_b76 := E79k_b76.ext Ex80
      have E80_b78 := E79k_b78.ext Ex80
      have F80_idle_b76 := F79k_idle_b76.ext Ex80
      have F80_idleCount_b76 := F79k_idleCount_b76.ext Ex80
      have F80_next_b78 := F79_next_b78.ext Ex80
      have F80_bytes_b80 : Fld Z h80 b80 "com/example/frame4/frame4/ChunkPool$Chunk" "bytes" "[B" .null := D80 (Or.inr (wd18 hw)) (ty := (.array .byte)) (by decide)
      have F80_next_b80 : Fld Z h80 b80 "com/example/frame4/frame4/ChunkPool$Chunk" "next" "Lcom/example/frame4/frame4/ChunkPool$Chunk;" .null := D80 (Or.inl (wd33 hw)) (ty := (.object "com/example/frame4/frame4/ChunkPool$Chunk")) (by decide)
      replace X80 := X80.more (cells' := 4) (slots' := 4102) (by decide) (by decide)
      refine F_dup X80 at_38 rfl (pc' := 39) rfl ?_
      refine F_init X80 (y := (⟨"com/example/frame4/frame4/ChunkPool$Chunk", "<init>", "()V"⟩ : MethodName)) (stk := [(.ref b80)]) rfl (wd12 hw) (wd13 hw) (wd11 hw) (wd14 hw) (by decide) (a := b80) (argsL := []) (conCI l Z a0 hw n0 h80 X80.size b80 E_b80 F80_bytes_b80 F80_next_b80 ge80) (by decide) (W := 1) (Nat.le_of_ble_eq_true rfl) (by decide) (by decide) (by decide) rfl (lenOf pd0 rfl) rfl at_39 (pc' := 42) rfl fun T81 v81 h81 X81 q81 => ?_
      obtain ⟨rfl, Kp81, F81_next_b80⟩ := q81
      have E81k_b76 := E80_b76.keep Kp81
      have E81k_b78 := E80_b78.keep Kp81
      have E81k_b80 := E_b80.keep Kp81
      have F81k_idle_b76 := F80_idle_b76.keep Kp81 (ninS ne_b76_b80 nin0)
      have F81k_idleCount_b76 := F80_idleCount_b76.keep Kp81 (ninS ne_b76_b80 nin0)
      have F81k_next_b78 := F80_next_b78.keep Kp81 (ninS ne_b78_b80 nin0)
      replace X81 := X81.more (cells' := 5) (slots' := 8198) (by decide) (by decide)
      show Jvm.OwnKit.Ends p e below s n0 40 57472 _ T81 (mkF m 42 #[.val (.int u1), .val (.int (2 : Int32)), .val (.int (0 : Int32)), .val (.ref b76), .val (.ref b78), .unset, .unset, .unset, .unset, .unset, .unset, .unset, .unset] [(.ref b80)])
      refine F_astore X81 at_42 rfl (Ls' := #[.val (.int u1), .val (.int (2 : Int32)), .val (.int (0 : Int32)), .val (.ref b76), .val (.ref b78), .val (.ref b80), .unset, .unset, .unset, .unset, .unset, .unset, .unset]) rfl (pc' := 44) rfl ?_
      refine F_new X81 (wd9 hw) (wd10 hw) (wd11 hw) (by decide) (by decide) at_44 (pc' := 47) rfl fun T82 h82 b82 X82 Ex82 g82 ge82 E_b82 D82 => ?_
      have ne_b76_b82 : b76 ≠ b82 := Nat.ne_of_lt (Nat.lt_of_lt_of_le E81k_b76.lt (Nat.le_of_eq g82.symm))
      have ne_b78_b82 : b78 ≠ b82 := Nat.ne_of_lt (Nat.lt_of_lt_of_le E81k_b78.lt (Nat.le_of_eq g82.symm))
      have ne_b80_b82 : b80 ≠ b82 := Nat.ne_of_lt (Nat.lt_of_lt_of_le E81k_b80.lt (Nat.le_of_eq g82.symm))
      have E82_b76 := E81k_b76.ext Ex82
      have E82_b78 := E81k_b78.ext Ex82
      have E82_b80 := E81k_b80.ext Ex82
      have F82_idle_b76 := F81k_idle_b76.ext Ex82
      have F82_idleCount_b76 := F81k_idleCount_b76.ext Ex82
      have F82_next_b78 := F81k_next_b78.ext Ex82
      have F82_next_b80 := F81_next_b80.ext Ex82
      have F82_bytes_b82 : Fld Z h82 b82 "com/example/frame4/frame4/ChunkPool$Chunk" "bytes" "[B" .null := D82 (Or.inr (wd18 hw)) (ty := (.array .byte)) (by decide)
      have F82_next_b82 : Fld Z h82 b82 "com/example/frame4/frame4/ChunkPool$Chunk" "next" "Lcom/example/frame4/frame4/ChunkPool$Chunk;" .null := D82 (Or.inl (wd33 hw)) (ty := (.object "com/example/frame4/frame4/ChunkPool$Chunk")) (by decide)
      replace X82 := X82.more (cells' := 6) (slots' := 8200) (by decide) (by decide)
      refine F_dup X82 at_47 rfl (pc' := 48) rfl ?_
      refine F_init X82 (y := (⟨"com/example/frame4/frame4/ChunkPool$Chunk", "<init>", "()V"⟩ : MethodName)) (stk := [(.ref b82)]) rfl (wd12 hw) (wd13 hw) (wd11 hw) (wd14 hw) (by decide) (a := b82) (argsL := []) (conCI l Z a0 hw n0 h82 X82.size b82 E_b82 F82_bytes_b82 F82_next_b82 ge82) (by decide) (W := 1) (Nat.le_of_ble_eq_true rfl) (by decide) (by decide) (by decide) rfl (lenOf pd0 rfl) rfl at_48 (pc' := 51) rfl fun T83 v83 h83 X83 q83 => ?_
      obtain ⟨rfl, Kp83, F83_next_b82⟩ := q83
      have E83k_b76 := E82_b76.keep Kp83
      have E83k_b78 := E82_b78.keep Kp83
      have E83k_b80 := E82_b80.keep Kp83
      have E83k_b82 := E_b82.keep Kp83
      have F83k_idle_b76 := F82_idle_b76.keep Kp83 (ninS ne_b76_b82 nin0)
      have F83k_idleCount_b76 := F82_idleCount_b76.keep Kp83 (ninS ne_b76_b82 nin0)
      have F83k_next_b78 := F82_next_b78.keep Kp83 (ninS ne_b78_b82 nin0)
      have F83k_next_b80 := F82_next_b80.keep Kp83 (ninS ne_b80_b82 nin0)
      replace X83 := X83.more (cells' := 7) (slots' := 12296) (by decide) (by decide)
      show Jvm.OwnKit.Ends p e below s n0 40 57472 _ T83 (mkF m 51 #[.val (.int u1), .val (.int (2 : Int32)), .val (.int (0 : Int32)), .val (.ref b76), .val (.ref b78), .val (.ref b80), .unset, .unset, .unset, .unset, .unset, .unset, .unset] [(.ref b82)])
      refine F_astore X83 at_51 rfl (Ls' := #[.val (.int u1), .val (.int (2 : Int32)), .val (.int (0 : Int32)), .val (.ref b76), .val (.ref b78), .val (.ref b80), .val (.ref b82), .unset, .unset, .unset, .unset, .unset, .unset]) rfl (pc' := 53) rfl ?_
      refine F_iloadN X83 at_53 rfl (pc' := 54) rfl ?_
      refine F_if_eq X83 at_54 (by decide) (pt := 78) (by decide) (pc' := 57) rfl (fun _ => ?_) (fun q => absurd q (by decide))
      refine F_iloadN X83 at_78 rfl (pc' := 79) rfl ?_
      refine F_iconst X83 at_79 (z := (1 : Int32)) (by decide) (pc' := 80) rfl ?_
      refine F_icmp_lt X83 at_80 (by decide) (pt := 89) (by decide) (pc' := 83) rfl (fun q => absurd q (by decide)) (fun _ => ?_)
      refine F_aloadN X83 at_83 rfl rfl (pc' := 84) rfl ?_
      refine F_aload X83 at_84 rfl rfl (pc' := 86) rfl ?_
      refine F_callV X83 (y := (⟨"com/example/frame4/frame4/ChunkPool", "giveBack", "(Lcom/example/frame4/frame4/ChunkPool$Chunk;)V"⟩ : MethodName)) (stk := []) (wd34 hw) (wd35 hw) (wd37 hw) (wd36 hw) (wd2 hw) (wd38 hw) (by decide) (a := b76) E83k_b76 (argsL := [(.ref b78)]) (conG0 l Z a0 hw n0 h83 X83.size b76 b78 .null E83k_b76 E83k_b78 F83k_idle_b76 F83k_idleCount_b76 F83k_next_b78 ge76 ge78 ne_b76_b78) (by decide) (W := 0) (Nat.le_of_ble_eq_true rfl) (by decide) (by decide) (by decide) rfl (lenOf pd3 rfl) rfl at_86 (pc' := 89) rfl fun T84 v84 h84 X84 q84 => ?_
      obtain ⟨rfl, Kp84, F84_idle_b76, F84_idleCount_b76, F84_next_b78⟩ := q84
      have E84k_b76 := E83k_b76.keep Kp84
      have E84k_b78 := E83k_b78.keep Kp84
      have E84k_b80 := E83k_b80.keep Kp84
      have E84k_b82 := E83k_b82.keep Kp84
      have F84k_next_b80 := F83k_next_b80.keep Kp84 (ninS (Ne.symm ne_b76_b80) (ninS (Ne.symm ne_b78_b80) nin0))
      have F84k_next_b82 := F83_next_b82.keep Kp84 (ninS (Ne.symm ne_b76_b82) (ninS (Ne.symm ne_b78_b82) nin0))
      replace X84 := X84.more (cells' := 7) (slots' := 12296) (by decide) (by decide)
      show Jvm.OwnKit.Ends p e below s n0 40 57472 _ T84 (mkF m 89 #[.val (.int u1), .val (.int (2 : Int32)), .val (.int (0 : Int32)), .val (.ref b76), .val (.ref b78), .val (.ref b80), .val (.ref b82), .unset, .unset, .unset, .unset, .unset, .unset] [])
      refine F_iloadN X84 at_89 rfl (pc' := 90) rfl ?_
      refine F_iconst X84 at_90 (z := (2 : Int32)) (by decide) (pc' := 91) rfl ?_
      refine F_icmp_lt X84 at_91 (by decide) (pt := 100) (by decide) (pc' := 94) rfl (fun q => absurd q (by decide)) (fun _ => ?_)
      refine F_aloadN X84 at_94 rfl rfl (pc' := 95) rfl ?_
      refine F_aload X84 at_95 rfl rfl (pc' := 97) rfl ?_
      refine F_callV X84 (y := (⟨"com/example/frame4/frame4/ChunkPool", "giveBack", "(Lcom/example/frame4/frame4/ChunkPool$Chunk;)V"⟩ : MethodName)) (stk := []) (wd34 hw) (wd35 hw) (wd37 hw) (wd36 hw) (wd2 hw) (wd38 hw) (by decide) (a := b76) E84k_b76 (argsL := [(.ref b80)]) (conG1 l Z a0 hw n0 h84 X84.size b76 b80 b78 .null E84k_b76 E84k_b80 F84_idle_b76 F84_idleCount_b76 F84k_next_b80 ge76 ge80 ne_b76_b80) (by decide) (W := 0) (Nat.le_of_ble_eq_true rfl) (by decide) (by decide) (by decide) rfl (lenOf pd3 rfl) rfl at_97 (pc' := 100) rfl fun T85 v85 h85 X85 q85 => ?_
      obtain ⟨rfl, Kp85, F85_idle_b76, F85_idleCount_b76, F85_next_b80⟩ := q85
      have E85k_b76 := E84k_b76.keep Kp85
      have E85k_b78 := E84k_b78.keep Kp85
      have E85k_b80 := E84k_b80.keep Kp85
      have E85k_b82 := E84k_b82.keep Kp85
      have F85k_next_b78 := F84_next_b78.keep Kp85 (ninS (Ne.symm ne_b76_b78) (ninS ne_b78_b80 nin0))
      have F85k_next_b82 := F84k_next_b82.keep Kp85 (ninS (Ne.symm ne_b76_b82) (ninS (Ne.symm ne_b80_b82) nin0))
      replace X85 := X85.more (cells' := 7) (slots' := 12296) (by decide) (by decide)
      show Jvm.OwnKit.Ends p e below s n0 40 57472 _ T85 (mkF m 100 #[.val (.int u1), .val (.int (2 : Int32)), .val (.int (0 : Int32)), .val (.ref b76), .val (.ref b78), .val (.ref b80), .val (.ref b82), .unset, .unset, .unset, .unset, .unset, .unset] [])
      refine F_iloadN X85 at_100 rfl (pc' := 101) rfl ?_
      refine F_iconst X85 at_101 (z := (3 : Int32)) (by decide) (pc' := 102) rfl ?_
      refine F_icmp_lt X85 at_102 (by decide) (pt := 111) (by decide) (pc' := 105) rfl (fun _ => ?_) (fun q => absurd q (by decide))
      refine F_aloadN X85 at_111 rfl rfl (pc' := 112) rfl ?_
      refine F_callV X85 (y := (⟨"com/example/frame4/frame4/ChunkPool", "take", "()Lcom/example/frame4/frame4/ChunkPool$Chunk;"⟩ : MethodName)) (stk := []) (wd19 hw) (wd20 hw) (wd22 hw) (wd21 hw) (wd2 hw) (wd23 hw) (by decide) (a := b76) E85k_b76 (argsL := []) (conT2 l Z a0 hw n0 h85 X85.size b76 b80 b78 E85k_b76 E85k_b80 F85_idle_b76 F85_idleCount_b76 F85_next_b80 ge76 ge80 ne_b76_b80) (by decide) (W := 0) (Nat.le_of_ble_eq_true rfl) (by decide) (by decide) (by decide) rfl (lenOf pd1 rfl) rfl at_112 (pc' := 115) rfl fun T86 v86 h86 X86 q86 => ?_
      obtain ⟨rfl, Kp86, F86_idle_b76, F86_idleCount_b76, F86_next_b80⟩ := q86
      have E86k_b76 := E85k_b76.keep Kp86
      have E86k_b78 := E85k_b78.keep Kp86
      have E86k_b80 := E85k_b80.keep Kp86
      have E86k_b82 := E85k_b82.keep Kp86
      have F86k_next_b78 := F85k_next_b78.keep Kp86 (ninS (Ne.symm ne_b76_b78) (ninS ne_b78_b80 nin0))
      have F86k_next_b82 := F85k_next_b82.keep Kp86 (ninS (Ne.symm ne_b76_b82) (ninS (Ne.symm ne_b80_b82) nin0))
      replace X86 := X86.more (cells' := 7) (slots' := 12296) (by decide) (by decide)
      show Jvm.OwnKit.Ends p e below s n0 40 57472 _ T86 (mkF m 115 #[.val (.int u1), .val (.int (2 : Int32)), .val (.int (0 : Int32)), .val (.ref b76), .val (.ref b78), .val (.ref b80), .val (.ref b82), .unset, .unset, .unset, .unset, .unset, .unset] [(.ref b80)])
      refine F_astore X86 at_115 rfl (Ls' := #[.val (.int u1), .val (.int (2 : Int32)), .val (.int (0 : Int32)), .val (.ref b76), .val (.ref b78), .val (.ref b80), .val (.ref b82), .val (.ref b80), .unset, .unset, .unset, .unset, .unset]) rfl (pc' := 117) rfl ?_
      refine F_aloadN X86 at_117 rfl rfl (pc' := 118) rfl ?_
      refine F_callV X86 (y := (⟨"com/example/frame4/frame4/ChunkPool", "take", "()Lcom/example/frame4/frame4/ChunkPool$Chunk;"⟩ : MethodName)) (stk := []) (wd19 hw) (wd20 hw) (wd22 hw) (wd21 hw) (wd2 hw) (wd23 hw) (by decide) (a := b76) E86k_b76 (argsL := []) (conT1 l Z a0 hw n0 h86 X86.size b76 b78 E86k_b76 E86k_b78 F86_idle_b76 F86_idleCount_b76 F86k_next_b78 ge76 ge78 ne_b76_b78) (by decide) (W := 0) (Nat.le_of_ble_eq_true rfl) (by decide) (by decide) (by decide) rfl (lenOf pd1 rfl) rfl at_118 (pc' := 121) rfl fun T87 v87 h87 X87 q87 => ?_
      obtain ⟨rfl, Kp87, F87_idle_b76, F87_idleCount_b76, F87_next_b78⟩ := q87
      have E87k_b76 := E86k_b76.keep Kp87
      have E87k_b78 := E86k_b78.keep Kp87
      have E87k_b80 := E86k_b80.keep Kp87
      have E87k_b82 := E86k_b82.keep Kp87
      have F87k_next_b80 := F86_next_b80.keep Kp87 (ninS (Ne.symm ne_b76_b80) (ninS (Ne.symm ne_b78_b80) nin0))
      have F87k_next_b82 := F86k_next_b82.keep Kp87 (ninS (Ne.symm ne_b76_b82) (ninS (Ne.symm ne_b78_b82) nin0))
      replace X87 := X87.more (cells' := 7) (slots' := 12296) (by decide) (by decide)
      show Jvm.OwnKit.Ends p e below s n0 40 57472 _ T87 (mkF m 121 #[.val (.int u1), .val (.int (2 : Int32)), .val (.int (0 : Int32)), .val (.ref b76), .val (.ref b78), .val (.ref b80), .val (.ref b82), .val (.ref b80), .unset, .unset, .unset, .unset, .unset] [(.ref b78)])
      refine F_astore X87 at_121 rfl (Ls' := #[.val (.int u1), .val (.int (2 : Int32)), .val (.int (0 : Int32)), .val (.ref b76), .val (.ref b78), .val (.ref b80), .val (.ref b82), .val (.ref b80), .val (.ref b78), .unset, .unset, .unset, .unset]) rfl (pc' := 123) rfl ?_
      refine F_aloadN X87 at_123 rfl rfl (pc' := 124) rfl ?_
      refine F_callV X87 (y := (⟨"com/example/frame4/frame4/ChunkPool", "take", "()Lcom/example/frame4/frame4/ChunkPool$Chunk;"⟩ : MethodName)) (stk := []) (wd19 hw) (wd20 hw) (wd22 hw) (wd21 hw) (wd2 hw) (wd23 hw) (by decide) (a := b76) E87k_b76 (argsL := []) (conT0 l Z a0 hw n0 h87 X87.size b76 F87_idle_b76) (by decide) (W := 0) (Nat.le_of_ble_eq_true rfl) (by decide) (by decide) (by decide) rfl (lenOf pd1 rfl) rfl at_124 (pc' := 127) rfl fun T88 v88 h88 X88 q88 => ?_
      obtain ⟨b88_fb, rfl, sz88_fb, Kp88, E88_b88_fb, F88_next_b88_fb⟩ := q88
      have ge_b88_fb : n0 ≤ b88_fb := Nat.le_trans X87.size sz88_fb
      have ne_b76_b88_fb : b76 ≠ b88_fb := Nat.ne_of_lt (Nat.lt_of_lt_of_le E87k_b76.lt sz88_fb)
      have ne_b78_b88_fb : b78 ≠ b88_fb := Nat.ne_of_lt (Nat.lt_of_lt_of_le E87k_b78.lt sz88_fb)
      have ne_b80_b88_fb : b80 ≠ b88_fb := Nat.ne_of_lt (Nat.lt_of_lt_of_le E87k_b80.lt sz88_fb)
      have ne_b82_b88_fb : b82 ≠ b88_fb := Nat.ne_of_lt (Nat.lt_of_lt_of_le E87k_b82.lt sz88_fb)
      have E88k_b76 := E87k_b76.keep Kp88
      have E88k_b78 := E87k_b78.keep Kp88
      have E88k_b80 := E87k_b80.keep Kp88
      have E88k_b82 := E87k_b82.keep Kp88
      have F88k_idle_b76 := F87_idle_b76.keep Kp88 nin0
      have F88k_idleCount_b76 := F87_idleCount_b76.keep Kp88 nin0
      have F88k_next_b78 := F87_next_b78.keep Kp88 nin0
      have F88k_next_b80 := F87k_next_b80.keep Kp88 nin0
      have F88k_next_b82 := F87k_next_b82.keep Kp88 nin0
      replace X88 := X88.more (cells' := 9) (slots' := 16394) (by decide) (by decide)
      show Jvm.OwnKit.Ends p e below s n0 40 57472 _ T88 (mkF m 127 #[.val (.int u1), .val (.int (2 : Int32)), .val (.int (0 : Int32)), .val (.ref b76), .val (.ref b78), .val (.ref b80), .val (.ref b82), .val (.ref b80), .val (.ref b78), .unset, .unset, .unset, .unset] [(.ref b88_fb)])
      refine F_astore X88 at_127 rfl (Ls' := #[.val (.int u1), .val (.int (2 : Int32)), .val (.int (0 : Int32)), .val (.ref b76), .val (.ref b78), .val (.ref b80), .val (.ref b82), .val (.ref b80), .val (.ref b78), .val (.ref b88_fb), .unset, .unset, .unset]) rfl (pc' := 129) rfl ?_
      refine F_aloadN X88 at_129 rfl rfl (pc' := 130) rfl ?_
      refine F_callV X88 (y := (⟨"com/example/frame4/frame4/ChunkPool", "take", "()Lcom/example/frame4/frame4/ChunkPool$Chunk;"⟩ : MethodName)) (stk := []) (wd19 hw) (wd20 hw) (wd22 hw) (wd21 hw) (wd2 hw) (wd23 hw) (by decide) (a := b76) E88k_b76 (argsL := []) (conT0 l Z a0 hw n0 h88 X88.size b76 F88k_idle_b76) (by decide) (W := 0) (Nat.le_of_ble_eq_true rfl) (by decide) (by decide) (by decide) rfl (lenOf pd1 rfl) rfl at_130 (pc' := 133) rfl fun T89 v89 h89 X89 q89 => ?_
      obtain ⟨b89_fb, rfl, sz89_fb, Kp89, E89_b89_fb, F89_next_b89_fb⟩ := q89
      have ge_b89_fb : n0 ≤ b89_fb := Nat.le_trans X88.size sz89_fb
      have ne_b76_b89_fb : b76 ≠ b89_fb := Nat.ne_of_lt (Nat.lt_of_lt_of_le E88k_b76.lt sz89_fb)
      have ne_b78_b89_fb : b78 ≠ b89_fb := Nat.ne_of_lt (Nat.lt_of_lt_of_le E88k_b78.lt sz89_fb)
      have ne_b80_b89_fb : b80 ≠ b89_fb := Nat.ne_of_lt (Nat.lt_of_lt_of_le E88k_b80.lt sz89_fb)
      have ne_b82_b89_fb : b82 ≠ b89_fb := Nat.ne_of_lt (Nat.lt_of_lt_of_le E88k_b82.lt sz89_fb)
      have ne_b88_fb_b89_fb : b88_fb ≠ b89_fb := Nat.ne_of_lt (Nat.lt_of_lt_of_le E88_b88_fb.lt sz89_fb)
      have E89k_b76 := E88k_b76.keep Kp89
      have E89k_b78 := E88k_b78.keep Kp89
      have E89k_b80 := E88k_b80.keep Kp89
      have E89k_b82 := E88k_b82.keep Kp89
      have E89k_b88_fb := E88_b88_fb.keep Kp89
      have F89k_idle_b76 := F88k_idle_b76.keep Kp89 nin0
      have F89k_idleCount_b76 := F88k_idleCount_b76.keep Kp89 nin0
      have F89k_next_b78 := F88k_next_b78.keep Kp89 nin0
      have F89k_next_b80 := F88k_next_b80.keep Kp89 nin0
      have F89k_next_b82 := F88k_next_b82.keep Kp89 nin0
      have F89k_next_b88_fb := F88_next_b88_fb.keep Kp89 nin0
      replace X89 := X89.more (cells' := 11) (slots' := 20492) (by decide) (by decide)
      show Jvm.OwnKit.Ends p e below s n0 40 57472 _ T89 (mkF m 133 #[.val (.int u1), .val (.int (2 : Int32)), .val (.int (0 : Int32)), .val (.ref b76), .val (.ref b78), .val (.ref b80), .val (.ref b82), .val (.ref b80), .val (.ref b78), .val (.ref b88_fb), .unset, .unset, .unset] [(.ref b89_fb)])
      refine F_astore X89 at_133 rfl (Ls' := #[.val (.int u1), .val (.int (2 : Int32)), .val (.int (0 : Int32)), .val (.ref b76), .val (.ref b78), .val (.ref b80), .val (.ref b82), .val (.ref b80), .val (.ref b78), .val (.ref b88_fb), .val (.ref b89_fb), .unset, .unset]) rfl (pc' := 135) rfl ?_
      refine F_aload X89 at_135 rfl rfl (pc' := 137) rfl ?_
      refine F_iconst X89 at_137 (z := (0 : Int32)) (by decide) (pc' := 138) rfl ?_
      refine F_iloadN X89 at_138 rfl (pc' := 139) rfl ?_
      refine F_aload X89 at_139 rfl rfl (pc' := 141) rfl ?_
      refine F_aload X89 at_141 rfl rfl (pc' := 143) rfl ?_
      refine F_aload X89 at_143 rfl rfl (pc' := 145) rfl ?_
      refine F_callS X89 (y := (⟨"com/example/frame4/frame4/ChunkPoolGiveBackPinLaw", "expect", "(Lcom/example/frame4/frame4/ChunkPool$Chunk;IILcom/example/frame4/frame4/ChunkPool$Chunk;Lcom/example/frame4/frame4/ChunkPool$Chunk;Lcom/example/frame4/frame4/ChunkPool$Chunk;)Z"⟩ : MethodName)) (stk := []) (wd28 hw) (wd29 hw) (wd30 hw) (wd31 hw) (by decide) (argsL := [(.ref b80), (.int (0 : Int32)), (.int (2 : Int32)), (.ref b78), (.ref b80), (.ref b82)]) (conE2_0 l Z a0 hw n0 h89 X89.size b80 b78 b82 F89k_next_b80) (by decide) (W := 0) (Nat.le_of_ble_eq_true rfl) (by decide) (by decide) (by decide) rfl (lenOf pd2 rfl) rfl at_145 (pc' := 148) rfl fun T90 v90 h90 X90 q90 => ?_
      obtain ⟨rfl, rfl⟩ := q90
      replace X90 := X90.more (cells' := 11) (slots' := 20492) (by decide) (by decide)
      show Jvm.OwnKit.Ends p e below s n0 40 57472 _ T90 (mkF m 148 #[.val (.int u1), .val (.int (2 : Int32)), .val (.int (0 : Int32)), .val (.ref b76), .val (.ref b78), .val (.ref b80), .val (.ref b82), .val (.ref b80), .val (.ref b78), .val (.ref b88_fb), .val (.ref b89_fb), .unset, .unset] [(.int (1 : Int32))])
      refine F_if_eq X90 at_148 (by decide) (pt := 203) (by decide) (pc' := 151) rfl (fun q => absurd q (by decide)) (fun _ => ?_)
      refine F_aload X90 at_151 rfl rfl (pc' := 153) rfl ?_
      refine F_iconst X90 at_153 (z := (1 : Int32)) (by decide) (pc' := 154) rfl ?_
      refine F_iloadN X90 at_154 rfl (pc' := 155) rfl ?_
      refine F_aload X90 at_155 rfl rfl (pc' := 157) rfl ?_
      refine F_aload X90 at_157 rfl rfl (pc' := 159) rfl ?_
      refine F_aload X90 at_159 rfl rfl (pc' := 161) rfl ?_
      refine F_callS X90 (y := (⟨"com/example/frame4/frame4/ChunkPoolGiveBackPinLaw", "expect", "(Lcom/example/frame4/frame4/ChunkPool$Chunk;IILcom/example/frame4/frame4/ChunkPool$Chunk;Lcom/example/frame4/frame4/ChunkPool$Chunk;Lcom/example/frame4/frame4/ChunkPool$Chunk;)Z"⟩ : MethodName)) (stk := []) (wd28 hw) (wd29 hw) (wd30 hw) (wd31 hw) (by decide) (argsL := [(.ref b78), (.int (1 : Int32)), (.int (2 : Int32)), (.ref b78), (.ref b80), (.ref b82)]) (conE2_1 l Z a0 hw n0 h89 X90.size b78 b80 b82 F89k_next_b78) (by decide) (W := 0) (Nat.le_of_ble_eq_true rfl) (by decide) (by decide) (by decide) rfl (lenOf pd2 rfl) rfl at_161 (pc' := 164) rfl fun T91 v91 h91 X91 q91 => ?_
      obtain ⟨rfl, rfl⟩ := q91
      replace X91 := X91.more (cells' := 11) (slots' := 20492) (by decide) (by decide)
      show Jvm.OwnKit.Ends p e below s n0 40 57472 _ T91 (mkF m 164 #[.val (.int u1), .val (.int (2 : Int32)), .val (.int (0 : Int32)), .val (.ref b76), .val (.ref b78), .val (.ref b80), .val (.ref b82), .val (.ref b80), .val (.ref b78), .val (.ref b88_fb), .val (.ref b89_fb), .unset, .unset] [(.int (1 : Int32))])
      refine F_if_eq X91 at_164 (by decide) (pt := 203) (by decide) (pc' := 167) rfl (fun q => absurd q (by decide)) (fun _ => ?_)
      refine F_aload X91 at_167 rfl rfl (pc' := 169) rfl ?_
      refine F_iconst X91 at_169 (z := (2 : Int32)) (by decide) (pc' := 170) rfl ?_
      refine F_iloadN X91 at_170 rfl (pc' := 171) rfl ?_
      refine F_aload X91 at_171 rfl rfl (pc' := 173) rfl ?_
      refine F_aload X91 at_173 rfl rfl (pc' := 175) rfl ?_
      refine F_aload X91 at_175 rfl rfl (pc' := 177) rfl ?_
      refine F_callS X91 (y := (⟨"com/example/frame4/frame4/ChunkPoolGiveBackPinLaw", "expect", "(Lcom/example/frame4/frame4/ChunkPool$Chunk;IILcom/example/frame4/frame4/ChunkPool$Chunk;Lcom/example/frame4/frame4/ChunkPool$Chunk;Lcom/example/frame4/frame4/ChunkPool$Chunk;)Z"⟩ : MethodName)) (stk := []) (wd28 hw) (wd29 hw) (wd30 hw) (wd31 hw) (by decide) (argsL := [(.ref b88_fb), (.int (2 : Int32)), (.int (2 : Int32)), (.ref b78), (.ref b80), (.ref b82)]) (conE2_2 l Z a0 hw n0 h89 X91.size b88_fb b78 b80 b82 F89k_next_b88_fb (Ne.symm ne_b78_b88_fb) (Ne.symm ne_b80_b88_fb) (Ne.symm ne_b82_b88_fb)) (by decide) (W := 0) (Nat.le_of_ble_eq_true rfl) (by decide) (by decide) (by decide) rfl (lenOf pd2 rfl) rfl at_177 (pc' := 180) rfl fun T92 v92 h92 X92 q92 => ?_
      obtain ⟨rfl, rfl⟩ := q92
      replace X92 := X92.more (cells' := 11) (slots' := 20492) (by decide) (by decide)
      show Jvm.OwnKit.Ends p e below s n0 40 57472 _ T92 (mkF m 180 #[.val (.int u1), .val (.int (2 : Int32)), .val (.int (0 : Int32)), .val (.ref b76), .val (.ref b78), .val (.ref b80), .val (.ref b82), .val (.ref b80), .val (.ref b78), .val (.ref b88_fb), .val (.ref b89_fb), .unset, .unset] [(.int (1 : Int32))])
      refine F_if_eq X92 at_180 (by decide) (pt := 203) (by decide) (pc' := 183) rfl (fun q => absurd q (by decide)) (fun _ => ?_)
      refine F_aload X92 at_183 rfl rfl (pc' := 185) rfl ?_
      refine F_iconst X92 at_185 (z := (3 : Int32)) (by decide) (pc' := 186) rfl ?_
      refine F_iloadN X92 at_186 rfl (pc' := 187) rfl ?_
      refine F_aload X92 at_187 rfl rfl (pc' := 189) rfl ?_
      refine F_aload X92 at_189 rfl rfl (pc' := 191) rfl ?_
      refine F_aload X92 at_191 rfl rfl (pc' := 193) rfl ?_
      refine F_callS X92 (y := (⟨"com/example/frame4/frame4/ChunkPoolGiveBackPinLaw", "expect", "(Lcom/example/frame4/frame4/ChunkPool$Chunk;IILcom/example/frame4/frame4/ChunkPool$Chunk;Lcom/example/frame4/frame4/ChunkPool$Chunk;Lcom/example/frame4/frame4/ChunkPool$Chunk;)Z"⟩ : MethodName)) (stk := []) (wd28 hw) (wd29 hw) (wd30 hw) (wd31 hw) (by decide) (argsL := [(.ref b89_fb), (.int (3 : Int32)), (.int (2 : Int32)), (.ref b78), (.ref b80), (.ref b82)]) (conE2_3 l Z a0 hw n0 h89 X92.size b89_fb b78 b80 b82 F89_next_b89_fb (Ne.symm ne_b78_b89_fb) (Ne.symm ne_b80_b89_fb) (Ne.symm ne_b82_b89_fb)) (by decide) (W := 0) (Nat.le_of_ble_eq_true rfl) (by decide) (by decide) (by decide) rfl (lenOf pd2 rfl) rfl at_193 (pc' := 196) rfl fun T93 v93 h93 X93 q93 => ?_
      obtain ⟨rfl, rfl⟩ := q93
      replace X93 := X93.more (cells' := 11) (slots' := 20492) (by decide) (by decide)
      show Jvm.OwnKit.Ends p e below s n0 40 57472 _ T93 (mkF m 196 #[.val (.int u1), .val (.int (2 : Int32)), .val (.int (0 : Int32)), .val (.ref b76), .val (.ref b78), .val (.ref b80), .val (.ref b82), .val (.ref b80), .val (.ref b78), .val (.ref b88_fb), .val (.ref b89_fb), .unset, .unset] [(.int (1 : Int32))])
      refine F_if_eq X93 at_196 (by decide) (pt := 203) (by decide) (pc' := 199) rfl (fun q => absurd q (by decide)) (fun _ => ?_)
      refine F_iconst X93 at_199 (z := (1 : Int32)) (by decide) (pc' := 200) rfl ?_
      refine F_goto X93 at_200 (by decide) (pc' := 204) (by decide) ?_
      refine F_istore X93 at_204 (Ls' := #[.val (.int u1), .val (.int (2 : Int32)), .val (.int (0 : Int32)), .val (.ref b76), .val (.ref b78), .val (.ref b80), .val (.ref b82), .val (.ref b80), .val (.ref b78), .val (.ref b88_fb), .val (.ref b89_fb), .val (.int (1 : Int32)), .unset]) rfl (pc' := 206) rfl ?_
      refine F_aload X93 at_206 rfl rfl (pc' := 208) rfl ?_
      refine F_aload X93 at_208 rfl rfl (pc' := 210) rfl ?_
      refine F_acmp X93 (same := false) at_210 rfl rfl (decide_eq_false fun q => (Ne.symm ne_b78_b80) (Value.ref.inj q)) (by decide) (pc' := 213) (by decide) ?_
      refine F_aload X93 at_213 rfl rfl (pc' := 215) rfl ?_
      refine F_aload X93 at_215 rfl rfl (pc' := 217) rfl ?_
      refine F_acmp X93 (same := false) at_217 rfl rfl (decide_eq_false fun q => ne_b80_b88_fb (Value.ref.inj q)) (by decide) (pc' := 220) (by decide) ?_
      refine F_aload X93 at_220 rfl rfl (pc' := 222) rfl ?_
      refine F_aload X93 at_222 rfl rfl (pc' := 224) rfl ?_
      refine F_acmp X93 (same := false) at_224 rfl rfl (decide_eq_false fun q => ne_b80_b89_fb (Value.ref.inj q)) (by decide) (pc' := 227) (by decide) ?_
      refine F_aload X93 at_227 rfl rfl (pc' := 229) rfl ?_
      refine F_aload X93 at_229 rfl rfl (pc' := 231) rfl ?_
      refine F_acmp X93 (same := false) at_231 rfl rfl (decide_eq_false fun q => ne_b78_b88_fb (Value.ref.inj q)) (by decide) (pc' := 234) (by decide) ?_
      refine F_aload X93 at_234 rfl rfl (pc' := 236) rfl ?_
      refine F_aload X93 at_236 rfl rfl (pc' := 238) rfl ?_
      refine F_acmp X93 (same := false) at_238 rfl rfl (decide_eq_false fun q => ne_b78_b89_fb (Value.ref.inj q)) (by decide) (pc' := 241) (by decide) ?_
      refine F_aload X93 at_241 rfl rfl (pc' := 243) rfl ?_
      refine F_aload X93 at_243 rfl rfl (pc' := 245) rfl ?_
      refine F_acmp X93 (same := false) at_245 rfl rfl (decide_eq_false fun q => ne_b88_fb_b89_fb (Value.ref.inj q)) (by decide) (pc' := 248) (by decide) ?_
      refine F_iconst X93 at_248 (z := (1 : Int32)) (by decide) (pc' := 249) rfl ?_
      refine F_goto X93 at_249 (by decide) (pc' := 253) (by decide) ?_
      refine F_istore X93 at_253 (Ls' := #[.val (.int u1), .val (.int (2 : Int32)), .val (.int (0 : Int32)), .val (.ref b76), .val (.ref b78), .val (.ref b80), .val (.ref b82), .val (.ref b80), .val (.ref b78), .val (.ref b88_fb), .val (.ref b89_fb), .val (.int (1 : Int32)), .val (.int (1 : Int32))]) rfl (pc' := 255) rfl ?_
      refine F_iload X93 at_255 rfl (pc' := 257) rfl ?_
      refine F_if_eq X93 at_257 (by decide) (pt := 269) (by decide) (pc' := 260) rfl (fun q => absurd q (by decide)) (fun _ => ?_)
      refine F_iload X93 at_260 rfl (pc' := 262) rfl ?_
      refine F_if_eq X93 at_262 (by decide) (pt := 269) (by decide) (pc' := 265) rfl (fun q => absurd q (by decide)) (fun _ => ?_)
      refine F_iconst X93 at_265 (z := (1 : Int32)) (by decide) (pc' := 266) rfl ?_
      refine F_goto X93 at_266 (by decide) (pc' := 270) (by decide) ?_
      refine F_ireturn_boolean (z' := (1 : Int32)) X93 (by decide) at_270 rfl (by decide) (by decide) ?_
      exact rfl
    · refine F_iconst X0 at_12 (z := (1 : Int32)) (by decide) (pc' := 13) rfl ?_
      refine F_goto X0 at_13 (by decide) (pc' := 17) (by decide) ?_
      refine F_istoreN X0 at_17 (Ls' := #[.val (.int u1), .val (.int (2 : Int32)), .val (.int (1 : Int32)), .unset, .unset, .unset, .unset, .unset, .unset, .unset, .unset, .unset, .unset]) rfl (pc' := 18) rfl ?_
      refine F_new X0 (wd0 hw) (wd1 hw) (wd2 hw) (by decide) (by decide) at_18 (pc' := 21) rfl fun T94 h94 b94 X94 Ex94 g94 ge94 E_b94 D94 => ?_
      have F94_idle_b94 : Fld Z h94 b94 "com/example/frame4/frame4/ChunkPool" "idle" "Lcom/example/frame4/frame4/ChunkPool$Chunk;" .null := D94 (Or.inl (wd25 hw)) (ty := (.object "com/example/frame4/frame4/ChunkPool$Chunk")) (by decide)
      have F94_idleCount_b94 : Fld Z h94 b94 "com/example/frame4/frame4/ChunkPool" "idleCount" "I" (.int (0 : Int32)) := D94 (Or.inl (wd40 hw)) (ty := .int) (by decide)
      replace X94 := X94.more (cells' := 1) (slots' := 2) (by decide) (by decide)
      refine F_dup X94 at_21 rfl (pc' := 22) rfl ?_
      refine F_init X94 (y := (⟨"com/example/frame4/frame4/ChunkPool", "<init>", "()V"⟩ : MethodName)) (stk := [(.ref b94)]) rfl (wd3 hw) (wd4 hw) (wd2 hw) (wd5 hw) (by decide) (a := b94) (argsL := []) (conPI l Z a0 hw n0 h94 X94.size b94) (by decide) (W := 1) (Nat.le_of_ble_eq_true rfl) (by decide) (by decide) (by decide) rfl (lenOf pd0 rfl) rfl at_22 (pc' := 25) rfl fun T95 v95 h95 X95 q95 => ?_
      obtain ⟨rfl, rfl⟩ := q95
      replace X95 := X95.more (cells' := 1) (slots' := 2) (by decide) (by decide)
      show Jvm.OwnKit.Ends p e below s n0 40 57472 _ T95 (mkF m 25 #[.val (.int u1), .val (.int (2 : Int32)), .val (.int (1 : Int32)), .unset, .unset, .unset, .unset, .unset, .unset, .unset, .unset, .unset, .unset] [(.ref b94)])
      refine F_astoreN X95 at_25 rfl (Ls' := #[.val (.int u1), .val (.int (2 : Int32)), .val (.int (1 : Int32)), .val (.ref b94), .unset, .unset, .unset, .unset, .unset, .unset, .unset, .unset, .unset]) rfl (pc' := 26) rfl ?_
      refine F_new X95 (wd9 hw) (wd10 hw) (wd11 hw) (by decide) (by decide) at_26 (pc' := 29) rfl fun T96 h96 b96 X96 Ex96 g96 ge96 E_b96 D96 => ?_
      have ne_b94_b96 : b94 ≠ b96 := Nat.ne_of_lt (Nat.lt_of_lt_of_le E_b94.lt (Nat.le_of_eq g96.symm))
      have E96_b94 := E_b94.ext Ex96
      have F96_idle_b94 := F94_idle_b94.ext Ex96
      have F96_idleCount_b94 := F94_idleCount_b94.ext Ex96
      have F96_bytes_b96 : Fld Z h96 b96 "com/example/frame4/frame4/ChunkPool$Chunk" "bytes" "[B" .null := D96 (Or.inr (wd18 hw)) (ty := (.array .byte)) (by decide)
      have F96_next_b96 : Fld Z h96 b96 "com/example/frame4/frame4/ChunkPool$Chunk" "next" "Lcom/example/frame4/frame4/ChunkPool$Chunk;" .null := D96 (Or.inl (wd33 hw)) (ty := (.object "com/example/frame4/frame4/ChunkPool$Chunk")) (by decide)
      replace X96 := X96.more (cells' := 2) (slots' := 4) (by decide) (by decide)
      refine F_dup X96 at_29 rfl (pc' := 30) rfl ?_
      refine F_init X96 (y := (⟨"com/example/frame4/frame4/ChunkPool$Chunk", "<init>", "()V"⟩ : MethodName)) (stk := [(.ref b96)]) rfl (wd12 hw) (wd13 hw) (wd11 hw) (wd14 hw) (by decide) (a := b96) (argsL := []) (conCI l Z a0 hw n0 h96 X96.size b96 E_b96 F96_bytes_b96 F96_next_b96 ge96) (by decide) (W := 1) (Nat.le_of_ble_eq_true rfl) (by decide) (by decide) (by decide) rfl (lenOf pd0 rfl) rfl at_30 (pc' := 33) rfl fun T97 v97 h97 X97 q97 => ?_
      obtain ⟨rfl, Kp97, F97_next_b96⟩ := q97
      have E97k_b94 := E96_b94.keep Kp97
      have E97k_b96 := E_b96.keep Kp97
      have F97k_idle_b94 := F96_idle_b94.keep Kp97 (ninS ne_b94_b96 nin0)
      have F97k_idleCount_b94 := F96_idleCount_b94.keep Kp97 (ninS ne_b94_b96 nin0)
      replace X97 := X97.more (cells' := 3) (slots' := 4100) (by decide) (by decide)
      show Jvm.OwnKit.Ends p e below s n0 40 57472 _ T97 (mkF m 33 #[.val (.int u1), .val (.int (2 : Int32)), .val (.int (1 : Int32)), .val (.ref b94), .unset, .unset, .unset, .unset, .unset, .unset, .unset, .unset, .unset] [(.ref b96)])
      refine F_astore X97 at_33 rfl (Ls' := #[.val (.int u1), .val (.int (2 : Int32)), .val (.int (1 : Int32)), .val (.ref b94), .val (.ref b96), .unset, .unset, .unset, .unset, .unset, .unset, .unset, .unset]) rfl (pc' := 35) rfl ?_
      refine F_new X97 (wd9 hw) (wd10 hw) (wd11 hw) (by decide) (by decide) at_35 (pc' := 38) rfl fun T98 h98 b98 X98 Ex98 g98 ge98 E_b98 D98 => ?_
      have ne_b94_b98 : b94 ≠ b98 := Nat.ne_of_lt (Nat.lt_of_lt_of_le E97k_b94.lt (Nat.le_of_eq g98.symm))
      have ne_b96_b98 : b96 ≠ b98 := Nat.ne_of_lt (Nat.lt_of_lt_of_le E97k_b96.lt (Nat.le_of_eq g98.symm))
      have E98_b94 := E97k_b94.ext Ex98
      have E98_b96 := E97k_b96.ext Ex98
      have F98_idle_b94 := F97k_idle_b94.ext Ex98
      have F98_idleCount_b94 := F97k_idleCount_b94.ext Ex98
      have F98_next_b96 := F97_next_b96.ext Ex98
      have F98_bytes_b98 : Fld Z h98 b98 "com/example/frame4/frame4/ChunkPool$Chunk" "bytes" "[B" .null := D98 (Or.inr (wd18 hw)) (ty := (.array .byte)) (by decide)
      have F98_next_b98 : Fld Z h98 b98 "com/example/frame4/frame4/ChunkPool$Chunk" "next" "Lcom/example/frame4/frame4/ChunkPool$Chunk;" .null := D98 (Or.inl (wd33 hw)) (ty := (.object "com/example/frame4/frame4/ChunkPool$Chunk")) (by decide)
      replace X98 := X98.more (cells' := 4) (slots' := 4102) (by decide) (by decide)
      refine F_dup X98 at_38 rfl (pc' := 39) rfl ?_
      refine F_init X98 (y := (⟨"com/example/frame4/frame4/ChunkPool$Chunk", "<init>", "()V"⟩ : MethodName)) (stk := [(.ref b98)]) rfl (wd12 hw) (wd13 hw) (wd11 hw) (wd14 hw) (by decide) (a := b98) (argsL := []) (conCI l Z a0 hw n0 h98 X98.size b98 E_b98 F98_bytes_b98 F98_next_b98 ge98) (by decide) (W := 1) (Nat.le_of_ble_eq_true rfl) (by decide) (by decide) (by decide) rfl (lenOf pd0 rfl) rfl at_39 (pc' := 42) rfl fun T99 v99 h99 X99 q99 => ?_
      obtain ⟨rfl, Kp99, F99_next_b98⟩ := q99
      have E99k_b94 := E98_b94.keep Kp99
      have E99k_b96 := E98_b96.keep Kp99
      have E99k_b98 := E_b98.keep Kp99
      have F99k_idle_b94 := F98_idle_b94.keep Kp99 (ninS ne_b94_b98 nin0)
      have F99k_idleCount_b94 := F98_idleCount_b94.keep Kp99 (ninS ne_b94_b98 nin0)
      have F99k_next_b96 := F98_next_b96.keep Kp99 (ninS ne_b96_b98 nin0)
      replace X99 := X99.more (cells' := 5) (slots' := 8198) (by decide) (by decide)
      show Jvm.OwnKit.Ends p e below s n0 40 57472 _ T99 (mkF m 42 #[.val (.int u1), .val (.int (2 : Int32)), .val (.int (1 : Int32)), .val (.ref b94), .val (.ref b96), .unset, .unset, .unset, .unset, .unset, .unset, .unset, .unset] [(.ref b98)])
      refine F_astore X99 at_42 rfl (Ls' := #[.val (.int u1), .val (.int (2 : Int32)), .val (.int (1 : Int32)), .val (.ref b94), .val (.ref b96), .val (.ref b98), .unset, .unset, .unset, .unset, .unset, .unset, .unset]) rfl (pc' := 44) rfl ?_
      refine F_new X99 (wd9 hw) (wd10 hw) (wd11 hw) (by decide) (by decide) at_44 (pc' := 47) rfl fun T100 h100 b100 X100 Ex100 g100 ge100 E_b100 D100 => ?_
      have ne_b94_b100 : b94 ≠ b100 := Nat.ne_of_lt (Nat.lt_of_lt_of_le E99k_b94.lt (Nat.le_of_eq g100.symm))
      have ne_b96_b100 : b96 ≠ b100 := Nat.ne_of_lt (Nat.lt_of_lt_of_le E99k_b96.lt (Nat.le_of_eq g100.symm))
      have ne_b98_b100 : b98 ≠ b100 := Nat.ne_of_lt (Nat.lt_of_lt_of_le E99k_b98.lt (Nat.le_of_eq g100.symm))
      have E100_b94 := E99k_b94.ext Ex100
      have E100_b96 := E99k_b96.ext Ex100
      have E100_b98 := E99k_b98.ext Ex100
      have F100_idle_b94 := F99k_idle_b94.ext Ex100
      have F100_idleCount_b94 := F99k_idleCount_b94.ext Ex100
      have F100_next_b96 := F99k_next_b96.ext Ex100
      have F100_next_b98 := F99_next_b98.ext Ex100
      have F100_bytes_b100 : Fld Z h100 b100 "com/example/frame4/frame4/ChunkPool$Chunk" "bytes" "[B" .null := D100 (Or.inr (wd18 hw)) (ty := (.array .byte)) (by decide)
      have F100_next_b100 : Fld Z h100 b100 "com/example/frame4/frame4/ChunkPool$Chunk" "next" "Lcom/example/frame4/frame4/ChunkPool$Chunk;" .null := D100 (Or.inl (wd33 hw)) (ty := (.object "com/example/frame4/frame4/ChunkPool$Chunk")) (by decide)
      replace X100 := X100.more (cells' := 6) (slots' := 8200) (by decide) (by decide)
      refine F_dup X100 at_47 rfl (pc' := 48) rfl ?_
      refine F_init X100 (y := (⟨"com/example/frame4/frame4/ChunkPool$Chunk", "<init>", "()V"⟩ : MethodName)) (stk := [(.ref b100)]) rfl (wd12 hw) (wd13 hw) (wd11 hw) (wd14 hw) (by decide) (a := b100) (argsL := []) (conCI l Z a0 hw n0 h100 X100.size b100 E_b100 F100_bytes_b100 F100_next_b100 ge100) (by decide) (W := 1) (Nat.le_of_ble_eq_true rfl) (by decide) (by decide) (by decide) rfl (lenOf pd0 rfl) rfl at_48 (pc' := 51) rfl fun T101 v101 h101 X101 q101 => ?_
      obtain ⟨rfl, Kp101, F101_next_b100⟩ := q101
      have E101k_b94 := E100_b94.keep Kp101
      have E101k_b96 := E100_b96.keep Kp101
      have E101k_b98 := E100_b98.keep Kp101
      have E101k_b100 := E_b100.keep Kp101
      have F101k_idle_b94 := F100_idle_b94.keep Kp101 (ninS ne_b94_b100 nin0)
      have F101k_idleCount_b94 := F100_idleCount_b94.keep Kp101 (ninS ne_b94_b100 nin0)
      have F101k_next_b96 := F100_next_b96.keep Kp101 (ninS ne_b96_b100 nin0)
      have F101k_next_b98 := F100_next_b98.keep Kp101 (ninS ne_b98_b100 nin0)
      replace X101 := X101.more (cells' := 7) (slots' := 12296) (by decide) (by decide)
      show Jvm.OwnKit.Ends p e below s n0 40 57472 _ T101 (mkF m 51 #[.val (.int u1), .val (.int (2 : Int32)), .val (.int (1 : Int32)), .val (.ref b94), .val (.ref b96), .val (.ref b98), .unset, .unset, .unset, .unset, .unset, .unset, .unset] [(.ref b100)])
      refine F_astore X101 at_51 rfl (Ls' := #[.val (.int u1), .val (.int (2 : Int32)), .val (.int (1 : Int32)), .val (.ref b94), .val (.ref b96), .val (.ref b98), .val (.ref b100), .unset, .unset, .unset, .unset, .unset, .unset]) rfl (pc' := 53) rfl ?_
      refine F_iloadN X101 at_53 rfl (pc' := 54) rfl ?_
      refine F_if_eq X101 at_54 (by decide) (pt := 78) (by decide) (pc' := 57) rfl (fun q => absurd q (by decide)) (fun _ => ?_)
      refine F_aload X101 at_57 rfl rfl (pc' := 59) rfl ?_
      refine F_aload X101 at_59 rfl rfl (pc' := 61) rfl ?_
      refine F_putfield X101 (wd32 hw) F101k_next_b96 E101k_b96 (Or.inl (wd33 hw)) (wd10 hw) (ty := (.object "com/example/frame4/frame4/ChunkPool$Chunk")) (by decide) rfl rfl ge96 at_61 (pc' := 64) rfl fun T102 h102 X102 W102 => ?_
      have F102_next_b96 := F101k_next_b96.same W102
      have E102_b94 := E101k_b94.wr W102
      have E102_b96 := E101k_b96.wr W102
      have E102_b98 := E101k_b98.wr W102
      have E102_b100 := E101k_b100.wr W102
      have F102_idle_b94 := F101k_idle_b94.other W102 (Or.inl ne_b94_b96)
      have F102_idleCount_b94 := F101k_idleCount_b94.other W102 (Or.inl ne_b94_b96)
      have F102_next_b98 := F101k_next_b98.other W102 (Or.inl (Ne.symm ne_b96_b98))
      have F102_next_b100 := F101_next_b100.other W102 (Or.inl (Ne.symm ne_b96_b100))
      refine F_aload X102 at_64 rfl rfl (pc' := 66) rfl ?_
      refine F_aload X102 at_66 rfl rfl (pc' := 68) rfl ?_
      refine F_putfield X102 (wd32 hw) F102_next_b98 E102_b98 (Or.inl (wd33 hw)) (wd10 hw) (ty := (.object "com/example/frame4/frame4/ChunkPool$Chunk")) (by decide) rfl rfl ge98 at_68 (pc' := 71) rfl fun T103 h103 X103 W103 => ?_
      have F103_next_b98 := F102_next_b98.same W103
      have E103_b94 := E102_b94.wr W103
      have E103_b96 := E102_b96.wr W103
      have E103_b98 := E102_b98.wr W103
      have E103_b100 := E102_b100.wr W103
      have F103_idle_b94 := F102_idle_b94.other W103 (Or.inl ne_b94_b98)
      have F103_idleCount_b94 := F102_idleCount_b94.other W103 (Or.inl ne_b94_b98)
      have F103_next_b96 := F102_next_b96.other W103 (Or.inl ne_b96_b98)
      have F103_next_b100 := F102_next_b100.other W103 (Or.inl (Ne.symm ne_b98_b100))
      refine F_aload X103 at_71 rfl rfl (pc' := 73) rfl ?_
      refine F_aload X103 at_73 rfl rfl (pc' := 75) rfl ?_
      refine F_putfield X103 (wd32 hw) F103_next_b100 E103_b100 (Or.inl (wd33 hw)) (wd10 hw) (ty := (.object "com/example/frame4/frame4/ChunkPool$Chunk")) (by decide) rfl rfl ge100 at_75 (pc' := 78) rfl fun T104 h104 X104 W104 => ?_
      have F104_next_b100 := F103_next_b100.same W104
      have E104_b94 := E103_b94.wr W104
      have E104_b96 := E103_b96.wr W104
      have E104_b98 := E103_b98.wr W104
      have E104_b100 := E103_b100.wr W104
      have F104_idle_b94 := F103_idle_b94.other W104 (Or.inl ne_b94_b100)
      have F104_idleCount_b94 := F103_idleCount_b94.other W104 (Or.inl ne_b94_b100)
      have F104_next_b96 := F103_next_b96.other W104 (Or.inl ne_b96_b100)
      have F104_next_b98 := F103_next_b98.other W104 (Or.inl ne_b98_b100)
      refine F_iloadN X104 at_78 rfl (pc' := 79) rfl ?_
      refine F_iconst X104 at_79 (z := (1 : Int32)) (by decide) (pc' := 80) rfl ?_
      refine F_icmp_lt X104 at_80 (by decide) (pt := 89) (by decide) (pc' := 83) rfl (fun q => absurd q (by decide)) (fun _ => ?_)
      refine F_aloadN X104 at_83 rfl rfl (pc' := 84) rfl ?_
      refine F_aload X104 at_84 rfl rfl (pc' := 86) rfl ?_
      refine F_callV X104 (y := (⟨"com/example/frame4/frame4/ChunkPool", "giveBack", "(Lcom/example/frame4/frame4/ChunkPool$Chunk;)V"⟩ : MethodName)) (stk := []) (wd34 hw) (wd35 hw) (wd37 hw) (wd36 hw) (wd2 hw) (wd38 hw) (by decide) (a := b94) E104_b94 (argsL := [(.ref b96)]) (conG0 l Z a0 hw n0 h104 X104.size b94 b96 (.ref b98) E104_b94 E104_b96 F104_idle_b94 F104_idleCount_b94 F104_next_b96 ge94 ge96 ne_b94_b96) (by decide) (W := 0) (Nat.le_of_ble_eq_true rfl) (by decide) (by decide) (by decide) rfl (lenOf pd3 rfl) rfl at_86 (pc' := 89) rfl fun T105 v105 h105 X105 q105 => ?_
      obtain ⟨rfl, Kp105, F105_idle_b94, F105_idleCount_b94, F105_next_b96⟩ := q105
      have E105k_b94 := E104_b94.keep Kp105
      have E105k_b96 := E104_b96.keep Kp105
      have E105k_b98 := E104_b98.keep Kp105
      have E105k_b100 := E104_b100.keep Kp105
      have F105k_next_b98 := F104_next_b98.keep Kp105 (ninS (Ne.symm ne_b94_b98) (ninS (Ne.symm ne_b96_b98) nin0))
      have F105k_next_b100 := F104_next_b100.keep Kp105 (ninS (Ne.symm ne_b94_b100) (ninS (Ne.symm ne_b96_b100) nin0))
      replace X105 := X105.more (cells' := 7) (slots' := 12296) (by decide) (by decide)
      show Jvm.OwnKit.Ends p e below s n0 40 57472 _ T105 (mkF m 89 #[.val (.int u1), .val (.int (2 : Int32)), .val (.int (1 : Int32)), .val (.ref b94), .val (.ref b96), .val (.ref b98), .val (.ref b100), .unset, .unset, .unset, .unset, .unset, .unset] [])
      refine F_iloadN X105 at_89 rfl (pc' := 90) rfl ?_
      refine F_iconst X105 at_90 (z := (2 : Int32)) (by decide) (pc' := 91) rfl ?_
      refine F_icmp_lt X105 at_91 (by decide) (pt := 100) (by decide) (pc' := 94) rfl (fun q => absurd q (by decide)) (fun _ => ?_)
      refine F_aloadN X105 at_94 rfl rfl (pc' := 95) rfl ?_
      refine F_aload X105 at_95 rfl rfl (pc' := 97) rfl ?_
      refine F_callV X105 (y := (⟨"com/example/frame4/frame4/ChunkPool", "giveBack", "(Lcom/example/frame4/frame4/ChunkPool$Chunk;)V"⟩ : MethodName)) (stk := []) (wd34 hw) (wd35 hw) (wd37 hw) (wd36 hw) (wd2 hw) (wd38 hw) (by decide) (a := b94) E105k_b94 (argsL := [(.ref b98)]) (conG1 l Z a0 hw n0 h105 X105.size b94 b98 b96 (.ref b100) E105k_b94 E105k_b98 F105_idle_b94 F105_idleCount_b94 F105k_next_b98 ge94 ge98 ne_b94_b98) (by decide) (W := 0) (Nat.le_of_ble_eq_true rfl) (by decide) (by decide) (by decide) rfl (lenOf pd3 rfl) rfl at_97 (pc' := 100) rfl fun T106 v106 h106 X106 q106 => ?_
      obtain ⟨rfl, Kp106, F106_idle_b94, F106_idleCount_b94, F106_next_b98⟩ := q106
      have E106k_b94 := E105k_b94.keep Kp106
      have E106k_b96 := E105k_b96.keep Kp106
      have E106k_b98 := E105k_b98.keep Kp106
      have E106k_b100 := E105k_b100.keep Kp106
      have F106k_next_b96 := F105_next_b96.keep Kp106 (ninS (Ne.symm ne_b94_b96) (ninS ne_b96_b98 nin0))
      have F106k_next_b100 := F105k_next_b100.keep Kp106 (ninS (Ne.symm ne_b94_b100) (ninS (Ne.symm ne_b98_b100) nin0))
      replace X106 := X106.more (cells' := 7) (slots' := 12296) (by decide) (by decide)
      show Jvm.OwnKit.Ends p e below s n0 40 57472 _ T106 (mkF m 100 #[.val (.int u1), .val (.int (2 : Int32)), .val (.int (1 : Int32)), .val (.ref b94), .val (.ref b96), .val (.ref b98), .val (.ref b100), .unset, .unset, .unset, .unset, .unset, .unset] [])
      refine F_iloadN X106 at_100 rfl (pc' := 101) rfl ?_
      refine F_iconst X106 at_101 (z := (3 : Int32)) (by decide) (pc' := 102) rfl ?_
      refine F_icmp_lt X106 at_102 (by decide) (pt := 111) (by decide) (pc' := 105) rfl (fun _ => ?_) (fun q => absurd q (by decide))
      refine F_aloadN X106 at_111 rfl rfl (pc' := 112) rfl ?_
      refine F_callV X106 (y := (⟨"com/example/frame4/frame4/ChunkPool", "take", "()Lcom/example/frame4/frame4/ChunkPool$Chunk;"⟩ : MethodName)) (stk := []) (wd19 hw) (wd20 hw) (wd22 hw) (wd21 hw) (wd2 hw) (wd23 hw) (by decide) (a := b94) E106k_b94 (argsL := []) (conT2 l Z a0 hw n0 h106 X106.size b94 b98 b96 E106k_b94 E106k_b98 F106_idle_b94 F106_idleCount_b94 F106_next_b98 ge94 ge98 ne_b94_b98) (by decide) (W := 0) (Nat.le_of_ble_eq_true rfl) (by decide) (by decide) (by decide) rfl (lenOf pd1 rfl) rfl at_112 (pc' := 115) rfl fun T107 v107 h107 X107 q107 => ?_
      obtain ⟨rfl, Kp107, F107_idle_b94, F107_idleCount_b94, F107_next_b98⟩ := q107
      have E107k_b94 := E106k_b94.keep Kp107
      have E107k_b96 := E106k_b96.keep Kp107
      have E107k_b98 := E106k_b98.keep Kp107
      have E107k_b100 := E106k_b100.keep Kp107
      have F107k_next_b96 := F106k_next_b96.keep Kp107 (ninS (Ne.symm ne_b94_b96) (ninS ne_b96_b98 nin0))
      have F107k_next_b100 := F106k_next_b100.keep Kp107 (ninS (Ne.symm ne_b94_b100) (ninS (Ne.symm ne_b98_b100) nin0))
      replace X107 := X107.more (cells' := 7) (slots' := 12296) (by decide) (by decide)
      show Jvm.OwnKit.Ends p e below s n0 40 57472 _ T107 (mkF m 115 #[.val (.int u1), .val (.int (2 : Int32)), .val (.int (1 : Int32)), .val (.ref b94), .val (.ref b96), .val (.ref b98), .val (.ref b100), .unset, .unset, .unset, .unset, .unset, .unset] [(.ref b98)])
      refine F_astore X107 at_115 rfl (Ls' := #[.val (.int u1), .val (.int (2 : Int32)), .val (.int (1 : Int32)), .val (.ref b94), .val (.ref b96), .val (.ref b98), .val (.ref b100), .val (.ref b98), .unset, .unset, .unset, .unset, .unset]) rfl (pc' := 117) rfl ?_
      refine F_aloadN X107 at_117 rfl rfl (pc' := 118) rfl ?_
      refine F_callV X107 (y := (⟨"com/example/frame4/frame4/ChunkPool", "take", "()Lcom/example/frame4/frame4/ChunkPool$Chunk;"⟩ : MethodName)) (stk := []) (wd19 hw) (wd20 hw) (wd22 hw) (wd21 hw) (wd2 hw) (wd23 hw) (by decide) (a := b94) E107k_b94 (argsL := []) (conT1 l Z a0 hw n0 h107 X107.size b94 b96 E107k_b94 E107k_b96 F107_idle_b94 F107_idleCount_b94 F107k_next_b96 ge94 ge96 ne_b94_b96) (by decide) (W := 0) (Nat.le_of_ble_eq_true rfl) (by decide) (by decide) (by decide) rfl (lenOf pd1 rfl) rfl at_118 (pc' := 121) rfl fun T108 v108 h108 X108 q108 => ?_
      obtain ⟨rfl, Kp108, F108_idle_b94, F108_idleCount_b94, F108_next_b96⟩ := q108
      have E108k_b94 := E107k_b94.keep Kp108
      have E108k_b96 := E107k_b96.keep Kp108
      have E108k_b98 := E107k_b98.keep Kp108
      have E108k_b100 := E107k_b100.keep Kp108
      have F108k_next_b98 := F107_next_b98.keep Kp108 (ninS (Ne.symm ne_b94_b98) (ninS (Ne.symm ne_b96_b98) nin0))
      have F108k_next_b100 := F107k_next_b100.keep Kp108 (ninS (Ne.symm ne_b94_b100) (ninS (Ne.symm ne_b96_b100) nin0))
      replace X108 := X108.more (cells' := 7) (slots' := 12296) (by decide) (by decide)
      show Jvm.OwnKit.Ends p e below s n0 40 57472 _ T108 (mkF m 121 #[.val (.int u1), .val (.int (2 : Int32)), .val (.int (1 : Int32)), .val (.ref b94), .val (.ref b96), .val (.ref b98), .val (.ref b100), .val (.ref b98), .unset, .unset, .unset, .unset, .unset] [(.ref b96)])
      refine F_astore X108 at_121 rfl (Ls' := #[.val (.int u1), .val (.int (2 : Int32)), .val (.int (1 : Int32)), .val (.ref b94), .val (.ref b96), .val (.ref b98), .val (.ref b100), .val (.ref b98), .val (.ref b96), .unset, .unset, .unset, .unset]) rfl (pc' := 123) rfl ?_
      refine F_aloadN X108 at_123 rfl rfl (pc' := 124) rfl ?_
      refine F_callV X108 (y := (⟨"com/example/frame4/frame4/ChunkPool", "take", "()Lcom/example/frame4/frame4/ChunkPool$Chunk;"⟩ : MethodName)) (stk := []) (wd19 hw) (wd20 hw) (wd22 hw) (wd21 hw) (wd2 hw) (wd23 hw) (by decide) (a := b94) E108k_b94 (argsL := []) (conT0 l Z a0 hw n0 h108 X108.size b94 F108_idle_b94) (by decide) (W := 0) (Nat.le_of_ble_eq_true rfl) (by decide) (by decide) (by decide) rfl (lenOf pd1 rfl) rfl at_124 (pc' := 127) rfl fun T109 v109 h109 X109 q109 => ?_
      obtain ⟨b109_fb, rfl, sz109_fb, Kp109, E109_b109_fb, F109_next_b109_fb⟩ := q109
      have ge_b109_fb : n0 ≤ b109_fb := Nat.le_trans X108.size sz109_fb
      have ne_b94_b109_fb : b94 ≠ b109_fb := Nat.ne_of_lt (Nat.lt_of_lt_of_le E108k_b94.lt sz109_fb)
      have ne_b96_b109_fb : b96 ≠ b109_fb := Nat.ne_of_lt (Nat.lt_of_lt_of_le E108k_b96.lt sz109_fb)
      have ne_b98_b109_fb : b98 ≠ b109_fb := Nat.ne_of_lt (Nat.lt_of_lt_of_le E108k_b98.lt sz109_fb)
      have ne_b100_b109_fb : b100 ≠ b109_fb := Nat.ne_of_lt (Nat.lt_of_lt_of_le E108k_b100.lt sz109_fb)
      have E109k_b94 := E108k_b94.keep Kp109
      have E109k_b96 := E108k_b96.keep Kp109
      have E109k_b98 := E108k_b98.keep Kp109
      have E109k_b100 := E108k_b100.keep Kp109
      have F109k_idle_b94 := F108_idle_b94.keep Kp109 nin0
      have F109k_idleCount_b94 := F108_idleCount_b94.keep Kp109 nin0
      have F109k_next_b96 := F108_next_b96.keep Kp109 nin0
      have F109k_next_b98 := F108k_next_b98.keep Kp109 nin0
      have F109k_next_b100 := F108k_next_b100.keep Kp109 nin0
      replace X109 := X109.more (cells' := 9) (slots' := 16394) (by decide) (by decide)
      show Jvm.OwnKit.Ends p e below s n0 40 57472 _ T109 (mkF m 127 #[.val (.int u1), .val (.int (2 : Int32)), .val (.int (1 : Int32)), .val (.ref b94), .val (.ref b96), .val (.ref b98), .val (.ref b100), .val (.ref b98), .val (.ref b96), .unset, .unset, .unset, .unset] [(.ref b109_fb)])
      refine F_astore X109 at_127 rfl (Ls' := #[.val (.int u1), .val (.int (2 : Int32)), .val (.int (1 : Int32)), .val (.ref b94), .val (.ref b96), .val (.ref b98), .val (.ref b100), .val (.ref b98), .val (.ref b96), .val (.ref b109_fb), .unset, .unset, .unset]) rfl (pc' := 129) rfl ?_
      refine F_aloadN X109 at_129 rfl rfl (pc' := 130) rfl ?_
      refine F_callV X109 (y := (⟨"com/example/frame4/frame4/ChunkPool", "take", "()Lcom/example/frame4/frame4/ChunkPool$Chunk;"⟩ : MethodName)) (stk := []) (wd19 hw) (wd20 hw) (wd22 hw) (wd21 hw) (wd2 hw) (wd23 hw) (by decide) (a := b94) E109k_b94 (argsL := []) (conT0 l Z a0 hw n0 h109 X109.size b94 F109k_idle_b94) (by decide) (W := 0) (Nat.le_of_ble_eq_true rfl) (by decide) (by decide) (by decide) rfl (lenOf pd1 rfl) rfl at_130 (pc' := 133) rfl fun T110 v110 h110 X110 q110 => ?_
      obtain ⟨b110_fb, rfl, sz110_fb, Kp110, E110_b110_fb, F110_next_b110_fb⟩ := q110
      have ge_b110_fb : n0 ≤ b110_fb := Nat.le_trans X109.size sz110_fb
      have ne_b94_b110_fb : b94 ≠ b110_fb := Nat.ne_of_lt (Nat.lt_of_lt_of_le E109k_b94.lt sz110_fb)
      have ne_b96_b110_fb : b96 ≠ b110_fb := Nat.ne_of_lt (Nat.lt_of_lt_of_le E109k_b96.lt sz110_fb)
      have ne_b98_b110_fb : b98 ≠ b110_fb := Nat.ne_of_lt (Nat.lt_of_lt_of_le E109k_b98.lt sz110_fb)
      have ne_b100_b110_fb : b100 ≠ b110_fb := Nat.ne_of_lt (Nat.lt_of_lt_of_le E109k_b100.lt sz110_fb)
      have ne_b109_fb_b110_fb : b109_fb ≠ b110_fb := Nat.ne_of_lt (Nat.lt_of_lt_of_le E109_b109_fb.lt sz110_fb)
      have E110k_b94 := E109k_b94.keep Kp110
      have E110k_b96 := E109k_b96.keep Kp110
      have E110k_b98 := E109k_b98.keep Kp110
      have E110k_b100 := E109k_b100.keep Kp110
      have E110k_b109_fb := E109_b109_fb.keep Kp110
      have F110k_idle_b94 := F109k_idle_b94.keep Kp110 nin0
      have F110k_idleCount_b94 := F109k_idleCount_b94.keep Kp110 nin0
      have F110k_next_b96 := F109k_next_b96.keep Kp110 nin0
      have F110k_next_b98 := F109k_next_b98.keep Kp110 nin0
      have F110k_next_b100 := F109k_next_b100.keep Kp110 nin0
      have F110k_next_b109_fb := F109_next_b109_fb.keep Kp110 nin0
      replace X110 := X110.more (cells' := 11) (slots' := 20492) (by decide) (by decide)
      show Jvm.OwnKit.Ends p e below s n0 40 57472 _ T110 (mkF m 133 #[.val (.int u1), .val (.int (2 : Int32)), .val (.int (1 : Int32)), .val (.ref b94), .val (.ref b96), .val (.ref b98), .val (.ref b100), .val (.ref b98), .val (.ref b96), .val (.ref b109_fb), .unset, .unset, .unset] [(.ref b110_fb)])
      refine F_astore X110 at_133 rfl (Ls' := #[.val (.int u1), .val (.int (2 : Int32)), .val (.int (1 : Int32)), .val (.ref b94), .val (.ref b96), .val (.ref b98), .val (.ref b100), .val (.ref b98), .val (.ref b96), .val (.ref b109_fb), .val (.ref b110_fb), .unset, .unset]) rfl (pc' := 135) rfl ?_
      refine F_aload X110 at_135 rfl rfl (pc' := 137) rfl ?_
      refine F_iconst X110 at_137 (z := (0 : Int32)) (by decide) (pc' := 138) rfl ?_
      refine F_iloadN X110 at_138 rfl (pc' := 139) rfl ?_
      refine F_aload X110 at_139 rfl rfl (pc' := 141) rfl ?_
      refine F_aload X110 at_141 rfl rfl (pc' := 143) rfl ?_
      refine F_aload X110 at_143 rfl rfl (pc' := 145) rfl ?_
      refine F_callS X110 (y := (⟨"com/example/frame4/frame4/ChunkPoolGiveBackPinLaw", "expect", "(Lcom/example/frame4/frame4/ChunkPool$Chunk;IILcom/example/frame4/frame4/ChunkPool$Chunk;Lcom/example/frame4/frame4/ChunkPool$Chunk;Lcom/example/frame4/frame4/ChunkPool$Chunk;)Z"⟩ : MethodName)) (stk := []) (wd28 hw) (wd29 hw) (wd30 hw) (wd31 hw) (by decide) (argsL := [(.ref b98), (.int (0 : Int32)), (.int (2 : Int32)), (.ref b96), (.ref b98), (.ref b100)]) (conE2_0 l Z a0 hw n0 h110 X110.size b98 b96 b100 F110k_next_b98) (by decide) (W := 0) (Nat.le_of_ble_eq_true rfl) (by decide) (by decide) (by decide) rfl (lenOf pd2 rfl) rfl at_145 (pc' := 148) rfl fun T111 v111 h111 X111 q111 => ?_
      obtain ⟨rfl, rfl⟩ := q111
      replace X111 := X111.more (cells' := 11) (slots' := 20492) (by decide) (by decide)
      show Jvm.OwnKit.Ends p e below s n0 40 57472 _ T111 (mkF m 148 #[.val (.int u1), .val (.int (2 : Int32)), .val (.int (1 : Int32)), .val (.ref b94), .val (.ref b96), .val (.ref b98), .val (.ref b100), .val (.ref b98), .val (.ref b96), .val (.ref b109_fb), .val (.ref b110_fb), .unset, .unset] [(.int (1 : Int32))])
      refine F_if_eq X111 at_148 (by decide) (pt := 203) (by decide) (pc' := 151) rfl (fun q => absurd q (by decide)) (fun _ => ?_)
      refine F_aload X111 at_151 rfl rfl (pc' := 153) rfl ?_
      refine F_iconst X111 at_153 (z := (1 : Int32)) (by decide) (pc' := 154) rfl ?_
      refine F_iloadN X111 at_154 rfl (pc' := 155) rfl ?_
      refine F_aload X111 at_155 rfl rfl (pc' := 157) rfl ?_
      refine F_aload X111 at_157 rfl rfl (pc' := 159) rfl ?_
      refine F_aload X111 at_159 rfl rfl (pc' := 161) rfl ?_
      refine F_callS X111 (y := (⟨"com/example/frame4/frame4/ChunkPoolGiveBackPinLaw", "expect", "(Lcom/example/frame4/frame4/ChunkPool$Chunk;IILcom/example/frame4/frame4/ChunkPool$Chunk;Lcom/example/frame4/frame4/ChunkPool$Chunk;Lcom/example/frame4/frame4/ChunkPool$Chunk;)Z"⟩ : MethodName)) (stk := []) (wd28 hw) (wd29 hw) (wd30 hw) (wd31 hw) (by decide) (argsL := [(.ref b96), (.int (1 : Int32)), (.int (2 : Int32)), (.ref b96), (.ref b98), (.ref b100)]) (conE2_1 l Z a0 hw n0 h110 X111.size b96 b98 b100 F110k_next_b96) (by decide) (W := 0) (Nat.le_of_ble_eq_true rfl) (by decide) (by decide) (by decide) rfl (lenOf pd2 rfl) rfl at_161 (pc' := 164) rfl fun T112 v112 h112 X112 q112 => ?_
      obtain ⟨rfl, rfl⟩ := q112
      replace X112 := X112.more (cells' := 11) (slots' := 20492) (by decide) (by decide)
      show Jvm.OwnKit.Ends p e below s n0 40 57472 _ T112 (mkF m 164 #[.val (.int u1), .val (.int (2 : Int32)), .val (.int (1 : Int32)), .val (.ref b94), .val (.ref b96), .val (.ref b98), .val (.ref b100), .val (.ref b98), .val (.ref b96), .val (.ref b109_fb), .val (.ref b110_fb), .unset, .unset] [(.int (1 : Int32))])
      refine F_if_eq X112 at_164 (by decide) (pt := 203) (by decide) (pc' := 167) rfl (fun q => absurd q (by decide)) (fun _ => ?_)
      refine F_aload X112 at_167 rfl rfl (pc' := 169) rfl ?_
      refine F_iconst X112 at_169 (z := (2 : Int32)) (by decide) (pc' := 170) rfl ?_
      refine F_iloadN X112 at_170 rfl (pc' := 171) rfl ?_
      refine F_aload X112 at_171 rfl rfl (pc' := 173) rfl ?_
      refine F_aload X112 at_173 rfl rfl (pc' := 175) rfl ?_
      refine F_aload X112 at_175 rfl rfl (pc' := 177) rfl ?_
      refine F_callS X112 (y := (⟨"com/example/frame4/frame4/ChunkPoolGiveBackPinLaw", "expect", "(Lcom/example/frame4/frame4/ChunkPool$Chunk;IILcom/example/frame4/frame4/ChunkPool$Chunk;Lcom/example/frame4/frame4/ChunkPool$Chunk;Lcom/example/frame4/frame4/ChunkPool$Chunk;)Z"⟩ : MethodName)) (stk := []) (wd28 hw) (wd29 hw) (wd30 hw) (wd31 hw) (by decide) (argsL := [(.ref b109_fb), (.int (2 : Int32)), (.int (2 : Int32)), (.ref b96), (.ref b98), (.ref b100)]) (conE2_2 l Z a0 hw n0 h110 X112.size b109_fb b96 b98 b100 F110k_next_b109_fb (Ne.symm ne_b96_b109_fb) (Ne.symm ne_b98_b109_fb) (Ne.symm ne_b100_b109_fb)) (by decide) (W := 0) (Nat.le_of_ble_eq_true rfl) (by decide) (by decide) (by decide) rfl (lenOf pd2 rfl) rfl at_177 (pc' := 180) rfl fun T113 v113 h113 X113 q113 => ?_
      obtain ⟨rfl, rfl⟩ := q113
      replace X113 := X113.more (cells' := 11) (slots' := 20492) (by decide) (by decide)
      show Jvm.OwnKit.Ends p e below s n0 40 57472 _ T113 (mkF m 180 #[.val (.int u1), .val (.int (2 : Int32)), .val (.int (1 : Int32)), .val (.ref b94), .val (.ref b96), .val (.ref b98), .val (.ref b100), .val (.ref b98), .val (.ref b96), .val (.ref b109_fb), .val (.ref b110_fb), .unset, .unset] [(.int (1 : Int32))])
      refine F_if_eq X113 at_180 (by decide) (pt := 203) (by decide) (pc' := 183) rfl (fun q => absurd q (by decide)) (fun _ => ?_)
      refine F_aload X113 at_183 rfl rfl (pc' := 185) rfl ?_
      refine F_iconst X113 at_185 (z := (3 : Int32)) (by decide) (pc' := 186) rfl ?_
      refine F_iloadN X113 at_186 rfl (pc' := 187) rfl ?_
      refine F_aload X113 at_187 rfl rfl (pc' := 189) rfl ?_
      refine F_aload X113 at_189 rfl rfl (pc' := 191) rfl ?_
      refine F_aload X113 at_191 rfl rfl (pc' := 193) rfl ?_
      refine F_callS X113 (y := (⟨"com/example/frame4/frame4/ChunkPoolGiveBackPinLaw", "expect", "(Lcom/example/frame4/frame4/ChunkPool$Chunk;IILcom/example/frame4/frame4/ChunkPool$Chunk;Lcom/example/frame4/frame4/ChunkPool$Chunk;Lcom/example/frame4/frame4/ChunkPool$Chunk;)Z"⟩ : MethodName)) (stk := []) (wd28 hw) (wd29 hw) (wd30 hw) (wd31 hw) (by decide) (argsL := [(.ref b110_fb), (.int (3 : Int32)), (.int (2 : Int32)), (.ref b96), (.ref b98), (.ref b100)]) (conE2_3 l Z a0 hw n0 h110 X113.size b110_fb b96 b98 b100 F110_next_b110_fb (Ne.symm ne_b96_b110_fb) (Ne.symm ne_b98_b110_fb) (Ne.symm ne_b100_b110_fb)) (by decide) (W := 0) (Nat.le_of_ble_eq_true rfl) (by decide) (by decide) (by decide) rfl (lenOf pd2 rfl) rfl at_193 (pc' := 196) rfl fun T114 v114 h114 X114 q114 => ?_
      obtain ⟨rfl, rfl⟩ := q114
      replace X114 := X114.more (cells' := 11) (slots' := 20492) (by decide) (by decide)
      show Jvm.OwnKit.Ends p e below s n0 40 57472 _ T114 (mkF m 196 #[.val (.int u1), .val (.int (2 : Int32)), .val (.int (1 : Int32)), .val (.ref b94), .val (.ref b96), .val (.ref b98), .val (.ref b100), .val (.ref b98), .val (.ref b96), .val (.ref b109_fb), .val (.ref b110_fb), .unset, .unset] [(.int (1 : Int32))])
      refine F_if_eq X114 at_196 (by decide) (pt := 203) (by decide) (pc' := 199) rfl (fun q => absurd q (by decide)) (fun _ => ?_)
      refine F_iconst X114 at_199 (z := (1 : Int32)) (by decide) (pc' := 200) rfl ?_
      refine F_goto X114 at_200 (by decide) (pc' := 204) (by decide) ?_
      refine F_istore X114 at_204 (Ls' := #[.val (.int u1), .val (.int (2 : Int32)), .val (.int (1 : Int32)), .val (.ref b94), .val (.ref b96), .val (.ref b98), .val (.ref b100), .val (.ref b98), .val (.ref b96), .val (.ref b109_fb), .val (.ref b110_fb), .val (.int (1 : Int32)), .unset]) rfl (pc' := 206) rfl ?_
      refine F_aload X114 at_206 rfl rfl (pc' := 208) rfl ?_
      refine F_aload X114 at_208 rfl rfl (pc' := 210) rfl ?_
      refine F_acmp X114 (same := false) at_210 rfl rfl (decide_eq_false fun q => (Ne.symm ne_b96_b98) (Value.ref.inj q)) (by decide) (pc' := 213) (by decide) ?_
      refine F_aload X114 at_213 rfl rfl (pc' := 215) rfl ?_
      refine F_aload X114 at_215 rfl rfl (pc' := 217) rfl ?_
      refine F_acmp X114 (same := false) at_217 rfl rfl (decide_eq_false fun q => ne_b98_b109_fb (Value.ref.inj q)) (by decide) (pc' := 220) (by decide) ?_
      refine F_aload X114 at_220 rfl rfl (pc' := 222) rfl ?_
      refine F_aload X114 at_222 rfl rfl (pc' := 224) rfl ?_
      refine F_acmp X114 (same := false) at_224 rfl rfl (decide_eq_false fun q => ne_b98_b110_fb (Value.ref.inj q)) (by decide) (pc' := 227) (by decide) ?_
      refine F_aload X114 at_227 rfl rfl (pc' := 229) rfl ?_
      refine F_aload X114 at_229 rfl rfl (pc' := 231) rfl ?_
      refine F_acmp X114 (same := false) at_231 rfl rfl (decide_eq_false fun q => ne_b96_b109_fb (Value.ref.inj q)) (by decide) (pc' := 234) (by decide) ?_
      refine F_aload X114 at_234 rfl rfl (pc' := 236) rfl ?_
      refine F_aload X114 at_236 rfl rfl (pc' := 238) rfl ?_
      refine F_acmp X114 (same := false) at_238 rfl rfl (decide_eq_false fun q => ne_b96_b110_fb (Value.ref.inj q)) (by decide) (pc' := 241) (by decide) ?_
      refine F_aload X114 at_241 rfl rfl (pc' := 243) rfl ?_
      refine F_aload X114 at_243 rfl rfl (pc' := 245) rfl ?_
      refine F_acmp X114 (same := false) at_245 rfl rfl (decide_eq_false fun q => ne_b109_fb_b110_fb (Value.ref.inj q)) (by decide) (pc' := 248) (by decide) ?_
      refine F_iconst X114 at_248 (z := (1 : Int32)) (by decide) (pc' := 249) rfl ?_
      refine F_goto X114 at_249 (by decide) (pc' := 253) (by decide) ?_
      refine F_istore X114 at_253 (Ls' := #[.val (.int u1), .val (.int (2 : Int32)), .val (.int (1 : Int32)), .val (.ref b94), .val (.ref b96), .val (.ref b98), .val (.ref b100), .val (.ref b98), .val (.ref b96), .val (.ref b109_fb), .val (.ref b110_fb), .val (.int (1 : Int32)), .val (.int (1 : Int32))]) rfl (pc' := 255) rfl ?_
      refine F_iload X114 at_255 rfl (pc' := 257) rfl ?_
      refine F_if_eq X114 at_257 (by decide) (pt := 269) (by decide) (pc' := 260) rfl (fun q => absurd q (by decide)) (fun _ => ?_)
      refine F_iload X114 at_260 rfl (pc' := 262) rfl ?_
      refine F_if_eq X114 at_262 (by decide) (pt := 269) (by decide) (pc' := 265) rfl (fun q => absurd q (by decide)) (fun _ => ?_)
      refine F_iconst X114 at_265 (z := (1 : Int32)) (by decide) (pc' := 266) rfl ?_
      refine F_goto X114 at_266 (by decide) (pc' := 270) (by decide) ?_
      refine F_ireturn_boolean (z' := (1 : Int32)) X114 (by decide) at_270 rfl (by decide) (by decide) ?_
      exact rfl
  · refine F_istoreN X0 at_3 (Ls' := #[.val (.int u1), .val (.int (3 : Int32)), .unset, .unset, .unset, .unset, .unset, .unset, .unset, .unset, .unset, .unset, .unset]) rfl (pc' := 4) rfl ?_
    refine F_iloadN X0 at_4 rfl (pc' := 5) rfl ?_
    refine F_iconst X0 at_5 (z := (2 : Int32)) (by decide) (pc' := 6) rfl ?_
    refine F_iushr X0 at_6 rfl (pc' := 7) rfl ?_
    refine F_iconst X0 at_7 (z := (1 : Int32)) (by decide) (pc' := 8) rfl ?_
    refine F_iand X0 at_8 rfl (pc' := 9) rfl ?_
    refine F_if_eq X0 at_9 (by decide) (pt := 16) (by decide) (pc' := 12) rfl (fun hc9_115 => ?_) (fun hc9_115 => ?_)
    · refine F_iconst X0 at_16 (z := (0 : Int32)) (by decide) (pc' := 17) rfl ?_
      refine F_istoreN X0 at_17 (Ls' := #[.val (.int u1), .val (.int (3 : Int32)), .val (.int (0 : Int32)), .unset, .unset, .unset, .unset, .unset, .unset, .unset, .unset, .unset, .unset]) rfl (pc' := 18) rfl ?_
      refine F_new X0 (wd0 hw) (wd1 hw) (wd2 hw) (by decide) (by decide) at_18 (pc' := 21) rfl fun T116 h116 b116 X116 Ex116 g116 ge116 E_b116 D116 => ?_
      have F116_idle_b116 : Fld Z h116 b116 "com/example/frame4/frame4/ChunkPool" "idle" "Lcom/example/frame4/frame4/ChunkPool$Chunk;" .null := D116 (Or.inl (wd25 hw)) (ty := (.object "com/example/frame4/frame4/ChunkPool$Chunk")) (by decide)
      have F116_idleCount_b116 : Fld Z h116 b116 "com/example/frame4/frame4/ChunkPool" "idleCount" "I" (.int (0 : Int32)) := D116 (Or.inl (wd40 hw)) (ty := .int) (by decide)
      replace X116 := X116.more (cells' := 1) (slots' := 2) (by decide) (by decide)
      refine F_dup X116 at_21 rfl (pc' := 22) rfl ?_
      refine F_init X116 (y := (⟨"com/example/frame4/frame4/ChunkPool", "<init>", "()V"⟩ : MethodName)) (stk := [(.ref b116)]) rfl (wd3 hw) (wd4 hw) (wd2 hw) (wd5 hw) (by decide) (a := b116) (argsL := []) (conPI l Z a0 hw n0 h116 X116.size b116) (by decide) (W := 1) (Nat.le_of_ble_eq_true rfl) (by decide) (by decide) (by decide) rfl (lenOf pd0 rfl) rfl at_22 (pc' := 25) rfl fun T117 v117 h117 X117 q117 => ?_
      obtain ⟨rfl, rfl⟩ := q117
      replace X117 := X117.more (cells' := 1) (slots' := 2) (by decide) (by decide)
      show Jvm.OwnKit.Ends p e below s n0 40 57472 _ T117 (mkF m 25 #[.val (.int u1), .val (.int (3 : Int32)), .val (.int (0 : Int32)), .unset, .unset, .unset, .unset, .unset, .unset, .unset, .unset, .unset, .unset] [(.ref b116)])
      refine F_astoreN X117 at_25 rfl (Ls' := #[.val (.int u1), .val (.int (3 : Int32)), .val (.int (0 : Int32)), .val (.ref b116), .unset, .unset, .unset, .unset, .unset, .unset, .unset, .unset, .unset]) rfl (pc' := 26) rfl ?_
      refine F_new X117 (wd9 hw) (wd10 hw) (wd11 hw) (by decide) (by decide) at_26 (pc' := 29) rfl fun T118 h118 b118 X118 Ex118 g118 ge118 E_b118 D118 => ?_
      have ne_b116_b118 : b116 ≠ b118 := Nat.ne_of_lt (Nat.lt_of_lt_of_le E_b116.lt (Nat.le_of_eq g118.symm))
      have E118_b116 := E_b116.ext Ex118
      have F118_idle_b116 := F116_idle_b116.ext Ex118
      have F118_idleCount_b116 := F116_idleCount_b116.ext Ex118
      have F118_bytes_b118 : Fld Z h118 b118 "com/example/frame4/frame4/ChunkPool$Chunk" "bytes" "[B" .null := D118 (Or.inr (wd18 hw)) (ty := (.array .byte)) (by decide)
      have F118_next_b118 : Fld Z h118 b118 "com/example/frame4/frame4/ChunkPool$Chunk" "next" "Lcom/example/frame4/frame4/ChunkPool$Chunk;" .null := D118 (Or.inl (wd33 hw)) (ty := (.object "com/example/frame4/frame4/ChunkPool$Chunk")) (by decide)
      replace X118 := X118.more (cells' := 2) (slots' := 4) (by decide) (by decide)
      refine F_dup X118 at_29 rfl (pc' := 30) rfl ?_
      refine F_init X118 (y := (⟨"com/example/frame4/frame4/ChunkPool$Chunk", "<init>", "()V"⟩ : MethodName)) (stk := [(.ref b118)]) rfl (wd12 hw) (wd13 hw) (wd11 hw) (wd14 hw) (by decide) (a := b118) (argsL := []) (conCI l Z a0 hw n0 h118 X118.size b118 E_b118 F118_bytes_b118 F118_next_b118 ge118) (by decide) (W := 1) (Nat.le_of_ble_eq_true rfl) (by decide) (by decide) (by decide) rfl (lenOf pd0 rfl) rfl at_30 (pc' := 33) rfl fun T119 v119 h119 X119 q119 => ?_
      obtain ⟨rfl, Kp119, F119_next_b118⟩ := q119
      have E119k_b116 := E118_b116.keep Kp119
      have E119k_b118 := E_b118.keep Kp119
      have F119k_idle_b116 := F118_idle_b116.keep Kp119 (ninS ne_b116_b118 nin0)
      have F119k_idleCount_b116 := F118_idleCount_b116.keep Kp119 (ninS ne_b116_b118 nin0)
      replace X119 := X119.more (cells' := 3) (slots' := 4100) (by decide) (by decide)
      show Jvm.OwnKit.Ends p e below s n0 40 57472 _ T119 (mkF m 33 #[.val (.int u1), .val (.int (3 : Int32)), .val (.int (0 : Int32)), .val (.ref b116), .unset, .unset, .unset, .unset, .unset, .unset, .unset, .unset, .unset] [(.ref b118)])
      refine F_astore X119 at_33 rfl (Ls' := #[.val (.int u1), .val (.int (3 : Int32)), .val (.int (0 : Int32)), .val (.ref b116), .val (.ref b118), .unset, .unset, .unset, .unset, .unset, .unset, .unset, .unset]) rfl (pc' := 35) rfl ?_
      refine F_new X119 (wd9 hw) (wd10 hw) (wd11 hw) (by decide) (by decide) at_35 (pc' := 38) rfl fun T120 h120 b120 X120 Ex120 g120 ge120 E_b120 D120 => ?_
      have ne_b116_b120 : b116 ≠ b120 := Nat.ne_of_lt (Nat.lt_of_lt_of_le E119k_b116.lt (Nat.le_of_eq g120.symm))
      have ne_b118_b120 : b118 ≠ b120 := Nat.ne_of_lt (Nat.lt_of_lt_of_le E119k_b118.lt (Nat.le_of_eq g120.symm))
      have E120_b116 := E119k_b116.ext Ex120
      have E120_b118 := E119k_b118.ext Ex120
      have F120_idle_b116 := F119k_idle_b116.ext Ex120
      have F120_idleCount_b116 := F119k_idleCount_b116.ext Ex120
      have F120_next_b118 := F119_next_b118.ext Ex120
      have F120_bytes_b120 : Fld Z h120 b120 "com/example/frame4/frame4/ChunkPool$Chunk" "bytes" "[B" .null := D120 (Or.inr (wd18 hw)) (ty := (.array .byte)) (by decide)
      have F120_next_b120 : Fld Z h120 b120 "com/example/frame4/frame4/ChunkPool$Chunk" "next" "Lcom/example/frame4/frame4/ChunkPool$Chunk;" .null := D120 (Or.inl (wd33 hw)) (ty := (.object "com/example/frame4/frame4/ChunkPool$Chunk")) (by decide)
      replace X120 := X120.more (cells' := 4) (slots' := 4102) (by decide) (by decide)
      refine F_dup X120 at_38 rfl (pc' := 39) rfl ?_
      refine F_init X120 (y := (⟨"com/example/frame4/frame4/ChunkPool$Chunk", "<init>", "()V"⟩ : MethodName)) (stk := [(.ref b120)]) rfl (wd12 hw) (wd13 hw) (wd11 hw) (wd14 hw) (by decide) (a := b120) (argsL := []) (conCI l Z a0 hw n0 h120 X120.size b120 E_b120 F120_bytes_b120 F120_next_b120 ge120) (by decide) (W := 1) (Nat.le_of_ble_eq_true rfl) (by decide) (by decide) (by decide) rfl (lenOf pd0 rfl) rfl at_39 (pc' := 42) rfl fun T121 v121 h121 X121 q121 => ?_
      obtain ⟨rfl, Kp121, F121_next_b120⟩ := q121
      have E121k_b116 := E120_b116.keep Kp121
      have E121k_b118 := E120_b118.keep Kp121
      have E121k_b120 := E_b120.keep Kp121
      have F121k_idle_b116 := F120_idle_b116.keep Kp121 (ninS ne_b116_b120 nin0)
      have F121k_idleCount_b116 := F120_idleCount_b116.keep Kp121 (ninS ne_b116_b120 nin0)
      have F121k_next_b118 := F120_next_b118.keep Kp121 (ninS ne_b118_b120 nin0)
      replace X121 := X121.more (cells' := 5) (slots' := 8198) (by decide) (by decide)
      show Jvm.OwnKit.Ends p e below s n0 40 57472 _ T121 (mkF m 42 #[.val (.int u1), .val (.int (3 : Int32)), .val (.int (0 : Int32)), .val (.ref b116), .val (.ref b118), .unset, .unset, .unset, .unset, .unset, .unset, .unset, .unset] [(.ref b120)])
      refine F_astore X121 at_42 rfl (Ls' := #[.val (.int u1), .val (.int (3 : Int32)), .val (.int (0 : Int32)), .val (.ref b116), .val (.ref b118), .val (.ref b120), .unset, .unset, .unset, .unset, .unset, .unset, .unset]) rfl (pc' := 44) rfl ?_
      refine F_new X121 (wd9 hw) (wd10 hw) (wd11 hw) (by decide) (by decide) at_44 (pc' := 47) rfl fun T122 h122 b122 X122 Ex122 g122 ge122 E_b122 D122 => ?_
      have ne_b116_b122 : b116 ≠ b122 := Nat.ne_of_lt (Nat.lt_of_lt_of_le E121k_b116.lt (Nat.le_of_eq g122.symm))
      have ne_b118_b122 : b118 ≠ b122 := Nat.ne_of_lt (Nat.lt_of_lt_of_le E121k_b118.lt (Nat.le_of_eq g122.symm))
      have ne_b120_b122 : b120 ≠ b122 := Nat.ne_of_lt (Nat.lt_of_lt_of_le E121k_b120.lt (Nat.le_of_eq g122.symm))
      have E122_b116 := E121k_b116.ext Ex122
      have E122_b118 := E121k_b118.ext Ex122
      have E122_b120 := E121k_b120.ext Ex122
      have F122_idle_b116 := F121k_idle_b116.ext Ex122
      have F122_idleCount_b116 := F121k_idleCount_b116.ext Ex122
      have F122_next_b118 := F121k_next_b118.ext Ex122
      have F122_next_b120 := F121_next_b120.ext Ex122
      have F122_bytes_b122 : Fld Z h122 b122 "com/example/frame4/frame4/ChunkPool$Chunk" "bytes" "[B" .null := D122 (Or.inr (wd18 hw)) (ty := (.array .byte)) (by decide)
      have F122_next_b122 : Fld Z h122 b122 "com/example/frame4/frame4/ChunkPool$Chunk" "next" "Lcom/example/frame4/frame4/ChunkPool$Chunk;" .null := D122 (Or.inl (wd33 hw)) (ty := (.object "com/example/frame4/frame4/ChunkPool$Chunk")) (by decide)
      replace X122 := X122.more (cells' := 6) (slots' := 8200) (by decide) (by decide)
      refine F_dup X122 at_47 rfl (pc' := 48) rfl ?_
      refine F_init X122 (y := (⟨"com/example/frame4/frame4/ChunkPool$Chunk", "<init>", "()V"⟩ : MethodName)) (stk := [(.ref b122)]) rfl (wd12 hw) (wd13 hw) (wd11 hw) (wd14 hw) (by decide) (a := b122) (argsL := []) (conCI l Z a0 hw n0 h122 X122.size b122 E_b122 F122_bytes_b122 F122_next_b122 ge122) (by decide) (W := 1) (Nat.le_of_ble_eq_true rfl) (by decide) (by decide) (by decide) rfl (lenOf pd0 rfl) rfl at_48 (pc' := 51) rfl fun T123 v123 h123 X123 q123 => ?_
      obtain ⟨rfl, Kp123, F123_next_b122⟩ := q123
      have E123k_b116 := E122_b116.keep Kp123
      have E123k_b118 := E122_b118.keep Kp123
      have E123k_b120 := E122_b120.keep Kp123
      have E123k_b122 := E_b122.keep Kp123
      have F123k_idle_b116 := F122_idle_b116.keep Kp123 (ninS ne_b116_b122 nin0)
      have F123k_idleCount_b116 := F122_idleCount_b116.keep Kp123 (ninS ne_b116_b122 nin0)
      have F123k_next_b118 := F122_next_b118.keep Kp123 (ninS ne_b118_b122 nin0)
      have F123k_next_b120 := F122_next_b120.keep Kp123 (ninS ne_b120_b122 nin0)
      replace X123 := X123.more (cells' := 7) (slots' := 12296) (by decide) (by decide)
      show Jvm.OwnKit.Ends p e below s n0 40 57472 _ T123 (mkF m 51 #[.val (.int u1), .val (.int (3 : Int32)), .val (.int (0 : Int32)), .val (.ref b116), .val (.ref b118), .val (.ref b120), .unset, .unset, .unset, .unset, .unset, .unset, .unset] [(.ref b122)])
      refine F_astore X123 at_51 rfl (Ls' := #[.val (.int u1), .val (.int (3 : Int32)), .val (.int (0 : Int32)), .val (.ref b116), .val (.ref b118), .val (.ref b120), .val (.ref b122), .unset, .unset, .unset, .unset, .unset, .unset]) rfl (pc' := 53) rfl ?_
      refine F_iloadN X123 at_53 rfl (pc' := 54) rfl ?_
      refine F_if_eq X123 at_54 (by decide) (pt := 78) (by decide) (pc' := 57) rfl (fun _ => ?_) (fun q => absurd q (by decide))
      refine F_iloadN X123 at_78 rfl (pc' := 79) rfl ?_
      refine F_iconst X123 at_79 (z := (1 : Int32)) (by decide) (pc' := 80) rfl ?_
      refine F_icmp_lt X123 at_80 (by decide) (pt := 89) (by decide) (pc' := 83) rfl (fun q => absurd q (by decide)) (fun _ => ?_)
      refine F_aloadN X123 at_83 rfl rfl (pc' := 84) rfl ?_
      refine F_aload X123 at_84 rfl rfl (pc' := 86) rfl ?_
      refine F_callV X123 (y := (⟨"com/example/frame4/frame4/ChunkPool", "giveBack", "(Lcom/example/frame4/frame4/ChunkPool$Chunk;)V"⟩ : MethodName)) (stk := []) (wd34 hw) (wd35 hw) (wd37 hw) (wd36 hw) (wd2 hw) (wd38 hw) (by decide) (a := b116) E123k_b116 (argsL := [(.ref b118)]) (conG0 l Z a0 hw n0 h123 X123.size b116 b118 .null E123k_b116 E123k_b118 F123k_idle_b116 F123k_idleCount_b116 F123k_next_b118 ge116 ge118 ne_b116_b118) (by decide) (W := 0) (Nat.le_of_ble_eq_true rfl) (by decide) (by decide) (by decide) rfl (lenOf pd3 rfl) rfl at_86 (pc' := 89) rfl fun T124 v124 h124 X124 q124 => ?_
      obtain ⟨rfl, Kp124, F124_idle_b116, F124_idleCount_b116, F124_next_b118⟩ := q124
      have E124k_b116 := E123k_b116.keep Kp124
      have E124k_b118 := E123k_b118.keep Kp124
      have E124k_b120 := E123k_b120.keep Kp124
      have E124k_b122 := E123k_b122.keep Kp124
      have F124k_next_b120 := F123k_next_b120.keep Kp124 (ninS (Ne.symm ne_b116_b120) (ninS (Ne.symm ne_b118_b120) nin0))
      have F124k_next_b122 := F123_next_b122.keep Kp124 (ninS (Ne.symm ne_b116_b122) (ninS (Ne.symm ne_b118_b122) nin0))
      replace X124 := X124.more (cells' := 7) (slots' := 12296) (by decide) (by decide)
      show Jvm.OwnKit.Ends p e below s n0 40 57472 _ T124 (mkF m 89 #[.val (.int u1), .val (.int (3 : Int32)), .val (.int (0 : Int32)), .val (.ref b116), .val (.ref b118), .val (.ref b120), .val (.ref b122), .unset, .unset, .unset, .unset, .unset, .unset] [])
      refine F_iloadN X124 at_89 rfl (pc' := 90) rfl ?_
      refine F_iconst X124 at_90 (z := (2 : Int32)) (by decide) (pc' := 91) rfl ?_
      refine F_icmp_lt X124 at_91 (by decide) (pt := 100) (by decide) (pc' := 94) rfl (fun q => absurd q (by decide)) (fun _ => ?_)
      refine F_aloadN X124 at_94 rfl rfl (pc' := 95) rfl ?_
      refine F_aload X124 at_95 rfl rfl (pc' := 97) rfl ?_
      refine F_callV X124 (y := (⟨"com/example/frame4/frame4/ChunkPool", "giveBack", "(Lcom/example/frame4/frame4/ChunkPool$Chunk;)V"⟩ : MethodName)) (stk := []) (wd34 hw) (wd35 hw) (wd37 hw) (wd36 hw) (wd2 hw) (wd38 hw) (by decide) (a := b116) E124k_b116 (argsL := [(.ref b120)]) (conG1 l Z a0 hw n0 h124 X124.size b116 b120 b118 .null E124k_b116 E124k_b120 F124_idle_b116 F124_idleCount_b116 F124k_next_b120 ge116 ge120 ne_b116_b120) (by decide) (W := 0) (Nat.le_of_ble_eq_true rfl) (by decide) (by decide) (by decide) rfl (lenOf pd3 rfl) rfl at_97 (pc' := 100) rfl fun T125 v125 h125 X125 q125 => ?_
      obtain ⟨rfl, Kp125, F125_idle_b116, F125_idleCount_b116, F125_next_b120⟩ := q125
      have E125k_b116 := E124k_b116.keep Kp125
      have E125k_b118 := E124k_b118.keep Kp125
      have E125k_b120 := E124k_b120.keep Kp125
      have E125k_b122 := E124k_b122.keep Kp125
      have F125k_next_b118 := F124_next_b118.keep Kp125 (ninS (Ne.symm ne_b116_b118) (ninS ne_b118_b120 nin0))
      have F125k_next_b122 := F124k_next_b122.keep Kp125 (ninS (Ne.symm ne_b116_b122) (ninS (Ne.symm ne_b120_b122) nin0))
      replace X125 := X125.more (cells' := 7) (slots' := 12296) (by decide) (by decide)
      show Jvm.OwnKit.Ends p e below s n0 40 57472 _ T125 (mkF m 100 #[.val (.int u1), .val (.int (3 : Int32)), .val (.int (0 : Int32)), .val (.ref b116), .val (.ref b118), .val (.ref b120), .val (.ref b122), .unset, .unset, .unset, .unset, .unset, .unset] [])
      refine F_iloadN X125 at_100 rfl (pc' := 101) rfl ?_
      refine F_iconst X125 at_101 (z := (3 : Int32)) (by decide) (pc' := 102) rfl ?_
      refine F_icmp_lt X125 at_102 (by decide) (pt := 111) (by decide) (pc' := 105) rfl (fun q => absurd q (by decide)) (fun _ => ?_)
      refine F_aloadN X125 at_105 rfl rfl (pc' := 106) rfl ?_
      refine F_aload X125 at_106 rfl rfl (pc' := 108) rfl ?_
      refine F_callV X125 (y := (⟨"com/example/frame4/frame4/ChunkPool", "giveBack", "(Lcom/example/frame4/frame4/ChunkPool$Chunk;)V"⟩ : MethodName)) (stk := []) (wd34 hw) (wd35 hw) (wd37 hw) (wd36 hw) (wd2 hw) (wd38 hw) (by decide) (a := b116) E125k_b116 (argsL := [(.ref b122)]) (conG2 l Z a0 hw n0 h125 X125.size b116 b122 b120 .null E125k_b116 E125k_b122 F125_idle_b116 F125_idleCount_b116 F125k_next_b122 ge116 ge122 ne_b116_b122) (by decide) (W := 0) (Nat.le_of_ble_eq_true rfl) (by decide) (by decide) (by decide) rfl (lenOf pd3 rfl) rfl at_108 (pc' := 111) rfl fun T126 v126 h126 X126 q126 => ?_
      obtain ⟨rfl, Kp126, F126_idle_b116, F126_idleCount_b116, F126_next_b122⟩ := q126
      have E126k_b116 := E125k_b116.keep Kp126
      have E126k_b118 := E125k_b118.keep Kp126
      have E126k_b120 := E125k_b120.keep Kp126
      have E126k_b122 := E125k_b122.keep Kp126
      have F126k_next_b118 := F125k_next_b118.keep Kp126 (ninS (Ne.symm ne_b116_b118) (ninS ne_b118_b122 nin0))
      have F126k_next_b120 := F125_next_b120.keep Kp126 (ninS (Ne.symm ne_b116_b120) (ninS ne_b120_b122 nin0))
      replace X126 := X126.more (cells' := 7) (slots' := 12296) (by decide) (by decide)
      show Jvm.OwnKit.Ends p e below s n0 40 57472 _ T126 (mkF m 111 #[.val (.int u1), .val (.int (3 : Int32)), .val (.int (0 : Int32)), .val (.ref b116), .val (.ref b118), .val (.ref b120), .val (.ref b122), .unset, .unset, .unset, .unset, .unset, .unset] [])
      refine F_aloadN X126 at_111 rfl rfl (pc' := 112) rfl ?_
      refine F_callV X126 (y := (⟨"com/example/frame4/frame4/ChunkPool", "take", "()Lcom/example/frame4/frame4/ChunkPool$Chunk;"⟩ : MethodName)) (stk := []) (wd19 hw) (wd20 hw) (wd22 hw) (wd21 hw) (wd2 hw) (wd23 hw) (by decide) (a := b116) E126k_b116 (argsL := []) (conT3 l Z a0 hw n0 h126 X126.size b116 b122 b120 E126k_b116 E126k_b122 F126_idle_b116 F126_idleCount_b116 F126_next_b122 ge116 ge122 ne_b116_b122) (by decide) (W := 0) (Nat.le_of_ble_eq_true rfl) (by decide) (by decide) (by decide) rfl (lenOf pd1 rfl) rfl at_112 (pc' := 115) rfl fun T127 v127 h127 X127 q127 => ?_
      obtain ⟨rfl, Kp127, F127_idle_b116, F127_idleCount_b116, F127_next_b122⟩ := q127
      have E127k_b116 := E126k_b116.keep Kp127
      have E127k_b118 := E126k_b118.keep Kp127
      have E127k_b120 := E126k_b120.keep Kp127
      have E127k_b122 := E126k_b122.keep Kp127
      have F127k_next_b118 := F126k_next_b118.keep Kp127 (ninS (Ne.symm ne_b116_b118) (ninS ne_b118_b122 nin0))
      have F127k_next_b120 := F126k_next_b120.keep Kp127 (ninS (Ne.symm ne_b116_b120) (ninS ne_b120_b122 nin0))
      replace X127 := X127.more (cells' := 7) (slots' := 12296) (by decide) (by decide)
      show Jvm.OwnKit.Ends p e below s n0 40 57472 _ T127 (mkF m 115 #[.val (.int u1), .val (.int (3 : Int32)), .val (.int (0 : Int32)), .val (.ref b116), .val (.ref b118), .val (.ref b120), .val (.ref b122), .unset, .unset, .unset, .unset, .unset, .unset] [(.ref b122)])
      refine F_astore X127 at_115 rfl (Ls' := #[.val (.int u1), .val (.int (3 : Int32)), .val (.int (0 : Int32)), .val (.ref b116), .val (.ref b118), .val (.ref b120), .val (.ref b122), .val (.ref b122), .unset, .unset, .unset, .unset, .unset]) rfl (pc' := 117) rfl ?_
      refine F_aloadN X127 at_117 rfl rfl (pc' := 118) rfl ?_
      refine F_callV X127 (y := (⟨"com/example/frame4/frame4/ChunkPool", "take", "()Lcom/example/frame4/frame4/ChunkPool$Chunk;"⟩ : MethodName)) (stk := []) (wd19 hw) (wd20 hw) (wd22 hw) (wd21 hw) (wd2 hw) (wd23 hw) (by decide) (a := b116) E127k_b116 (argsL := []) (conT2 l Z a0 hw n0 h127 X127.size b116 b120 b118 E127k_b116 E127k_b120 F127_idle_b116 F127_idleCount_b116 F127k_next_b120 ge116 ge120 ne_b116_b120) (by decide) (W := 0) (Nat.le_of_ble_eq_true rfl) (by decide) (by decide) (by decide) rfl (lenOf pd1 rfl) rfl at_118 (pc' := 121) rfl fun T128 v128 h128 X128 q128 => ?_
      obtain ⟨rfl, Kp128, F128_idle_b116, F128_idleCount_b116, F128_next_b120⟩ := q128
      have E128k_b116 := E127k_b116.keep Kp128
      have E128k_b118 := E127k_b118.keep Kp128
      have E128k_b120 := E127k_b120.keep Kp128
      have E128k_b122 := E127k_b122.keep Kp128
      have F128k_next_b118 := F127k_next_b118.keep Kp128 (ninS (Ne.symm ne_b116_b118) (ninS ne_b118_b120 nin0))
      have F128k_next_b122 := F127_next_b122.keep Kp128 (ninS (Ne.symm ne_b116_b122) (ninS (Ne.symm ne_b120_b122) nin0))
      replace X128 := X128.more (cells' := 7) (slots' := 12296) (by decide) (by decide)
      show Jvm.OwnKit.Ends p e below s n0 40 57472 _ T128 (mkF m 121 #[.val (.int u1), .val (.int (3 : Int32)), .val (.int (0 : Int32)), .val (.ref b116), .val (.ref b118), .val (.ref b120), .val (.ref b122), .val (.ref b122), .unset, .unset, .unset, .unset, .unset] [(.ref b120)])
      refine F_astore X128 at_121 rfl (Ls' := #[.val (.int u1), .val (.int (3 : Int32)), .val (.int (0 : Int32)), .val (.ref b116), .val (.ref b118), .val (.ref b120), .val (.ref b122), .val (.ref b122), .val (.ref b120), .unset, .unset, .unset, .unset]) rfl (pc' := 123) rfl ?_
      refine F_aloadN X128 at_123 rfl rfl (pc' := 124) rfl ?_
      refine F_callV X128 (y := (⟨"com/example/frame4/frame4/ChunkPool", "take", "()Lcom/example/frame4/frame4/ChunkPool$Chunk;"⟩ : MethodName)) (stk := []) (wd19 hw) (wd20 hw) (wd22 hw) (wd21 hw) (wd2 hw) (wd23 hw) (by decide) (a := b116) E128k_b116 (argsL := []) (conT1 l Z a0 hw n0 h128 X128.size b116 b118 E128k_b116 E128k_b118 F128_idle_b116 F128_idleCount_b116 F128k_next_b118 ge116 ge118 ne_b116_b118) (by decide) (W := 0) (Nat.le_of_ble_eq_true rfl) (by decide) (by decide) (by decide) rfl (lenOf pd1 rfl) rfl at_124 (pc' := 127) rfl fun T129 v129 h129 X129 q129 => ?_
      obtain ⟨rfl, Kp129, F129_idle_b116, F129_idleCount_b116, F129_next_b118⟩ := q129
      have E129k_b116 := E128k_b116.keep Kp129
      have E129k_b118 := E128k_b118.keep Kp129
      have E129k_b120 := E128k_b120.keep Kp129
      have E129k_b122 := E128k_b122.keep Kp129
      have F129k_next_b120 := F128_next_b120.keep Kp129 (ninS (Ne.symm ne_b116_b120) (ninS (Ne.symm ne_b118_b120) nin0))
      have F129k_next_b122 := F128k_next_b122.keep Kp129 (ninS (Ne.symm ne_b116_b122) (ninS (Ne.symm ne_b118_b122) nin0))
      replace X129 := X129.more (cells' := 7) (slots' := 12296) (by decide) (by decide)
      show Jvm.OwnKit.Ends p e below s n0 40 57472 _ T129 (mkF m 127 #[.val (.int u1), .val (.int (3 : Int32)), .val (.int (0 : Int32)), .val (.ref b116), .val (.ref b118), .val (.ref b120), .val (.ref b122), .val (.ref b122), .val (.ref b120), .unset, .unset, .unset, .unset] [(.ref b118)])
      refine F_astore X129 at_127 rfl (Ls' := #[.val (.int u1), .val (.int (3 : Int32)), .val (.int (0 : Int32)), .val (.ref b116), .val (.ref b118), .val (.ref b120), .val (.ref b122), .val (.ref b122), .val (.ref b120), .val (.ref b118), .unset, .unset, .unset]) rfl (pc' := 129) rfl ?_
      refine F_aloadN X129 at_129 rfl rfl (pc' := 130) rfl ?_
      refine F_callV X129 (y := (⟨"com/example/frame4/frame4/ChunkPool", "take", "()Lcom/example/frame4/frame4/ChunkPool$Chunk;"⟩ : MethodName)) (stk := []) (wd19 hw) (wd20 hw) (wd22 hw) (wd21 hw) (wd2 hw) (wd23 hw) (by decide) (a := b116) E129k_b116 (argsL := []) (conT0 l Z a0 hw n0 h129 X129.size b116 F129_idle_b116) (by decide) (W := 0) (Nat.le_of_ble_eq_true rfl) (by decide) (by decide) (by decide) rfl (lenOf pd1 rfl) rfl at_130 (pc' := 133) rfl fun T130 v130 h130 X130 q130 => ?_
      obtain ⟨b130_fb, rfl, sz130_fb, Kp130, E130_b130_fb, F130_next_b130_fb⟩ := q130
      have ge_b130_fb : n0 ≤ b130_fb := Nat.le_trans X129.size sz130_fb
      have ne_b116_b130_fb : b116 ≠ b130_fb := Nat.ne_of_lt (Nat.lt_of_lt_of_le E129k_b116.lt sz130_fb)
      have ne_b118_b130_fb : b118 ≠ b130_fb := Nat.ne_of_lt (Nat.lt_of_lt_of_le E129k_b118.lt sz130_fb)
      have ne_b120_b130_fb : b120 ≠ b130_fb := Nat.ne_of_lt (Nat.lt_of_lt_of_le E129k_b120.lt sz130_fb)
      have ne_b122_b130_fb : b122 ≠ b130_fb := Nat.ne_of_lt (Nat.lt_of_lt_of_le E129k_b122.lt sz130_fb)
      have E130k_b116 := E129k_b116.keep Kp130
      have E130k_b118 := E129k_b118.keep Kp130
      have E130k_b120 := E129k_b120.keep Kp130
      have E130k_b122 := E129k_b122.keep Kp130
      have F130k_idle_b116 := F129_idle_b116.keep Kp130 nin0
      have F130k_idleCount_b116 := F129_idleCount_b116.keep Kp130 nin0
      have F130k_next_b118 := F129_next_b118.keep Kp130 nin0
      have F130k_next_b120 := F129k_next_b120.keep Kp130 nin0
      have F130k_next_b122 := F129k_next_b122.keep Kp130 nin0
      replace X130 := X130.more (cells' := 9) (slots' := 16394) (by decide) (by decide)
      show Jvm.OwnKit.Ends p e below s n0 40 57472 _ T130 (mkF m 133 #[.val (.int u1), .val (.int (3 : Int32)), .val (.int (0 : Int32)), .val (.ref b116), .val (.ref b118), .val (.ref b120), .val (.ref b122), .val (.ref b122), .val (.ref b120), .val (.ref b118), .unset, .unset, .unset] [(.ref b130_fb)])
      refine F_astore X130 at_133 rfl (Ls' := #[.val (.int u1), .val (.int (3 : Int32)), .val (.int (0 : Int32)), .val (.ref b116), .val (.ref b118), .val (.ref b120), .val (.ref b122), .val (.ref b122), .val (.ref b120), .val (.ref b118), .val (.ref b130_fb), .unset, .unset]) rfl (pc' := 135) rfl ?_
      refine F_aload X130 at_135 rfl rfl (pc' := 137) rfl ?_
      refine F_iconst X130 at_137 (z := (0 : Int32)) (by decide) (pc' := 138) rfl ?_
      refine F_iloadN X130 at_138 rfl (pc' := 139) rfl ?_
      refine F_aload X130 at_139 rfl rfl (pc' := 141) rfl ?_
      refine F_aload X130 at_141 rfl rfl (pc' := 143) rfl ?_
      refine F_aload X130 at_143 rfl rfl (pc' := 145) rfl ?_
      refine F_callS X130 (y := (⟨"com/example/frame4/frame4/ChunkPoolGiveBackPinLaw", "expect", "(Lcom/example/frame4/frame4/ChunkPool$Chunk;IILcom/example/frame4/frame4/ChunkPool$Chunk;Lcom/example/frame4/frame4/ChunkPool$Chunk;Lcom/example/frame4/frame4/ChunkPool$Chunk;)Z"⟩ : MethodName)) (stk := []) (wd28 hw) (wd29 hw) (wd30 hw) (wd31 hw) (by decide) (argsL := [(.ref b122), (.int (0 : Int32)), (.int (3 : Int32)), (.ref b118), (.ref b120), (.ref b122)]) (conE3_0 l Z a0 hw n0 h130 X130.size b122 b118 b120 F130k_next_b122) (by decide) (W := 0) (Nat.le_of_ble_eq_true rfl) (by decide) (by decide) (by decide) rfl (lenOf pd2 rfl) rfl at_145 (pc' := 148) rfl fun T131 v131 h131 X131 q131 => ?_
      obtain ⟨rfl, rfl⟩ := q131
      replace X131 := X131.more (cells' := 9) (slots' := 16394) (by decide) (by decide)
      show Jvm.OwnKit.Ends p e below s n0 40 57472 _ T131 (mkF m 148 #[.val (.int u1), .val (.int (3 : Int32)), .val (.int (0 : Int32)), .val (.ref b116), .val (.ref b118), .val (.ref b120), .val (.ref b122), .val (.ref b122), .val (.ref b120), .val (.ref b118), .val (.ref b130_fb), .unset, .unset] [(.int (1 : Int32))])
      refine F_if_eq X131 at_148 (by decide) (pt := 203) (by decide) (pc' := 151) rfl (fun q => absurd q (by decide)) (fun _ => ?_)
      refine F_aload X131 at_151 rfl rfl (pc' := 153) rfl ?_
      refine F_iconst X131 at_153 (z := (1 : Int32)) (by decide) (pc' := 154) rfl ?_
      refine F_iloadN X131 at_154 rfl (pc' := 155) rfl ?_
      refine F_aload X131 at_155 rfl rfl (pc' := 157) rfl ?_
      refine F_aload X131 at_157 rfl rfl (pc' := 159) rfl ?_
      refine F_aload X131 at_159 rfl rfl (pc' := 161) rfl ?_
      refine F_callS X131 (y := (⟨"com/example/frame4/frame4/ChunkPoolGiveBackPinLaw", "expect", "(Lcom/example/frame4/frame4/ChunkPool$Chunk;IILcom/example/frame4/frame4/ChunkPool$Chunk;Lcom/example/frame4/frame4/ChunkPool$Chunk;Lcom/example/frame4/frame4/ChunkPool$Chunk;)Z"⟩ : MethodName)) (stk := []) (wd28 hw) (wd29 hw) (wd30 hw) (wd31 hw) (by decide) (argsL := [(.ref b120), (.int (1 : Int32)), (.int (3 : Int32)), (.ref b118), (.ref b120), (.ref b122)]) (conE3_1 l Z a0 hw n0 h130 X131.size b120 b118 b122 F130k_next_b120) (by decide) (W := 0) (Nat.le_of_ble_eq_true rfl) (by decide) (by decide) (by decide) rfl (lenOf pd2 rfl) rfl at_161 (pc' := 164) rfl fun T132 v132 h132 X132 q132 => ?_
      obtain ⟨rfl, rfl⟩ := q132
      replace X132 := X132.more (cells' := 9) (slots' := 16394) (by decide) (by decide)
      show Jvm.OwnKit.Ends p e below s n0 40 57472 _ T132 (mkF m 164 #[.val (.int u1), .val (.int (3 : Int32)), .val (.int (0 : Int32)), .val (.ref b116), .val (.ref b118), .val (.ref b120), .val (.ref b122), .val (.ref b122), .val (.ref b120), .val (.ref b118), .val (.ref b130_fb), .unset, .unset] [(.int (1 : Int32))])
      refine F_if_eq X132 at_164 (by decide) (pt := 203) (by decide) (pc' := 167) rfl (fun q => absurd q (by decide)) (fun _ => ?_)
      refine F_aload X132 at_167 rfl rfl (pc' := 169) rfl ?_
      refine F_iconst X132 at_169 (z := (2 : Int32)) (by decide) (pc' := 170) rfl ?_
      refine F_iloadN X132 at_170 rfl (pc' := 171) rfl ?_
      refine F_aload X132 at_171 rfl rfl (pc' := 173) rfl ?_
      refine F_aload X132 at_173 rfl rfl (pc' := 175) rfl ?_
      refine F_aload X132 at_175 rfl rfl (pc' := 177) rfl ?_
      refine F_callS X132 (y := (⟨"com/example/frame4/frame4/ChunkPoolGiveBackPinLaw", "expect", "(Lcom/example/frame4/frame4/ChunkPool$Chunk;IILcom/example/frame4/frame4/ChunkPool$Chunk;Lcom/example/frame4/frame4/ChunkPool$Chunk;Lcom/example/frame4/frame4/ChunkPool$Chunk;)Z"⟩ : MethodName)) (stk := []) (wd28 hw) (wd29 hw) (wd30 hw) (wd31 hw) (by decide) (argsL := [(.ref b118), (.int (2 : Int32)), (.int (3 : Int32)), (.ref b118), (.ref b120), (.ref b122)]) (conE3_2 l Z a0 hw n0 h130 X132.size b118 b120 b122 F130k_next_b118) (by decide) (W := 0) (Nat.le_of_ble_eq_true rfl) (by decide) (by decide) (by decide) rfl (lenOf pd2 rfl) rfl at_177 (pc' := 180) rfl fun T133 v133 h133 X133 q133 => ?_
      obtain ⟨rfl, rfl⟩ := q133
      replace X133 := X133.more (cells' := 9) (slots' := 16394) (by decide) (by decide)
      show Jvm.OwnKit.Ends p e below s n0 40 57472 _ T133 (mkF m 180 #[.val (.int u1), .val (.int (3 : Int32)), .val (.int (0 : Int32)), .val (.ref b116), .val (.ref b118), .val (.ref b120), .val (.ref b122), .val (.ref b122), .val (.ref b120), .val (.ref b118), .val (.ref b130_fb), .unset, .unset] [(.int (1 : Int32))])
      refine F_if_eq X133 at_180 (by decide) (pt := 203) (by decide) (pc' := 183) rfl (fun q => absurd q (by decide)) (fun _ => ?_)
      refine F_aload X133 at_183 rfl rfl (pc' := 185) rfl ?_
      refine F_iconst X133 at_185 (z := (3 : Int32)) (by decide) (pc' := 186) rfl ?_
      refine F_iloadN X133 at_186 rfl (pc' := 187) rfl ?_
      refine F_aload X133 at_187 rfl rfl (pc' := 189) rfl ?_
      refine F_aload X133 at_189 rfl rfl (pc' := 191) rfl ?_
      refine F_aload X133 at_191 rfl rfl (pc' := 193) rfl ?_
      refine F_callS X133 (y := (⟨"com/example/frame4/frame4/ChunkPoolGiveBackPinLaw", "expect", "(Lcom/example/frame4/frame4/ChunkPool$Chunk;IILcom/example/frame4/frame4/ChunkPool$Chunk;Lcom/example/frame4/frame4/ChunkPool$Chunk;Lcom/example/frame4/frame4/ChunkPool$Chunk;)Z"⟩ : MethodName)) (stk := []) (wd28 hw) (wd29 hw) (wd30 hw) (wd31 hw) (by decide) (argsL := [(.ref b130_fb), (.int (3 : Int32)), (.int (3 : Int32)), (.ref b118), (.ref b120), (.ref b122)]) (conE3_3 l Z a0 hw n0 h130 X133.size b130_fb b118 b120 b122 F130_next_b130_fb (Ne.symm ne_b118_b130_fb) (Ne.symm ne_b120_b130_fb) (Ne.symm ne_b122_b130_fb)) (by decide) (W := 0) (Nat.le_of_ble_eq_true rfl) (by decide) (by decide) (by decide) rfl (lenOf pd2 rfl) rfl at_193 (pc' := 196) rfl fun T134 v134 h134 X134 q134 => ?_
      obtain ⟨rfl, rfl⟩ := q134
      replace X134 := X134.more (cells' := 9) (slots' := 16394) (by decide) (by decide)
      show Jvm.OwnKit.Ends p e below s n0 40 57472 _ T134 (mkF m 196 #[.val (.int u1), .val (.int (3 : Int32)), .val (.int (0 : Int32)), .val (.ref b116), .val (.ref b118), .val (.ref b120), .val (.ref b122), .val (.ref b122), .val (.ref b120), .val (.ref b118), .val (.ref b130_fb), .unset, .unset] [(.int (1 : Int32))])
      refine F_if_eq X134 at_196 (by decide) (pt := 203) (by decide) (pc' := 199) rfl (fun q => absurd q (by decide)) (fun _ => ?_)
      refine F_iconst X134 at_199 (z := (1 : Int32)) (by decide) (pc' := 200) rfl ?_
      refine F_goto X134 at_200 (by decide) (pc' := 204) (by decide) ?_
      refine F_istore X134 at_204 (Ls' := #[.val (.int u1), .val (.int (3 : Int32)), .val (.int (0 : Int32)), .val (.ref b116), .val (.ref b118), .val (.ref b120), .val (.ref b122), .val (.ref b122), .val (.ref b120), .val (.ref b118), .val (.ref b130_fb), .val (.int (1 : Int32)), .unset]) rfl (pc' := 206) rfl ?_
      refine F_aload X134 at_206 rfl rfl (pc' := 208) rfl ?_
      refine F_aload X134 at_208 rfl rfl (pc' := 210) rfl ?_
      refine F_acmp X134 (same := false) at_210 rfl rfl (decide_eq_false fun q => (Ne.symm ne_b120_b122) (Value.ref.inj q)) (by decide) (pc' := 213) (by decide) ?_
      refine F_aload X134 at_213 rfl rfl (pc' := 215) rfl ?_
      refine F_aload X134 at_215 rfl rfl (pc' := 217) rfl ?_
      refine F_acmp X134 (same := false) at_217 rfl rfl (decide_eq_false fun q => (Ne.symm ne_b118_b122) (Value.ref.inj q)) (by decide) (pc' := 220) (by decide) ?_
      refine F_aload X134 at_220 rfl rfl (pc' := 222) rfl ?_
      refine F_aload X134 at_222 rfl rfl (pc' := 224) rfl ?_
      refine F_acmp X134 (same := false) at_224 rfl rfl (decide_eq_false fun q => ne_b122_b130_fb (Value.ref.inj q)) (by decide) (pc' := 227) (by decide) ?_
      refine F_aload X134 at_227 rfl rfl (pc' := 229) rfl ?_
      refine F_aload X134 at_229 rfl rfl (pc' := 231) rfl ?_
      refine F_acmp X134 (same := false) at_231 rfl rfl (decide_eq_false fun q => (Ne.symm ne_b118_b120) (Value.ref.inj q)) (by decide) (pc' := 234) (by decide) ?_
      refine F_aload X134 at_234 rfl rfl (pc' := 236) rfl ?_
      refine F_aload X134 at_236 rfl rfl (pc' := 238) rfl ?_
      refine F_acmp X134 (same := false) at_238 rfl rfl (decide_eq_false fun q => ne_b120_b130_fb (Value.ref.inj q)) (by decide) (pc' := 241) (by decide) ?_
      refine F_aload X134 at_241 rfl rfl (pc' := 243) rfl ?_
      refine F_aload X134 at_243 rfl rfl (pc' := 245) rfl ?_
      refine F_acmp X134 (same := false) at_245 rfl rfl (decide_eq_false fun q => ne_b118_b130_fb (Value.ref.inj q)) (by decide) (pc' := 248) (by decide) ?_
      refine F_iconst X134 at_248 (z := (1 : Int32)) (by decide) (pc' := 249) rfl ?_
      refine F_goto X134 at_249 (by decide) (pc' := 253) (by decide) ?_
      refine F_istore X134 at_253 (Ls' := #[.val (.int u1), .val (.int (3 : Int32)), .val (.int (0 : Int32)), .val (.ref b116), .val (.ref b118), .val (.ref b120), .val (.ref b122), .val (.ref b122), .val (.ref b120), .val (.ref b118), .val (.ref b130_fb), .val (.int (1 : Int32)), .val (.int (1 : Int32))]) rfl (pc' := 255) rfl ?_
      refine F_iload X134 at_255 rfl (pc' := 257) rfl ?_
      refine F_if_eq X134 at_257 (by decide) (pt := 269) (by decide) (pc' := 260) rfl (fun q => absurd q (by decide)) (fun _ => ?_)
      refine F_iload X134 at_260 rfl (pc' := 262) rfl ?_
      refine F_if_eq X134 at_262 (by decide) (pt := 269) (by decide) (pc' := 265) rfl (fun q => absurd q (by decide)) (fun _ => ?_)
      refine F_iconst X134 at_265 (z := (1 : Int32)) (by decide) (pc' := 266) rfl ?_
      refine F_goto X134 at_266 (by decide) (pc' := 270) (by decide) ?_
      refine F_ireturn_boolean (z' := (1 : Int32)) X134 (by decide) at_270 rfl (by decide) (by decide) ?_
      exact rfl
    · refine F_iconst X0 at_12 (z := (1 : Int32)) (by decide) (pc' := 13) rfl ?_
      refine F_goto X0 at_13 (by decide) (pc' := 17) (by decide) ?_
      refine F_istoreN X0 at_17 (Ls' := #[.val (.int u1), .val (.int (3 : Int32)), .val (.int (1 : Int32)), .unset, .unset, .unset, .unset, .unset, .unset, .unset, .unset, .unset, .unset]) rfl (pc' := 18) rfl ?_
      refine F_new X0 (wd0 hw) (wd1 hw) (wd2 hw) (by decide) (by decide) at_18 (pc' := 21) rfl fun T135 h135 b135 X135 Ex135 g135 ge135 E_b135 D135 => ?_
      have F135_idle_b135 : Fld Z h135 b135 "com/example/frame4/frame4/ChunkPool" "idle" "Lcom/example/frame4/frame4/ChunkPool$Chunk;" .null := D135 (Or.inl (wd25 hw)) (ty := (.object "com/example/frame4/frame4/ChunkPool$Chunk")) (by decide)
      have F135_idleCount_b135 : Fld Z h135 b135 "com/example/frame4/frame4/ChunkPool" "idleCount" "I" (.int (0 : Int32)) := D135 (Or.inl (wd40 hw)) (ty := .int) (by decide)
      replace X135 := X135.more (cells' := 1) (slots' := 2) (by decide) (by decide)
      refine F_dup X135 at_21 rfl (pc' := 22) rfl ?_
      refine F_init X135 (y := (⟨"com/example/frame4/frame4/ChunkPool", "<init>", "()V"⟩ : MethodName)) (stk := [(.ref b135)]) rfl (wd3 hw) (wd4 hw) (wd2 hw) (wd5 hw) (by decide) (a := b135) (argsL := []) (conPI l Z a0 hw n0 h135 X135.size b135) (by decide) (W := 1) (Nat.le_of_ble_eq_true rfl) (by decide) (by decide) (by decide) rfl (lenOf pd0 rfl) rfl at_22 (pc' := 25) rfl fun T136 v136 h136 X136 q136 => ?_
      obtain ⟨rfl, rfl⟩ := q136
      replace X136 := X136.more (cells' := 1) (slots' := 2) (by decide) (by decide)
      show Jvm.OwnKit.Ends p e below s n0 40 57472 _ T136 (mkF m 25 #[.val (.int u1), .val (.int (3 : Int32)), .val (.int (1 : Int32)), .unset, .unset, .unset, .unset, .unset, .unset, .unset, .unset, .unset, .unset] [(.ref b135)])
      refine F_astoreN X136 at_25 rfl (Ls' := #[.val (.int u1), .val (.int (3 : Int32)), .val (.int (1 : Int32)), .val (.ref b135), .unset, .unset, .unset, .unset, .unset, .unset, .unset, .unset, .unset]) rfl (pc' := 26) rfl ?_
      refine F_new X136 (wd9 hw) (wd10 hw) (wd11 hw) (by decide) (by decide) at_26 (pc' := 29) rfl fun T137 h137 b137 X137 Ex137 g137 ge137 E_b137 D137 => ?_
      have ne_b135_b137 : b135 ≠ b137 := Nat.ne_of_lt (Nat.lt_of_lt_of_le E_b135.lt (Nat.le_of_eq g137.symm))
      have E137_b135 := E_b135.ext Ex137
      have F137_idle_b135 := F135_idle_b135.ext Ex137
      have F137_idleCount_b135 := F135_idleCount_b135.ext Ex137
      have F137_bytes_b137 : Fld Z h137 b137 "com/example/frame4/frame4/ChunkPool$Chunk" "bytes" "[B" .null := D137 (Or.inr (wd18 hw)) (ty := (.array .byte)) (by decide)
      have F137_next_b137 : Fld Z h137 b137 "com/example/frame4/frame4/ChunkPool$Chunk" "next" "Lcom/example/frame4/frame4/ChunkPool$Chunk;" .null := D137 (Or.inl (wd33 hw)) (ty := (.object "com/example/frame4/frame4/ChunkPool$Chunk")) (by decide)
      replace X137 := X137.more (cells' := 2) (slots' := 4) (by decide) (by decide)
      refine F_dup X137 at_29 rfl (pc' := 30) rfl ?_
      refine F_init X137 (y := (⟨"com/example/frame4/frame4/ChunkPool$Chunk", "<init>", "()V"⟩ : MethodName)) (stk := [(.ref b137)]) rfl (wd12 hw) (wd13 hw) (wd11 hw) (wd14 hw) (by decide) (a := b137) (argsL := []) (conCI l Z a0 hw n0 h137 X137.size b137 E_b137 F137_bytes_b137 F137_next_b137 ge137) (by decide) (W := 1) (Nat.le_of_ble_eq_true rfl) (by decide) (by decide) (by decide) rfl (lenOf pd0 rfl) rfl at_30 (pc' := 33) rfl fun T138 v138 h138 X138 q138 => ?_
      obtain ⟨rfl, Kp138, F138_next_b137⟩ := q138
      have E138k_b135 := E137_b135.keep Kp138
      have E138k_b137 := E_b137.keep Kp138
      have F138k_idle_b135 := F137_idle_b135.keep Kp138 (ninS ne_b135_b137 nin0)
      have F138k_idleCount_b135 := F137_idleCount_b135.keep Kp138 (ninS ne_b135_b137 nin0)
      replace X138 := X138.more (cells' := 3) (slots' := 4100) (by decide) (by decide)
      show Jvm.OwnKit.Ends p e below s n0 40 57472 _ T138 (mkF m 33 #[.val (.int u1), .val (.int (3 : Int32)), .val (.int (1 : Int32)), .val (.ref b135), .unset, .unset, .unset, .unset, .unset, .unset, .unset, .unset, .unset] [(.ref b137)])
      refine F_astore X138 at_33 rfl (Ls' := #[.val (.int u1), .val (.int (3 : Int32)), .val (.int (1 : Int32)), .val (.ref b135), .val (.ref b137), .unset, .unset, .unset, .unset, .unset, .unset, .unset, .unset]) rfl (pc' := 35) rfl ?_
      refine F_new X138 (wd9 hw) (wd10 hw) (wd11 hw) (by decide) (by decide) at_35 (pc' := 38) rfl fun T139 h139 b139 X139 Ex139 g139 ge139 E_b139 D139 => ?_
      have ne_b135_b139 : b135 ≠ b139 := Nat.ne_of_lt (Nat.lt_of_lt_of_le E138k_b135.lt (Nat.le_of_eq g139.symm))
      have ne_b137_b139 : b137 ≠ b139 := Nat.ne_of_lt (Nat.lt_of_lt_of_le E138k_b137.lt (Nat.le_of_eq g139.symm))
      have E139_b135 := E138k_b135.ext Ex139
      have E139_b137 := E138k_b137.ext Ex139
      have F139_idle_b135 := F138k_idle_b135.ext Ex139
      have F139_idleCount_b135 := F138k_idleCount_b135.ext Ex139
      have F139_next_b137 := F138_next_b137.ext Ex139
      have F139_bytes_b139 : Fld Z h139 b139 "com/example/frame4/frame4/ChunkPool$Chunk" "bytes" "[B" .null := D139 (Or.inr (wd18 hw)) (ty := (.array .byte)) (by decide)
      have F139_next_b139 : Fld Z h139 b139 "com/example/frame4/frame4/ChunkPool$Chunk" "next" "Lcom/example/frame4/frame4/ChunkPool$Chunk;" .null := D139 (Or.inl (wd33 hw)) (ty := (.object "com/example/frame4/frame4/ChunkPool$Chunk")) (by decide)
      replace X139 := X139.more (cells' := 4) (slots' := 4102) (by decide) (by decide)
      refine F_dup X139 at_38 rfl (pc' := 39) rfl ?_
      refine F_init X139 (y := (⟨"com/example/frame4/frame4/ChunkPool$Chunk", "<init>", "()V"⟩ : MethodName)) (stk := [(.ref b139)]) rfl (wd12 hw) (wd13 hw) (wd11 hw) (wd14 hw) (by decide) (a := b139) (argsL := []) (conCI l Z a0 hw n0 h139 X139.size b139 E_b139 F139_bytes_b139 F139_next_b139 ge139) (by decide) (W := 1) (Nat.le_of_ble_eq_true rfl) (by decide) (by decide) (by decide) rfl (lenOf pd0 rfl) rfl at_39 (pc' := 42) rfl fun T140 v140 h140 X140 q140 => ?_
      obtain ⟨rfl, Kp140, F140_next_b139⟩ := q140
      have E140k_b135 := E139_b135.keep Kp140
      have E140k_b137 := E139_b137.keep Kp140
      have E140k_b139 := E_b139.keep Kp140
      have F140k_idle_b135 := F139_idle_b135.keep Kp140 (ninS ne_b135_b139 nin0)
      have F140k_idleCount_b135 := F139_idleCount_b135.keep Kp140 (ninS ne_b135_b139 nin0)
      have F140k_next_b137 := F139_next_b137.keep Kp140 (ninS ne_b137_b139 nin0)
      replace X140 := X140.more (cells' := 5) (slots' := 8198) (by decide) (by decide)
      show Jvm.OwnKit.Ends p e below s n0 40 57472 _ T140 (mkF m 42 #[.val (.int u1), .val (.int (3 : Int32)), .val (.int (1 : Int32)), .val (.ref b135), .val (.ref b137), .unset, .unset, .unset, .unset, .unset, .unset, .unset, .unset] [(.ref b139)])
      refine F_astore X140 at_42 rfl (Ls' := #[.val (.int u1), .val (.int (3 : Int32)), .val (.int (1 : Int32)), .val (.ref b135), .val (.ref b137), .val (.ref b139), .unset, .unset, .unset, .unset, .unset, .unset, .unset]) rfl (pc' := 44) rfl ?_
      refine F_new X140 (wd9 hw) (wd10 hw) (wd11 hw) (by decide) (by decide) at_44 (pc' := 47) rfl fun T141 h141 b141 X141 Ex141 g141 ge141 E_b141 D141 => ?_
      have ne_b135_b141 : b135 ≠ b141 := Nat.ne_of_lt (Nat.lt_of_lt_of_le E140k_b135.lt (Nat.le_of_eq g141.symm))
      have ne_b137_b141 : b137 ≠ b141 := Nat.ne_of_lt (Nat.lt_of_lt_of_le E140k_b137.lt (Nat.le_of_eq g141.symm))
      have ne_b139_b141 : b139 ≠ b141 := Nat.ne_of_lt (Nat.lt_of_lt_of_le E140k_b139.lt (Nat.le_of_eq g141.symm))
      have E141_b135 := E140k_b135.ext Ex141
      have E141_b137 := E140k_b137.ext Ex141
      have E141_b139 := E140k_b139.ext Ex141
      have F141_idle_b135 := F140k_idle_b135.ext Ex141
      have F141_idleCount_b135 := F140k_idleCount_b135.ext Ex141
      have F141_next_b137 := F140k_next_b137.ext Ex141
      have F141_next_b139 := F140_next_b139.ext Ex141
      have F141_bytes_b141 : Fld Z h141 b141 "com/example/frame4/frame4/ChunkPool$Chunk" "bytes" "[B" .null := D141 (Or.inr (wd18 hw)) (ty := (.array .byte)) (by decide)
      have F141_next_b141 : Fld Z h141 b141 "com/example/frame4/frame4/ChunkPool$Chunk" "next" "Lcom/example/frame4/frame4/ChunkPool$Chunk;" .null := D141 (Or.inl (wd33 hw)) (ty := (.object "com/example/frame4/frame4/ChunkPool$Chunk")) (by decide)
      replace X141 := X141.more (cells' := 6) (slots' := 8200) (by decide) (by decide)
      refine F_dup X141 at_47 rfl (pc' := 48) rfl ?_
      refine F_init X141 (y := (⟨"com/example/frame4/frame4/ChunkPool$Chunk", "<init>", "()V"⟩ : MethodName)) (stk := [(.ref b141)]) rfl (wd12 hw) (wd13 hw) (wd11 hw) (wd14 hw) (by decide) (a := b141) (argsL := []) (conCI l Z a0 hw n0 h141 X141.size b141 E_b141 F141_bytes_b141 F141_next_b141 ge141) (by decide) (W := 1) (Nat.le_of_ble_eq_true rfl) (by decide) (by decide) (by decide) rfl (lenOf pd0 rfl) rfl at_48 (pc' := 51) rfl fun T142 v142 h142 X142 q142 => ?_
      obtain ⟨rfl, Kp142, F142_next_b141⟩ := q142
      have E142k_b135 := E141_b135.keep Kp142
      have E142k_b137 := E141_b137.keep Kp142
      have E142k_b139 := E141_b139.keep Kp142
      have E142k_b141 := E_b141.keep Kp142
      have F142k_idle_b135 := F141_idle_b135.keep Kp142 (ninS ne_b135_b141 nin0)
      have F142k_idleCount_b135 := F141_idleCount_b135.keep Kp142 (ninS ne_b135_b141 nin0)
      have F142k_next_b137 := F141_next_b137.keep Kp142 (ninS ne_b137_b141 nin0)
      have F142k_next_b139 := F141_next_b139.keep Kp142 (ninS ne_b139_b141 nin0)
      replace X142 := X142.more (cells' := 7) (slots' := 12296) (by decide) (by decide)
      show Jvm.OwnKit.Ends p e below s n0 40 57472 _ T142 (mkF m 51 #[.val (.int u1), .val (.int (3 : Int32)), .val (.int (1 : Int32)), .val (.ref b135), .val (.ref b137), .val (.ref b139), .unset, .unset, .unset, .unset, .unset, .unset, .unset] [(.ref b141)])
      refine F_astore X142 at_51 rfl (Ls' := #[.val (.int u1), .val (.int (3 : Int32)), .val (.int (1 : Int32)), .val (.ref b135), .val (.ref b137), .val (.ref b139), .val (.ref b141), .unset, .unset, .unset, .unset, .unset, .unset]) rfl (pc' := 53) rfl ?_
      refine F_iloadN X142 at_53 rfl (pc' := 54) rfl ?_
      refine F_if_eq X142 at_54 (by decide) (pt := 78) (by decide) (pc' := 57) rfl (fun q => absurd q (by decide)) (fun _ => ?_)
      refine F_aload X142 at_57 rfl rfl (pc' := 59) rfl ?_
      refine F_aload X142 at_59 rfl rfl (pc' := 61) rfl ?_
      refine F_putfield X142 (wd32 hw) F142k_next_b137 E142k_b137 (Or.inl (wd33 hw)) (wd10 hw) (ty := (.object "com/example/frame4/frame4/ChunkPool$Chunk")) (by decide) rfl rfl ge137 at_61 (pc' := 64) rfl fun T143 h143 X143 W143 => ?_
      have F143_next_b137 := F142k_next_b137.same W143
      have E143_b135 := E142k_b135.wr W143
      have E143_b137 := E142k_b137.wr W143
      have E143_b139 := E142k_b139.wr W143
      have E143_b141 := E142k_b141.wr W143
      have F143_idle_b135 := F142k_idle_b135.other W143 (Or.inl ne_b135_b137)
      have F143_idleCount_b135 := F142k_idleCount_b135.other W143 (Or.inl ne_b135_b137)
      have F143_next_b139 := F142k_next_b139.other W143 (Or.inl (Ne.symm ne_b137_b139))
      have F143_next_b141 := F142_next_b141.other W143 (Or.inl (Ne.symm ne_b137_b141))
      refine F_aload X143 at_64 rfl rfl (pc' := 66) rfl ?_
      refine F_aload X143 at_66 rfl rfl (pc' := 68) rfl ?_
      refine F_putfield X143 (wd32 hw) F143_next_b139 E143_b139 (Or.inl (wd33 hw)) (wd10 hw) (ty := (.object "com/example/frame4/frame4/ChunkPool$Chunk")) (by decide) rfl rfl ge139 at_68 (pc' := 71) rfl fun T144 h144 X144 W144 => ?_
      have F144_next_b139 := F143_next_b139.same W144
      have E144_b135 := E143_b135.wr W144
      have E144_b137 := E143_b137.wr W144
      have E144_b139 := E143_b139.wr W144
      have E144_b141 := E143_b141.wr W144
      have F144_idle_b135 := F143_idle_b135.other W144 (Or.inl ne_b135_b139)
      have F144_idleCount_b135 := F143_idleCount_b135.other W144 (Or.inl ne_b135_b139)
      have F144_next_b137 := F143_next_b137.other W144 (Or.inl ne_b137_b139)
      have F144_next_b141 := F143_next_b141.other W144 (Or.inl (Ne.symm ne_b139_b141))
      refine F_aload X144 at_71 rfl rfl (pc' := 73) rfl ?_
      refine F_aload X144 at_73 rfl rfl (pc' := 75) rfl ?_
      refine F_putfield X144 (wd32 hw) F144_next_b141 E144_b141 (Or.inl (wd33 hw)) (wd10 hw) (ty := (.object "com/example/frame4/frame4/ChunkPool$Chunk")) (by decide) rfl rfl ge141 at_75 (pc' := 78) rfl fun T145 h145 X145 W145 => ?_
      have F145_next_b141 := F144_next_b141.same W145
      have E145_b135 := E144_b135.wr W145
      have E145_b137 := E144_b137.wr W145
      have E145_b139 := E144_b139.wr W145
      have E145_b141 := E144_b141.wr W145
      have F145_idle_b135 := F144_idle_b135.other W145 (Or.inl ne_b135_b141)
      have F145_idleCount_b135 := F144_idleCount_b135.other W145 (Or.inl ne_b135_b141)
      have F145_next_b137 := F144_next_b137.other W145 (Or.inl ne_b137_b141)
      have F145_next_b139 := F144_next_b139.other W145 (Or.inl ne_b139_b141)
      refine F_iloadN X145 at_78 rfl (pc' := 79) rfl ?_
      refine F_iconst X145 at_79 (z := (1 : Int32)) (by decide) (pc' := 80) rfl ?_
      refine F_icmp_lt X145 at_80 (by decide) (pt := 89) (by decide) (pc' := 83) rfl (fun q => absurd q (by decide)) (fun _ => ?_)
      refine F_aloadN X145 at_83 rfl rfl (pc' := 84) rfl ?_
      refine F_aload X145 at_84 rfl rfl (pc' := 86) rfl ?_
      refine F_callV X145 (y := (⟨"com/example/frame4/frame4/ChunkPool", "giveBack", "(Lcom/example/frame4/frame4/ChunkPool$Chunk;)V"⟩ : MethodName)) (stk := []) (wd34 hw) (wd35 hw) (wd37 hw) (wd36 hw) (wd2 hw) (wd38 hw) (by decide) (a := b135) E145_b135 (argsL := [(.ref b137)]) (conG0 l Z a0 hw n0 h145 X145.size b135 b137 (.ref b139) E145_b135 E145_b137 F145_idle_b135 F145_idleCount_b135 F145_next_b137 ge135 ge137 ne_b135_b137) (by decide) (W := 0) (Nat.le_of_ble_eq_true rfl) (by decide) (by decide) (by decide) rfl (lenOf pd3 rfl) rfl at_86 (pc' := 89) rfl fun T146 v146 h146 X146 q146 => ?_
      obtain ⟨rfl, Kp146, F146_idle_b135, F146_idleCount_b135, F146_next_b137⟩ := q146
      have E146k_b135 := E145_b135.keep Kp146
      have E146k_b137 := E145_b137.keep Kp146
      have E146k_b139 := E145_b139.keep Kp146
      have E146k_b141 := E145_b141.keep Kp146
      have F146k_next_b139 := F145_next_b139.keep Kp146 (ninS (Ne.symm ne_b135_b139) (ninS (Ne.symm ne_b137_b139) nin0))
      have F146k_next_b141 := F145_next_b141.keep Kp146 (ninS (Ne.symm ne_b135_b141) (ninS (Ne.symm ne_b137_b141) nin0))
      replace X146 := X146.more (cells' := 7) (slots' := 12296) (by decide) (by decide)
      show Jvm.OwnKit.Ends p e below s n0 40 57472 _ T146 (mkF m 89 #[.val (.int u1), .val (.int (3 : Int32)), .val (.int (1 : Int32)), .val (.ref b135), .val (.ref b137), .val (.ref b139), .val (.ref b141), .unset, .unset, .unset, .unset, .unset, .unset] [])
      refine F_iloadN X146 at_89 rfl (pc' := 90) rfl ?_
      refine F_iconst X146 at_90 (z := (2 : Int32)) (by decide) (pc' := 91) rfl ?_
      refine F_icmp_lt X146 at_91 (by decide) (pt := 100) (by decide) (pc' := 94) rfl (fun q => absurd q (by decide)) (fun _ => ?_)
      refine F_aloadN X146 at_94 rfl rfl (pc' := 95) rfl ?_
      refine F_aload X146 at_95 rfl rfl (pc' := 97) rfl ?_
      refine F_callV X146 (y := (⟨"com/example/frame4/frame4/ChunkPool", "giveBack", "(Lcom/example/frame4/frame4/ChunkPool$Chunk;)V"⟩ : MethodName)) (stk := []) (wd34 hw) (wd35 hw) (wd37 hw) (wd36 hw) (wd2 hw) (wd38 hw) (by decide) (a := b135) E146k_b135 (argsL := [(.ref b139)]) (conG1 l Z a0 hw n0 h146 X146.size b135 b139 b137 (.ref b141) E146k_b135 E146k_b139 F146_idle_b135 F146_idleCount_b135 F146k_next_b139 ge135 ge139 ne_b135_b139) (by decide) (W := 0) (Nat.le_of_ble_eq_true rfl) (by decide) (by decide) (by decide) rfl (lenOf pd3 rfl) rfl at_97 (pc' := 100) rfl fun T147 v147 h147 X147 q147 => ?_
      obtain ⟨rfl, Kp147, F147_idle_b135, F147_idleCount_b135, F147_next_b139⟩ := q147
      have E147k_b135 := E146k_b135.keep Kp147
      have E147k_b137 := E146k_b137.keep Kp147
      have E147k_b139 := E146k_b139.keep Kp147
      have E147k_b141 := E146k_b141.keep Kp147
      have F147k_next_b137 := F146_next_b137.keep Kp147 (ninS (Ne.symm ne_b135_b137) (ninS ne_b137_b139 nin0))
      have F147k_next_b141 := F146k_next_b141.keep Kp147 (ninS (Ne.symm ne_b135_b141) (ninS (Ne.symm ne_b139_b141) nin0))
      replace X147 := X147.more (cells' := 7) (slots' := 12296) (by decide) (by decide)
      show Jvm.OwnKit.Ends p e below s n0 40 57472 _ T147 (mkF m 100 #[.val (.int u1), .val (.int (3 : Int32)), .val (.int (1 : Int32)), .val (.ref b135), .val (.ref b137), .val (.ref b139), .val (.ref b141), .unset, .unset, .unset, .unset, .unset, .unset] [])
      refine F_iloadN X147 at_100 rfl (pc' := 101) rfl ?_
      refine F_iconst X147 at_101 (z := (3 : Int32)) (by decide) (pc' := 102) rfl ?_
      refine F_icmp_lt X147 at_102 (by decide) (pt := 111) (by decide) (pc' := 105) rfl (fun q => absurd q (by decide)) (fun _ => ?_)
      refine F_aloadN X147 at_105 rfl rfl (pc' := 106) rfl ?_
      refine F_aload X147 at_106 rfl rfl (pc' := 108) rfl ?_
      refine F_callV X147 (y := (⟨"com/example/frame4/frame4/ChunkPool", "giveBack", "(Lcom/example/frame4/frame4/ChunkPool$Chunk;)V"⟩ : MethodName)) (stk := []) (wd34 hw) (wd35 hw) (wd37 hw) (wd36 hw) (wd2 hw) (wd38 hw) (by decide) (a := b135) E147k_b135 (argsL := [(.ref b141)]) (conG2 l Z a0 hw n0 h147 X147.size b135 b141 b139 (.ref b137) E147k_b135 E147k_b141 F147_idle_b135 F147_idleCount_b135 F147k_next_b141 ge135 ge141 ne_b135_b141) (by decide) (W := 0) (Nat.le_of_ble_eq_true rfl) (by decide) (by decide) (by decide) rfl (lenOf pd3 rfl) rfl at_108 (pc' := 111) rfl fun T148 v148 h148 X148 q148 => ?_
      obtain ⟨rfl, Kp148, F148_idle_b135, F148_idleCount_b135, F148_next_b141⟩ := q148
      have E148k_b135 := E147k_b135.keep Kp148
      have E148k_b137 := E147k_b137.keep Kp148
      have E148k_b139 := E147k_b139.keep Kp148
      have E148k_b141 := E147k_b141.keep Kp148
      have F148k_next_b137 := F147k_next_b137.keep Kp148 (ninS (Ne.symm ne_b135_b137) (ninS ne_b137_b141 nin0))
      have F148k_next_b139 := F147_next_b139.keep Kp148 (ninS (Ne.symm ne_b135_b139) (ninS ne_b139_b141 nin0))
      replace X148 := X148.more (cells' := 7) (slots' := 12296) (by decide) (by decide)
      show Jvm.OwnKit.Ends p e below s n0 40 57472 _ T148 (mkF m 111 #[.val (.int u1), .val (.int (3 : Int32)), .val (.int (1 : Int32)), .val (.ref b135), .val (.ref b137), .val (.ref b139), .val (.ref b141), .unset, .unset, .unset, .unset, .unset, .unset] [])
      refine F_aloadN X148 at_111 rfl rfl (pc' := 112) rfl ?_
      refine F_callV X148 (y := (⟨"com/example/frame4/frame4/ChunkPool", "take", "()Lcom/example/frame4/frame4/ChunkPool$Chunk;"⟩ : MethodName)) (stk := []) (wd19 hw) (wd20 hw) (wd22 hw) (wd21 hw) (wd2 hw) (wd23 hw) (by decide) (a := b135) E148k_b135 (argsL := []) (conT3 l Z a0 hw n0 h148 X148.size b135 b141 b139 E148k_b135 E148k_b141 F148_idle_b135 F148_idleCount_b135 F148_next_b141 ge135 ge141 ne_b135_b141) (by decide) (W := 0) (Nat.le_of_ble_eq_true rfl) (by decide) (by decide) (by decide) rfl (lenOf pd1 rfl) rfl at_112 (pc' := 115) rfl fun T149 v149 h149 X149 q149 => ?_
      obtain ⟨rfl, Kp149, F149_idle_b135, F149_idleCount_b135, F149_next_b141⟩ := q149
      have E149k_b135 := E148k_b135.keep Kp149
      have E149k_b137 := E148k_b137.keep Kp149
      have E149k_b139 := E148k_b139.keep Kp149
      have E149k_b141 := E148k_b141.keep Kp149
      have F149k_next_b137 := F148k_next_b137.keep Kp149 (ninS (Ne.symm ne_b135_b137) (ninS ne_b137_b141 nin0))
      have F149k_next_b139 := F148k_next_b139.keep Kp149 (ninS (Ne.symm ne_b135_b139) (ninS ne_b139_b141 nin0))
      replace X149 := X149.more (cells' := 7) (slots' := 12296) (by decide) (by decide)
      show Jvm.OwnKit.Ends p e below s n0 40 57472 _ T149 (mkF m 115 #[.val (.int u1), .val (.int (3 : Int32)), .val (.int (1 : Int32)), .val (.ref b135), .val (.ref b137), .val (.ref b139), .val (.ref b141), .unset, .unset, .unset, .unset, .unset, .unset] [(.ref b141)])
      refine F_astore X149 at_115 rfl (Ls' := #[.val (.int u1), .val (.int (3 : Int32)), .val (.int (1 : Int32)), .val (.ref b135), .val (.ref b137), .val (.ref b139), .val (.ref b141), .val (.ref b141), .unset, .unset, .unset, .unset, .unset]) rfl (pc' := 117) rfl ?_
      refine F_aloadN X149 at_117 rfl rfl (pc' := 118) rfl ?_
      refine F_callV X149 (y := (⟨"com/example/frame4/frame4/ChunkPool", "take", "()Lcom/example/frame4/frame4/ChunkPool$Chunk;"⟩ : MethodName)) (stk := []) (wd19 hw) (wd20 hw) (wd22 hw) (wd21 hw) (wd2 hw) (wd23 hw) (by decide) (a := b135) E149k_b135 (argsL := []) (conT2 l Z a0 hw n0 h149 X149.size b135 b139 b137 E149k_b135 E149k_b139 F149_idle_b135 F149_idleCount_b135 F149k_next_b139 ge135 ge139 ne_b135_b139) (by decide) (W := 0) (Nat.le_of_ble_eq_true rfl) (by decide) (by decide) (by decide) rfl (lenOf pd1 rfl) rfl at_118 (pc' := 121) rfl fun T150 v150 h150 X150 q150 => ?_
      obtain ⟨rfl, Kp150, F150_idle_b135, F150_idleCount_b135, F150_next_b139⟩ := q150
      have E150k_b135 := E149k_b135.keep Kp150
      have E150k_b137 := E149k_b137.keep Kp150
      have E150k_b139 := E149k_b139.keep Kp150
      have E150k_b141 := E149k_b141.keep Kp150
      have F150k_next_b137 := F149k_next_b137.keep Kp150 (ninS (Ne.symm ne_b135_b137) (ninS ne_b137_b139 nin0))
      have F150k_next_b141 := F149_next_b141.keep Kp150 (ninS (Ne.symm ne_b135_b141) (ninS (Ne.symm ne_b139_b141) nin0))
      replace X150 := X150.more (cells' := 7) (slots' := 12296) (by decide) (by decide)
      show Jvm.OwnKit.Ends p e below s n0 40 57472 _ T150 (mkF m 121 #[.val (.int u1), .val (.int (3 : Int32)), .val (.int (1 : Int32)), .val (.ref b135), .val (.ref b137), .val (.ref b139), .val (.ref b141), .val (.ref b141), .unset, .unset, .unset, .unset, .unset] [(.ref b139)])
      refine F_astore X150 at_121 rfl (Ls' := #[.val (.int u1), .val (.int (3 : Int32)), .val (.int (1 : Int32)), .val (.ref b135), .val (.ref b137), .val (.ref b139), .val (.ref b141), .val (.ref b141), .val (.ref b139), .unset, .unset, .unset, .unset]) rfl (pc' := 123) rfl ?_
      refine F_aloadN X150 at_123 rfl rfl (pc' := 124) rfl ?_
      refine F_callV X150 (y := (⟨"com/example/frame4/frame4/ChunkPool", "take", "()Lcom/example/frame4/frame4/ChunkPool$Chunk;"⟩ : MethodName)) (stk := []) (wd19 hw) (wd20 hw) (wd22 hw) (wd21 hw) (wd2 hw) (wd23 hw) (by decide) (a := b135) E150k_b135 (argsL := []) (conT1 l Z a0 hw n0 h150 X150.size b135 b137 E150k_b135 E150k_b137 F150_idle_b135 F150_idleCount_b135 F150k_next_b137 ge135 ge137 ne_b135_b137) (by decide) (W := 0) (Nat.le_of_ble_eq_true rfl) (by decide) (by decide) (by decide) rfl (lenOf pd1 rfl) rfl at_124 (pc' := 127) rfl fun T151 v151 h151 X151 q151 => ?_
      obtain ⟨rfl, Kp151, F151_idle_b135, F151_idleCount_b135, F151_next_b137⟩ := q151
      have E151k_b135 := E150k_b135.keep Kp151
      have E151k_b137 := E150k_b137.keep Kp151
      have E151k_b139 := E150k_b139.keep Kp151
      have E151k_b141 := E150k_b141.keep Kp151
      have F151k_next_b139 := F150_next_b139.keep Kp151 (ninS (Ne.symm ne_b135_b139) (ninS (Ne.symm ne_b137_b139) nin0))
      have F151k_next_b141 := F150k_next_b141.keep Kp151 (ninS (Ne.symm ne_b135_b141) (ninS (Ne.symm ne_b137_b141) nin0))
      replace X151 := X151.more (cells' := 7) (slots' := 12296) (by decide) (by decide)
      show Jvm.OwnKit.Ends p e below s n0 40 57472 _ T151 (mkF m 127 #[.val (.int u1), .val (.int (3 : Int32)), .val (.int (1 : Int32)), .val (.ref b135), .val (.ref b137), .val (.ref b139), .val (.ref b141), .val (.ref b141), .val (.ref b139), .unset, .unset, .unset, .unset] [(.ref b137)])
      refine F_astore X151 at_127 rfl (Ls' := #[.val (.int u1), .val (.int (3 : Int32)), .val (.int (1 : Int32)), .val (.ref b135), .val (.ref b137), .val (.ref b139), .val (.ref b141), .val (.ref b141), .val (.ref b139), .val (.ref b137), .unset, .unset, .unset]) rfl (pc' := 129) rfl ?_
      refine F_aloadN X151 at_129 rfl rfl (pc' := 130) rfl ?_
      refine F_callV X151 (y := (⟨"com/example/frame4/frame4/ChunkPool", "take", "()Lcom/example/frame4/frame4/ChunkPool$Chunk;"⟩ : MethodName)) (stk := []) (wd19 hw) (wd20 hw) (wd22 hw) (wd21 hw) (wd2 hw) (wd23 hw) (by decide) (a := b135) E151k_b135 (argsL := []) (conT0 l Z a0 hw n0 h151 X151.size b135 F151_idle_b135) (by decide) (W := 0) (Nat.le_of_ble_eq_true rfl) (by decide) (by decide) (by decide) rfl (lenOf pd1 rfl) rfl at_130 (pc' := 133) rfl fun T152 v152 h152 X152 q152 => ?_
      obtain ⟨b152_fb, rfl, sz152_fb, Kp152, E152_b152_fb, F152_next_b152_fb⟩ := q152
      have ge_b152_fb : n0 ≤ b152_fb := Nat.le_trans X151.size sz152_fb
      have ne_b135_b152_fb : b135 ≠ b152_fb := Nat.ne_of_lt (Nat.lt_of_lt_of_le E151k_b135.lt sz152_fb)
      have ne_b137_b152_fb : b137 ≠ b152_fb := Nat.ne_of_lt (Nat.lt_of_lt_of_le E151k_b137.lt sz152_fb)
      have ne_b139_b152_fb : b139 ≠ b152_fb := Nat.ne_of_lt (Nat.lt_of_lt_of_le E151k_b139.lt sz152_fb)
      have ne_b141_b152_fb : b141 ≠ b152_fb := Nat.ne_of_lt (Nat.lt_of_lt_of_le E151k_b141.lt sz152_fb)
      have E152k_b135 := E151k_b135.keep Kp152
      have E152k_b137 := E151k_b137.keep Kp152
      have E152k_b139 := E151k_b139.keep Kp152
      have E152k_b141 := E151k_b141.keep Kp152
      have F152k_idle_b135 := F151_idle_b135.keep Kp152 nin0
      have F152k_idleCount_b135 := F151_idleCount_b135.keep Kp152 nin0
      have F152k_next_b137 := F151_next_b137.keep Kp152 nin0
      have F152k_next_b139 := F151k_next_b139.keep Kp152 nin0
      have F152k_next_b141 := F151k_next_b141.keep Kp152 nin0
      replace X152 := X152.more (cells' := 9) (slots' := 16394) (by decide) (by decide)
      show Jvm.OwnKit.Ends p e below s n0 40 57472 _ T152 (mkF m 133 #[.val (.int u1), .val (.int (3 : Int32)), .val (.int (1 : Int32)), .val (.ref b135), .val (.ref b137), .val (.ref b139), .val (.ref b141), .val (.ref b141), .val (.ref b139), .val (.ref b137), .unset, .unset, .unset] [(.ref b152_fb)])
      refine F_astore X152 at_133 rfl (Ls' := #[.val (.int u1), .val (.int (3 : Int32)), .val (.int (1 : Int32)), .val (.ref b135), .val (.ref b137), .val (.ref b139), .val (.ref b141), .val (.ref b141), .val (.ref b139), .val (.ref b137), .val (.ref b152_fb), .unset, .unset]) rfl (pc' := 135) rfl ?_
      refine F_aload X152 at_135 rfl rfl (pc' := 137) rfl ?_
      refine F_iconst X152 at_137 (z := (0 : Int32)) (by decide) (pc' := 138) rfl ?_
      refine F_iloadN X152 at_138 rfl (pc' := 139) rfl ?_
      refine F_aload X152 at_139 rfl rfl (pc' := 141) rfl ?_
      refine F_aload X152 at_141 rfl rfl (pc' := 143) rfl ?_
      refine F_aload X152 at_143 rfl rfl (pc' := 145) rfl ?_
      refine F_callS X152 (y := (⟨"com/example/frame4/frame4/ChunkPoolGiveBackPinLaw", "expect", "(Lcom/example/frame4/frame4/ChunkPool$Chunk;IILcom/example/frame4/frame4/ChunkPool$Chunk;Lcom/example/frame4/frame4/ChunkPool$Chunk;Lcom/example/frame4/frame4/ChunkPool$Chunk;)Z"⟩ : MethodName)) (stk := []) (wd28 hw) (wd29 hw) (wd30 hw) (wd31 hw) (by decide) (argsL := [(.ref b141), (.int (0 : Int32)), (.int (3 : Int32)), (.ref b137), (.ref b139), (.ref b141)]) (conE3_0 l Z a0 hw n0 h152 X152.size b141 b137 b139 F152k_next_b141) (by decide) (W := 0) (Nat.le_of_ble_eq_true rfl) (by decide) (by decide) (by decide) rfl (lenOf pd2 rfl) rfl at_145 (pc' := 148) rfl fun T153 v153 h153 X153 q153 => ?_
      obtain ⟨rfl, rfl⟩ := q153
      replace X153 := X153.more (cells' := 9) (slots' := 16394) (by decide) (by decide)
      show Jvm.OwnKit.Ends p e below s n0 40 57472 _ T153 (mkF m 148 #[.val (.int u1), .val (.int (3 : Int32)), .val (.int (1 : Int32)), .val (.ref b135), .val (.ref b137), .val (.ref b139), .val (.ref b141), .val (.ref b141), .val (.ref b139), .val (.ref b137), .val (.ref b152_fb), .unset, .unset] [(.int (1 : Int32))])
      refine F_if_eq X153 at_148 (by decide) (pt := 203) (by decide) (pc' := 151) rfl (fun q => absurd q (by decide)) (fun _ => ?_)
      refine F_aload X153 at_151 rfl rfl (pc' := 153) rfl ?_
      refine F_iconst X153 at_153 (z := (1 : Int32)) (by decide) (pc' := 154) rfl ?_
      refine F_iloadN X153 at_154 rfl (pc' := 155) rfl ?_
      refine F_aload X153 at_155 rfl rfl (pc' := 157) rfl ?_
      refine F_aload X153 at_157 rfl rfl (pc' := 159) rfl ?_
      refine F_aload X153 at_159 rfl rfl (pc' := 161) rfl ?_
      refine F_callS X153 (y := (⟨"com/example/frame4/frame4/ChunkPoolGiveBackPinLaw", "expect", "(Lcom/example/frame4/frame4/ChunkPool$Chunk;IILcom/example/frame4/frame4/ChunkPool$Chunk;Lcom/example/frame4/frame4/ChunkPool$Chunk;Lcom/example/frame4/frame4/ChunkPool$Chunk;)Z"⟩ : MethodName)) (stk := []) (wd28 hw) (wd29 hw) (wd30 hw) (wd31 hw) (by decide) (argsL := [(.ref b139), (.int (1 : Int32)), (.int (3 : Int32)), (.ref b137), (.ref b139), (.ref b141)]) (conE3_1 l Z a0 hw n0 h152 X153.size b139 b137 b141 F152k_next_b139) (by decide) (W := 0) (Nat.le_of_ble_eq_true rfl) (by decide) (by decide) (by decide) rfl (lenOf pd2 rfl) rfl at_161 (pc' := 164) rfl fun T154 v154 h154 X154 q154 => ?_
      obtain ⟨rfl, rfl⟩ := q154
      replace X154 := X154.more (cells' := 9) (slots' := 16394) (by decide) (by decide)
      show Jvm.OwnKit.Ends p e below s n0 40 57472 _ T154 (mkF m 164 #[.val (.int u1), .val (.int (3 : Int32)), .val (.int (1 : Int32)), .val (.ref b135), .val (.ref b137), .val (.ref b139), .val (.ref b141), .val (.ref b141), .val (.ref b139), .val (.ref b137), .val (.ref b152_fb), .unset, .unset] [(.int (1 : Int32))])
      refine F_if_eq X154 at_164 (by decide) (pt := 203) (by decide) (pc' := 167) rfl (fun q => absurd q (by decide)) (fun _ => ?_)
      refine F_aload X154 at_167 rfl rfl (pc' := 169) rfl ?_
      refine F_iconst X154 at_169 (z := (2 : Int32)) (by decide) (pc' := 170) rfl ?_
      refine F_iloadN X154 at_170 rfl (pc' := 171) rfl ?_
      refine F_aload X154 at_171 rfl rfl (pc' := 173) rfl ?_
      refine F_aload X154 at_173 rfl rfl (pc' := 175) rfl ?_
      refine F_aload X154 at_175 rfl rfl (pc' := 177) rfl ?_
      refine F_callS X154 (y := (⟨"com/example/frame4/frame4/ChunkPoolGiveBackPinLaw", "expect", "(Lcom/example/frame4/frame4/ChunkPool$Chunk;IILcom/example/frame4/frame4/ChunkPool$Chunk;Lcom/example/frame4/frame4/ChunkPool$Chunk;Lcom/example/frame4/frame4/ChunkPool$Chunk;)Z"⟩ : MethodName)) (stk := []) (wd28 hw) (wd29 hw) (wd30 hw) (wd31 hw) (by decide) (argsL := [(.ref b137), (.int (2 : Int32)), (.int (3 : Int32)), (.ref b137), (.ref b139), (.ref b141)]) (conE3_2 l Z a0 hw n0 h152 X154.size b137 b139 b141 F152k_next_b137) (by decide) (W := 0) (Nat.le_of_ble_eq_true rfl) (by decide) (by decide) (by decide) rfl (lenOf pd2 rfl) rfl at_177 (pc' := 180) rfl fun T155 v155 h155 X155 q155 => ?_
      obtain ⟨rfl, rfl⟩ := q155
      replace X155 := X155.more (cells' := 9) (slots' := 16394) (by decide) (by decide)
      show Jvm.OwnKit.Ends p e below s n0 40 57472 _ T155 (mkF m 180 #[.val (.int u1), .val (.int (3 : Int32)), .val (.int (1 : Int32)), .val (.ref b135), .val (.ref b137), .val (.ref b139), .val (.ref b141), .val (.ref b141), .val (.ref b139), .val (.ref b137), .val (.ref b152_fb), .unset, .unset] [(.int (1 : Int32))])
      refine F_if_eq X155 at_180 (by decide) (pt := 203) (by decide) (pc' := 183) rfl (fun q => absurd q (by decide)) (fun _ => ?_)
      refine F_aload X155 at_183 rfl rfl (pc' := 185) rfl ?_
      refine F_iconst X155 at_185 (z := (3 : Int32)) (by decide) (pc' := 186) rfl ?_
      refine F_iloadN X155 at_186 rfl (pc' := 187) rfl ?_
      refine F_aload X155 at_187 rfl rfl (pc' := 189) rfl ?_
      refine F_aload X155 at_189 rfl rfl (pc' := 191) rfl ?_
      refine F_aload X155 at_191 rfl rfl (pc' := 193) rfl ?_
      refine F_callS X155 (y := (⟨"com/example/frame4/frame4/ChunkPoolGiveBackPinLaw", "expect", "(Lcom/example/frame4/frame4/ChunkPool$Chunk;IILcom/example/frame4/frame4/ChunkPool$Chunk;Lcom/example/frame4/frame4/ChunkPool$Chunk;Lcom/example/frame4/frame4/ChunkPool$Chunk;)Z"⟩ : MethodName)) (stk := []) (wd28 hw) (wd29 hw) (wd30 hw) (wd31 hw) (by decide) (argsL := [(.ref b152_fb), (.int (3 : Int32)), (.int (3 : Int32)), (.ref b137), (.ref b139), (.ref b141)]) (conE3_3 l Z a0 hw n0 h152 X155.size b152_fb b137 b139 b141 F152_next_b152_fb (Ne.symm ne_b137_b152_fb) (Ne.symm ne_b139_b152_fb) (Ne.symm ne_b141_b152_fb)) (by decide) (W := 0) (Nat.le_of_ble_eq_true rfl) (by decide) (by decide) (by decide) rfl (lenOf pd2 rfl) rfl at_193 (pc' := 196) rfl fun T156 v156 h156 X156 q156 => ?_
      obtain ⟨rfl, rfl⟩ := q156
      replace X156 := X156.more (cells' := 9) (slots' := 16394) (by decide) (by decide)
      show Jvm.OwnKit.Ends p e below s n0 40 57472 _ T156 (mkF m 196 #[.val (.int u1), .val (.int (3 : Int32)), .val (.int (1 : Int32)), .val (.ref b135), .val (.ref b137), .val (.ref b139), .val (.ref b141), .val (.ref b141), .val (.ref b139), .val (.ref b137), .val (.ref b152_fb), .unset, .unset] [(.int (1 : Int32))])
      refine F_if_eq X156 at_196 (by decide) (pt := 203) (by decide) (pc' := 199) rfl (fun q => absurd q (by decide)) (fun _ => ?_)
      refine F_iconst X156 at_199 (z := (1 : Int32)) (by decide) (pc' := 200) rfl ?_
      refine F_goto X156 at_200 (by decide) (pc' := 204) (by decide) ?_
      refine F_istore X156 at_204 (Ls' := #[.val (.int u1), .val (.int (3 : Int32)), .val (.int (1 : Int32)), .val (.ref b135), .val (.ref b137), .val (.ref b139), .val (.ref b141), .val (.ref b141), .val (.ref b139), .val (.ref b137), .val (.ref b152_fb), .val (.int (1 : Int32)), .unset]) rfl (pc' := 206) rfl ?_
      refine F_aload X156 at_206 rfl rfl (pc' := 208) rfl ?_
      refine F_aload X156 at_208 rfl rfl (pc' := 210) rfl ?_
      refine F_acmp X156 (same := false) at_210 rfl rfl (decide_eq_false fun q => (Ne.symm ne_b139_b141) (Value.ref.inj q)) (by decide) (pc' := 213) (by decide) ?_
      refine F_aload X156 at_213 rfl rfl (pc' := 215) rfl ?_
      refine F_aload X156 at_215 rfl rfl (pc' := 217) rfl ?_
      refine F_acmp X156 (same := false) at_217 rfl rfl (decide_eq_false fun q => (Ne.symm ne_b137_b141) (Value.ref.inj q)) (by decide) (pc' := 220) (by decide) ?_
      refine F_aload X156 at_220 rfl rfl (pc' := 222) rfl ?_
      refine F_aload X156 at_222 rfl rfl (pc' := 224) rfl ?_
      refine F_acmp X156 (same := false) at_224 rfl rfl (decide_eq_false fun q => ne_b141_b152_fb (Value.ref.inj q)) (by decide) (pc' := 227) (by decide) ?_
      refine F_aload X156 at_227 rfl rfl (pc' := 229) rfl ?_
      refine F_aload X156 at_229 rfl rfl (pc' := 231) rfl ?_
      refine F_acmp X156 (same := false) at_231 rfl rfl (decide_eq_false fun q => (Ne.symm ne_b137_b139) (Value.ref.inj q)) (by decide) (pc' := 234) (by decide) ?_
      refine F_aload X156 at_234 rfl rfl (pc' := 236) rfl ?_
      refine F_aload X156 at_236 rfl rfl (pc' := 238) rfl ?_
      refine F_acmp X156 (same := false) at_238 rfl rfl (decide_eq_false fun q => ne_b139_b152_fb (Value.ref.inj q)) (by decide) (pc' := 241) (by decide) ?_
      refine F_aload X156 at_241 rfl rfl (pc' := 243) rfl ?_
      refine F_aload X156 at_243 rfl rfl (pc' := 245) rfl ?_
      refine F_acmp X156 (same := false) at_245 rfl rfl (decide_eq_false fun q => ne_b137_b152_fb (Value.ref.inj q)) (by decide) (pc' := 248) (by decide) ?_
      refine F_iconst X156 at_248 (z := (1 : Int32)) (by decide) (pc' := 249) rfl ?_
      refine F_goto X156 at_249 (by decide) (pc' := 253) (by decide) ?_
      refine F_istore X156 at_253 (Ls' := #[.val (.int u1), .val (.int (3 : Int32)), .val (.int (1 : Int32)), .val (.ref b135), .val (.ref b137), .val (.ref b139), .val (.ref b141), .val (.ref b141), .val (.ref b139), .val (.ref b137), .val (.ref b152_fb), .val (.int (1 : Int32)), .val (.int (1 : Int32))]) rfl (pc' := 255) rfl ?_
      refine F_iload X156 at_255 rfl (pc' := 257) rfl ?_
      refine F_if_eq X156 at_257 (by decide) (pt := 269) (by decide) (pc' := 260) rfl (fun q => absurd q (by decide)) (fun _ => ?_)
      refine F_iload X156 at_260 rfl (pc' := 262) rfl ?_
      refine F_if_eq X156 at_262 (by decide) (pt := 269) (by decide) (pc' := 265) rfl (fun q => absurd q (by decide)) (fun _ => ?_)
      refine F_iconst X156 at_265 (z := (1 : Int32)) (by decide) (pc' := 266) rfl ?_
      refine F_goto X156 at_266 (by decide) (pc' := 270) (by decide) ?_
      refine F_ireturn_boolean (z' := (1 : Int32)) X156 (by decide) at_270 rfl (by decide) (by decide) ?_
      exact rfl
set_option maxRecDepth 65536 in
set_option maxHeartbeats 40000000 in
theorem comes_1 {Post : Tables → Env → Array Value → State → Outcome → State → Prop} (hpost : ∀ tb e args s v u, (limb_1_1.after args s (.returned v) u = true ∧ limb_1_2.after args s (.returned v) u = true ∧ True) → FrameEnd s (.returned v) u (Jvm.fieldLocs frame_1_writes args s ++ Jvm.arrayLocs frame_1_arrays args s ++ Jvm.staticLocs frame_1_statics s) 40 57472 → Post tb e args s (.returned v) u) :
    ArmFor flags0 classFile x code maxLocals ret World_1 tables_1 room_1 Calls_1 rest_1 Pre_1 Post := by
  intro l hfl _ _ p e ha hc hk s m args below hf hA hF happ hP
  obtain ⟨hcalls, hrest, hpre⟩ := hP
  obtain ⟨-, -, -, hnamed, -, -, -, hat⟩ := (Spec.applies_iff hf).mp happ
  obtain ⟨hg, hn⟩ := and_e (Cond.before_iff.mp (show (Jvm.Cond.and given_1 narrow_1).before args s = true from hpre))
  obtain ⟨g0, r0⟩ := and_e hg
  obtain ⟨w0, rfl⟩ : ∃ w0 : Value, args = #[w0] := by
    have hs : args.size = 1 := by simpa [Cond.value, given_1] using g0
    obtain ⟨L⟩ := args
    match L, hs with
    | [w0], _ => exact ⟨w0, rfl⟩
  have hw := fun d (hd : d ∈ tables_1) => atoms_spec (ws := Jvm.Cond.code x code maxLocals ret :: tables_1) hat d (List.mem_cons_of_mem _ hd)
  obtain ⟨i0, ei0⟩ := is_v r0
  obtain rfl : w0 = (.int i0) := Option.some.inj ei0
  obtain ⟨n, o, h1, h2, h3, _, L, rfl, ⟨rfl, N⟩, hq⟩ := con0 l s _ hw s.heap.size s.heap (Nat.le_refl _) i0 tables_1 p e ha hc hk s m _ below hf ((Spec.applies_iff_loose hf).mp happ).1 ⟨rfl, State.Warmed39.refl s, rfl⟩ trivial
  refine ⟨n, _, h1, h2, h3, hpost _ _ _ _ _ _ ⟨Cond.after_iff.mpr rfl, Cond.after_iff.mpr (eq_i res_at (Term.int_eval (1)) rfl), trivial⟩ ⟨hq.1, hq.2.1, (hq.2.2.sift fun y hy => Or.inr (N y hy)).mono (by decide) (by decide)⟩⟩
theorem main_1_1 : Claimed_1_1 := comes_1 fun _ _ _ _ _ _ h hF => ⟨h.1, hF⟩
theorem main_1_2 : Claimed_1_2 := comes_1 fun _ _ _ _ _ _ h hF => ⟨h.2.1, hF⟩
end Jvm.Pilot.@@N@@
namespace Jvm.Pilot.@@N@@
open Jvm Jvm.ClassFile Sem Op Lib Jvm.Free Jvm.Stand Jvm.Pilot.@@N@@.Jvm.D
/-! MADE BY PROGRAM (witnessworld.py) out of the Statement's table words and the real class files: 10 classes; the members and pool entries that the words name. The judged class is class 1, her method 1. -/
namespace start1
open Jvm.ClassFile
def u (s : String) : CpInfo := .utf8 (stringToUtf16 s)
/-- a pool by its gaps: so many unusable entries, then the entry; so many at the end -/
def gap : Nat → List CpInfo → List CpInfo
  | 0, r => r
  | n + 1, r => .unusable :: gap n r
def poolList (es : List (Nat × CpInfo)) (last : Nat) : List CpInfo := es.foldr (fun e r => gap e.1 (e.2 :: r)) (gap last [])
def pool (es : List (Nat × CpInfo)) (last : Nat) : Array CpInfo := ⟨poolList es last⟩
def fileOf (pool : Array CpInfo) (this : Nat) (attrs : Array Attribute := #[]) (ms : Array MethodInfo := #[]) (fl : Nat := 33) (sup : Nat := 0) (ifs : Array Nat := #[]) (fds : Array FieldInfo := #[]) : ClassFile where
  minorVersion := 0
  majorVersion := 65
  constantPool := pool
  accessFlags := fl
  thisClass := this
  superClass := sup
  interfaces := ifs
  fields := fds
  methods := ms
  attributes := attrs
def plain (name : String) (sup : Option ClassId) : Class where
  name := name
  kind := .ordinary
  loader := none
  accessFlags := 33
  super := sup
  interfaces := #[]
  cf := none
  fields := #[]
  methods := #[]
  instanceTypes := #[]
  staticTypes := #[]
  resolved := #[]
  callSites := []
  init := .initialized
  statics := none
  mirror := none

def pool0 : Array CpInfo := pool [(5, u "<init>"), (0, u "()V"), (1, .class_ 10), (1, u "java/lang/Object")] 113

def k0c0 : Code := { maxStack := 0, maxLocals := 1, code := object_method_1_code, exceptionTable := #[], attributes := #[] }
def k0m0 : Method := { name := "<init>", desc := "()V", sig := { parameters := [], returnType := none }, accessFlags := 1, code := some k0c0 }
/-- java/lang/Object -/
def k0 : Class := { plain "java/lang/Object" none with
  accessFlags := 33
  interfaces := #[]
  cf := some (fileOf pool0 8 #[] #[{ accessFlags := 1, nameIndex := 5, descriptorIndex := 6, attributes := #[] }] 33 0 #[] #[])
  fields := #[]
  methods := #[k0m0]
  instanceTypes := #[]
  staticTypes := #[]
  resolved := Array.replicate 124 none
  statics := none }

def pool1 : Array CpInfo := pool [(2, .class_ 4), (0, .nameAndType 5 6), (0, u "java/lang/Object"), (0, u "<init>"), (0, u "()V"), (0, .class_ 8), (0, u "com/example/frame4/frame4/ChunkPool"), (0, .methodref 7 3), (0, .class_ 11), (0, u "com/example/frame4/frame4/ChunkPool$Chunk"), (0, .methodref 10 3), (0, .fieldref 10 14), (0, .nameAndType 15 16), (0, u "next"), (0, u "Lcom/example/frame4/frame4/ChunkPool$Chunk;"), (0, .methodref 7 18), (0, .nameAndType 19 20), (0, u "giveBack"), (0, u "(Lcom/example/frame4/frame4/ChunkPool$Chunk;)V"), (0, .methodref 7 22), (0, .nameAndType 23 24), (0, u "take"), (0, u "()Lcom/example/frame4/frame4/ChunkPool$Chunk;"), (0, .methodref 26 27), (0, .class_ 28), (0, .nameAndType 29 30), (0, u "com/example/frame4/frame4/ChunkPoolGiveBackPinLaw"), (0, u "expect"), (0, u "(Lcom/example/frame4/frame4/ChunkPool$Chunk;IILcom/example/frame4/frame4/ChunkPool$Chunk;Lcom/example/frame4/frame4/ChunkPool$Chunk;Lcom/example/frame4/frame4/ChunkPool$Chunk;)Z"), (2, u "law"), (0, u "(I)Z")] 5

def k1m0 : Method := { name := "<init>", desc := "()V", sig := { parameters := [], returnType := none }, accessFlags := 1, code := none }
def k1c1 : Code := { maxStack := 6, maxLocals := 13, code := code, exceptionTable := #[], attributes := #[] }
def k1m1 : Method := { name := "law", desc := "(I)Z", sig := { parameters := [.int], returnType := some .boolean }, accessFlags := 9, code := some k1c1 }
def k1c2 : Code := { maxStack := 2, maxLocals := 8, code := method_3_code, exceptionTable := #[], attributes := #[] }
def k1m2 : Method := { name := "expect", desc := "(Lcom/example/frame4/frame4/ChunkPool$Chunk;IILcom/example/frame4/frame4/ChunkPool$Chunk;Lcom/example/frame4/frame4/ChunkPool$Chunk;Lcom/example/frame4/frame4/ChunkPool$Chunk;)Z", sig := { parameters := [(.object "com/example/frame4/frame4/ChunkPool$Chunk"), .int, .int, (.object "com/example/frame4/frame4/ChunkPool$Chunk"), (.object "com/example/frame4/frame4/ChunkPool$Chunk"), (.object "com/example/frame4/frame4/ChunkPool$Chunk")], returnType := some .boolean }, accessFlags := 10, code := some k1c2 }
/-- com/example/frame4/frame4/ChunkPoolGiveBackPinLaw -/
def k1 : Class := { plain "com/example/frame4/frame4/ChunkPoolGiveBackPinLaw" (some 0) with
  accessFlags := 49
  interfaces := #[]
  cf := some (fileOf pool1 26 #[] #[{ accessFlags := 1, nameIndex := 5, descriptorIndex := 6, attributes := #[] }, { accessFlags := 9, nameIndex := 33, descriptorIndex := 34, attributes := #[] }, { accessFlags := 10, nameIndex := 29, descriptorIndex := 30, attributes := #[] }] 49 2 #[] #[])
  fields := #[]
  methods := #[k1m0, k1m1, k1m2]
  instanceTypes := #[]
  staticTypes := #[]
  resolved := Array.replicate 40 none
  statics := none }

def pool2 : Array CpInfo := pool [(1, .methodref 2 3), (0, .class_ 4), (0, .nameAndType 5 6), (0, u "java/lang/Object"), (0, u "<init>"), (0, u "()V"), (0, .fieldref 8 9), (0, .class_ 10), (0, .nameAndType 11 12), (0, u "com/example/frame4/frame4/ChunkPool"), (0, u "idle"), (0, u "Lcom/example/frame4/frame4/ChunkPool$Chunk;"), (0, .class_ 14), (0, u "com/example/frame4/frame4/ChunkPool$Chunk"), (0, .methodref 13 3), (0, .fieldref 13 17), (0, .nameAndType 18 12), (0, u "next"), (0, .fieldref 8 20), (0, .nameAndType 21 22), (0, u "idleCount"), (0, u "I"), (0, u "CHUNK_BYTES"), (2, u "MOST_IDLE_CHUNKS"), (3, u "take"), (0, u "()Lcom/example/frame4/frame4/ChunkPool$Chunk;"), (1, u "giveBack"), (0, u "(Lcom/example/frame4/frame4/ChunkPool$Chunk;)V")] 5

def k2c0 : Code := { maxStack := 1, maxLocals := 1, code := prog_4_method_1_code, exceptionTable := #[], attributes := #[] }
def k2m0 : Method := { name := "<init>", desc := "()V", sig := { parameters := [], returnType := none }, accessFlags := 0, code := some k2c0 }
def k2c1 : Code := { maxStack := 3, maxLocals := 2, code := prog_4_method_2_code, exceptionTable := #[], attributes := #[] }
def k2m1 : Method := { name := "take", desc := "()Lcom/example/frame4/frame4/ChunkPool$Chunk;", sig := { parameters := [], returnType := some (.object "com/example/frame4/frame4/ChunkPool$Chunk") }, accessFlags := 0, code := some k2c1 }
def k2c2 : Code := { maxStack := 3, maxLocals := 2, code := prog_4_method_3_code, exceptionTable := #[], attributes := #[] }
def k2m2 : Method := { name := "giveBack", desc := "(Lcom/example/frame4/frame4/ChunkPool$Chunk;)V", sig := { parameters := [(.object "com/example/frame4/frame4/ChunkPool$Chunk")], returnType := none }, accessFlags := 0, code := some k2c2 }
/-- com/example/frame4/frame4/ChunkPool -/
def k2 : Class := { plain "com/example/frame4/frame4/ChunkPool" (some 0) with
  accessFlags := 48
  interfaces := #[]
  cf := some (fileOf pool2 8 #[.nestMembers #[13]] #[{ accessFlags := 0, nameIndex := 5, descriptorIndex := 6, attributes := #[] }, { accessFlags := 0, nameIndex := 30, descriptorIndex := 31, attributes := #[] }, { accessFlags := 0, nameIndex := 33, descriptorIndex := 34, attributes := #[] }] 48 2 #[] #[{ accessFlags := 24, nameIndex := 23, descriptorIndex := 22, attributes := #[] }, { accessFlags := 26, nameIndex := 26, descriptorIndex := 22, attributes := #[] }, { accessFlags := 2, nameIndex := 11, descriptorIndex := 12, attributes := #[] }, { accessFlags := 2, nameIndex := 21, descriptorIndex := 22, attributes := #[] }])
  fields := #[{ name := "CHUNK_BYTES", type := .int, accessFlags := 24, slot := 0, constantValue := 0 }, { name := "MOST_IDLE_CHUNKS", type := .int, accessFlags := 26, slot := 1, constantValue := 0 }, { name := "idle", type := (.object "com/example/frame4/frame4/ChunkPool$Chunk"), accessFlags := 2, slot := 0, constantValue := 0 }, { name := "idleCount", type := .int, accessFlags := 2, slot := 1, constantValue := 0 }]
  methods := #[k2m0, k2m1, k2m2]
  instanceTypes := #[(.object "com/example/frame4/frame4/ChunkPool$Chunk"), .int]
  staticTypes := #[.int, .int]
  resolved := Array.replicate 40 none
  statics := none }

def pool3 : Array CpInfo := pool [(1, .class_ 2), (0, u "com/example/frame4/frame4/ChunkPool"), (0, .methodref 4 5), (0, .class_ 6), (0, .nameAndType 7 8), (0, u "java/lang/Object"), (0, u "<init>"), (0, u "()V"), (0, .fieldref 10 11), (0, .class_ 12), (0, .nameAndType 13 14), (0, u "com/example/frame4/frame4/ChunkPool$Chunk"), (0, u "bytes"), (0, u "[B"), (0, u "next"), (0, u "Lcom/example/frame4/frame4/ChunkPool$Chunk;")] 7

def k3c0 : Code := { maxStack := 2, maxLocals := 1, code := prog_5_method_1_code, exceptionTable := #[], attributes := #[] }
def k3m0 : Method := { name := "<init>", desc := "()V", sig := { parameters := [], returnType := none }, accessFlags := 0, code := some k3c0 }
/-- com/example/frame4/frame4/ChunkPool$Chunk -/
def k3 : Class := { plain "com/example/frame4/frame4/ChunkPool$Chunk" (some 0) with
  accessFlags := 48
  interfaces := #[]
  cf := some (fileOf pool3 10 #[.nestHost 1] #[{ accessFlags := 0, nameIndex := 7, descriptorIndex := 8, attributes := #[] }] 48 4 #[] #[{ accessFlags := 16, nameIndex := 13, descriptorIndex := 14, attributes := #[] }, { accessFlags := 0, nameIndex := 15, descriptorIndex := 16, attributes := #[] }])
  fields := #[{ name := "bytes", type := (.array .byte), accessFlags := 16, slot := 0, constantValue := 0 }, { name := "next", type := (.object "com/example/frame4/frame4/ChunkPool$Chunk"), accessFlags := 0, slot := 1, constantValue := 0 }]
  methods := #[k3m0]
  instanceTypes := #[(.array .byte), (.object "com/example/frame4/frame4/ChunkPool$Chunk")]
  staticTypes := #[]
  resolved := Array.replicate 24 none
  statics := none }

def pool4 : Array CpInfo := pool [(1, u "java/lang/Cloneable"), (0, .class_ 1), (0, u "java/lang/Object"), (0, .class_ 3)] 3

/-- java/lang/Cloneable -/
def k4 : Class := { plain "java/lang/Cloneable" (some 0) with
  accessFlags := 1537
  interfaces := #[]
  cf := some (fileOf pool4 2 #[] #[] 1537 4 #[] #[])
  fields := #[]
  methods := #[]
  instanceTypes := #[]
  staticTypes := #[]
  resolved := Array.replicate 8 none
  statics := none }

def pool5 : Array CpInfo := pool [(1, u "java/io/Serializable"), (0, .class_ 1), (0, u "java/lang/Object"), (0, .class_ 3)] 3

/-- java/io/Serializable -/
def k5 : Class := { plain "java/io/Serializable" (some 0) with
  accessFlags := 1537
  interfaces := #[]
  cf := some (fileOf pool5 2 #[] #[] 1537 4 #[] #[])
  fields := #[]
  methods := #[]
  instanceTypes := #[]
  staticTypes := #[]
  resolved := Array.replicate 8 none
  statics := none }

/-- the primitive byte -/
def k6 : Class := { plain "byte" none with kind := .primitive 'B', accessFlags := 0x411 }
/-- [B -/
def k7 : Class := { plain "[B" (some 0) with kind := .array 6 .byte, interfaces := #[4, 5], accessFlags := 1041 }

/-- the primitive int -/
def k8 : Class := { plain "int" none with kind := .primitive 'I', accessFlags := 0x411 }
/-- [I -/
def k9 : Class := { plain "[I" (some 0) with kind := .array 8 .int, interfaces := #[4, 5], accessFlags := 1041 }

def heap : Heap := #[]
def classes : Array Class := #[k0, k1, k2, k3, k4, k5, k6, k7, k8, k9]
def interned : List (Array UInt16 × Addr) := []
def slotsUsed : Nat := 0
def theMethod : MethodId := ⟨1, 1⟩
def args0 : Array Value := #[.int 7]
def aboutOver (below : List Frame) : State where
  vm := { classes := classes, interned := interned.toArray }
  heap := heap
  slotsUsed := slotsUsed
  threads := #[{ frames := .invoking theMethod args0 :: below }]
def below0 : List Frame := [.native { method := ⟨0, 0⟩, args := #[] }]
def about1 : State := aboutOver below0
def p0 : Program := .bare "" "" ""
def e0 : Env := launch0.env 0 0 0
theorem w_frames : about1.frames = Frame.invoking theMethod args0 :: below0 := rfl
set_option maxRecDepth 65536 in
theorem w_args : argsFit about1.vm theMethod args0 = true := by decide +kernel
set_option maxRecDepth 65536 in
theorem w_heap : heapFits about1 = true := by decide +kernel
set_option maxRecDepth 65536 in
theorem w_runnable : about1.curStatus? = some .runnable := by decide +kernel
set_option maxRecDepth 65536 in
theorem w_alone : about1.alone = true := by decide +kernel
set_option maxRecDepth 65536 in
theorem w_named : about1.methodNamed? x = some theMethod := by decide +kernel
set_option maxRecDepth 65536 in
theorem w_hears : about1.hears theMethod below0 = true := by decide +kernel
set_option maxRecDepth 65536 in
theorem w_ripe : about1.ripe theMethod args0 below0 = true := by decide +kernel
theorem w_running : about1.status = .running := rfl
set_option maxRecDepth 65536 in
theorem w_room : about1.hasRoom e0.platform room_1 = true :=
  launch0.hasRoom_least _ room_1 (by decide +kernel) (by decide +kernel) (by decide +kernel) (by decide +kernel) (by decide +kernel) (by decide +kernel)
theorem allAtoms_all (ts : List Jvm.Cond) (a : Array Jvm.Value) (st : Jvm.State) : (allAtoms ts).before a st = ts.all (fun c => c.before a st) := by
  induction ts with
  | nil => rfl
  | cons c t ih =>
    show (Jvm.Cond.and c (allAtoms t)).before a st = _
    rw [Jvm.Cond.before_and, ih, List.all_cons]
def words1 : List Jvm.Cond := Jvm.Cond.code x code maxLocals ret :: tables_1
/-- a 'code' word, met by the world's own term for the bytes: nothing is compared byte by byte -/
theorem code_word {y : MethodName} {bytes : ByteArray} {mx : Nat} {rt : Option FieldType} {a : Array Value} {s : State} {m : MethodId} {meth : Method} {c : Code} (h1 : s.methodNamed? y = some m) (h2 : s.vm.method? m = some meth) (h3 : meth.code = some c) (h4 : c.code = bytes)
    (h5 : (c.maxLocals == mx && c.exceptionTable.isEmpty && decide (c.maxStack ≤ mostOperands) && decide (meth.sig.returnType = rt) && !meth.locks && decide (parseMethodDescriptor y.desc = some meth.sig)) = true) : (Jvm.Cond.code y bytes mx rt).before a s = true := by
  simp only [Bool.and_eq_true, beq_iff_eq, Bool.not_eq_true', decide_eq_true_eq] at h5
  obtain ⟨⟨⟨⟨⟨g1, g2⟩, g3⟩, g4⟩, g5⟩, g6⟩ := h5
  simp [Cond.before, Cond.holds, Cond.value, h1, h2, h3, h4, g1, g2, g3, g4, g5, g6]
def isCode : Jvm.Cond → Bool
  | .code _ _ _ _ => true
  | _ => false
theorem all_split {L : List Jvm.Cond} {P : Jvm.Cond → Bool} (h1 : L.all (fun c => isCode c || P c) = true) (h2 : ∀ c ∈ L.filter isCode, P c = true) : L.all P = true := by
  refine List.all_eq_true.mpr fun c hc => ?_
  have h := List.all_eq_true.mp h1 c hc
  rcases Bool.eq_false_or_eq_true (isCode c) with hi | hi
  · exact h2 c (List.mem_filter.mpr ⟨hc, hi⟩)
  · simpa [hi] using h
set_option maxRecDepth 65536 in
theorem w_c0 : (Jvm.Cond.code x code maxLocals ret).before args0 about1 = true := code_word (m := ⟨1, 1⟩) (meth := k1m1) (c := k1c1) (by decide +kernel) rfl rfl rfl (by decide +kernel)
set_option maxRecDepth 65536 in
theorem w_c1 : (Jvm.Cond.code ({ cls := "com/example/frame4/frame4/ChunkPool", name := "<init>", desc := "()V" } : Jvm.MethodName) prog_4_method_1_code (1 : Nat) (Option.none : Option Jvm.ClassFile.FieldType)).before args0 about1 = true := code_word (m := ⟨2, 0⟩) (meth := k2m0) (c := k2c0) (by decide +kernel) rfl rfl rfl (by decide +kernel)
set_option maxRecDepth 65536 in
theorem w_c2 : (Jvm.Cond.code ({ cls := "java/lang/Object", name := "<init>", desc := "()V" } : Jvm.MethodName) object_method_1_code (1 : Nat) (Option.none : Option Jvm.ClassFile.FieldType)).before args0 about1 = true := code_word (m := ⟨0, 0⟩) (meth := k0m0) (c := k0c0) (by decide +kernel) rfl rfl rfl (by decide +kernel)
set_option maxRecDepth 65536 in
theorem w_c3 : (Jvm.Cond.code ({ cls := "com/example/frame4/frame4/ChunkPool$Chunk", name := "<init>", desc := "()V" } : Jvm.MethodName) prog_5_method_1_code (1 : Nat) (Option.none : Option Jvm.ClassFile.FieldType)).before args0 about1 = true := code_word (m := ⟨3, 0⟩) (meth := k3m0) (c := k3c0) (by decide +kernel) rfl rfl rfl (by decide +kernel)
set_option maxRecDepth 65536 in
theorem w_c4 : (Jvm.Cond.code ({ cls := "com/example/frame4/frame4/ChunkPool", name := "take", desc := "()Lcom/example/frame4/frame4/ChunkPool$Chunk;" } : Jvm.MethodName) prog_4_method_2_code (2 : Nat) (Option.some (Jvm.ClassFile.FieldType.object "com/example/frame4/frame4/ChunkPool$Chunk"))).before args0 about1 = true := code_word (m := ⟨2, 1⟩) (meth := k2m1) (c := k2c1) (by decide +kernel) rfl rfl rfl (by decide +kernel)
set_option maxRecDepth 65536 in
theorem w_c5 : (Jvm.Cond.code ({ cls := "com/example/frame4/frame4/ChunkPoolGiveBackPinLaw", name := "expect", desc := "(Lcom/example/frame4/frame4/ChunkPool$Chunk;IILcom/example/frame4/frame4/ChunkPool$Chunk;Lcom/example/frame4/frame4/ChunkPool$Chunk;Lcom/example/frame4/frame4/ChunkPool$Chunk;)Z" } : Jvm.MethodName) method_3_code (8 : Nat) (Option.some Jvm.ClassFile.FieldType.boolean)).before args0 about1 = true := code_word (m := ⟨1, 2⟩) (meth := k1m2) (c := k1c2) (by decide +kernel) rfl rfl rfl (by decide +kernel)
set_option maxRecDepth 65536 in
theorem w_c6 : (Jvm.Cond.code ({ cls := "com/example/frame4/frame4/ChunkPool", name := "giveBack", desc := "(Lcom/example/frame4/frame4/ChunkPool$Chunk;)V" } : Jvm.MethodName) prog_4_method_3_code (2 : Nat) (Option.none : Option Jvm.ClassFile.FieldType)).before args0 about1 = true := code_word (m := ⟨2, 2⟩) (meth := k2m2) (c := k2c2) (by decide +kernel) rfl rfl rfl (by decide +kernel)
def codes1 : List Jvm.Cond := [Jvm.Cond.code x code maxLocals ret, Jvm.Cond.code ({ cls := "com/example/frame4/frame4/ChunkPool", name := "<init>", desc := "()V" } : Jvm.MethodName) prog_4_method_1_code (1 : Nat) (Option.none : Option Jvm.ClassFile.FieldType), Jvm.Cond.code ({ cls := "java/lang/Object", name := "<init>", desc := "()V" } : Jvm.MethodName) object_method_1_code (1 : Nat) (Option.none : Option Jvm.ClassFile.FieldType), Jvm.Cond.code ({ cls := "com/example/frame4/frame4/ChunkPool$Chunk", name := "<init>", desc := "()V" } : Jvm.MethodName) prog_5_method_1_code (1 : Nat) (Option.none : Option Jvm.ClassFile.FieldType), Jvm.Cond.code ({ cls := "com/example/frame4/frame4/ChunkPool", name := "take", desc := "()Lcom/example/frame4/frame4/ChunkPool$Chunk;" } : Jvm.MethodName) prog_4_method_2_code (2 : Nat) (Option.some (Jvm.ClassFile.FieldType.object "com/example/frame4/frame4/ChunkPool$Chunk")), Jvm.Cond.code ({ cls := "com/example/frame4/frame4/ChunkPoolGiveBackPinLaw", name := "expect", desc := "(Lcom/example/frame4/frame4/ChunkPool$Chunk;IILcom/example/frame4/frame4/ChunkPool$Chunk;Lcom/example/frame4/frame4/ChunkPool$Chunk;Lcom/example/frame4/frame4/ChunkPool$Chunk;)Z" } : Jvm.MethodName) method_3_code (8 : Nat) (Option.some Jvm.ClassFile.FieldType.boolean), Jvm.Cond.code ({ cls := "com/example/frame4/frame4/ChunkPool", name := "giveBack", desc := "(Lcom/example/frame4/frame4/ChunkPool$Chunk;)V" } : Jvm.MethodName) prog_4_method_3_code (2 : Nat) (Option.none : Option Jvm.ClassFile.FieldType)]
set_option maxRecDepth 65536 in
theorem codes_eq : words1.filter isCode = codes1 := rfl
theorem w_codes : ∀ c ∈ words1.filter isCode, c.before args0 about1 = true := by
  rw [codes_eq]
  intro c hc
  simp only [codes1, List.mem_cons, List.not_mem_nil, or_false] at hc
  rcases hc with rfl | rfl | rfl | rfl | rfl | rfl | rfl
  · exact w_c0
  · exact w_c1
  · exact w_c2
  · exact w_c3
  · exact w_c4
  · exact w_c5
  · exact w_c6
set_option maxRecDepth 65536 in
theorem w_t1 : (words1.take 24).all (fun c => isCode c || c.before args0 about1) = true := by decide +kernel
set_option maxRecDepth 65536 in
theorem w_t2 : (words1.drop 24).all (fun c => isCode c || c.before args0 about1) = true := by decide +kernel
theorem w_tables : (allAtoms (Jvm.Cond.code x code maxLocals ret :: tables_1)).before args0 about1 = true := by
  rw [allAtoms_all]
  show words1.all (fun c => c.before args0 about1) = true
  refine all_split ?_ w_codes
  rw [← List.take_append_drop 24 words1, List.all_append, w_t1, w_t2]
  rfl
set_option maxRecDepth 65536 in
theorem w_case : (Jvm.Cond.and given_1 narrow_1).before args0 about1 = true := by decide +kernel
theorem w_applies : (headSpec (Jvm.Cond.code x code maxLocals ret :: tables_1) room_1).applies x e0.platform about1 = true :=
  (Spec.applies_iff w_frames).mpr ⟨w_running, w_runnable, w_alone, w_named, w_hears, w_ripe, w_room, w_tables⟩
theorem atStart : AtStart classFile x code maxLocals ret World_1 tables_1 room_1 Calls_1 rest_1 Pre_1 launch0 p0 e0 about1 theMethod args0 below0 :=
  ⟨lists_1, trivial, launch0.admits_env _ _ _, launch0.least_env, fairChoices_fair.cas, fairChoices_fair.clock, w_frames, w_args, w_heap, w_applies, trivial, trivial, w_case⟩
end start1
theorem witness_1 : WitnessClaimed_1 := ⟨start1.p0, start1.e0, start1.about1, start1.theMethod, start1.args0, start1.below0, start1.atStart⟩
end Jvm.Pilot.@@N@@

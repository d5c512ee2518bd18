import JvmDerived
import JvmDerived.Pilot.@@N@@Statement
import JvmDerived.Pilot.@@N@@Code
set_option linter.unusedVariables false
set_option linter.unusedSimpArgs false
@@BLOCK:NumsL.lean.txt@@

namespace Jvm.OwnKit
open Sem ClassFile Op Lib Jvm.Stand Jvm.Free Jvm.LawKit Jvm.RoadKit
/-- where the run of one body stands: the heap h, cells and slots used at the most; nothing below n0 was written -/
def St (p : Program) (l : Launch) (e : Env) (R : Room) (s : State) (m : MethodId) (args : Array Value) (below : List Frame) (meth : Method) (c : Code) (Z : State) (code : ByteArray) (own : String) (ret : Option FieldType) (ml : Nat) (nm : String) (n0 : Nat) (T : State) (h : Heap) (cells slots : Nat) : Prop :=
  ∃ locs, Stand p l e R s m args below meth c T locs cells slots ∧ p.tables.exec = Jvm.exec ∧ Z.Warmed39 s.vm ∧ c.code = code ∧ s.vm.findClass own = some m.cls ∧ meth.sig.returnType = ret ∧ c.maxLocals = ml ∧ meth.name = nm ∧ meth.locks = false ∧ T.heap = h ∧ Fr n0 locs ∧ n0 ≤ s.heap.size
/-- the run from T with the top frame f ends, and returns as Q says -/
def Ends (p : Program) (e : Env) (below : List Frame) (s : State) (n0 C S : Nat) (Q : Option Value → Heap → Prop) (T : State) (f : JFrame) : Prop :=
  ∃ s₂ o, Steps p.tables e below (T.setTop f) s₂ ∧ s₂.status = .running ∧ Ended s₂ below o ∧ ∃ v L, o = .returned v ∧ (Q v s₂.heap ∧ Fr n0 L) ∧ FrameEnd s o s₂ L C S
/-- the contract of a body: called with 'as' at the heap h it returns as Q says -/
def Con (l : Launch) (y : MethodName) (bytes : ByteArray) (maxL : Nat) (ret : Option FieldType) (rm : Room) (C S : Nat) (Z : State) (n0 : Nat) (as : Array Value) (h : Heap) (Q : Option Value → Heap → Prop) : Prop :=
  ∀ ws, MetFree l y (head1 (Cond.code y bytes maxL ret :: ws) rm) (fun a U => a = as ∧ Z.Warmed39 U.vm ∧ U.heap = h) (fun _ _ _ _ _ => True) (fun _ U o U' => ∃ v L, o = .returned v ∧ (Q v U'.heap ∧ Fr n0 L) ∧ FrameEnd U o U' L C S)
theorem Ends.by {p : Program} {e : Env} {below : List Frame} {s : State} {n0 C S : Nat} {Q : Option Value → Heap → Prop} {T T' : State} {f f' : JFrame} (st : ∀ target, Steps p.tables e below (T'.setTop f') target → Steps p.tables e below (T.setTop f) target) (k : Ends p e below s n0 C S Q T' f') : Ends p e below s n0 C S Q T f := by
  obtain ⟨s₂, o, h1, r⟩ := k
  exact ⟨s₂, o, st _ h1, r⟩
theorem Con.body {l : Launch} {y : MethodName} {bytes : ByteArray} {maxL : Nat} {ret : Option FieldType} {rm : Room} {C S : Nat} {Z : State} {n0 : Nat} {as : Array Value} {h : Heap} {Q : Option Value → Heap → Prop} {own nm : String} (ho : y.cls = own) (hnm0 : y.name = nm) (hpl : plainFor y = true) (hn : n0 ≤ h.size)
    (B : ∀ (p : Program) (e : Env) (s : State) (m : MethodId) (below : List Frame) (meth : Method) (c : Code) (T : State), St p l e rm s m as below meth c Z bytes own ret maxL nm n0 T h 0 0 → Ends p e below s n0 C S Q T (entryFrame m as maxL)) : Con l y bytes maxL ret rm C S Z n0 as h Q := by
  subst ho hnm0
  intro ws
  refine MetFree.of_bodySF hpl hisR ?_
  intro p e s m args below meth c s₁ Bd hml0 hP hK
  obtain ⟨rfl, hZ, hh⟩ := hP
  have hnm := (name_of_methodNamed Bd.named Bd.method).1
  exact B p e s m below meth c s₁ ⟨[], Stand.of_body Bd, Bd.exec, hZ, Bd.bytes, findClass_of_methodNamed Bd.named, Bd.returns, hml0, hnm, Bd.notSynchronized, by rw [← hh, Bd.state]; rfl, Fr.nil n0, hh ▸ hn⟩

/-! plain facts on numbers -/
theorem own_len32 {n : Nat} (h : n < 2147483648) : n.toInt32.toNatClampNeg = n := by
  have e1 : (n.toInt32).toInt = n := len_toInt (by omega)
  simp only [Int32.toNatClampNeg, e1]; omega
theorem own_ofNat {n : Nat} (h : n < 2147483648) : (Int32.ofNat n).toInt = n := Int32.toInt_ofNat_of_lt (by omega)
theorem own_natOf {x : Int32} (h : 0 ≤ x.toInt) : x = Int32.ofNat x.toInt.toNat := by
  have r := rng32 x
  apply Int32.toInt_inj.mp
  rw [own_ofNat (by omega)]; omega
theorem own_maskN (x m : Int32) (k : Nat) (hk : k < 32) (hm : m.toBitVec.toNat = 2 ^ k - 1) : ∃ n : Nat, n < 2 ^ k ∧ (x &&& m) = Int32.ofNat n := by
  have e := Jvm.Kit.i32_mask x m (k := k) hk hm
  have p : (0 : Int) < 2 ^ k := Int.pow_pos (by decide)
  have a := Int.emod_nonneg x.toInt (Int.ne_of_gt p)
  have b := Int.emod_lt_of_pos x.toInt p
  refine ⟨(x &&& m).toInt.toNat, ?_, own_natOf (by omega)⟩
  rw [e]
  have c : ((x.toInt % 2 ^ k).toNat : Int) < ((2 ^ k : Nat) : Int) := by rw [Int.toNat_of_nonneg a]; simpa using b
  exact_mod_cast c
theorem own_rem (x m : Int32) (q : Nat) (hm : m.toInt = q) (h1 : 0 < q) : ∃ n : Nat, n < q ∧ (x &&& 2147483647) % m = Int32.ofNat n := by
  have e := Jvm.Kit.i32_mask x 2147483647 (k := 31) (by decide) (by decide)
  have p : 0 ≤ (x &&& 2147483647).toInt := by omega
  have e2 := Jvm.Kit.i32_rem_nonneg (y := m) p
  have hp : (0 : Int) < m.toInt := by omega
  have a := Int.emod_nonneg (x &&& 2147483647).toInt (Int.ne_of_gt hp)
  have b := Int.emod_lt_of_pos (x &&& 2147483647).toInt hp
  exact ⟨((x &&& 2147483647) % m).toInt.toNat, by omega, own_natOf (by omega)⟩
theorem own_m3 {x z : Int32} (h : x &&& (3 : Int32) = z) : z = 0 ∨ z = 1 ∨ z = 2 ∨ z = 3 := by
  obtain ⟨n, hn, e⟩ := own_maskN x 3 2 (by decide) (by decide)
  rw [← h, e]
  have : ∀ i : Fin 4, Int32.ofNat i = 0 ∨ Int32.ofNat i = 1 ∨ Int32.ofNat i = 2 ∨ Int32.ofNat i = 3 := by decide +kernel
  exact this ⟨n, hn⟩
theorem own_m1 {x z : Int32} (h : x &&& (1 : Int32) = z) : z = 0 ∨ z = 1 := by
  obtain ⟨n, hn, e⟩ := own_maskN x 1 1 (by decide) (by decide)
  rw [← h, e]
  have : ∀ i : Fin 2, Int32.ofNat i = 0 ∨ Int32.ofNat i = 1 := by decide +kernel
  exact this ⟨n, hn⟩
section Laws
variable {p : Program} {l : Launch} {e : Env} {R : Room} {s : State} {m : MethodId} {args : Array Value} {below : List Frame} {meth : Method} {c : Code} {Z : State} {code : ByteArray} {own : String} {ret : Option FieldType} {ml : Nat} {nm : String} {n0 : Nat} {T : State} {h : Heap} {cells slots : Nat} {C S : Nat} {Q : Option Value → Heap → Prop} {pc pc' : Nat} {Ls : Array Slot} {stk : List Value}
theorem St.more (X : St p l e R s m args below meth c Z code own ret ml nm n0 T h cells slots) {cells' slots' : Nat} (h1 : cells ≤ cells') (h2 : slots ≤ slots') : St p l e R s m args below meth c Z code own ret ml nm n0 T h cells' slots' := by
  obtain ⟨locs, Y, r⟩ := X
  exact ⟨locs, Y.more h1 h2, r⟩
theorem St.size (X : St p l e R s m args below meth c Z code own ret ml nm n0 T h cells slots) : n0 ≤ h.size := by
  obtain ⟨locs, Y, hx, hZ, hc, ho, hr, hm, hn, hk, rfl, hF, h0⟩ := X
  exact Nat.le_trans h0 (Y.same.2.1 : s.heap.size ≤ T.heap.size)

theorem F_iloadN (X : St p l e R s m args below meth c Z code own ret ml nm n0 T h cells slots) {k : Fin 4} {v : Int32} (hd : decode code pc = .ok (.iload_n k, 1)) (hl : Ls[k.val]? = some (.val (.int v))) (hp : pc + 1 = pc') (k : Ends p e below s n0 C S Q T (mkF m pc' Ls (.int v :: stk))) : Ends p e below s n0 C S Q T (mkF m pc Ls stk) := by
  obtain ⟨locs, Y, hx, hZ, hc, ho, hr, hm, hn, hk, hh, hF, h0⟩ := X
  subst hp
  exact k.by fun _ kt => XS.iloadN Y.here hx rfl (hb hc hd) hl kt
theorem F_iload (X : St p l e R s m args below meth c Z code own ret ml nm n0 T h cells slots) {k : Nat} {v : Int32} (hd : decode code pc = .ok (.iload k, 2)) (hl : Ls[k]? = some (.val (.int v))) (hp : pc + 2 = pc') (k : Ends p e below s n0 C S Q T (mkF m pc' Ls (.int v :: stk))) : Ends p e below s n0 C S Q T (mkF m pc Ls stk) := by
  obtain ⟨locs, Y, hx, hZ, hc, ho, hr, hm, hn, hk, hh, hF, h0⟩ := X
  subst hp
  exact k.by fun _ kt => XS.iload Y.here hx rfl (hb hc hd) hl kt
theorem F_istoreN (X : St p l e R s m args below meth c Z code own ret ml nm n0 T h cells slots) {k : Fin 4} {v : Int32} {Ls' : Array Slot} (hd : decode code pc = .ok (.istore_n k, 1)) (hl : storeLocals Ls k.val (.int v) = some Ls') (hp : pc + 1 = pc') (k : Ends p e below s n0 C S Q T (mkF m pc' Ls' stk)) : Ends p e below s n0 C S Q T (mkF m pc Ls (.int v :: stk)) := by
  obtain ⟨locs, Y, hx, hZ, hc, ho, hr, hm, hn, hk, hh, hF, h0⟩ := X
  subst hp
  exact k.by fun _ kt => XS.istoreN Y.here hx rfl (hb hc hd) rfl hl kt
theorem F_istore (X : St p l e R s m args below meth c Z code own ret ml nm n0 T h cells slots) {k : Nat} {v : Int32} {Ls' : Array Slot} (hd : decode code pc = .ok (.istore k, 2)) (hl : storeLocals Ls k (.int v) = some Ls') (hp : pc + 2 = pc') (k : Ends p e below s n0 C S Q T (mkF m pc' Ls' stk)) : Ends p e below s n0 C S Q T (mkF m pc Ls (.int v :: stk)) := by
  obtain ⟨locs, Y, hx, hZ, hc, ho, hr, hm, hn, hk, hh, hF, h0⟩ := X
  subst hp
  exact k.by fun _ kt => XS.istore Y.here hx rfl (hb hc hd) rfl hl kt
theorem F_lloadN (X : St p l e R s m args below meth c Z code own ret ml nm n0 T h cells slots) {k : Fin 4} {v : Int64} (hd : decode code pc = .ok (.lload_n k, 1)) (hl : Ls[k.val]? = some (.val (.long v))) (hp : pc + 1 = pc') (k : Ends p e below s n0 C S Q T (mkF m pc' Ls (.long v :: stk))) : Ends p e below s n0 C S Q T (mkF m pc Ls stk) := by
  obtain ⟨locs, Y, hx, hZ, hc, ho, hr, hm, hn, hk, hh, hF, h0⟩ := X
  subst hp
  exact k.by fun _ kt => XS.lloadN Y.here hx rfl (hb hc hd) hl kt
theorem F_lload (X : St p l e R s m args below meth c Z code own ret ml nm n0 T h cells slots) {k : Nat} {v : Int64} (hd : decode code pc = .ok (.lload k, 2)) (hl : Ls[k]? = some (.val (.long v))) (hp : pc + 2 = pc') (k : Ends p e below s n0 C S Q T (mkF m pc' Ls (.long v :: stk))) : Ends p e below s n0 C S Q T (mkF m pc Ls stk) := by
  obtain ⟨locs, Y, hx, hZ, hc, ho, hr, hm, hn, hk, hh, hF, h0⟩ := X
  subst hp
  exact k.by fun _ kt => XS.lload Y.here hx rfl (hb hc hd) hl kt
theorem F_lstoreN (X : St p l e R s m args below meth c Z code own ret ml nm n0 T h cells slots) {k : Fin 4} {v : Int64} {Ls' : Array Slot} (hd : decode code pc = .ok (.lstore_n k, 1)) (hl : storeLocals Ls k.val (.long v) = some Ls') (hp : pc + 1 = pc') (k : Ends p e below s n0 C S Q T (mkF m pc' Ls' stk)) : Ends p e below s n0 C S Q T (mkF m pc Ls (.long v :: stk)) := by
  obtain ⟨locs, Y, hx, hZ, hc, ho, hr, hm, hn, hk, hh, hF, h0⟩ := X
  subst hp
  exact k.by fun _ kt => XS.lstoreN Y.here hx rfl (hb hc hd) rfl hl kt
theorem F_lstore (X : St p l e R s m args below meth c Z code own ret ml nm n0 T h cells slots) {k : Nat} {v : Int64} {Ls' : Array Slot} (hd : decode code pc = .ok (.lstore k, 2)) (hl : storeLocals Ls k (.long v) = some Ls') (hp : pc + 2 = pc') (k : Ends p e below s n0 C S Q T (mkF m pc' Ls' stk)) : Ends p e below s n0 C S Q T (mkF m pc Ls (.long v :: stk)) := by
  obtain ⟨locs, Y, hx, hZ, hc, ho, hr, hm, hn, hk, hh, hF, h0⟩ := X
  subst hp
  exact k.by fun _ kt => XS.lstore Y.here hx rfl (hb hc hd) rfl hl kt
theorem F_aloadN (X : St p l e R s m args below meth c Z code own ret ml nm n0 T h cells slots) {k : Fin 4} {v : Value} (hd : decode code pc = .ok (.aload_n k, 1)) (hl : Ls[k.val]? = some (.val v)) (hv : v.isRef = true) (hp : pc + 1 = pc') (k : Ends p e below s n0 C S Q T (mkF m pc' Ls (v :: stk))) : Ends p e below s n0 C S Q T (mkF m pc Ls stk) := by
  obtain ⟨locs, Y, hx, hZ, hc, ho, hr, hm, hn, hk, hh, hF, h0⟩ := X
  subst hp
  exact k.by fun _ kt => XS.aloadN Y.here hx rfl (hb hc hd) hl hv kt
theorem F_aload (X : St p l e R s m args below meth c Z code own ret ml nm n0 T h cells slots) {k : Nat} {v : Value} (hd : decode code pc = .ok (.aload k, 2)) (hl : Ls[k]? = some (.val v)) (hv : v.isRef = true) (hp : pc + 2 = pc') (k : Ends p e below s n0 C S Q T (mkF m pc' Ls (v :: stk))) : Ends p e below s n0 C S Q T (mkF m pc Ls stk) := by
  obtain ⟨locs, Y, hx, hZ, hc, ho, hr, hm, hn, hk, hh, hF, h0⟩ := X
  subst hp
  exact k.by fun _ kt => XS.aload Y.here hx rfl (hb hc hd) hl hv kt
theorem F_astoreN (X : St p l e R s m args below meth c Z code own ret ml nm n0 T h cells slots) {k : Fin 4} {v : Value} {Ls' : Array Slot} (hd : decode code pc = .ok (.astore_n k, 1)) (hv : v.isRef = true) (hl : storeLocals Ls k.val v = some Ls') (hp : pc + 1 = pc') (k : Ends p e below s n0 C S Q T (mkF m pc' Ls' stk)) : Ends p e below s n0 C S Q T (mkF m pc Ls (v :: stk)) := by
  obtain ⟨locs, Y, hx, hZ, hc, ho, hr, hm, hn, hk, hh, hF, h0⟩ := X
  subst hp
  exact k.by fun _ kt => XS.astoreN Y.here hx rfl (hb hc hd) rfl hv hl kt
theorem F_astore (X : St p l e R s m args below meth c Z code own ret ml nm n0 T h cells slots) {k : Nat} {v : Value} {Ls' : Array Slot} (hd : decode code pc = .ok (.astore k, 2)) (hv : v.isRef = true) (hl : storeLocals Ls k v = some Ls') (hp : pc + 2 = pc') (k : Ends p e below s n0 C S Q T (mkF m pc' Ls' stk)) : Ends p e below s n0 C S Q T (mkF m pc Ls (v :: stk)) := by
  obtain ⟨locs, Y, hx, hZ, hc, ho, hr, hm, hn, hk, hh, hF, h0⟩ := X
  subst hp
  exact k.by fun _ kt => XS.astore Y.here hx rfl (hb hc hd) rfl hv hl kt
theorem F_iconst (X : St p l e R s m args below meth c Z code own ret ml nm n0 T h cells slots) {i : Int} {z : Int32} (hd : decode code pc = .ok (.iconst i, 1)) (hz : Int32.ofInt i = z) (hp : pc + 1 = pc') (k : Ends p e below s n0 C S Q T (mkF m pc' Ls (.int z :: stk))) : Ends p e below s n0 C S Q T (mkF m pc Ls stk) := by
  obtain ⟨locs, Y, hx, hZ, hc, ho, hr, hm, hn, hk, hh, hF, h0⟩ := X
  subst hp
  exact k.by fun _ kt => XS.iconst Y.here hx rfl (hb hc hd) (hz ▸ kt)
theorem F_bipush (X : St p l e R s m args below meth c Z code own ret ml nm n0 T h cells slots) {i : Int} {z : Int32} (hd : decode code pc = .ok (.bipush i, 2)) (hz : (Int8.ofInt i).toInt32 = z) (hp : pc + 2 = pc') (k : Ends p e below s n0 C S Q T (mkF m pc' Ls (.int z :: stk))) : Ends p e below s n0 C S Q T (mkF m pc Ls stk) := by
  obtain ⟨locs, Y, hx, hZ, hc, ho, hr, hm, hn, hk, hh, hF, h0⟩ := X
  subst hp
  exact k.by fun _ kt => XS.bipush Y.here hx rfl (hb hc hd) (hz ▸ kt)
theorem F_sipush (X : St p l e R s m args below meth c Z code own ret ml nm n0 T h cells slots) {i : Int} {z : Int32} (hd : decode code pc = .ok (.sipush i, 3)) (hz : (Int16.ofInt i).toInt32 = z) (hp : pc + 3 = pc') (k : Ends p e below s n0 C S Q T (mkF m pc' Ls (.int z :: stk))) : Ends p e below s n0 C S Q T (mkF m pc Ls stk) := by
  obtain ⟨locs, Y, hx, hZ, hc, ho, hr, hm, hn, hk, hh, hF, h0⟩ := X
  subst hp
  exact k.by fun _ kt => XS.sipush Y.here hx rfl (hb hc hd) (hz ▸ kt)
theorem F_lconst (X : St p l e R s m args below meth c Z code own ret ml nm n0 T h cells slots) {i : Fin 2} {z : Int64} (hd : decode code pc = .ok (.lconst i, 1)) (hz : Int64.ofNat i = z) (hp : pc + 1 = pc') (k : Ends p e below s n0 C S Q T (mkF m pc' Ls (.long z :: stk))) : Ends p e below s n0 C S Q T (mkF m pc Ls stk) := by
  obtain ⟨locs, Y, hx, hZ, hc, ho, hr, hm, hn, hk, hh, hF, h0⟩ := X
  subst hp
  exact k.by fun _ kt => XS.lconst Y.here hx rfl (hb hc hd) (hz ▸ kt)
theorem F_aconst_null (X : St p l e R s m args below meth c Z code own ret ml nm n0 T h cells slots)  (hd : decode code pc = .ok (.aconst_null, 1)) (hp : pc + 1 = pc') (k : Ends p e below s n0 C S Q T (mkF m pc' Ls (.null :: stk))) : Ends p e below s n0 C S Q T (mkF m pc Ls stk) := by
  obtain ⟨locs, Y, hx, hZ, hc, ho, hr, hm, hn, hk, hh, hF, h0⟩ := X
  subst hp
  exact k.by fun _ kt => XS.aconstNull Y.here hx rfl (hb hc hd) kt
theorem F_iadd (X : St p l e R s m args below meth c Z code own ret ml nm n0 T h cells slots) {x y z : Int32} (hd : decode code pc = .ok (.iadd, 1)) (hz : x + y = z) (hp : pc + 1 = pc') (k : Ends p e below s n0 C S Q T (mkF m pc' Ls (.int z :: stk))) : Ends p e below s n0 C S Q T (mkF m pc Ls (.int y :: .int x :: stk)) := by
  obtain ⟨locs, Y, hx, hZ, hc, ho, hr, hm, hn, hk, hh, hF, h0⟩ := X
  subst hp
  exact k.by fun _ kt => XS.iadd Y.here hx rfl (hb hc hd) rfl (hz ▸ kt)
theorem F_isub (X : St p l e R s m args below meth c Z code own ret ml nm n0 T h cells slots) {x y z : Int32} (hd : decode code pc = .ok (.isub, 1)) (hz : x - y = z) (hp : pc + 1 = pc') (k : Ends p e below s n0 C S Q T (mkF m pc' Ls (.int z :: stk))) : Ends p e below s n0 C S Q T (mkF m pc Ls (.int y :: .int x :: stk)) := by
  obtain ⟨locs, Y, hx, hZ, hc, ho, hr, hm, hn, hk, hh, hF, h0⟩ := X
  subst hp
  exact k.by fun _ kt => XS.isub Y.here hx rfl (hb hc hd) rfl (hz ▸ kt)
theorem F_imul (X : St p l e R s m args below meth c Z code own ret ml nm n0 T h cells slots) {x y z : Int32} (hd : decode code pc = .ok (.imul, 1)) (hz : x * y = z) (hp : pc + 1 = pc') (k : Ends p e below s n0 C S Q T (mkF m pc' Ls (.int z :: stk))) : Ends p e below s n0 C S Q T (mkF m pc Ls (.int y :: .int x :: stk)) := by
  obtain ⟨locs, Y, hx, hZ, hc, ho, hr, hm, hn, hk, hh, hF, h0⟩ := X
  subst hp
  exact k.by fun _ kt => XS.imul Y.here hx rfl (hb hc hd) rfl (hz ▸ kt)
theorem F_iand (X : St p l e R s m args below meth c Z code own ret ml nm n0 T h cells slots) {x y z : Int32} (hd : decode code pc = .ok (.iand, 1)) (hz : x &&& y = z) (hp : pc + 1 = pc') (k : Ends p e below s n0 C S Q T (mkF m pc' Ls (.int z :: stk))) : Ends p e below s n0 C S Q T (mkF m pc Ls (.int y :: .int x :: stk)) := by
  obtain ⟨locs, Y, hx, hZ, hc, ho, hr, hm, hn, hk, hh, hF, h0⟩ := X
  subst hp
  exact k.by fun _ kt => XS.iand Y.here hx rfl (hb hc hd) rfl (hz ▸ kt)
theorem F_ior (X : St p l e R s m args below meth c Z code own ret ml nm n0 T h cells slots) {x y z : Int32} (hd : decode code pc = .ok (.ior, 1)) (hz : x ||| y = z) (hp : pc + 1 = pc') (k : Ends p e below s n0 C S Q T (mkF m pc' Ls (.int z :: stk))) : Ends p e below s n0 C S Q T (mkF m pc Ls (.int y :: .int x :: stk)) := by
  obtain ⟨locs, Y, hx, hZ, hc, ho, hr, hm, hn, hk, hh, hF, h0⟩ := X
  subst hp
  exact k.by fun _ kt => XS.ior Y.here hx rfl (hb hc hd) rfl (hz ▸ kt)
theorem F_ixor (X : St p l e R s m args below meth c Z code own ret ml nm n0 T h cells slots) {x y z : Int32} (hd : decode code pc = .ok (.ixor, 1)) (hz : x ^^^ y = z) (hp : pc + 1 = pc') (k : Ends p e below s n0 C S Q T (mkF m pc' Ls (.int z :: stk))) : Ends p e below s n0 C S Q T (mkF m pc Ls (.int y :: .int x :: stk)) := by
  obtain ⟨locs, Y, hx, hZ, hc, ho, hr, hm, hn, hk, hh, hF, h0⟩ := X
  subst hp
  exact k.by fun _ kt => XS.ixor Y.here hx rfl (hb hc hd) rfl (hz ▸ kt)
theorem F_ishl (X : St p l e R s m args below meth c Z code own ret ml nm n0 T h cells slots) {x y z : Int32} (hd : decode code pc = .ok (.ishl, 1)) (hz : x <<< (y &&& 31) = z) (hp : pc + 1 = pc') (k : Ends p e below s n0 C S Q T (mkF m pc' Ls (.int z :: stk))) : Ends p e below s n0 C S Q T (mkF m pc Ls (.int y :: .int x :: stk)) := by
  obtain ⟨locs, Y, hx, hZ, hc, ho, hr, hm, hn, hk, hh, hF, h0⟩ := X
  subst hp
  exact k.by fun _ kt => XS.ishl Y.here hx rfl (hb hc hd) rfl (hz ▸ kt)
theorem F_ishr (X : St p l e R s m args below meth c Z code own ret ml nm n0 T h cells slots) {x y z : Int32} (hd : decode code pc = .ok (.ishr, 1)) (hz : x >>> (y &&& 31) = z) (hp : pc + 1 = pc') (k : Ends p e below s n0 C S Q T (mkF m pc' Ls (.int z :: stk))) : Ends p e below s n0 C S Q T (mkF m pc Ls (.int y :: .int x :: stk)) := by
  obtain ⟨locs, Y, hx, hZ, hc, ho, hr, hm, hn, hk, hh, hF, h0⟩ := X
  subst hp
  exact k.by fun _ kt => XS.ishr Y.here hx rfl (hb hc hd) rfl (hz ▸ kt)
theorem F_iushr (X : St p l e R s m args below meth c Z code own ret ml nm n0 T h cells slots) {x y z : Int32} (hd : decode code pc = .ok (.iushr, 1)) (hz : (x.toUInt32 >>> (y &&& 31).toUInt32).toInt32 = z) (hp : pc + 1 = pc') (k : Ends p e below s n0 C S Q T (mkF m pc' Ls (.int z :: stk))) : Ends p e below s n0 C S Q T (mkF m pc Ls (.int y :: .int x :: stk)) := by
  obtain ⟨locs, Y, hx, hZ, hc, ho, hr, hm, hn, hk, hh, hF, h0⟩ := X
  subst hp
  exact k.by fun _ kt => XS.iushr Y.here hx rfl (hb hc hd) rfl (hz ▸ kt)
theorem F_idiv (X : St p l e R s m args below meth c Z code own ret ml nm n0 T h cells slots) {x y z : Int32} (hd : decode code pc = .ok (.idiv, 1)) (hy : y ≠ 0) (hz : x / y = z) (hp : pc + 1 = pc') (k : Ends p e below s n0 C S Q T (mkF m pc' Ls (.int z :: stk))) : Ends p e below s n0 C S Q T (mkF m pc Ls (.int y :: .int x :: stk)) := by
  obtain ⟨locs, Y, hx, hZ, hc, ho, hr, hm, hn, hk, hh, hF, h0⟩ := X
  subst hp
  exact k.by fun _ kt => XS.idiv Y.here hx rfl (hb hc hd) rfl hy (hz ▸ kt)
theorem F_irem (X : St p l e R s m args below meth c Z code own ret ml nm n0 T h cells slots) {x y z : Int32} (hd : decode code pc = .ok (.irem, 1)) (hy : y ≠ 0) (hz : x % y = z) (hp : pc + 1 = pc') (k : Ends p e below s n0 C S Q T (mkF m pc' Ls (.int z :: stk))) : Ends p e below s n0 C S Q T (mkF m pc Ls (.int y :: .int x :: stk)) := by
  obtain ⟨locs, Y, hx, hZ, hc, ho, hr, hm, hn, hk, hh, hF, h0⟩ := X
  subst hp
  exact k.by fun _ kt => iremM Y hx rfl (hb hc hd) rfl hy (hz ▸ kt)
theorem F_ineg (X : St p l e R s m args below meth c Z code own ret ml nm n0 T h cells slots) {x z : Int32} (hd : decode code pc = .ok (.ineg, 1)) (hz : -x = z) (hp : pc + 1 = pc') (k : Ends p e below s n0 C S Q T (mkF m pc' Ls (.int z :: stk))) : Ends p e below s n0 C S Q T (mkF m pc Ls (.int x :: stk)) := by
  obtain ⟨locs, Y, hx, hZ, hc, ho, hr, hm, hn, hk, hh, hF, h0⟩ := X
  subst hp
  exact k.by fun _ kt => XS.ineg Y.here hx rfl (hb hc hd) rfl (hz ▸ kt)
theorem F_ladd (X : St p l e R s m args below meth c Z code own ret ml nm n0 T h cells slots) {x y z : Int64} (hd : decode code pc = .ok (.ladd, 1)) (hz : x + y = z) (hp : pc + 1 = pc') (k : Ends p e below s n0 C S Q T (mkF m pc' Ls (.long z :: stk))) : Ends p e below s n0 C S Q T (mkF m pc Ls (.long y :: .long x :: stk)) := by
  obtain ⟨locs, Y, hx, hZ, hc, ho, hr, hm, hn, hk, hh, hF, h0⟩ := X
  subst hp
  exact k.by fun _ kt => XS.ladd Y.here hx rfl (hb hc hd) rfl (hz ▸ kt)
theorem F_lsub (X : St p l e R s m args below meth c Z code own ret ml nm n0 T h cells slots) {x y z : Int64} (hd : decode code pc = .ok (.lsub, 1)) (hz : x - y = z) (hp : pc + 1 = pc') (k : Ends p e below s n0 C S Q T (mkF m pc' Ls (.long z :: stk))) : Ends p e below s n0 C S Q T (mkF m pc Ls (.long y :: .long x :: stk)) := by
  obtain ⟨locs, Y, hx, hZ, hc, ho, hr, hm, hn, hk, hh, hF, h0⟩ := X
  subst hp
  exact k.by fun _ kt => XS.lsub Y.here hx rfl (hb hc hd) rfl (hz ▸ kt)
theorem F_lmul (X : St p l e R s m args below meth c Z code own ret ml nm n0 T h cells slots) {x y z : Int64} (hd : decode code pc = .ok (.lmul, 1)) (hz : x * y = z) (hp : pc + 1 = pc') (k : Ends p e below s n0 C S Q T (mkF m pc' Ls (.long z :: stk))) : Ends p e below s n0 C S Q T (mkF m pc Ls (.long y :: .long x :: stk)) := by
  obtain ⟨locs, Y, hx, hZ, hc, ho, hr, hm, hn, hk, hh, hF, h0⟩ := X
  subst hp
  exact k.by fun _ kt => XS.lmul Y.here hx rfl (hb hc hd) rfl (hz ▸ kt)
theorem F_land (X : St p l e R s m args below meth c Z code own ret ml nm n0 T h cells slots) {x y z : Int64} (hd : decode code pc = .ok (.land, 1)) (hz : x &&& y = z) (hp : pc + 1 = pc') (k : Ends p e below s n0 C S Q T (mkF m pc' Ls (.long z :: stk))) : Ends p e below s n0 C S Q T (mkF m pc Ls (.long y :: .long x :: stk)) := by
  obtain ⟨locs, Y, hx, hZ, hc, ho, hr, hm, hn, hk, hh, hF, h0⟩ := X
  subst hp
  exact k.by fun _ kt => XS.land Y.here hx rfl (hb hc hd) rfl (hz ▸ kt)
theorem F_lor (X : St p l e R s m args below meth c Z code own ret ml nm n0 T h cells slots) {x y z : Int64} (hd : decode code pc = .ok (.lor, 1)) (hz : x ||| y = z) (hp : pc + 1 = pc') (k : Ends p e below s n0 C S Q T (mkF m pc' Ls (.long z :: stk))) : Ends p e below s n0 C S Q T (mkF m pc Ls (.long y :: .long x :: stk)) := by
  obtain ⟨locs, Y, hx, hZ, hc, ho, hr, hm, hn, hk, hh, hF, h0⟩ := X
  subst hp
  exact k.by fun _ kt => XS.lor Y.here hx rfl (hb hc hd) rfl (hz ▸ kt)
theorem F_lxor (X : St p l e R s m args below meth c Z code own ret ml nm n0 T h cells slots) {x y z : Int64} (hd : decode code pc = .ok (.lxor, 1)) (hz : x ^^^ y = z) (hp : pc + 1 = pc') (k : Ends p e below s n0 C S Q T (mkF m pc' Ls (.long z :: stk))) : Ends p e below s n0 C S Q T (mkF m pc Ls (.long y :: .long x :: stk)) := by
  obtain ⟨locs, Y, hx, hZ, hc, ho, hr, hm, hn, hk, hh, hF, h0⟩ := X
  subst hp
  exact k.by fun _ kt => XS.lxor Y.here hx rfl (hb hc hd) rfl (hz ▸ kt)
theorem F_lshl (X : St p l e R s m args below meth c Z code own ret ml nm n0 T h cells slots) {x z : Int64} {y : Int32} (hd : decode code pc = .ok (.lshl, 1)) (hz : x <<< (y &&& 0x3f).toInt64 = z) (hp : pc + 1 = pc') (k : Ends p e below s n0 C S Q T (mkF m pc' Ls (.long z :: stk))) : Ends p e below s n0 C S Q T (mkF m pc Ls (.int y :: .long x :: stk)) := by
  obtain ⟨locs, Y, hx, hZ, hc, ho, hr, hm, hn, hk, hh, hF, h0⟩ := X
  subst hp
  exact k.by fun _ kt => XS.lshl Y.here hx rfl (hb hc hd) rfl (hz ▸ kt)
theorem F_lshr (X : St p l e R s m args below meth c Z code own ret ml nm n0 T h cells slots) {x z : Int64} {y : Int32} (hd : decode code pc = .ok (.lshr, 1)) (hz : x >>> (y &&& 0x3f).toInt64 = z) (hp : pc + 1 = pc') (k : Ends p e below s n0 C S Q T (mkF m pc' Ls (.long z :: stk))) : Ends p e below s n0 C S Q T (mkF m pc Ls (.int y :: .long x :: stk)) := by
  obtain ⟨locs, Y, hx, hZ, hc, ho, hr, hm, hn, hk, hh, hF, h0⟩ := X
  subst hp
  exact k.by fun _ kt => XS.lshr Y.here hx rfl (hb hc hd) rfl (hz ▸ kt)
theorem F_lushr (X : St p l e R s m args below meth c Z code own ret ml nm n0 T h cells slots) {x z : Int64} {y : Int32} (hd : decode code pc = .ok (.lushr, 1)) (hz : (x.toUInt64 >>> (y &&& 0x3f).toInt64.toUInt64).toInt64 = z) (hp : pc + 1 = pc') (k : Ends p e below s n0 C S Q T (mkF m pc' Ls (.long z :: stk))) : Ends p e below s n0 C S Q T (mkF m pc Ls (.int y :: .long x :: stk)) := by
  obtain ⟨locs, Y, hx, hZ, hc, ho, hr, hm, hn, hk, hh, hF, h0⟩ := X
  subst hp
  exact k.by fun _ kt => XS.lushr Y.here hx rfl (hb hc hd) rfl (hz ▸ kt)
theorem F_ldiv (X : St p l e R s m args below meth c Z code own ret ml nm n0 T h cells slots) {x y z : Int64} (hd : decode code pc = .ok (.ldiv, 1)) (hy : y ≠ 0) (hz : x / y = z) (hp : pc + 1 = pc') (k : Ends p e below s n0 C S Q T (mkF m pc' Ls (.long z :: stk))) : Ends p e below s n0 C S Q T (mkF m pc Ls (.long y :: .long x :: stk)) := by
  obtain ⟨locs, Y, hx, hZ, hc, ho, hr, hm, hn, hk, hh, hF, h0⟩ := X
  subst hp
  exact k.by fun _ kt => XS.ldiv Y.here hx rfl (hb hc hd) rfl hy (hz ▸ kt)
theorem F_lrem (X : St p l e R s m args below meth c Z code own ret ml nm n0 T h cells slots) {x y z : Int64} (hd : decode code pc = .ok (.lrem, 1)) (hy : y ≠ 0) (hz : x - (x / y) * y = z) (hp : pc + 1 = pc') (k : Ends p e below s n0 C S Q T (mkF m pc' Ls (.long z :: stk))) : Ends p e below s n0 C S Q T (mkF m pc Ls (.long y :: .long x :: stk)) := by
  obtain ⟨locs, Y, hx, hZ, hc, ho, hr, hm, hn, hk, hh, hF, h0⟩ := X
  subst hp
  exact k.by fun _ kt => XS.lrem Y.here hx rfl (hb hc hd) rfl hy (hz ▸ kt)
theorem F_i2l (X : St p l e R s m args below meth c Z code own ret ml nm n0 T h cells slots) {x : Int32} {z : Int64} (hd : decode code pc = .ok (.i2l, 1)) (hz : x.toInt64 = z) (hp : pc + 1 = pc') (k : Ends p e below s n0 C S Q T (mkF m pc' Ls (.long z :: stk))) : Ends p e below s n0 C S Q T (mkF m pc Ls (.int x :: stk)) := by
  obtain ⟨locs, Y, hx, hZ, hc, ho, hr, hm, hn, hk, hh, hF, h0⟩ := X
  subst hp
  exact k.by fun _ kt => XS.i2l Y.here hx rfl (hb hc hd) rfl (hz ▸ kt)
theorem F_l2i (X : St p l e R s m args below meth c Z code own ret ml nm n0 T h cells slots) {x : Int64} {z : Int32} (hd : decode code pc = .ok (.l2i, 1)) (hz : x.toInt32 = z) (hp : pc + 1 = pc') (k : Ends p e below s n0 C S Q T (mkF m pc' Ls (.int z :: stk))) : Ends p e below s n0 C S Q T (mkF m pc Ls (.long x :: stk)) := by
  obtain ⟨locs, Y, hx, hZ, hc, ho, hr, hm, hn, hk, hh, hF, h0⟩ := X
  subst hp
  exact k.by fun _ kt => XS.l2i Y.here hx rfl (hb hc hd) rfl (hz ▸ kt)
theorem F_i2b (X : St p l e R s m args below meth c Z code own ret ml nm n0 T h cells slots) {x : Int32} {z : Int32} (hd : decode code pc = .ok (.i2b, 1)) (hz : x.toInt8.toInt32 = z) (hp : pc + 1 = pc') (k : Ends p e below s n0 C S Q T (mkF m pc' Ls (.int z :: stk))) : Ends p e below s n0 C S Q T (mkF m pc Ls (.int x :: stk)) := by
  obtain ⟨locs, Y, hx, hZ, hc, ho, hr, hm, hn, hk, hh, hF, h0⟩ := X
  subst hp
  exact k.by fun _ kt => XS.i2b Y.here hx rfl (hb hc hd) rfl (hz ▸ kt)
theorem F_i2c (X : St p l e R s m args below meth c Z code own ret ml nm n0 T h cells slots) {x : Int32} {z : Int32} (hd : decode code pc = .ok (.i2c, 1)) (hz : x.toUInt32.toUInt16.toUInt32.toInt32 = z) (hp : pc + 1 = pc') (k : Ends p e below s n0 C S Q T (mkF m pc' Ls (.int z :: stk))) : Ends p e below s n0 C S Q T (mkF m pc Ls (.int x :: stk)) := by
  obtain ⟨locs, Y, hx, hZ, hc, ho, hr, hm, hn, hk, hh, hF, h0⟩ := X
  subst hp
  exact k.by fun _ kt => XS.i2c Y.here hx rfl (hb hc hd) rfl (hz ▸ kt)
theorem F_i2s (X : St p l e R s m args below meth c Z code own ret ml nm n0 T h cells slots) {x : Int32} {z : Int32} (hd : decode code pc = .ok (.i2s, 1)) (hz : x.toInt16.toInt32 = z) (hp : pc + 1 = pc') (k : Ends p e below s n0 C S Q T (mkF m pc' Ls (.int z :: stk))) : Ends p e below s n0 C S Q T (mkF m pc Ls (.int x :: stk)) := by
  obtain ⟨locs, Y, hx, hZ, hc, ho, hr, hm, hn, hk, hh, hF, h0⟩ := X
  subst hp
  exact k.by fun _ kt => XS.i2s Y.here hx rfl (hb hc hd) rfl (hz ▸ kt)
theorem F_iinc (X : St p l e R s m args below meth c Z code own ret ml nm n0 T h cells slots) {k : Nat} {i : Int} {v : Int32} {Ls' : Array Slot} (hd : decode code pc = .ok (.iinc k i, 3)) (hl : Ls[k]? = some (.val (.int v))) (hl' : storeLocals Ls k (.int (v + Int32.ofInt i)) = some Ls') (hp : pc + 3 = pc') (k : Ends p e below s n0 C S Q T (mkF m pc' Ls' stk)) : Ends p e below s n0 C S Q T (mkF m pc Ls stk) := by
  obtain ⟨locs, Y, hx, hZ, hc, ho, hr, hm, hn, hk, hh, hF, h0⟩ := X
  subst hp
  exact k.by fun _ kt => XS.iinc Y.here hx rfl (hb hc hd) hl hl' kt
theorem F_dup (X : St p l e R s m args below meth c Z code own ret ml nm n0 T h cells slots) {v : Value} (hd : decode code pc = .ok (.dup, 1)) (hv : v.category = 1) (hp : pc + 1 = pc') (k : Ends p e below s n0 C S Q T (mkF m pc' Ls (v :: v :: stk))) : Ends p e below s n0 C S Q T (mkF m pc Ls (v :: stk)) := by
  obtain ⟨locs, Y, hx, hZ, hc, ho, hr, hm, hn, hk, hh, hF, h0⟩ := X
  subst hp
  exact k.by fun _ kt => XS.dup Y.here hx rfl (hb hc hd) rfl hv kt
theorem F_dup_x1 (X : St p l e R s m args below meth c Z code own ret ml nm n0 T h cells slots) {v w : Value} (hd : decode code pc = .ok (.dup_x1, 1)) (hv : v.category = 1) (hw : w.category = 1) (hp : pc + 1 = pc') (k : Ends p e below s n0 C S Q T (mkF m pc' Ls (v :: w :: v :: stk))) : Ends p e below s n0 C S Q T (mkF m pc Ls (v :: w :: stk)) := by
  obtain ⟨locs, Y, hx, hZ, hc, ho, hr, hm, hn, hk, hh, hF, h0⟩ := X
  subst hp
  exact k.by fun _ kt => XS.dupX1 Y.here hx rfl (hb hc hd) rfl hv hw kt
theorem F_dup2 (X : St p l e R s m args below meth c Z code own ret ml nm n0 T h cells slots) {v w : Value} (hd : decode code pc = .ok (.dup2, 1)) (hv : v.category = 1) (hw : w.category = 1) (hp : pc + 1 = pc') (k : Ends p e below s n0 C S Q T (mkF m pc' Ls (v :: w :: v :: w :: stk))) : Ends p e below s n0 C S Q T (mkF m pc Ls (v :: w :: stk)) := by
  obtain ⟨locs, Y, hx, hZ, hc, ho, hr, hm, hn, hk, hh, hF, h0⟩ := X
  subst hp
  exact k.by fun _ kt => XT.dup2 Y.here hx rfl (hb hc hd) rfl hv hw kt
theorem F_pop (X : St p l e R s m args below meth c Z code own ret ml nm n0 T h cells slots) {v : Value} (hd : decode code pc = .ok (.pop, 1)) (hv : v.category = 1) (hp : pc + 1 = pc') (k : Ends p e below s n0 C S Q T (mkF m pc' Ls stk)) : Ends p e below s n0 C S Q T (mkF m pc Ls (v :: stk)) := by
  obtain ⟨locs, Y, hx, hZ, hc, ho, hr, hm, hn, hk, hh, hF, h0⟩ := X
  subst hp
  exact k.by fun _ kt => XS.pop Y.here hx rfl (hb hc hd) rfl hv kt
theorem F_lcmp (X : St p l e R s m args below meth c Z code own ret ml nm n0 T h cells slots) {x y : Int64} (hd : decode code pc = .ok (.lcmp, 1)) (hp : pc + 1 = pc') (k : Ends p e below s n0 C S Q T (mkF m pc' Ls (.int (lcmpW x y) :: stk))) : Ends p e below s n0 C S Q T (mkF m pc Ls (.long y :: .long x :: stk)) := by
  obtain ⟨locs, Y, hx, hZ, hc, ho, hr, hm, hn, hk, hh, hF, h0⟩ := X
  subst hp
  exact k.by fun _ kt => XS.lcmp Y.here hx rfl (hb hc hd) rfl kt
theorem F_goto (X : St p l e R s m args below meth c Z code own ret ml nm n0 T h cells slots) {o : Int} (hd : decode code pc = .ok (.goto o, 3)) (hof : 0 ≤ (pc : Int) + o) (hp : ((pc : Int) + o).toNat = pc') (k : Ends p e below s n0 C S Q T (mkF m pc' Ls stk)) : Ends p e below s n0 C S Q T (mkF m pc Ls stk) := by
  obtain ⟨locs, Y, hx, hZ, hc, ho, hr, hm, hn, hk, hh, hF, h0⟩ := X
  exact k.by fun _ kt => XS.goto Y.here hx rfl rfl (hb hc hd) hof hp kt
theorem F_icmp_lt (X : St p l e R s m args below meth c Z code own ret ml nm n0 T h cells slots) {x y : Int32} {o : Int} {pt : Nat} (hd : decode code pc = .ok (.if_icmp .lt o, 3)) (hof : 0 ≤ (pc : Int) + o) (hp : ((pc : Int) + o).toNat = pt) (hq : pc + 3 = pc') (kt : (x < y) → Ends p e below s n0 C S Q T (mkF m pt Ls stk)) (kf : ¬ (x < y) → Ends p e below s n0 C S Q T (mkF m pc' Ls stk)) : Ends p e below s n0 C S Q T (mkF m pc Ls (.int y :: .int x :: stk)) := by
  obtain ⟨locs, Y, hx, hZ, hc, ho, hr, hm, hn, hk, hh, hF, h0⟩ := X
  subst hq
  by_cases q : x < y
  · exact (kt q).by fun _ z => XS.icmpYes Y.here hx rfl rfl (hb hc hd) rfl (tlt q).1 hof hp z
  · exact (kf q).by fun _ z => XS.icmpNo Y.here hx rfl (hb hc hd) rfl (flt q).1 z
theorem F_if_lt (X : St p l e R s m args below meth c Z code own ret ml nm n0 T h cells slots) {x : Int32} {o : Int} {pt : Nat} (hd : decode code pc = .ok (.ifCond .lt o, 3)) (hof : 0 ≤ (pc : Int) + o) (hp : ((pc : Int) + o).toNat = pt) (hq : pc + 3 = pc') (kt : (x < 0) → Ends p e below s n0 C S Q T (mkF m pt Ls stk)) (kf : ¬ (x < 0) → Ends p e below s n0 C S Q T (mkF m pc' Ls stk)) : Ends p e below s n0 C S Q T (mkF m pc Ls (.int x :: stk)) := by
  obtain ⟨locs, Y, hx, hZ, hc, ho, hr, hm, hn, hk, hh, hF, h0⟩ := X
  subst hq
  by_cases q : x < 0
  · exact (kt q).by fun _ z => XS.ifYes Y.here hx rfl rfl (hb hc hd) rfl ((if0 _ _).trans (tlt q).1) hof hp z
  · exact (kf q).by fun _ z => XS.ifNo Y.here hx rfl (hb hc hd) rfl ((if0 _ _).trans (flt q).1) z
theorem F_lif_lt (X : St p l e R s m args below meth c Z code own ret ml nm n0 T h cells slots) {x y : Int64} {o : Int} {pt : Nat} (hd : decode code pc = .ok (.ifCond .lt o, 3)) (hof : 0 ≤ (pc : Int) + o) (hp : ((pc : Int) + o).toNat = pt) (hq : pc + 3 = pc') (kt : (x < y) → Ends p e below s n0 C S Q T (mkF m pt Ls stk)) (kf : ¬ (x < y) → Ends p e below s n0 C S Q T (mkF m pc' Ls stk)) : Ends p e below s n0 C S Q T (mkF m pc Ls (.int (lcmpW x y) :: stk)) := by
  obtain ⟨locs, Y, hx, hZ, hc, ho, hr, hm, hn, hk, hh, hF, h0⟩ := X
  subst hq
  by_cases q : x < y
  · exact (kt q).by fun _ z => XS.ifYes Y.here hx rfl rfl (hb hc hd) rfl ((if0 _ _).trans (tlt ((lw_lt _ _).mpr q)).1) hof hp z
  · exact (kf q).by fun _ z => XS.ifNo Y.here hx rfl (hb hc hd) rfl ((if0 _ _).trans (flt (fun z => q ((lw_lt _ _).mp z))).1) z
theorem F_icmp_ge (X : St p l e R s m args below meth c Z code own ret ml nm n0 T h cells slots) {x y : Int32} {o : Int} {pt : Nat} (hd : decode code pc = .ok (.if_icmp .ge o, 3)) (hof : 0 ≤ (pc : Int) + o) (hp : ((pc : Int) + o).toNat = pt) (hq : pc + 3 = pc') (kt : ¬ (x < y) → Ends p e below s n0 C S Q T (mkF m pt Ls stk)) (kf : (x < y) → Ends p e below s n0 C S Q T (mkF m pc' Ls stk)) : Ends p e below s n0 C S Q T (mkF m pc Ls (.int y :: .int x :: stk)) := by
  obtain ⟨locs, Y, hx, hZ, hc, ho, hr, hm, hn, hk, hh, hF, h0⟩ := X
  subst hq
  by_cases q : x < y
  · exact (kf q).by fun _ z => XS.icmpNo Y.here hx rfl (hb hc hd) rfl (tlt q).2.1 z
  · exact (kt q).by fun _ z => XS.icmpYes Y.here hx rfl rfl (hb hc hd) rfl (flt q).2.1 hof hp z
theorem F_if_ge (X : St p l e R s m args below meth c Z code own ret ml nm n0 T h cells slots) {x : Int32} {o : Int} {pt : Nat} (hd : decode code pc = .ok (.ifCond .ge o, 3)) (hof : 0 ≤ (pc : Int) + o) (hp : ((pc : Int) + o).toNat = pt) (hq : pc + 3 = pc') (kt : ¬ (x < 0) → Ends p e below s n0 C S Q T (mkF m pt Ls stk)) (kf : (x < 0) → Ends p e below s n0 C S Q T (mkF m pc' Ls stk)) : Ends p e below s n0 C S Q T (mkF m pc Ls (.int x :: stk)) := by
  obtain ⟨locs, Y, hx, hZ, hc, ho, hr, hm, hn, hk, hh, hF, h0⟩ := X
  subst hq
  by_cases q : x < 0
  · exact (kf q).by fun _ z => XS.ifNo Y.here hx rfl (hb hc hd) rfl ((if0 _ _).trans (tlt q).2.1) z
  · exact (kt q).by fun _ z => XS.ifYes Y.here hx rfl rfl (hb hc hd) rfl ((if0 _ _).trans (flt q).2.1) hof hp z
theorem F_lif_ge (X : St p l e R s m args below meth c Z code own ret ml nm n0 T h cells slots) {x y : Int64} {o : Int} {pt : Nat} (hd : decode code pc = .ok (.ifCond .ge o, 3)) (hof : 0 ≤ (pc : Int) + o) (hp : ((pc : Int) + o).toNat = pt) (hq : pc + 3 = pc') (kt : ¬ (x < y) → Ends p e below s n0 C S Q T (mkF m pt Ls stk)) (kf : (x < y) → Ends p e below s n0 C S Q T (mkF m pc' Ls stk)) : Ends p e below s n0 C S Q T (mkF m pc Ls (.int (lcmpW x y) :: stk)) := by
  obtain ⟨locs, Y, hx, hZ, hc, ho, hr, hm, hn, hk, hh, hF, h0⟩ := X
  subst hq
  by_cases q : x < y
  · exact (kf q).by fun _ z => XS.ifNo Y.here hx rfl (hb hc hd) rfl ((if0 _ _).trans (tlt ((lw_lt _ _).mpr q)).2.1) z
  · exact (kt q).by fun _ z => XS.ifYes Y.here hx rfl rfl (hb hc hd) rfl ((if0 _ _).trans (flt (fun z => q ((lw_lt _ _).mp z))).2.1) hof hp z
theorem F_icmp_gt (X : St p l e R s m args below meth c Z code own ret ml nm n0 T h cells slots) {x y : Int32} {o : Int} {pt : Nat} (hd : decode code pc = .ok (.if_icmp .gt o, 3)) (hof : 0 ≤ (pc : Int) + o) (hp : ((pc : Int) + o).toNat = pt) (hq : pc + 3 = pc') (kt : (y < x) → Ends p e below s n0 C S Q T (mkF m pt Ls stk)) (kf : ¬ (y < x) → Ends p e below s n0 C S Q T (mkF m pc' Ls stk)) : Ends p e below s n0 C S Q T (mkF m pc Ls (.int y :: .int x :: stk)) := by
  obtain ⟨locs, Y, hx, hZ, hc, ho, hr, hm, hn, hk, hh, hF, h0⟩ := X
  subst hq
  by_cases q : y < x
  · exact (kt q).by fun _ z => XS.icmpYes Y.here hx rfl rfl (hb hc hd) rfl (tlt q).2.2.1 hof hp z
  · exact (kf q).by fun _ z => XS.icmpNo Y.here hx rfl (hb hc hd) rfl (flt q).2.2.1 z
theorem F_if_gt (X : St p l e R s m args below meth c Z code own ret ml nm n0 T h cells slots) {x : Int32} {o : Int} {pt : Nat} (hd : decode code pc = .ok (.ifCond .gt o, 3)) (hof : 0 ≤ (pc : Int) + o) (hp : ((pc : Int) + o).toNat = pt) (hq : pc + 3 = pc') (kt : (0 < x) → Ends p e below s n0 C S Q T (mkF m pt Ls stk)) (kf : ¬ (0 < x) → Ends p e below s n0 C S Q T (mkF m pc' Ls stk)) : Ends p e below s n0 C S Q T (mkF m pc Ls (.int x :: stk)) := by
  obtain ⟨locs, Y, hx, hZ, hc, ho, hr, hm, hn, hk, hh, hF, h0⟩ := X
  subst hq
  by_cases q : 0 < x
  · exact (kt q).by fun _ z => XS.ifYes Y.here hx rfl rfl (hb hc hd) rfl ((if0 _ _).trans (tlt q).2.2.1) hof hp z
  · exact (kf q).by fun _ z => XS.ifNo Y.here hx rfl (hb hc hd) rfl ((if0 _ _).trans (flt q).2.2.1) z
theorem F_lif_gt (X : St p l e R s m args below meth c Z code own ret ml nm n0 T h cells slots) {x y : Int64} {o : Int} {pt : Nat} (hd : decode code pc = .ok (.ifCond .gt o, 3)) (hof : 0 ≤ (pc : Int) + o) (hp : ((pc : Int) + o).toNat = pt) (hq : pc + 3 = pc') (kt : (y < x) → Ends p e below s n0 C S Q T (mkF m pt Ls stk)) (kf : ¬ (y < x) → Ends p e below s n0 C S Q T (mkF m pc' Ls stk)) : Ends p e below s n0 C S Q T (mkF m pc Ls (.int (lcmpW x y) :: stk)) := by
  obtain ⟨locs, Y, hx, hZ, hc, ho, hr, hm, hn, hk, hh, hF, h0⟩ := X
  subst hq
  by_cases q : y < x
  · exact (kt q).by fun _ z => XS.ifYes Y.here hx rfl rfl (hb hc hd) rfl ((if0 _ _).trans (tlt ((lw_gt _ _).mpr q)).2.2.1) hof hp z
  · exact (kf q).by fun _ z => XS.ifNo Y.here hx rfl (hb hc hd) rfl ((if0 _ _).trans (flt (fun z => q ((lw_gt _ _).mp z))).2.2.1) z
theorem F_icmp_le (X : St p l e R s m args below meth c Z code own ret ml nm n0 T h cells slots) {x y : Int32} {o : Int} {pt : Nat} (hd : decode code pc = .ok (.if_icmp .le o, 3)) (hof : 0 ≤ (pc : Int) + o) (hp : ((pc : Int) + o).toNat = pt) (hq : pc + 3 = pc') (kt : ¬ (y < x) → Ends p e below s n0 C S Q T (mkF m pt Ls stk)) (kf : (y < x) → Ends p e below s n0 C S Q T (mkF m pc' Ls stk)) : Ends p e below s n0 C S Q T (mkF m pc Ls (.int y :: .int x :: stk)) := by
  obtain ⟨locs, Y, hx, hZ, hc, ho, hr, hm, hn, hk, hh, hF, h0⟩ := X
  subst hq
  by_cases q : y < x
  · exact (kf q).by fun _ z => XS.icmpNo Y.here hx rfl (hb hc hd) rfl (tlt q).2.2.2 z
  · exact (kt q).by fun _ z => XS.icmpYes Y.here hx rfl rfl (hb hc hd) rfl (flt q).2.2.2 hof hp z
theorem F_if_le (X : St p l e R s m args below meth c Z code own ret ml nm n0 T h cells slots) {x : Int32} {o : Int} {pt : Nat} (hd : decode code pc = .ok (.ifCond .le o, 3)) (hof : 0 ≤ (pc : Int) + o) (hp : ((pc : Int) + o).toNat = pt) (hq : pc + 3 = pc') (kt : ¬ (0 < x) → Ends p e below s n0 C S Q T (mkF m pt Ls stk)) (kf : (0 < x) → Ends p e below s n0 C S Q T (mkF m pc' Ls stk)) : Ends p e below s n0 C S Q T (mkF m pc Ls (.int x :: stk)) := by
  obtain ⟨locs, Y, hx, hZ, hc, ho, hr, hm, hn, hk, hh, hF, h0⟩ := X
  subst hq
  by_cases q : 0 < x
  · exact (kf q).by fun _ z => XS.ifNo Y.here hx rfl (hb hc hd) rfl ((if0 _ _).trans (tlt q).2.2.2) z
  · exact (kt q).by fun _ z => XS.ifYes Y.here hx rfl rfl (hb hc hd) rfl ((if0 _ _).trans (flt q).2.2.2) hof hp z
theorem F_lif_le (X : St p l e R s m args below meth c Z code own ret ml nm n0 T h cells slots) {x y : Int64} {o : Int} {pt : Nat} (hd : decode code pc = .ok (.ifCond .le o, 3)) (hof : 0 ≤ (pc : Int) + o) (hp : ((pc : Int) + o).toNat = pt) (hq : pc + 3 = pc') (kt : ¬ (y < x) → Ends p e below s n0 C S Q T (mkF m pt Ls stk)) (kf : (y < x) → Ends p e below s n0 C S Q T (mkF m pc' Ls stk)) : Ends p e below s n0 C S Q T (mkF m pc Ls (.int (lcmpW x y) :: stk)) := by
  obtain ⟨locs, Y, hx, hZ, hc, ho, hr, hm, hn, hk, hh, hF, h0⟩ := X
  subst hq
  by_cases q : y < x
  · exact (kf q).by fun _ z => XS.ifNo Y.here hx rfl (hb hc hd) rfl ((if0 _ _).trans (tlt ((lw_gt _ _).mpr q)).2.2.2) z
  · exact (kt q).by fun _ z => XS.ifYes Y.here hx rfl rfl (hb hc hd) rfl ((if0 _ _).trans (flt (fun z => q ((lw_gt _ _).mp z))).2.2.2) hof hp z
theorem F_icmp_eq (X : St p l e R s m args below meth c Z code own ret ml nm n0 T h cells slots) {x y : Int32} {o : Int} {pt : Nat} (hd : decode code pc = .ok (.if_icmp .eq o, 3)) (hof : 0 ≤ (pc : Int) + o) (hp : ((pc : Int) + o).toNat = pt) (hq : pc + 3 = pc') (kt : (x = y) → Ends p e below s n0 C S Q T (mkF m pt Ls stk)) (kf : ¬ (x = y) → Ends p e below s n0 C S Q T (mkF m pc' Ls stk)) : Ends p e below s n0 C S Q T (mkF m pc Ls (.int y :: .int x :: stk)) := by
  obtain ⟨locs, Y, hx, hZ, hc, ho, hr, hm, hn, hk, hh, hF, h0⟩ := X
  subst hq
  by_cases q : x = y
  · exact (kt q).by fun _ z => XS.icmpYes Y.here hx rfl rfl (hb hc hd) rfl (teq q).1 hof hp z
  · exact (kf q).by fun _ z => XS.icmpNo Y.here hx rfl (hb hc hd) rfl (feq q).1 z
theorem F_if_eq (X : St p l e R s m args below meth c Z code own ret ml nm n0 T h cells slots) {x : Int32} {o : Int} {pt : Nat} (hd : decode code pc = .ok (.ifCond .eq o, 3)) (hof : 0 ≤ (pc : Int) + o) (hp : ((pc : Int) + o).toNat = pt) (hq : pc + 3 = pc') (kt : (x = 0) → Ends p e below s n0 C S Q T (mkF m pt Ls stk)) (kf : ¬ (x = 0) → Ends p e below s n0 C S Q T (mkF m pc' Ls stk)) : Ends p e below s n0 C S Q T (mkF m pc Ls (.int x :: stk)) := by
  obtain ⟨locs, Y, hx, hZ, hc, ho, hr, hm, hn, hk, hh, hF, h0⟩ := X
  subst hq
  by_cases q : x = 0
  · exact (kt q).by fun _ z => XS.ifYes Y.here hx rfl rfl (hb hc hd) rfl ((if0 _ _).trans (teq q).1) hof hp z
  · exact (kf q).by fun _ z => XS.ifNo Y.here hx rfl (hb hc hd) rfl ((if0 _ _).trans (feq q).1) z
theorem F_lif_eq (X : St p l e R s m args below meth c Z code own ret ml nm n0 T h cells slots) {x y : Int64} {o : Int} {pt : Nat} (hd : decode code pc = .ok (.ifCond .eq o, 3)) (hof : 0 ≤ (pc : Int) + o) (hp : ((pc : Int) + o).toNat = pt) (hq : pc + 3 = pc') (kt : (x = y) → Ends p e below s n0 C S Q T (mkF m pt Ls stk)) (kf : ¬ (x = y) → Ends p e below s n0 C S Q T (mkF m pc' Ls stk)) : Ends p e below s n0 C S Q T (mkF m pc Ls (.int (lcmpW x y) :: stk)) := by
  obtain ⟨locs, Y, hx, hZ, hc, ho, hr, hm, hn, hk, hh, hF, h0⟩ := X
  subst hq
  by_cases q : x = y
  · exact (kt q).by fun _ z => XS.ifYes Y.here hx rfl rfl (hb hc hd) rfl ((if0 _ _).trans (teq ((lw_eq _ _).mpr q)).1) hof hp z
  · exact (kf q).by fun _ z => XS.ifNo Y.here hx rfl (hb hc hd) rfl ((if0 _ _).trans (feq (fun z => q ((lw_eq _ _).mp z))).1) z
theorem F_icmp_ne (X : St p l e R s m args below meth c Z code own ret ml nm n0 T h cells slots) {x y : Int32} {o : Int} {pt : Nat} (hd : decode code pc = .ok (.if_icmp .ne o, 3)) (hof : 0 ≤ (pc : Int) + o) (hp : ((pc : Int) + o).toNat = pt) (hq : pc + 3 = pc') (kt : ¬ (x = y) → Ends p e below s n0 C S Q T (mkF m pt Ls stk)) (kf : (x = y) → Ends p e below s n0 C S Q T (mkF m pc' Ls stk)) : Ends p e below s n0 C S Q T (mkF m pc Ls (.int y :: .int x :: stk)) := by
  obtain ⟨locs, Y, hx, hZ, hc, ho, hr, hm, hn, hk, hh, hF, h0⟩ := X
  subst hq
  by_cases q : x = y
  · exact (kf q).by fun _ z => XS.icmpNo Y.here hx rfl (hb hc hd) rfl (teq q).2 z
  · exact (kt q).by fun _ z => XS.icmpYes Y.here hx rfl rfl (hb hc hd) rfl (feq q).2 hof hp z
theorem F_if_ne (X : St p l e R s m args below meth c Z code own ret ml nm n0 T h cells slots) {x : Int32} {o : Int} {pt : Nat} (hd : decode code pc = .ok (.ifCond .ne o, 3)) (hof : 0 ≤ (pc : Int) + o) (hp : ((pc : Int) + o).toNat = pt) (hq : pc + 3 = pc') (kt : ¬ (x = 0) → Ends p e below s n0 C S Q T (mkF m pt Ls stk)) (kf : (x = 0) → Ends p e below s n0 C S Q T (mkF m pc' Ls stk)) : Ends p e below s n0 C S Q T (mkF m pc Ls (.int x :: stk)) := by
  obtain ⟨locs, Y, hx, hZ, hc, ho, hr, hm, hn, hk, hh, hF, h0⟩ := X
  subst hq
  by_cases q : x = 0
  · exact (kf q).by fun _ z => XS.ifNo Y.here hx rfl (hb hc hd) rfl ((if0 _ _).trans (teq q).2) z
  · exact (kt q).by fun _ z => XS.ifYes Y.here hx rfl rfl (hb hc hd) rfl ((if0 _ _).trans (feq q).2) hof hp z
theorem F_lif_ne (X : St p l e R s m args below meth c Z code own ret ml nm n0 T h cells slots) {x y : Int64} {o : Int} {pt : Nat} (hd : decode code pc = .ok (.ifCond .ne o, 3)) (hof : 0 ≤ (pc : Int) + o) (hp : ((pc : Int) + o).toNat = pt) (hq : pc + 3 = pc') (kt : ¬ (x = y) → Ends p e below s n0 C S Q T (mkF m pt Ls stk)) (kf : (x = y) → Ends p e below s n0 C S Q T (mkF m pc' Ls stk)) : Ends p e below s n0 C S Q T (mkF m pc Ls (.int (lcmpW x y) :: stk)) := by
  obtain ⟨locs, Y, hx, hZ, hc, ho, hr, hm, hn, hk, hh, hF, h0⟩ := X
  subst hq
  by_cases q : x = y
  · exact (kf q).by fun _ z => XS.ifNo Y.here hx rfl (hb hc hd) rfl ((if0 _ _).trans (teq ((lw_eq _ _).mpr q)).2) z
  · exact (kt q).by fun _ z => XS.ifYes Y.here hx rfl rfl (hb hc hd) rfl ((if0 _ _).trans (feq (fun z => q ((lw_eq _ _).mp z))).2) hof hp z
theorem F_ifnull_null (X : St p l e R s m args below meth c Z code own ret ml nm n0 T h cells slots) {o : Int} {pt : Nat} (hd : decode code pc = .ok (.ifnull o, 3)) (hof : 0 ≤ (pc : Int) + o) (hp : ((pc : Int) + o).toNat = pt) (k : Ends p e below s n0 C S Q T (mkF m pt Ls stk)) : Ends p e below s n0 C S Q T (mkF m pc Ls (.null :: stk)) := by
  obtain ⟨locs, Y, hx, hZ, hc, ho, hr, hm, hn, hk, hh, hF, h0⟩ := X
  exact k.by fun _ z => XS.ifnullYes Y.here hx rfl rfl (hb hc hd) rfl hof hp z
theorem F_ifnull_ref (X : St p l e R s m args below meth c Z code own ret ml nm n0 T h cells slots) {a : Addr} {o : Int} (hd : decode code pc = .ok (.ifnull o, 3)) (hq : pc + 3 = pc') (k : Ends p e below s n0 C S Q T (mkF m pc' Ls stk)) : Ends p e below s n0 C S Q T (mkF m pc Ls (.ref a :: stk)) := by
  obtain ⟨locs, Y, hx, hZ, hc, ho, hr, hm, hn, hk, hh, hF, h0⟩ := X
  subst hq
  exact k.by fun _ z => XS.ifnullNo Y.here hx rfl (hb hc hd) rfl z
theorem F_ifnonnull_null (X : St p l e R s m args below meth c Z code own ret ml nm n0 T h cells slots) {o : Int} (hd : decode code pc = .ok (.ifnonnull o, 3)) (hq : pc + 3 = pc') (k : Ends p e below s n0 C S Q T (mkF m pc' Ls stk)) : Ends p e below s n0 C S Q T (mkF m pc Ls (.null :: stk)) := by
  obtain ⟨locs, Y, hx, hZ, hc, ho, hr, hm, hn, hk, hh, hF, h0⟩ := X
  subst hq
  exact k.by fun _ z => XS.ifnonnullNo Y.here hx rfl (hb hc hd) rfl z
theorem F_ifnonnull_ref (X : St p l e R s m args below meth c Z code own ret ml nm n0 T h cells slots) {a : Addr} {o : Int} {pt : Nat} (hd : decode code pc = .ok (.ifnonnull o, 3)) (hof : 0 ≤ (pc : Int) + o) (hp : ((pc : Int) + o).toNat = pt) (k : Ends p e below s n0 C S Q T (mkF m pt Ls stk)) : Ends p e below s n0 C S Q T (mkF m pc Ls (.ref a :: stk)) := by
  obtain ⟨locs, Y, hx, hZ, hc, ho, hr, hm, hn, hk, hh, hF, h0⟩ := X
  exact k.by fun _ z => XS.ifnonnullYes Y.here hx rfl rfl (hb hc hd) rfl hof hp z
theorem F_acmp (X : St p l e R s m args below meth c Z code own ret ml nm n0 T h cells slots) {cd : ACond} {v w : Value} {o : Int} {same : Bool} (hd : decode code pc = .ok (.if_acmp cd o, 3)) (h1 : v.isRef = true) (h2 : w.isRef = true) (hq : decide (v = w) = same) (hof : 0 ≤ (pc : Int) + o) (hp : pc' = if acV cd same = true then ((pc : Int) + o).toNat else pc + 3) (k : Ends p e below s n0 C S Q T (mkF m pc' Ls stk)) : Ends p e below s n0 C S Q T (mkF m pc Ls (w :: v :: stk)) := by
  obtain ⟨locs, Y, hx, hZ, hc, ho, hr, hm, hn, hk, hh, hF, h0⟩ := X
  exact k.by fun _ z => Jvm.RoadKit.acmp Y hx rfl h1 h2 rfl (hb hc hd) rfl hq hof hp z
variable {a0 : Array Value}
theorem F_ldcInt (X : St p l e R s m args below meth c Z code own ret ml nm n0 T h cells slots) {idx : Nat} {v : Int32} (w : (Cond.constant own idx v).before a0 Z = true) (hd : decode code pc = .ok (.ldc idx, 2)) (hp : pc + 2 = pc') (k : Ends p e below s n0 C S Q T (mkF m pc' Ls (.int v :: stk))) : Ends p e below s n0 C S Q T (mkF m pc Ls stk) := by
  obtain ⟨locs, Y, hx, hZ, hc, ho, hr, hm, hn, hk, hh, hF, h0⟩ := X
  subst hp
  exact k.by (Y.ldcInt hx ho (mvT hZ w) (g := mkF m pc Ls stk) rfl (hb hc hd))
theorem F_ldcwInt (X : St p l e R s m args below meth c Z code own ret ml nm n0 T h cells slots) {idx : Nat} {v : Int32} (w : (Cond.constant own idx v).before a0 Z = true) (hd : decode code pc = .ok (.ldc_w idx, 3)) (hp : pc + 3 = pc') (k : Ends p e below s n0 C S Q T (mkF m pc' Ls (.int v :: stk))) : Ends p e below s n0 C S Q T (mkF m pc Ls stk) := by
  obtain ⟨locs, Y, hx, hZ, hc, ho, hr, hm, hn, hk, hh, hF, h0⟩ := X
  subst hp
  exact k.by (Y.ldcwInt hx ho (mvT hZ w) (g := mkF m pc Ls stk) rfl (hb hc hd))
theorem F_ldc2Long (X : St p l e R s m args below meth c Z code own ret ml nm n0 T h cells slots) {idx : Nat} {v : Int64} (w : (Cond.constantLong own idx v).before a0 Z = true) (hd : decode code pc = .ok (.ldc2_w idx, 3)) (hp : pc + 3 = pc') (k : Ends p e below s n0 C S Q T (mkF m pc' Ls (.long v :: stk))) : Ends p e below s n0 C S Q T (mkF m pc Ls stk) := by
  obtain ⟨locs, Y, hx, hZ, hc, ho, hr, hm, hn, hk, hh, hF, h0⟩ := X
  subst hp
  exact k.by (Y.ldc2Long hx ho (mvT hZ w) (g := mkF m pc Ls stk) rfl (hb hc hd))
theorem F_ldc2Double (X : St p l e R s m args below meth c Z code own ret ml nm n0 T h cells slots) {idx : Nat} {v : UInt64} (w : (Cond.constantDouble own idx v).before a0 Z = true) (hd : decode code pc = .ok (.ldc2_w idx, 3)) (hp : pc + 3 = pc') (k : Ends p e below s n0 C S Q T (mkF m pc' Ls (.double v :: stk))) : Ends p e below s n0 C S Q T (mkF m pc Ls stk) := by
  obtain ⟨locs, Y, hx, hZ, hc, ho, hr, hm, hn, hk, hh, hF, h0⟩ := X
  subst hp
  exact k.by (Y.ldc2DoubleC hx ho (mvT hZ w) (g := mkF m pc Ls stk) rfl (hb hc hd))
theorem F_ireturn (X : St p l e R s m args below meth c Z code own ret ml nm n0 T h cells slots) {z : Int32} (hd : decode code pc = .ok (.ireturn, 1)) (hret : ret = some .int) (hC : cells ≤ C) (hS : slots ≤ S) (hQ : Q (some (.int z)) h) : Ends p e below s n0 C S Q T (mkF m pc Ls (.int z :: stk)) := by
  obtain ⟨locs, Y, hx, hZ, hc, ho, hr, hm, hn, hk, hh, hF, h0⟩ := X
  obtain ⟨fs, hl, hrun, hend, hW, hsame⟩ := Y.leave (v := some (.int z)) (fun z => by rw [hr, hret] at z; cases z) hk
  refine ⟨_, _, retOut Y hx (hr.trans hret) rfl (Or.inl ⟨rfl, Or.inl rfl, _, rfl⟩) (hb hc hd) hl, hrun, hend, _, _, rfl, ⟨?_, hF⟩, ⟨_, rfl⟩, hW, hsame.mono hC hS⟩
  show Q _ T.heap
  rw [hh]; exact hQ
theorem F_ireturn_boolean (X : St p l e R s m args below meth c Z code own ret ml nm n0 T h cells slots) {z z' : Int32} (hz : nar .boolean z = z') (hd : decode code pc = .ok (.ireturn, 1)) (hret : ret = some .boolean) (hC : cells ≤ C) (hS : slots ≤ S) (hQ : Q (some (.int z')) h) : Ends p e below s n0 C S Q T (mkF m pc Ls (.int z :: stk)) := by
  obtain ⟨locs, Y, hx, hZ, hc, ho, hr, hm, hn, hk, hh, hF, h0⟩ := X
  obtain ⟨fs, hl, hrun, hend, hW, hsame⟩ := Y.leave (v := some (.int z')) (fun z => by rw [hr, hret] at z; cases z) hk
  refine ⟨_, _, retN Y hx (t := .boolean) (hr.trans hret) (by simp) (hb hc hd) (hz ▸ hl), hrun, hend, _, _, rfl, ⟨?_, hF⟩, ⟨_, rfl⟩, hW, hsame.mono hC hS⟩
  show Q _ T.heap
  rw [hh]; exact hQ
theorem F_ireturn_byte (X : St p l e R s m args below meth c Z code own ret ml nm n0 T h cells slots) {z z' : Int32} (hz : nar .byte z = z') (hd : decode code pc = .ok (.ireturn, 1)) (hret : ret = some .byte) (hC : cells ≤ C) (hS : slots ≤ S) (hQ : Q (some (.int z')) h) : Ends p e below s n0 C S Q T (mkF m pc Ls (.int z :: stk)) := by
  obtain ⟨locs, Y, hx, hZ, hc, ho, hr, hm, hn, hk, hh, hF, h0⟩ := X
  obtain ⟨fs, hl, hrun, hend, hW, hsame⟩ := Y.leave (v := some (.int z')) (fun z => by rw [hr, hret] at z; cases z) hk
  refine ⟨_, _, retN Y hx (t := .byte) (hr.trans hret) (by simp) (hb hc hd) (hz ▸ hl), hrun, hend, _, _, rfl, ⟨?_, hF⟩, ⟨_, rfl⟩, hW, hsame.mono hC hS⟩
  show Q _ T.heap
  rw [hh]; exact hQ
theorem F_ireturn_char (X : St p l e R s m args below meth c Z code own ret ml nm n0 T h cells slots) {z z' : Int32} (hz : nar .char z = z') (hd : decode code pc = .ok (.ireturn, 1)) (hret : ret = some .char) (hC : cells ≤ C) (hS : slots ≤ S) (hQ : Q (some (.int z')) h) : Ends p e below s n0 C S Q T (mkF m pc Ls (.int z :: stk)) := by
  obtain ⟨locs, Y, hx, hZ, hc, ho, hr, hm, hn, hk, hh, hF, h0⟩ := X
  obtain ⟨fs, hl, hrun, hend, hW, hsame⟩ := Y.leave (v := some (.int z')) (fun z => by rw [hr, hret] at z; cases z) hk
  refine ⟨_, _, retN Y hx (t := .char) (hr.trans hret) (by simp) (hb hc hd) (hz ▸ hl), hrun, hend, _, _, rfl, ⟨?_, hF⟩, ⟨_, rfl⟩, hW, hsame.mono hC hS⟩
  show Q _ T.heap
  rw [hh]; exact hQ
theorem F_ireturn_short (X : St p l e R s m args below meth c Z code own ret ml nm n0 T h cells slots) {z z' : Int32} (hz : nar .short z = z') (hd : decode code pc = .ok (.ireturn, 1)) (hret : ret = some .short) (hC : cells ≤ C) (hS : slots ≤ S) (hQ : Q (some (.int z')) h) : Ends p e below s n0 C S Q T (mkF m pc Ls (.int z :: stk)) := by
  obtain ⟨locs, Y, hx, hZ, hc, ho, hr, hm, hn, hk, hh, hF, h0⟩ := X
  obtain ⟨fs, hl, hrun, hend, hW, hsame⟩ := Y.leave (v := some (.int z')) (fun z => by rw [hr, hret] at z; cases z) hk
  refine ⟨_, _, retN Y hx (t := .short) (hr.trans hret) (by simp) (hb hc hd) (hz ▸ hl), hrun, hend, _, _, rfl, ⟨?_, hF⟩, ⟨_, rfl⟩, hW, hsame.mono hC hS⟩
  show Q _ T.heap
  rw [hh]; exact hQ
theorem F_return (X : St p l e R s m args below meth c Z code own ret ml nm n0 T h cells slots)  (hd : decode code pc = .ok (.return_, 1)) (hret : ret = none) (hC : cells ≤ C) (hS : slots ≤ S) (hQ : Q (none) h) : Ends p e below s n0 C S Q T (mkF m pc Ls ([])) := by
  obtain ⟨locs, Y, hx, hZ, hc, ho, hr, hm, hn, hk, hh, hF, h0⟩ := X
  obtain ⟨fs, hl, hrun, hend, hW, hsame⟩ := Y.leave (v := none) (fun _ => rfl) hk
  refine ⟨_, _, Y.returnOut hx (hr.trans hret) (hb hc hd) hl, hrun, hend, _, _, rfl, ⟨?_, hF⟩, ⟨_, rfl⟩, hW, hsame.mono hC hS⟩
  show Q _ T.heap
  rw [hh]; exact hQ
theorem F_lreturn (X : St p l e R s m args below meth c Z code own ret ml nm n0 T h cells slots) {z : Int64} (hd : decode code pc = .ok (.lreturn, 1)) (hret : ret = some .long) (hC : cells ≤ C) (hS : slots ≤ S) (hQ : Q (some (.long z)) h) : Ends p e below s n0 C S Q T (mkF m pc Ls ([.long z])) := by
  obtain ⟨locs, Y, hx, hZ, hc, ho, hr, hm, hn, hk, hh, hF, h0⟩ := X
  obtain ⟨fs, hl, hrun, hend, hW, hsame⟩ := Y.leave (v := some (.long z)) (fun z => by rw [hr, hret] at z; cases z) hk
  refine ⟨_, _, Y.lreturnOut hx (hr.trans hret) (hb hc hd) hl, hrun, hend, _, _, rfl, ⟨?_, hF⟩, ⟨_, rfl⟩, hW, hsame.mono hC hS⟩
  show Q _ T.heap
  rw [hh]; exact hQ
theorem F_areturn (X : St p l e R s m args below meth c Z code own ret ml nm n0 T h cells slots) {v : Value} {t : FieldType} (ht : t.isReference = true) (hv : v.isRef = true) (hn' : narrow t v = v) (hd : decode code pc = .ok (.areturn, 1)) (hret : ret = some t) (hC : cells ≤ C) (hS : slots ≤ S) (hQ : Q (some v) h) : Ends p e below s n0 C S Q T (mkF m pc Ls (v :: stk)) := by
  obtain ⟨locs, Y, hx, hZ, hc, ho, hr, hm, hn, hk, hh, hF, h0⟩ := X
  obtain ⟨fs, hl, hrun, hend, hW, hsame⟩ := Y.leave (v := some v) (fun z => by rw [hr, hret] at z; cases z) hk
  refine ⟨_, _, retOut Y hx (hr.trans hret) hn' (Or.inr (Or.inr (Or.inr (Or.inr ⟨rfl, ht, hv⟩)))) (hb hc hd) hl, hrun, hend, _, _, rfl, ⟨?_, hF⟩, ⟨_, rfl⟩, hW, hsame.mono hC hS⟩
  show Q _ T.heap
  rw [hh]; exact hQ
theorem F_callS (X : St p l e R s m args below meth c Z code own ret ml nm n0 T h cells slots) {y : MethodName} {bytes : ByteArray} {maxL : Nat} {rt : Option FieldType} {rm : Room} {Q' : Option Value → Heap → Prop} {idx : Nat} (w1 : (Cond.methodLink own idx y).before a0 Z = true) (w2 : (Cond.static y).before a0 Z = true) (w3 : (Cond.initialized y.cls).before a0 Z = true) (w4 : (Cond.code y bytes maxL rt).before a0 Z = true) (hy : y.cls ≠ "java/lang/invoke/MethodHandle" ∧ y.cls ≠ "java/lang/invoke/VarHandle")
    {argsL : List Value} (K : Con l y bytes maxL rt rm rm.cells rm.slots Z n0 argsL.toArray h Q') (r1 : rm.frames + 1 ≤ R.frames) {W : Nat} (hW : (stk.map fun v => v.category).sum ≤ W) (r2 : W + (maxL + 11) + rm.locals ≤ R.locals) (r3 : cells + rm.cells ≤ R.cells) (r4 : slots + rm.slots ≤ R.slots) (hls : Ls.size = ml) (hlen : ∀ sig, parseMethodDescriptor y.desc = some sig → argsL.length = sig.parameters.length) {stk0 : List Value} (hst : stk0 = argsL.reverse ++ stk) (hd : decode code pc = .ok (.invokestatic idx, 3)) (hp : pc + 3 = pc')
    (k : ∀ (T' : State) (v : Option Value) (h' : Heap), St p l e R s m args below meth c Z code own ret ml nm n0 T' h' (cells + rm.cells) (slots + rm.slots) → Q' v h' → Ends p e below s n0 C S Q T' (mkF m pc' Ls (v.toList ++ stk))) : Ends p e below s n0 C S Q T (mkF m pc Ls stk0) := by
  obtain ⟨locs, Y, hx, hZ, hc, ho, hr, hm, hn, hk, hh, hF, h0⟩ := X
  subst hp hst
  obtain ⟨v, vm1, ⟨T', L', k', n'⟩, -, Y', ⟨L, q1, q2, q3, q4⟩, st⟩ := Jvm.LawKit.callS Y hx (y := y) ho (mvT hZ w1) (mvT hZ w2) (mvT hZ w3) (mvT hZ w4) hy (backOf (W := W) (Q := fun v h' L => Q' v h' ∧ Fr n0 L) (K []) hZ w4 w3 r1 r2) (g := mkF m pc Ls (argsL.reverse ++ stk)) rfl (by rw [hm]; exact hls) (argsL := argsL) (rest := stk) hlen rfl (by show 2 * 0 + _ ≤ _; omega) (hb hc hd) (fun _ _ => ⟨rfl, hh, r3, r4⟩)
  dsimp only [Pt.U, Pt.locs, Pt.cells, Pt.slots] at Y' q2 q3 q4 st q1
  subst q2 q3 q4
  obtain ⟨q1, q5⟩ := q1
  exact (k T' v T'.heap ⟨_, Y', hx, hZ, hc, ho, hr, hm, hn, hk, rfl, Fr.app hF q5, h0⟩ q1).by st
theorem F_init (X : St p l e R s m args below meth c Z code own ret ml nm n0 T h cells slots) {y : MethodName} {bytes : ByteArray} {maxL : Nat} {rm : Room} {Q' : Option Value → Heap → Prop} {idx : Nat} (hy1 : y.name = "<init>") (w1 : (Cond.methodLink own idx y).before a0 Z = true) (w2 : (Cond.instanceMethod y).before a0 Z = true) (w3 : (Cond.initialized y.cls).before a0 Z = true) (w4 : (Cond.code y bytes maxL none).before a0 Z = true) (hy : y.cls ≠ "java/lang/invoke/MethodHandle" ∧ y.cls ≠ "java/lang/invoke/VarHandle")
    {a : Addr} {argsL : List Value} (K : Con l y bytes maxL none rm rm.cells rm.slots Z n0 (.ref a :: argsL).toArray h Q') (r1 : rm.frames + 1 ≤ R.frames) {W : Nat} (hW : (stk.map fun v => v.category).sum ≤ W) (r2 : W + (maxL + 11) + rm.locals ≤ R.locals) (r3 : cells + rm.cells ≤ R.cells) (r4 : slots + rm.slots ≤ R.slots) (hls : Ls.size = ml) (hlen : ∀ sig, parseMethodDescriptor y.desc = some sig → argsL.length = sig.parameters.length) {stk0 : List Value} (hst : stk0 = argsL.reverse ++ .ref a :: stk) (hd : decode code pc = .ok (.invokespecial idx, 3)) (hp : pc + 3 = pc')
    (k : ∀ (T' : State) (v : Option Value) (h' : Heap), St p l e R s m args below meth c Z code own ret ml nm n0 T' h' (cells + rm.cells) (slots + rm.slots) → Q' v h' → Ends p e below s n0 C S Q T' (mkF m pc' Ls (v.toList ++ stk))) : Ends p e below s n0 C S Q T (mkF m pc Ls stk0) := by
  obtain ⟨locs, Y, hx, hZ, hc, ho, hr, hm, hn, hk, hh, hF, h0⟩ := X
  subst hp hst
  obtain ⟨v, vm1, ⟨T', L', k', n'⟩, -, Y', ⟨L, q1, q2, q3, q4⟩, st⟩ := Y.specialBack hx (y := y) hy1 ho (mvT hZ w1) (mvT hZ w2) (mvT hZ w4) hy (backOf (W := W) (Q := fun v h' L => Q' v h' ∧ Fr n0 L) (K []) hZ w4 w3 r1 r2) (g := mkF m pc Ls (argsL.reverse ++ .ref a :: stk)) rfl (by rw [hm]; exact hls) (Steps.refl _) (a := a) (argsL := argsL) (rest := stk) hlen rfl (by show 2 * 0 + _ ≤ _; omega) (hb hc hd) (fun _ _ => ⟨rfl, hh, r3, r4⟩)
  dsimp only [Pt.U, Pt.locs, Pt.cells, Pt.slots] at Y' q2 q3 q4 st q1
  subst q2 q3 q4
  obtain ⟨q1, q5⟩ := q1
  exact (k T' v T'.heap ⟨_, Y', hx, hZ, hc, ho, hr, hm, hn, hk, rfl, Fr.app hF q5, h0⟩ q1).by fun _ z => st.trans z
theorem F_callV (X : St p l e R s m args below meth c Z code own ret ml nm n0 T h cells slots) {y : MethodName} {bytes : ByteArray} {maxL : Nat} {rt : Option FieldType} {rm : Room} {Q' : Option Value → Heap → Prop} {idx : Nat} (w1 : (Cond.methodLink own idx y).before a0 Z = true) (w5 : (Cond.declares y).before a0 Z = true) (w6 : (Cond.selects y.cls y y).before a0 Z = true) (w2 : (Cond.instanceMethod y).before a0 Z = true) (w3 : (Cond.initialized y.cls).before a0 Z = true) (w4 : (Cond.code y bytes maxL rt).before a0 Z = true) (hy : y.cls ≠ "java/lang/invoke/MethodHandle" ∧ y.cls ≠ "java/lang/invoke/VarHandle")
    {a : Addr} (E : Exa Z h a y.cls) {argsL : List Value} (K : Con l y bytes maxL rt rm rm.cells rm.slots Z n0 (.ref a :: argsL).toArray h Q') (r1 : rm.frames + 1 ≤ R.frames) {W : Nat} (hW : (stk.map fun v => v.category).sum ≤ W) (r2 : W + (maxL + 11) + rm.locals ≤ R.locals) (r3 : cells + rm.cells ≤ R.cells) (r4 : slots + rm.slots ≤ R.slots) (hls : Ls.size = ml) (hlen : ∀ sig, parseMethodDescriptor y.desc = some sig → argsL.length = sig.parameters.length) {stk0 : List Value} (hst : stk0 = argsL.reverse ++ .ref a :: stk) (hd : decode code pc = .ok (.invokevirtual idx, 3)) (hp : pc + 3 = pc')
    (k : ∀ (T' : State) (v : Option Value) (h' : Heap), St p l e R s m args below meth c Z code own ret ml nm n0 T' h' (cells + rm.cells) (slots + rm.slots) → Q' v h' → Ends p e below s n0 C S Q T' (mkF m pc' Ls (v.toList ++ stk))) : Ends p e below s n0 C S Q T (mkF m pc Ls stk0) := by
  obtain ⟨locs, Y, hx, hZ, hc, ho, hr, hm, hn, hk, hh, hF, h0⟩ := X
  subst hp hst
  obtain ⟨cq, kq, qa, qb, qc⟩ := isOf hZ hh E
  obtain ⟨v, vm1, ⟨T', L', k', n'⟩, -, Y', ⟨L, q1, q2, q3, q4⟩, st⟩ := Y.virtualBack hx (y := y) (z := y) ho (mvT hZ w1) (mvT hZ w5) (notFace_of_selects (args := #[]) (mvT hZ w6)) (mvT hZ w6) (mvT hZ w2) hy (backOf (W := W) (Q := fun v h' L => Q' v h' ∧ Fr n0 L) (K []) hZ w4 w3 r1 r2) qa qc (g := mkF m pc Ls (argsL.reverse ++ .ref a :: stk)) rfl (by rw [hm]; exact hls) (Steps.refl _) (argsL := argsL) (rest := stk) hlen rfl (by show 2 * 0 + _ ≤ _; omega) (hb hc hd) (fun _ _ => ⟨rfl, hh, r3, r4⟩)
  dsimp only [Pt.U, Pt.locs, Pt.cells, Pt.slots] at Y' q2 q3 q4 st q1
  subst q2 q3 q4
  obtain ⟨q1, q5⟩ := q1
  exact (k T' v T'.heap ⟨_, Y', hx, hZ, hc, ho, hr, hm, hn, hk, rfl, Fr.app hF q5, h0⟩ q1).by fun _ z => st.trans z
theorem F_callP (X : St p l e R s m args below meth c Z code own ret ml nm n0 T h cells slots) {y : MethodName} {bytes : ByteArray} {maxL : Nat} {rt : Option FieldType} {rm : Room} {Q' : Option Value → Heap → Prop} {idx : Nat} {kk : Nat} (w1 : (Cond.methodLink own idx y).before a0 Z = true) (wp : (Cond.privateMethod y).before a0 Z = true) (wi : (Cond.instantiable y.cls kk).before a0 Z = true) (w2 : (Cond.instanceMethod y).before a0 Z = true) (w3 : (Cond.initialized y.cls).before a0 Z = true) (w4 : (Cond.code y bytes maxL rt).before a0 Z = true) (hy : y.cls ≠ "java/lang/invoke/MethodHandle" ∧ y.cls ≠ "java/lang/invoke/VarHandle")
    {a : Addr} (E : Exa Z h a y.cls) {argsL : List Value} (K : Con l y bytes maxL rt rm rm.cells rm.slots Z n0 (.ref a :: argsL).toArray h Q') (r1 : rm.frames + 1 ≤ R.frames) {W : Nat} (hW : (stk.map fun v => v.category).sum ≤ W) (r2 : W + (maxL + 11) + rm.locals ≤ R.locals) (r3 : cells + rm.cells ≤ R.cells) (r4 : slots + rm.slots ≤ R.slots) (hls : Ls.size = ml) (hlen : ∀ sig, parseMethodDescriptor y.desc = some sig → argsL.length = sig.parameters.length) {stk0 : List Value} (hst : stk0 = argsL.reverse ++ .ref a :: stk) (hd : decode code pc = .ok (.invokevirtual idx, 3)) (hp : pc + 3 = pc')
    (k : ∀ (T' : State) (v : Option Value) (h' : Heap), St p l e R s m args below meth c Z code own ret ml nm n0 T' h' (cells + rm.cells) (slots + rm.slots) → Q' v h' → Ends p e below s n0 C S Q T' (mkF m pc' Ls (v.toList ++ stk))) : Ends p e below s n0 C S Q T (mkF m pc Ls stk0) := by
  obtain ⟨locs, Y, hx, hZ, hc, ho, hr, hm, hn, hk, hh, hF, h0⟩ := X
  subst hp hst
  obtain ⟨cq, q, q'⟩ := E.cell
  have wi' : (Cond.instantiable y.cls kk).before args s = true := mvT hZ wi
  obtain ⟨c1, k1, i1, i2, -, i4, -⟩ := Cond.instantiable_spec wi'
  have hpr := Cond.privateMethod_at (mvP hZ wp (args := #[]))
  have hsel : (Cond.selects y.cls y y).before args s = true := selects_self_of_private i1 i2 (by simp at i4; exact i4.1) hpr (mvT hZ w2) hy
  obtain ⟨v, vm1, ⟨T', L', k', n'⟩, -, Y', ⟨L, q1, q2, q3, q4⟩, st⟩ := Y.privateBack hx (y := y) ho (mvT hZ w1) (mvT hZ w2) hsel hpr (mvT hZ w4) hy (backOf (W := W) (Q := fun v h' L => Q' v h' ∧ Fr n0 L) (K []) hZ w4 w3 r1 r2) (g := mkF m pc Ls (argsL.reverse ++ .ref a :: stk)) rfl (by rw [hm]; exact hls) (Steps.refl _) (a := a) (by rw [hh]; exact q) q' (argsL := argsL) (rest := stk) hlen rfl (by show 2 * 0 + _ ≤ _; omega) (hb hc hd) (fun _ _ => ⟨rfl, hh, r3, r4⟩)
  dsimp only [Pt.U, Pt.locs, Pt.cells, Pt.slots] at Y' q2 q3 q4 st q1
  subst q2 q3 q4
  obtain ⟨q1, q5⟩ := q1
  exact (k T' v T'.heap ⟨_, Y', hx, hZ, hc, ho, hr, hm, hn, hk, rfl, Fr.app hF q5, h0⟩ q1).by fun _ z => st.trans z
theorem F_objInit (X : St p l e R s m args below meth c Z code own ret ml nm n0 T h cells slots) {idx : Nat} {a : Addr} (w1 : (Cond.methodLink own idx Lib.objectInit).before a0 Z = true) (w2 : (Cond.instanceMethod Lib.objectInit).before a0 Z = true) (w3 : (Cond.code Lib.objectInit ⟨#[0xb1]⟩ 1 none).before a0 Z = true) (r1 : 1 ≤ R.frames) {W : Nat} (hW : (stk.map fun v => v.category).sum ≤ W) (r2 : W + 12 ≤ R.locals) (hls : Ls.size = ml) (hd : decode code pc = .ok (.invokespecial idx, 3)) (hp : pc + 3 = pc')
    (k : ∀ T' : State, St p l e R s m args below meth c Z code own ret ml nm n0 T' h cells slots → Ends p e below s n0 C S Q T' (mkF m pc' Ls stk)) : Ends p e below s n0 C S Q T (mkF m pc Ls (.ref a :: stk)) := by
  obtain ⟨locs, Y, hx, hZ, hc, ho, hr, hm, hn, hk, hh, hF, h0⟩ := X
  subst hp
  obtain ⟨T', Y', e', st⟩ := initO Y hx hZ ho w1 w2 w3 hh (g := mkF m pc Ls (.ref a :: stk)) rfl (by rw [hm]; exact hls) rfl (hb hc hd) r1 (W := W) (by show 2 * 0 + _ ≤ _; omega) r2
  exact (k T' ⟨_, Y', hx, hZ, hc, ho, hr, hm, hn, hk, e', hF, h0⟩).by st
theorem F_new (X : St p l e R s m args below meth c Z code own ret ml nm n0 T h cells slots) {idx n : Nat} {K : String} (w : (Cond.classLink own idx K).before a0 Z = true) (wi : (Cond.instantiable K n).before a0 Z = true) (wz : (Cond.initialized K).before a0 Z = true) (r3 : cells + 1 ≤ R.cells) (r4 : slots + n ≤ R.slots) (hd : decode code pc = .ok (.new idx, 3)) (hp : pc + 3 = pc')
    (k : ∀ (T' : State) (h' : Heap) (a : Addr), St p l e R s m args below meth c Z code own ret ml nm n0 T' h' (cells + 1) (slots + n) → Ext h h' → a = h.size → n0 ≤ a → Exa Z h' a K → (∀ {O nm d : String} {ty : FieldType}, Laid Z a0 K O nm d → parseFieldDescriptor d = some ty → Fld Z h' a O nm d (defaultValue ty)) → Ends p e below s n0 C S Q T' (mkF m pc' Ls (.ref a :: stk))) : Ends p e below s n0 C S Q T (mkF m pc Ls stk) := by
  have hsz := X.size
  obtain ⟨locs, Y, hx, hZ, hc, ho, hr, hm, hn, hk, hh, hF, h0⟩ := X
  subst hp
  obtain ⟨T', h', Y', e', E, A, D, -, st⟩ := newO Y hx hZ ho w wi wz hh (g := mkF m pc Ls stk) rfl (hb hc hd) r3 r4
  exact (k T' h' _ ⟨_, Y', hx, hZ, hc, ho, hr, hm, hn, hk, e', hF, h0⟩ E rfl hsz A D).by st
theorem F_getfield (X : St p l e R s m args below meth c Z code own ret ml nm n0 T h cells slots) {idx : Nat} {K f d : String} {a : Addr} {v : Value} (w : (Cond.fieldLink own idx K f d).before a0 Z = true) (F : Fld Z h a K f d v) (hd : decode code pc = .ok (.getfield idx, 3)) (hp : pc + 3 = pc')
    (k : ∀ T' : State, St p l e R s m args below meth c Z code own ret ml nm n0 T' h cells slots → Ends p e below s n0 C S Q T' (mkF m pc' Ls (v :: stk))) : Ends p e below s n0 C S Q T (mkF m pc Ls (.ref a :: stk)) := by
  obtain ⟨locs, Y, hx, hZ, hc, ho, hr, hm, hn, hk, hh, hF, h0⟩ := X
  subst hp
  obtain ⟨T', Y', e', st⟩ := getF Y hx hZ ho (host := "") (Or.inl w) Via.refl hh F (g := mkF m pc Ls (.ref a :: stk)) rfl rfl (hb hc hd)
  exact (k T' ⟨_, Y', hx, hZ, hc, ho, hr, hm, hn, hk, e', hF, h0⟩).by st
theorem F_putfield (X : St p l e R s m args below meth c Z code own ret ml nm n0 T h cells slots) {idx kk : Nat} {K f d : String} {a : Addr} {v old : Value} {ty : FieldType} (w : (Cond.fieldLink own idx K f d).before a0 Z = true) (F : Fld Z h a K f d old) (E : Exa Z h a K) (L : (Cond.lays K K f d).before a0 Z = true ∨ ((Cond.laysFinal K K f d).before a0 Z = true ∧ own = K ∧ nm = "<init>")) (wi : (Cond.instantiable K kk).before a0 Z = true) (hty : parseFieldDescriptor d = some ty) (hnr : narrow ty v = v) (hft : fits ty v = true) (ge : n0 ≤ a) (hd : decode code pc = .ok (.putfield idx, 3)) (hp : pc + 3 = pc')
    (k : ∀ (T' : State) (h' : Heap), St p l e R s m args below meth c Z code own ret ml nm n0 T' h' cells slots → Wr h h' a (Jvm.RoadKit.slotOf Z K f d) v → Ends p e below s n0 C S Q T' (mkF m pc' Ls stk)) : Ends p e below s n0 C S Q T (mkF m pc Ls (v :: .ref a :: stk)) := by
  obtain ⟨locs, Y, hx, hZ, hc, ho, hr, hm, hn, hk, hh, hF, h0⟩ := X
  subst hp
  obtain ⟨T', h', Y', e', W, st⟩ := putF Y hx hZ ho (host := "") (Or.inl w) Via.refl hh F E (L.imp id fun q => ⟨q.1, q.2.1, hn.trans q.2.2⟩) wi hty hnr hft (g := mkF m pc Ls (v :: .ref a :: stk)) rfl rfl (hb hc hd)
  exact (k T' h' ⟨_, Y', hx, hZ, hc, ho, hr, hm, hn, hk, e', Fr.snoc Y' hF ge, h0⟩ W).by st
theorem F_putfieldN (X : St p l e R s m args below meth c Z code own ret ml nm n0 T h cells slots) {idx kk : Nat} {K f d : String} {a : Addr} {v v' old : Value} {ty : FieldType} (w : (Cond.fieldLink own idx K f d).before a0 Z = true) (F : Fld Z h a K f d old) (E : Exa Z h a K) (L : (Cond.lays K K f d).before a0 Z = true ∨ ((Cond.laysFinal K K f d).before a0 Z = true ∧ own = K ∧ nm = "<init>")) (wi : (Cond.instantiable K kk).before a0 Z = true) (hty : parseFieldDescriptor d = some ty) (hnr : narrow ty v = v') (hft : fits ty v' = true) (ge : n0 ≤ a) (hd : decode code pc = .ok (.putfield idx, 3)) (hp : pc + 3 = pc')
    (k : ∀ (T' : State) (h' : Heap), St p l e R s m args below meth c Z code own ret ml nm n0 T' h' cells slots → Wr h h' a (Jvm.RoadKit.slotOf Z K f d) v' → Ends p e below s n0 C S Q T' (mkF m pc' Ls stk)) : Ends p e below s n0 C S Q T (mkF m pc Ls (v :: .ref a :: stk)) := by
  obtain ⟨locs, Y, hx, hZ, hc, ho, hr, hm, hn, hk, hh, hF, h0⟩ := X
  subst hp
  obtain ⟨T', h', Y', e', W, st⟩ := putFN Y hx hZ ho w Via.refl hh F E (L.imp id fun q => ⟨q.1, q.2.1, hn.trans q.2.2⟩) wi hty hnr hft (g := mkF m pc Ls (v :: .ref a :: stk)) rfl rfl (hb hc hd)
  exact (k T' h' ⟨_, Y', hx, hZ, hc, ho, hr, hm, hn, hk, e', Fr.snoc Y' hF ge, h0⟩ W).by st
/-- the array at a, of the component kind ty, holds just the values vs -/
def AV (Z : State) (h : Heap) (a : Addr) (ty : FieldType) (vs : List Value) : Prop := ∃ cl : Cell, Arr Z h a cl ty ∧ cl.slots.toList = vs ∧ vs.length < 2147483648 ∧ ∀ v ∈ vs, fits ty v = true
theorem AV.lt {a : Addr} {ty : FieldType} {vs : List Value} (A : AV Z h a ty vs) : a < h.size := by obtain ⟨cl, A, -⟩ := A; exact A.lt
theorem AV.ext {h' : Heap} {a : Addr} {ty : FieldType} {vs : List Value} (A : AV Z h a ty vs) (E : Ext h h') : AV Z h' a ty vs := by obtain ⟨cl, A, r⟩ := A; exact ⟨cl, A.ext E, r⟩
theorem AV.other {h' : Heap} {a b : Addr} {sl : Nat} {v : Value} {ty : FieldType} {vs : List Value} (A : AV Z h a ty vs) (W : Wr h h' b sl v) (q : a ≠ b) : AV Z h' a ty vs := by obtain ⟨cl, A, r⟩ := A; exact ⟨cl, A.other W q, r⟩
theorem AV.keep {h' : Heap} {a : Addr} {ws : List Addr} {ty : FieldType} {vs : List Value} (A : AV Z h a ty vs) (K : Keep h h' ws) (q : a ∉ ws) : AV Z h' a ty vs := by obtain ⟨cl, A, r⟩ := A; exact ⟨cl, ⟨K.2.1 a cl A.1 q, A.2⟩, r⟩
theorem AV.same {h' : Heap} {a : Addr} {j : Nat} {v : Value} {ty : FieldType} {vs : List Value} (A : AV Z h a ty vs) (W : Wr h h' a j v) (hf : fits ty v = true) : AV Z h' a ty (vs.set j v) := by
  obtain ⟨cl, A, r1, r2, r3⟩ := A
  refine ⟨cl.setSlot j v, A.same W, ?_, by simpa using r2, fun u hu => ?_⟩
  · rw [← r1]; simp [Cell.setSlot]
  · rcases List.mem_or_eq_of_mem_set hu with q | q
    · exact r3 u q
    · exact q ▸ hf
theorem idx_ok {cl : Cell} {vs : List Value} {v : Value} {j : Int32} (r1 : cl.slots.toList = vs) (hj : ¬ j < 0) (hv : vs[j.toNatClampNeg]? = some v) : ¬ (j < 0 ∨ cl.slots.size ≤ j.toNatClampNeg) ∧ cl.slots[j.toNatClampNeg]? = some v := by
  subst r1
  rw [Array.getElem?_toList] at hv
  exact ⟨fun q => q.elim hj fun q => (by rw [Array.getElem?_eq_none q] at hv; cases hv), hv⟩

theorem F_iaload (X : St p l e R s m args below meth c Z code own ret ml nm n0 T h cells slots) {a : Addr} {vs : List Value} {j : Int32} {v : Int32} (A : AV Z h a .int vs) (hj : ¬ j < 0) (hv : vs[j.toNatClampNeg]? = some (.int v)) (hd : decode code pc = .ok (.iaload, 1)) (hp : pc + 1 = pc') (k : Ends p e below s n0 C S Q T (mkF m pc' Ls (.int v :: stk))) : Ends p e below s n0 C S Q T (mkF m pc Ls (.int j :: .ref a :: stk)) := by
  obtain ⟨locs, Y, hx, hZ, hc, ho, hr, hm, hn, hk, hh, hF, h0⟩ := X
  subst hp
  obtain ⟨cl, A, r1, r2, r3⟩ := A
  obtain ⟨q1, q2⟩ := idx_ok r1 hj hv
  exact k.by fun _ z => Y.iaload hx (j := j) (by rw [hh]; exact A.1) (State.isArrayOf_alike hZ.alike A.2.1) A.2.2 q1 q2 (g := mkF m pc Ls (.int j :: .ref a :: stk)) rfl rfl (hb hc hd) _ z
theorem F_laload (X : St p l e R s m args below meth c Z code own ret ml nm n0 T h cells slots) {a : Addr} {vs : List Value} {j : Int32} {v : Int64} (A : AV Z h a .long vs) (hj : ¬ j < 0) (hv : vs[j.toNatClampNeg]? = some (.long v)) (hd : decode code pc = .ok (.laload, 1)) (hp : pc + 1 = pc') (k : Ends p e below s n0 C S Q T (mkF m pc' Ls (.long v :: stk))) : Ends p e below s n0 C S Q T (mkF m pc Ls (.int j :: .ref a :: stk)) := by
  obtain ⟨locs, Y, hx, hZ, hc, ho, hr, hm, hn, hk, hh, hF, h0⟩ := X
  subst hp
  obtain ⟨cl, A, r1, r2, r3⟩ := A
  obtain ⟨q1, q2⟩ := idx_ok r1 hj hv
  exact k.by fun _ z => Y.laload hx (j := j) (by rw [hh]; exact A.1) (State.isArrayOf_alike hZ.alike A.2.1) A.2.2 q1 q2 (g := mkF m pc Ls (.int j :: .ref a :: stk)) rfl rfl (hb hc hd) _ z
theorem F_baload (X : St p l e R s m args below meth c Z code own ret ml nm n0 T h cells slots) {a : Addr} {vs : List Value} {j : Int32} {v : Int32} (A : AV Z h a .byte vs) (hj : ¬ j < 0) (hv : vs[j.toNatClampNeg]? = some (.int v)) (hd : decode code pc = .ok (.baload, 1)) (hp : pc + 1 = pc') (k : Ends p e below s n0 C S Q T (mkF m pc' Ls (.int v :: stk))) : Ends p e below s n0 C S Q T (mkF m pc Ls (.int j :: .ref a :: stk)) := by
  obtain ⟨locs, Y, hx, hZ, hc, ho, hr, hm, hn, hk, hh, hF, h0⟩ := X
  subst hp
  obtain ⟨cl, A, r1, r2, r3⟩ := A
  obtain ⟨q1, q2⟩ := idx_ok r1 hj hv
  exact k.by fun _ z => Y.baloadBytes hx (j := j) (by rw [hh]; exact A.1) (State.isArrayOf_alike hZ.alike A.2.1) A.2.2 q1 q2 (g := mkF m pc Ls (.int j :: .ref a :: stk)) rfl rfl (hb hc hd) _ z
theorem F_arraylength (X : St p l e R s m args below meth c Z code own ret ml nm n0 T h cells slots) {a : Addr} {ty : FieldType} {vs : List Value} {z : Int32} (A : AV Z h a ty vs) (hz : vs.length.toInt32 = z) (hd : decode code pc = .ok (.arraylength, 1)) (hp : pc + 1 = pc') (k : Ends p e below s n0 C S Q T (mkF m pc' Ls (.int z :: stk))) : Ends p e below s n0 C S Q T (mkF m pc Ls (.ref a :: stk)) := by
  obtain ⟨locs, Y, hx, hZ, hc, ho, hr, hm, hn, hk, hh, hF, h0⟩ := X
  subst hp
  obtain ⟨cl, A, r1, r2, r3⟩ := A
  subst hz r1
  exact k.by fun _ z => Y.arraylength hx (by rw [hh]; exact A.1) (State.isArrayOf_alike hZ.alike A.2.1) (g := mkF m pc Ls (.ref a :: stk)) rfl rfl (hb hc hd) _ (by simpa using z)
theorem F_iastore (X : St p l e R s m args below meth c Z code own ret ml nm n0 T h cells slots) {a : Addr} {vs : List Value} {j : Int32} {x : Int32} {i : Nat} (A : AV Z h a .int vs) (hj : ¬ j < 0) (hi : j.toNatClampNeg = i) (hlt : i < vs.length) (ge : n0 ≤ a) (hd : decode code pc = .ok (.iastore, 1)) (hp : pc + 1 = pc')
    (k : ∀ (T' : State) (h' : Heap), St p l e R s m args below meth c Z code own ret ml nm n0 T' h' cells slots → Wr h h' a i (.int x) → AV Z h' a .int (vs.set i (.int x)) → Ends p e below s n0 C S Q T' (mkF m pc' Ls stk)) : Ends p e below s n0 C S Q T (mkF m pc Ls (.int x :: .int j :: .ref a :: stk)) := by
  obtain ⟨locs, Y, hx, hZ, hc, ho, hr, hm, hn, hk, hh, hF, h0⟩ := X
  subst hp hi
  have A0 := A
  obtain ⟨cl, A, r1, r2, r3⟩ := A
  subst r1
  obtain ⟨T', h', Y', e', W, st⟩ := stI Y hx hZ hh A (j := j) (x := x) (fun q => q.elim hj fun q => by simp at hlt; omega) (g := mkF m pc Ls (.int x :: .int j :: .ref a :: stk)) rfl rfl (hb hc hd)
  exact (k T' h' ⟨_, Y', hx, hZ, hc, ho, hr, hm, hn, hk, e', Fr.snoc Y' hF ge, h0⟩ W (A0.same W rfl)).by st
theorem F_lastore (X : St p l e R s m args below meth c Z code own ret ml nm n0 T h cells slots) {a : Addr} {vs : List Value} {j : Int32} {x : Int64} {i : Nat} (A : AV Z h a .long vs) (hj : ¬ j < 0) (hi : j.toNatClampNeg = i) (hlt : i < vs.length) (ge : n0 ≤ a) (hd : decode code pc = .ok (.lastore, 1)) (hp : pc + 1 = pc')
    (k : ∀ (T' : State) (h' : Heap), St p l e R s m args below meth c Z code own ret ml nm n0 T' h' cells slots → Wr h h' a i (.long x) → AV Z h' a .long (vs.set i (.long x)) → Ends p e below s n0 C S Q T' (mkF m pc' Ls stk)) : Ends p e below s n0 C S Q T (mkF m pc Ls (.long x :: .int j :: .ref a :: stk)) := by
  obtain ⟨locs, Y, hx, hZ, hc, ho, hr, hm, hn, hk, hh, hF, h0⟩ := X
  subst hp hi
  have A0 := A
  obtain ⟨cl, A, r1, r2, r3⟩ := A
  subst r1
  obtain ⟨T', h', Y', e', W, st⟩ := stJ Y hx hZ hh A (j := j) (x := x) (fun q => q.elim hj fun q => by simp at hlt; omega) (g := mkF m pc Ls (.long x :: .int j :: .ref a :: stk)) rfl rfl (hb hc hd)
  exact (k T' h' ⟨_, Y', hx, hZ, hc, ho, hr, hm, hn, hk, e', Fr.snoc Y' hF ge, h0⟩ W (A0.same W rfl)).by st
theorem F_bastore (X : St p l e R s m args below meth c Z code own ret ml nm n0 T h cells slots) {a : Addr} {vs : List Value} {j : Int32} {x : Int32} {i : Nat} (A : AV Z h a .byte vs) (hj : ¬ j < 0) (hi : j.toNatClampNeg = i) (hlt : i < vs.length) (ge : n0 ≤ a) {z : Int32} (hz : x.toInt8.toInt32 = z) (hd : decode code pc = .ok (.bastore, 1)) (hp : pc + 1 = pc')
    (k : ∀ (T' : State) (h' : Heap), St p l e R s m args below meth c Z code own ret ml nm n0 T' h' cells slots → Wr h h' a i (.int z) → AV Z h' a .byte (vs.set i (.int z)) → Ends p e below s n0 C S Q T' (mkF m pc' Ls stk)) : Ends p e below s n0 C S Q T (mkF m pc Ls (.int x :: .int j :: .ref a :: stk)) := by
  obtain ⟨locs, Y, hx, hZ, hc, ho, hr, hm, hn, hk, hh, hF, h0⟩ := X
  subst hp hi
  have A0 := A
  obtain ⟨cl, A, r1, r2, r3⟩ := A
  subst r1
  obtain ⟨T', h', Y', e', W, st⟩ := stB Y hx hZ hh A (j := j) (x := x) (fun q => q.elim hj fun q => by simp at hlt; omega) (g := mkF m pc Ls (.int x :: .int j :: .ref a :: stk)) rfl rfl (hb hc hd)
  subst hz
  exact (k T' h' ⟨_, Y', hx, hZ, hc, ho, hr, hm, hn, hk, e', Fr.snoc Y' hF ge, h0⟩ W (A0.same W (fits_nar_byte _))).by st
theorem F_newarray (X : St p l e R s m args below meth c Z code own ret ml nm n0 T h cells slots) {aty : ArrayType} {n : Int32} {cap : Nat} {ad : String} (w : (Cond.arrayClass (newarray.typeOf aty)).before a0 Z = true) (hn0 : ¬ n < 0) (hcap : n.toNatClampNeg = cap) (hbig : cap * 8 ≤ 536870912) (r3 : cells + 1 ≤ R.cells) (r4 : slots + cap ≤ R.slots) (had : "[" ++ (newarray.typeOf aty).toString = ad) (hd : decode code pc = .ok (.newarray aty, 2)) (hp : pc + 2 = pc')
    (k : ∀ (T' : State) (h' : Heap) (a : Addr), St p l e R s m args below meth c Z code own ret ml nm n0 T' h' (cells + 1) (slots + cap) → Ext h h' → a = h.size → n0 ≤ a → Exa Z h' a ad → AV Z h' a (newarray.typeOf aty) (List.replicate cap (defaultValue (newarray.typeOf aty))) → Ends p e below s n0 C S Q T' (mkF m pc' Ls (.ref a :: stk))) : Ends p e below s n0 C S Q T (mkF m pc Ls (.int n :: stk)) := by
  have hsz := X.size
  obtain ⟨locs, Y, hx, hZ, hc, ho, hr, hm, hn, hk, hh, hF, h0⟩ := X
  subst hp
  obtain ⟨T', h', cA, Y', e', E, A, EX, st⟩ := newPE Y hx hZ w hh (g := mkF m pc Ls (.int n :: stk)) rfl (hb hc hd) rfl hn0 (Nat.le_of_eq hcap) hbig r3 r4 had
  refine (k T' h' _ ⟨_, Y', hx, hZ, hc, ho, hr, hm, hn, hk, e', hF, h0⟩ E rfl hsz EX ⟨_, A, by simp [newA, hcap], by simp; omega, fun v hv => ?_⟩).by st
  rw [(List.mem_replicate.mp hv).2]
  cases aty <;> rfl
theorem AV.arv {a : Addr} {ty : FieldType} {vs : List Value} (A : AV Z h a ty vs) (dv : Value) : ∃ k, Arv Z h a k ty vs.length.toInt32 vs dv := by
  obtain ⟨cl, A, r1, r2, r3⟩ := A
  have e1 : (vs.length.toInt32).toInt = vs.length := len_toInt (by omega)
  have e2 : vs.length.toInt32.toNatClampNeg = vs.length := by simp only [Int32.toNatClampNeg, e1]; omega
  have sz : cl.slots.size = vs.length := by rw [← r1]; simp
  have g : ∀ i, i < vs.length → vs[i]? = some (vs.getD i dv) := fun i hi => by simp [List.getD_eq_getElem?_getD, hi]
  refine ⟨cl.cls, cl, A, rfl, by rw [e2]; exact sz, by simp only [Int32.lt_iff_toInt_lt, e1, Int32.reduceToInt]; omega, fun i hi => ?_, fun i hi => ?_⟩
  · rw [← Array.getElem?_toList, r1]; exact g i (sz ▸ hi)
  · exact r3 _ (List.mem_of_getElem? (g i (sz ▸ hi)))
theorem AV.of_arv {a : Addr} {ty : FieldType} {vs : List Value} {k : ClassId} {z : Int32} {dv : Value} (A : Arv Z h a k ty z vs dv) (hz : z.toNatClampNeg = vs.length) : AV Z h a ty vs := by
  obtain ⟨cl, A, r1, r2, r3, H, G⟩ := A
  have sz : cl.slots.size = vs.length := r2.trans hz
  have e : cl.slots.toList = vs := by
    apply List.ext_getElem?
    intro i
    rw [Array.getElem?_toList]
    by_cases hi : i < vs.length
    · rw [H i (by rw [sz]; exact hi)]; simp [List.getD_eq_getElem?_getD, hi]
    · rw [Array.getElem?_eq_none (by omega), List.getElem?_eq_none (by omega)]
  refine ⟨cl, A, e, by have := (back32 r3).2; omega, fun v hv => ?_⟩
  obtain ⟨i, hi, rfl⟩ := List.getElem_of_mem hv
  have q := G i (by rw [sz]; exact hi)
  simpa [List.getD_eq_getElem?_getD, hi] using q

theorem F_arraycopy (X : St p l e R s m args below meth c Z code own ret ml nm n0 T h cells slots) {idx : Nat} {a b : Addr} {ty : FieldType} {vs vd us vr : List Value} {sp dp nn : Int32} (w1 : (Cond.methodLink own idx Jvm.Stand.acN).before a0 Z = true) (w2 : (Cond.native Jvm.Stand.acN).before a0 Z = true) (w3 : (Cond.static Jvm.Stand.acN).before a0 Z = true) (w4 : (Cond.initialized "java/lang/System").before a0 Z = true)
    (A : AV Z h a ty vs) (B : AV Z h b ty vd) (dv : Value) (hty : refKind ty = false) (h1 : ¬ sp < 0) (h2 : ¬ dp < 0) (h3 : ¬ nn < 0) (h4 : sp.toNatClampNeg + nn.toNatClampNeg ≤ vs.length) (h5 : dp.toNatClampNeg + nn.toNatClampNeg ≤ vd.length)
    (hus : us = (List.range nn.toNatClampNeg).map fun i => vs.getD (sp.toNatClampNeg + i) dv) (hvr : vd.take dp.toNatClampNeg ++ us ++ vd.drop (dp.toNatClampNeg + nn.toNatClampNeg) = vr) (ge : n0 ≤ b) (hls : Ls.size = ml) (r1 : 1 ≤ R.frames) {W : Nat} (hW : (stk.map fun v => v.category).sum ≤ W) (r2 : W + (nativeFrameWords "java/lang/System" "arraycopy" 5 + 11) ≤ R.locals) (hd : decode code pc = .ok (.invokestatic idx, 3)) (hp : pc + 3 = pc')
    (k : ∀ (T' : State) (h' : Heap), St p l e R s m args below meth c Z code own ret ml nm n0 T' h' cells slots → Keep h h' [b] → AV Z h' b ty vr → Ends p e below s n0 C S Q T' (mkF m pc' Ls stk)) : Ends p e below s n0 C S Q T (mkF m pc Ls (.int nn :: .int dp :: .ref b :: .int sp :: .ref a :: stk)) := by
  obtain ⟨locs, Y, hx, hZ, hc, ho, hr, hm, hn, hk, hh, hF, h0⟩ := X
  have hla : vs.length < 2147483648 := by obtain ⟨_, _, _, q, _⟩ := A; exact q
  have hlb : vd.length < 2147483648 := by obtain ⟨_, _, _, q, _⟩ := B; exact q
  subst hp
  obtain ⟨ka, A⟩ := A.arv dv
  obtain ⟨kb, B0⟩ := B.arv dv
  obtain ⟨T', h', L, Y', e', N', K', B', st⟩ := cpA Y hx hZ ho w1 w2 w3 w4 hh A B0 (Or.inl ⟨rfl, hty⟩) h1 h2 h3 (by rw [own_len32 hla]; exact h4) (by rw [own_len32 hlb]; exact h5) hus h5 hF ge (g := mkF m pc Ls (.int nn :: .int dp :: .ref b :: .int sp :: .ref a :: stk)) rfl (by rw [hm]; exact hls) rfl (hb hc hd) r1 (W := W) (by show 2 * 0 + _ ≤ _; omega) r2
  rw [hvr] at B'
  exact (k T' h' ⟨_, Y', hx, hZ, hc, ho, hr, hm, hn, hk, e', N', h0⟩ K' (AV.of_arv B' (by rw [own_len32 hlb, ← hvr, hus]; simp; omega))).by st
theorem F_clone (X : St p l e R s m args below meth c Z code own ret ml nm n0 T h cells slots) {idx : Nat} {a : Addr} {ty : FieldType} {vs : List Value} {ad : String} {cap : Nat} (w1 : (Cond.methodLink own idx ⟨ad, "clone", "()Ljava/lang/Object;"⟩).before a0 Z = true) (w2 : (Cond.sameMethod ad "java/lang/Object" "clone" "()Ljava/lang/Object;").before a0 Z = true) (w3 : (Cond.native ⟨"java/lang/Object", "clone", "()Ljava/lang/Object;"⟩).before a0 Z = true)
    (w4 : (Cond.instanceMethod ⟨"java/lang/Object", "clone", "()Ljava/lang/Object;"⟩).before a0 Z = true) (w5 : (Cond.selects ad ⟨ad, "clone", "()Ljava/lang/Object;"⟩ ⟨"java/lang/Object", "clone", "()Ljava/lang/Object;"⟩).before a0 Z = true) (w6 : (Cond.castable ad "java/lang/Cloneable").before a0 Z = true)
    (A : AV Z h a ty vs) (E : Exa Z h a ad) (hls : Ls.size = ml) (r1 : 1 ≤ R.frames) {W : Nat} (hW : (stk.map fun v => v.category).sum ≤ W) (r2 : W + 14 ≤ R.locals) (hcap : vs.length ≤ cap) (r3 : cells + 1 ≤ R.cells) (r4 : slots + cap ≤ R.slots) (hd : decode code pc = .ok (.invokevirtual idx, 3)) (hp : pc + 3 = pc')
    (k : ∀ (T' : State) (h' : Heap) (b : Addr), St p l e R s m args below meth c Z code own ret ml nm n0 T' h' (cells + 1) (slots + cap) → Ext h h' → b = h.size → n0 ≤ b → Exa Z h' b ad → AV Z h' b ty vs → Ends p e below s n0 C S Q T' (mkF m pc' Ls (.ref b :: stk))) : Ends p e below s n0 C S Q T (mkF m pc Ls (.ref a :: stk)) := by
  have hsz := X.size
  obtain ⟨locs, Y, hx, hZ, hc, ho, hr, hm, hn, hk, hh, hF, h0⟩ := X
  subst hp
  obtain ⟨cl, A, q1, q2, q3⟩ := A
  have FC : FitC Z cl := fitC_of A fun i hi v hv => q3 v (by rw [← q1]; exact List.mem_of_getElem? (i := i) (by rw [Array.getElem?_toList]; exact hv))
  obtain ⟨T', h', Y', e', E', A', EX, st⟩ := cloneA Y hx hZ ho w1 w2 w3 w4 w5 w6 hh A E FC (g := mkF m pc Ls (.ref a :: stk)) rfl (by rw [hm]; exact hls) rfl (hb hc hd) r1 (W := W) (by show 2 * 0 + _ ≤ _; omega) r2 (cap := cap) (by rw [← q1] at hcap; simpa using hcap) r3 r4
  exact (k T' h' _ ⟨_, Y', hx, hZ, hc, ho, hr, hm, hn, hk, e', hF, h0⟩ E' rfl hsz EX ⟨_, A', q1, q2, q3⟩).by st
theorem F_checkcast (X : St p l e R s m args below meth c Z code own ret ml nm n0 T h cells slots) {idx : Nat} {a : Addr} {K : String} (w : (Cond.classLink own idx K).before a0 Z = true) (E : Exa Z h a K) (hd : decode code pc = .ok (.checkcast idx, 3)) (hp : pc + 3 = pc')
    (k : ∀ T' : State, St p l e R s m args below meth c Z code own ret ml nm n0 T' h cells slots → Ends p e below s n0 C S Q T' (mkF m pc' Ls (.ref a :: stk))) : Ends p e below s n0 C S Q T (mkF m pc Ls (.ref a :: stk)) := by
  obtain ⟨locs, Y, hx, hZ, hc, ho, hr, hm, hn, hk, hh, hF, h0⟩ := X
  subst hp
  obtain ⟨T', Y', e', st⟩ := castY Y hx hZ ho w hh (Ins.self E) (g := mkF m pc Ls (.ref a :: stk)) rfl rfl (hb hc hd)
  exact (k T' ⟨_, Y', hx, hZ, hc, ho, hr, hm, hn, hk, e', hF, h0⟩).by st
end Laws
end Jvm.OwnKit

namespace Jvm.Pilot.@@N@@
open Jvm Jvm.ClassFile Sem Op Lib Jvm.Free Jvm.Stand Jvm.LawKit Jvm.RoadKit Jvm.OwnKit Bundle Jvm.Pilot.@@N@@.Jvm.D
theorem wd0 {a0 : Array Value} {Z : State} (hw : ∀ d ∈ tables_1, d.before a0 Z = true) : (Jvm.Cond.arrayClass Jvm.ClassFile.FieldType.long).before a0 Z = true := hw _ (List.mem_of_getElem? (i := 0) rfl)
theorem wd1 {a0 : Array Value} {Z : State} (hw : ∀ d ∈ tables_1, d.before a0 Z = true) : (Jvm.Cond.methodLink "com/example/entailment/entailment/BitsAddPinLaw" (7 : Nat) ({ cls := "com/example/entailment/entailment/Bits", name := "add", desc := "([J[J)V" } : Jvm.MethodName)).before a0 Z = true := hw _ (List.mem_of_getElem? (i := 1) rfl)
theorem wd2 {a0 : Array Value} {Z : State} (hw : ∀ d ∈ tables_1, d.before a0 Z = true) : (Jvm.Cond.static ({ cls := "com/example/entailment/entailment/Bits", name := "add", desc := "([J[J)V" } : Jvm.MethodName)).before a0 Z = true := hw _ (List.mem_of_getElem? (i := 2) rfl)
theorem wd3 {a0 : Array Value} {Z : State} (hw : ∀ d ∈ tables_1, d.before a0 Z = true) : (Jvm.Cond.initialized "com/example/entailment/entailment/Bits").before a0 Z = true := hw _ (List.mem_of_getElem? (i := 3) rfl)
theorem wd4 {a0 : Array Value} {Z : State} (hw : ∀ d ∈ tables_1, d.before a0 Z = true) : (Jvm.Cond.code ({ cls := "com/example/entailment/entailment/Bits", name := "add", desc := "([J[J)V" } : Jvm.MethodName) prog_1_method_6_code (3 : Nat) (Option.none : Option Jvm.ClassFile.FieldType)).before a0 Z = true := hw _ (List.mem_of_getElem? (i := 4) rfl)
theorem pd0 : parseMethodDescriptor "([J[J)V" = some ⟨[(.array .long), (.array .long)], none⟩ := by decide +kernel


theorem d1_0 : decode prog_1_method_6_code 0 = .ok (.aload_n 0, 1) := by decide +kernel
theorem d1_1 : decode prog_1_method_6_code 1 = .ok (.ifnull 26, 3) := by decide +kernel
theorem d1_27 : decode prog_1_method_6_code 27 = .ok (.return_, 1) := by decide +kernel
theorem pn1 : plainName "com/example/entailment/entailment/Bits" = true := by first | (simp [plainName, overriddenIn]; done) | decide +kernel
theorem ef_conN0 (m : MethodId) (x1 : Addr) : entryFrame m #[.null, (.ref x1)] 3 = mkF m 0 #[.val .null, .val (.ref x1), .unset] [] := by first | (simp [entryFrame, mkF, argsToLocals, Value.category]; done) | rfl
set_option maxRecDepth 65536 in
set_option maxHeartbeats 40000000 in
theorem conN0 (l : Launch) (Z : State) (a0 : Array Value) (hw : ∀ d ∈ tables_1, d.before a0 Z = true) (n0 : Nat) (h : Heap) (hn0 : n0 ≤ h.size) (o2 : Addr) :
    Con l (⟨"com/example/entailment/entailment/Bits", "add", "([J[J)V"⟩ : MethodName) prog_1_method_6_code 3 none ({ frames := 0, cells := 0, slots := 0, locals := 0 } : Room) 0 0 Z n0 #[.null, (.ref o2)] h (fun v h' => v = none ∧ h = h') := by
  refine Con.body (own := "com/example/entailment/entailment/Bits") (nm := "add") rfl rfl (plainFor_of_name pn1) hn0 ?_
  intro p e s m below meth c T0 X0
  rw [ef_conN0]
  refine F_aloadN X0 d1_0 rfl rfl (pc' := 1) rfl ?_
  refine F_ifnull_null X0 d1_1 (by decide) (pt := 27) (by decide) ?_
  refine F_return X0 d1_27 rfl (by decide) (by decide) ?_
  exact ⟨rfl, rfl⟩
theorem d1_4 : decode prog_1_method_6_code 4 = .ok (.iconst 0, 1) := by decide +kernel
theorem d1_5 : decode prog_1_method_6_code 5 = .ok (.istore_n 2, 1) := by decide +kernel
theorem d1_6 : decode prog_1_method_6_code 6 = .ok (.iload_n 2, 1) := by decide +kernel
theorem d1_7 : decode prog_1_method_6_code 7 = .ok (.aload_n 0, 1) := by decide +kernel
theorem d1_8 : decode prog_1_method_6_code 8 = .ok (.arraylength, 1) := by decide +kernel
theorem d1_9 : decode prog_1_method_6_code 9 = .ok (.if_icmp .ge 18, 3) := by decide +kernel
theorem ef_conA0_0 (m : MethodId) (x0 : Addr) (x1 : Addr) : entryFrame m #[(.ref x0), (.ref x1)] 3 = mkF m 0 #[.val (.ref x0), .val (.ref x1), .unset] [] := by first | (simp [entryFrame, mkF, argsToLocals, Value.category]; done) | rfl
set_option maxRecDepth 65536 in
set_option maxHeartbeats 40000000 in
theorem conA0_0 (l : Launch) (Z : State) (a0 : Array Value) (hw : ∀ d ∈ tables_1, d.before a0 Z = true) (n0 : Nat) (h : Heap) (hn0 : n0 ≤ h.size) (o1 : Addr) (o2 : Addr) (A_o1 : AV Z h o1 .long []) (A_o2 : AV Z h o2 .long []) (ge_o2 : n0 ≤ o2) (ne_o1_o2 : o1 ≠ o2) :
    Con l (⟨"com/example/entailment/entailment/Bits", "add", "([J[J)V"⟩ : MethodName) prog_1_method_6_code 3 none ({ frames := 0, cells := 0, slots := 0, locals := 0 } : Room) 0 0 Z n0 #[(.ref o1), (.ref o2)] h (fun v h' => v = none ∧ Keep h h' [o2] ∧ AV Z h' o2 .long []) := by
  refine Con.body (own := "com/example/entailment/entailment/Bits") (nm := "add") rfl rfl (plainFor_of_name pn1) hn0 ?_
  intro p e s m below meth c T0 X0
  rw [ef_conA0_0]
  refine F_aloadN X0 d1_0 rfl rfl (pc' := 1) rfl ?_
  refine F_ifnull_ref X0 d1_1 (pc' := 4) rfl ?_
  refine F_iconst X0 d1_4 (z := (0 : Int32)) (by decide) (pc' := 5) rfl ?_
  refine F_istoreN X0 d1_5 (Ls' := #[.val (.ref o1), .val (.ref o2), .val (.int (0 : Int32))]) rfl (pc' := 6) rfl ?_
  refine F_iloadN X0 d1_6 rfl (pc' := 7) rfl ?_
  refine F_aloadN X0 d1_7 rfl rfl (pc' := 8) rfl ?_
  refine F_arraylength X0 A_o1 (z := (0 : Int32)) rfl d1_8 (pc' := 9) rfl ?_
  refine F_icmp_ge X0 d1_9 (by decide) (pt := 27) (by decide) (pc' := 12) rfl (fun _ => ?_) (fun q => absurd q (by decide))
  refine F_return X0 d1_27 rfl (by decide) (by decide) ?_
  exact ⟨rfl, (Keep.refl h [o2]), A_o2⟩
theorem ef_conA0_1 (m : MethodId) (x0 : Addr) (x1 : Addr) : entryFrame m #[(.ref x0), (.ref x1)] 3 = mkF m 0 #[.val (.ref x0), .val (.ref x1), .unset] [] := by first | (simp [entryFrame, mkF, argsToLocals, Value.category]; done) | rfl
set_option maxRecDepth 65536 in
set_option maxHeartbeats 40000000 in
theorem conA0_1 (l : Launch) (Z : State) (a0 : Array Value) (hw : ∀ d ∈ tables_1, d.before a0 Z = true) (n0 : Nat) (h : Heap) (hn0 : n0 ≤ h.size) (o1 : Addr) (o2 : Addr) (i0 : Int64) (A_o1 : AV Z h o1 .long []) (A_o2 : AV Z h o2 .long [(.long i0)]) (ge_o2 : n0 ≤ o2) (ne_o1_o2 : o1 ≠ o2) :
    Con l (⟨"com/example/entailment/entailment/Bits", "add", "([J[J)V"⟩ : MethodName) prog_1_method_6_code 3 none ({ frames := 0, cells := 0, slots := 0, locals := 0 } : Room) 0 0 Z n0 #[(.ref o1), (.ref o2)] h (fun v h' => v = none ∧ Keep h h' [o2] ∧ AV Z h' o2 .long [(.long i0)]) := by
  refine Con.body (own := "com/example/entailment/entailment/Bits") (nm := "add") rfl rfl (plainFor_of_name pn1) hn0 ?_
  intro p e s m below meth c T0 X0
  rw [ef_conA0_1]
  refine F_aloadN X0 d1_0 rfl rfl (pc' := 1) rfl ?_
  refine F_ifnull_ref X0 d1_1 (pc' := 4) rfl ?_
  refine F_iconst X0 d1_4 (z := (0 : Int32)) (by decide) (pc' := 5) rfl ?_
  refine F_istoreN X0 d1_5 (Ls' := #[.val (.ref o1), .val (.ref o2), .val (.int (0 : Int32))]) rfl (pc' := 6) rfl ?_
  refine F_iloadN X0 d1_6 rfl (pc' := 7) rfl ?_
  refine F_aloadN X0 d1_7 rfl rfl (pc' := 8) rfl ?_
  refine F_arraylength X0 A_o1 (z := (0 : Int32)) rfl d1_8 (pc' := 9) rfl ?_
  refine F_icmp_ge X0 d1_9 (by decide) (pt := 27) (by decide) (pc' := 12) rfl (fun _ => ?_) (fun q => absurd q (by decide))
  refine F_return X0 d1_27 rfl (by decide) (by decide) ?_
  exact ⟨rfl, (Keep.refl h [o2]), A_o2⟩
theorem d1_12 : decode prog_1_method_6_code 12 = .ok (.aload_n 1, 1) := by decide +kernel
theorem d1_13 : decode prog_1_method_6_code 13 = .ok (.iload_n 2, 1) := by decide +kernel
theorem d1_14 : decode prog_1_method_6_code 14 = .ok (.dup2, 1) := by decide +kernel
theorem d1_15 : decode prog_1_method_6_code 15 = .ok (.laload, 1) := by decide +kernel
theorem d1_16 : decode prog_1_method_6_code 16 = .ok (.aload_n 0, 1) := by decide +kernel
theorem d1_17 : decode prog_1_method_6_code 17 = .ok (.iload_n 2, 1) := by decide +kernel
theorem d1_18 : decode prog_1_method_6_code 18 = .ok (.laload, 1) := by decide +kernel
theorem d1_19 : decode prog_1_method_6_code 19 = .ok (.lor, 1) := by decide +kernel
theorem d1_20 : decode prog_1_method_6_code 20 = .ok (.lastore, 1) := by decide +kernel
theorem d1_21 : decode prog_1_method_6_code 21 = .ok (.iinc 2 1, 3) := by decide +kernel
theorem d1_24 : decode prog_1_method_6_code 24 = .ok (.goto (-18), 3) := by decide +kernel
theorem ef_conA1_1 (m : MethodId) (x0 : Addr) (x1 : Addr) : entryFrame m #[(.ref x0), (.ref x1)] 3 = mkF m 0 #[.val (.ref x0), .val (.ref x1), .unset] [] := by first | (simp [entryFrame, mkF, argsToLocals, Value.category]; done) | rfl
set_option maxRecDepth 65536 in
set_option maxHeartbeats 40000000 in
theorem conA1_1 (l : Launch) (Z : State) (a0 : Array Value) (hw : ∀ d ∈ tables_1, d.before a0 Z = true) (n0 : Nat) (h : Heap) (hn0 : n0 ≤ h.size) (o1 : Addr) (o2 : Addr) (s0 : Int64) (i0 : Int64) (A_o1 : AV Z h o1 .long [(.long s0)]) (A_o2 : AV Z h o2 .long [(.long i0)]) (ge_o2 : n0 ≤ o2) (ne_o1_o2 : o1 ≠ o2) :
    Con l (⟨"com/example/entailment/entailment/Bits", "add", "([J[J)V"⟩ : MethodName) prog_1_method_6_code 3 none ({ frames := 0, cells := 0, slots := 0, locals := 0 } : Room) 0 0 Z n0 #[(.ref o1), (.ref o2)] h (fun v h' => v = none ∧ Keep h h' [o2] ∧ AV Z h' o2 .long [(.long (i0 ||| s0))]) := by
  refine Con.body (own := "com/example/entailment/entailment/Bits") (nm := "add") rfl rfl (plainFor_of_name pn1) hn0 ?_
  intro p e s m below meth c T0 X0
  rw [ef_conA1_1]
  refine F_aloadN X0 d1_0 rfl rfl (pc' := 1) rfl ?_
  refine F_ifnull_ref X0 d1_1 (pc' := 4) rfl ?_
  refine F_iconst X0 d1_4 (z := (0 : Int32)) (by decide) (pc' := 5) rfl ?_
  refine F_istoreN X0 d1_5 (Ls' := #[.val (.ref o1), .val (.ref o2), .val (.int (0 : Int32))]) rfl (pc' := 6) rfl ?_
  refine F_iloadN X0 d1_6 rfl (pc' := 7) rfl ?_
  refine F_aloadN X0 d1_7 rfl rfl (pc' := 8) rfl ?_
  refine F_arraylength X0 A_o1 (z := (1 : Int32)) rfl d1_8 (pc' := 9) rfl ?_
  refine F_icmp_ge X0 d1_9 (by decide) (pt := 27) (by decide) (pc' := 12) rfl (fun q => absurd q (by decide)) (fun _ => ?_)
  refine F_aloadN X0 d1_12 rfl rfl (pc' := 13) rfl ?_
  refine F_iloadN X0 d1_13 rfl (pc' := 14) rfl ?_
  refine F_dup2 X0 d1_14 rfl rfl (pc' := 15) rfl ?_
  refine F_laload X0 A_o2 (by decide) rfl d1_15 (pc' := 16) rfl ?_
  refine F_aloadN X0 d1_16 rfl rfl (pc' := 17) rfl ?_
  refine F_iloadN X0 d1_17 rfl (pc' := 18) rfl ?_
  refine F_laload X0 A_o1 (by decide) rfl d1_18 (pc' := 19) rfl ?_
  refine F_lor X0 d1_19 rfl (pc' := 20) rfl ?_
  refine F_lastore X0 A_o2 (by decide) (i := 0) (by decide) (Nat.le_of_ble_eq_true rfl) ge_o2 d1_20 (pc' := 21) rfl fun T1 h1 X1 W1 A1 => ?_
  replace A1 : AV Z h1 o2 .long [(.long (i0 ||| s0))] := A1
  have A1_o1 := A_o1.other W1 ne_o1_o2
  have K2 := (Keep.refl h [o2]).wr W1 (Or.inl (List.mem_of_getElem? (i := 0) rfl))
  refine F_iinc X1 d1_21 rfl (Ls' := #[.val (.ref o1), .val (.ref o2), .val (.int (1 : Int32))]) rfl (pc' := 24) rfl ?_
  refine F_goto X1 d1_24 (by decide) (pc' := 6) (by decide) ?_
  refine F_iloadN X1 d1_6 rfl (pc' := 7) rfl ?_
  refine F_aloadN X1 d1_7 rfl rfl (pc' := 8) rfl ?_
  refine F_arraylength X1 A1_o1 (z := (1 : Int32)) rfl d1_8 (pc' := 9) rfl ?_
  refine F_icmp_ge X1 d1_9 (by decide) (pt := 27) (by decide) (pc' := 12) rfl (fun _ => ?_) (fun q => absurd q (by decide))
  refine F_return X1 d1_27 rfl (by decide) (by decide) ?_
  exact ⟨rfl, K2, A1⟩
theorem ef_conA1_2 (m : MethodId) (x0 : Addr) (x1 : Addr) : entryFrame m #[(.ref x0), (.ref x1)] 3 = mkF m 0 #[.val (.ref x0), .val (.ref x1), .unset] [] := by first | (simp [entryFrame, mkF, argsToLocals, Value.category]; done) | rfl
set_option maxRecDepth 65536 in
set_option maxHeartbeats 40000000 in
theorem conA1_2 (l : Launch) (Z : State) (a0 : Array Value) (hw : ∀ d ∈ tables_1, d.before a0 Z = true) (n0 : Nat) (h : Heap) (hn0 : n0 ≤ h.size) (o1 : Addr) (o2 : Addr) (s0 : Int64) (i0 : Int64) (i1 : Int64) (A_o1 : AV Z h o1 .long [(.long s0)]) (A_o2 : AV Z h o2 .long [(.long i0), (.long i1)]) (ge_o2 : n0 ≤ o2) (ne_o1_o2 : o1 ≠ o2) :
    Con l (⟨"com/example/entailment/entailment/Bits", "add", "([J[J)V"⟩ : MethodName) prog_1_method_6_code 3 none ({ frames := 0, cells := 0, slots := 0, locals := 0 } : Room) 0 0 Z n0 #[(.ref o1), (.ref o2)] h (fun v h' => v = none ∧ Keep h h' [o2] ∧ AV Z h' o2 .long [(.long (i0 ||| s0)), (.long i1)]) := by
  refine Con.body (own := "com/example/entailment/entailment/Bits") (nm := "add") rfl rfl (plainFor_of_name pn1) hn0 ?_
  intro p e s m below meth c T0 X0
  rw [ef_conA1_2]
  refine F_aloadN X0 d1_0 rfl rfl (pc' := 1) rfl ?_
  refine F_ifnull_ref X0 d1_1 (pc' := 4) rfl ?_
  refine F_iconst X0 d1_4 (z := (0 : Int32)) (by decide) (pc' := 5) rfl ?_
  refine F_istoreN X0 d1_5 (Ls' := #[.val (.ref o1), .val (.ref o2), .val (.int (0 : Int32))]) rfl (pc' := 6) rfl ?_
  refine F_iloadN X0 d1_6 rfl (pc' := 7) rfl ?_
  refine F_aloadN X0 d1_7 rfl rfl (pc' := 8) rfl ?_
  refine F_arraylength X0 A_o1 (z := (1 : Int32)) rfl d1_8 (pc' := 9) rfl ?_
  refine F_icmp_ge X0 d1_9 (by decide) (pt := 27) (by decide) (pc' := 12) rfl (fun q => absurd q (by decide)) (fun _ => ?_)
  refine F_aloadN X0 d1_12 rfl rfl (pc' := 13) rfl ?_
  refine F_iloadN X0 d1_13 rfl (pc' := 14) rfl ?_
  refine F_dup2 X0 d1_14 rfl rfl (pc' := 15) rfl ?_
  refine F_laload X0 A_o2 (by decide) rfl d1_15 (pc' := 16) rfl ?_
  refine F_aloadN X0 d1_16 rfl rfl (pc' := 17) rfl ?_
  refine F_iloadN X0 d1_17 rfl (pc' := 18) rfl ?_
  refine F_laload X0 A_o1 (by decide) rfl d1_18 (pc' := 19) rfl ?_
  refine F_lor X0 d1_19 rfl (pc' := 20) rfl ?_
  refine F_lastore X0 A_o2 (by decide) (i := 0) (by decide) (Nat.le_of_ble_eq_true rfl) ge_o2 d1_20 (pc' := 21) rfl fun T1 h1 X1 W1 A1 => ?_
  replace A1 : AV Z h1 o2 .long [(.long (i0 ||| s0)), (.long i1)] := A1
  have A1_o1 := A_o1.other W1 ne_o1_o2
  have K2 := (Keep.refl h [o2]).wr W1 (Or.inl (List.mem_of_getElem? (i := 0) rfl))
  refine F_iinc X1 d1_21 rfl (Ls' := #[.val (.ref o1), .val (.ref o2), .val (.int (1 : Int32))]) rfl (pc' := 24) rfl ?_
  refine F_goto X1 d1_24 (by decide) (pc' := 6) (by decide) ?_
  refine F_iloadN X1 d1_6 rfl (pc' := 7) rfl ?_
  refine F_aloadN X1 d1_7 rfl rfl (pc' := 8) rfl ?_
  refine F_arraylength X1 A1_o1 (z := (1 : Int32)) rfl d1_8 (pc' := 9) rfl ?_
  refine F_icmp_ge X1 d1_9 (by decide) (pt := 27) (by decide) (pc' := 12) rfl (fun _ => ?_) (fun q => absurd q (by decide))
  refine F_return X1 d1_27 rfl (by decide) (by decide) ?_
  exact ⟨rfl, K2, A1⟩
theorem ef_conA2_2 (m : MethodId) (x0 : Addr) (x1 : Addr) : entryFrame m #[(.ref x0), (.ref x1)] 3 = mkF m 0 #[.val (.ref x0), .val (.ref x1), .unset] [] := by first | (simp [entryFrame, mkF, argsToLocals, Value.category]; done) | rfl
set_option maxRecDepth 65536 in
set_option maxHeartbeats 40000000 in
theorem conA2_2 (l : Launch) (Z : State) (a0 : Array Value) (hw : ∀ d ∈ tables_1, d.before a0 Z = true) (n0 : Nat) (h : Heap) (hn0 : n0 ≤ h.size) (o1 : Addr) (o2 : Addr) (s0 : Int64) (s1 : Int64) (i0 : Int64) (i1 : Int64) (A_o1 : AV Z h o1 .long [(.long s0), (.long s1)]) (A_o2 : AV Z h o2 .long [(.long i0), (.long i1)]) (ge_o2 : n0 ≤ o2) (ne_o1_o2 : o1 ≠ o2) :
    Con l (⟨"com/example/entailment/entailment/Bits", "add", "([J[J)V"⟩ : MethodName) prog_1_method_6_code 3 none ({ frames := 0, cells := 0, slots := 0, locals := 0 } : Room) 0 0 Z n0 #[(.ref o1), (.ref o2)] h (fun v h' => v = none ∧ Keep h h' [o2] ∧ AV Z h' o2 .long [(.long (i0 ||| s0)), (.long (i1 ||| s1))]) := by
  refine Con.body (own := "com/example/entailment/entailment/Bits") (nm := "add") rfl rfl (plainFor_of_name pn1) hn0 ?_
  intro p e s m below meth c T0 X0
  rw [ef_conA2_2]
  refine F_aloadN X0 d1_0 rfl rfl (pc' := 1) rfl ?_
  refine F_ifnull_ref X0 d1_1 (pc' := 4) rfl ?_
  refine F_iconst X0 d1_4 (z := (0 : Int32)) (by decide) (pc' := 5) rfl ?_
  refine F_istoreN X0 d1_5 (Ls' := #[.val (.ref o1), .val (.ref o2), .val (.int (0 : Int32))]) rfl (pc' := 6) rfl ?_
  refine F_iloadN X0 d1_6 rfl (pc' := 7) rfl ?_
  refine F_aloadN X0 d1_7 rfl rfl (pc' := 8) rfl ?_
  refine F_arraylength X0 A_o1 (z := (2 : Int32)) rfl d1_8 (pc' := 9) rfl ?_
  refine F_icmp_ge X0 d1_9 (by decide) (pt := 27) (by decide) (pc' := 12) rfl (fun q => absurd q (by decide)) (fun _ => ?_)
  refine F_aloadN X0 d1_12 rfl rfl (pc' := 13) rfl ?_
  refine F_iloadN X0 d1_13 rfl (pc' := 14) rfl ?_
  refine F_dup2 X0 d1_14 rfl rfl (pc' := 15) rfl ?_
  refine F_laload X0 A_o2 (by decide) rfl d1_15 (pc' := 16) rfl ?_
  refine F_aloadN X0 d1_16 rfl rfl (pc' := 17) rfl ?_
  refine F_iloadN X0 d1_17 rfl (pc' := 18) rfl ?_
  refine F_laload X0 A_o1 (by decide) rfl d1_18 (pc' := 19) rfl ?_
  refine F_lor X0 d1_19 rfl (pc' := 20) rfl ?_
  refine F_lastore X0 A_o2 (by decide) (i := 0) (by decide) (Nat.le_of_ble_eq_true rfl) ge_o2 d1_20 (pc' := 21) rfl fun T1 h1 X1 W1 A1 => ?_
  replace A1 : AV Z h1 o2 .long [(.long (i0 ||| s0)), (.long i1)] := A1
  have A1_o1 := A_o1.other W1 ne_o1_o2
  have K2 := (Keep.refl h [o2]).wr W1 (Or.inl (List.mem_of_getElem? (i := 0) rfl))
  refine F_iinc X1 d1_21 rfl (Ls' := #[.val (.ref o1), .val (.ref o2), .val (.int (1 : Int32))]) rfl (pc' := 24) rfl ?_
  refine F_goto X1 d1_24 (by decide) (pc' := 6) (by decide) ?_
  refine F_iloadN X1 d1_6 rfl (pc' := 7) rfl ?_
  refine F_aloadN X1 d1_7 rfl rfl (pc' := 8) rfl ?_
  refine F_arraylength X1 A1_o1 (z := (2 : Int32)) rfl d1_8 (pc' := 9) rfl ?_
  refine F_icmp_ge X1 d1_9 (by decide) (pt := 27) (by decide) (pc' := 12) rfl (fun q => absurd q (by decide)) (fun _ => ?_)
  refine F_aloadN X1 d1_12 rfl rfl (pc' := 13) rfl ?_
  refine F_iloadN X1 d1_13 rfl (pc' := 14) rfl ?_
  refine F_dup2 X1 d1_14 rfl rfl (pc' := 15) rfl ?_
  refine F_laload X1 A1 (by decide) rfl d1_15 (pc' := 16) rfl ?_
  refine F_aloadN X1 d1_16 rfl rfl (pc' := 17) rfl ?_
  refine F_iloadN X1 d1_17 rfl (pc' := 18) rfl ?_
  refine F_laload X1 A1_o1 (by decide) rfl d1_18 (pc' := 19) rfl ?_
  refine F_lor X1 d1_19 rfl (pc' := 20) rfl ?_
  refine F_lastore X1 A1 (by decide) (i := 1) (by decide) (Nat.le_of_ble_eq_true rfl) ge_o2 d1_20 (pc' := 21) rfl fun T3 h3 X3 W3 A3 => ?_
  replace A3 : AV Z h3 o2 .long [(.long (i0 ||| s0)), (.long (i1 ||| s1))] := A3
  have A3_o1 := A1_o1.other W3 ne_o1_o2
  have K4 := K2.wr W3 (Or.inl (List.mem_of_getElem? (i := 0) rfl))
  refine F_iinc X3 d1_21 rfl (Ls' := #[.val (.ref o1), .val (.ref o2), .val (.int (2 : Int32))]) rfl (pc' := 24) rfl ?_
  refine F_goto X3 d1_24 (by decide) (pc' := 6) (by decide) ?_
  refine F_iloadN X3 d1_6 rfl (pc' := 7) rfl ?_
  refine F_aloadN X3 d1_7 rfl rfl (pc' := 8) rfl ?_
  refine F_arraylength X3 A3_o1 (z := (2 : Int32)) rfl d1_8 (pc' := 9) rfl ?_
  refine F_icmp_ge X3 d1_9 (by decide) (pt := 27) (by decide) (pc' := 12) rfl (fun _ => ?_) (fun q => absurd q (by decide))
  refine F_return X3 d1_27 rfl (by decide) (by decide) ?_
  exact ⟨rfl, K4, A3⟩
theorem ef_conA2_3 (m : MethodId) (x0 : Addr) (x1 : Addr) : entryFrame m #[(.ref x0), (.ref x1)] 3 = mkF m 0 #[.val (.ref x0), .val (.ref x1), .unset] [] := by first | (simp [entryFrame, mkF, argsToLocals, Value.category]; done) | rfl
set_option maxRecDepth 65536 in
set_option maxHeartbeats 40000000 in
theorem conA2_3 (l : Launch) (Z : State) (a0 : Array Value) (hw : ∀ d ∈ tables_1, d.before a0 Z = true) (n0 : Nat) (h : Heap) (hn0 : n0 ≤ h.size) (o1 : Addr) (o2 : Addr) (s0 : Int64) (s1 : Int64) (i0 : Int64) (i1 : Int64) (i2 : Int64) (A_o1 : AV Z h o1 .long [(.long s0), (.long s1)]) (A_o2 : AV Z h o2 .long [(.long i0), (.long i1), (.long i2)]) (ge_o2 : n0 ≤ o2) (ne_o1_o2 : o1 ≠ o2) :
    Con l (⟨"com/example/entailment/entailment/Bits", "add", "([J[J)V"⟩ : MethodName) prog_1_method_6_code 3 none ({ frames := 0, cells := 0, slots := 0, locals := 0 } : Room) 0 0 Z n0 #[(.ref o1), (.ref o2)] h (fun v h' => v = none ∧ Keep h h' [o2] ∧ AV Z h' o2 .long [(.long (i0 ||| s0)), (.long (i1 ||| s1)), (.long i2)]) := by
  refine Con.body (own := "com/example/entailment/entailment/Bits") (nm := "add") rfl rfl (plainFor_of_name pn1) hn0 ?_
  intro p e s m below meth c T0 X0
  rw [ef_conA2_3]
  refine F_aloadN X0 d1_0 rfl rfl (pc' := 1) rfl ?_
  refine F_ifnull_ref X0 d1_1 (pc' := 4) rfl ?_
  refine F_iconst X0 d1_4 (z := (0 : Int32)) (by decide) (pc' := 5) rfl ?_
  refine F_istoreN X0 d1_5 (Ls' := #[.val (.ref o1), .val (.ref o2), .val (.int (0 : Int32))]) rfl (pc' := 6) rfl ?_
  refine F_iloadN X0 d1_6 rfl (pc' := 7) rfl ?_
  refine F_aloadN X0 d1_7 rfl rfl (pc' := 8) rfl ?_
  refine F_arraylength X0 A_o1 (z := (2 : Int32)) rfl d1_8 (pc' := 9) rfl ?_
  refine F_icmp_ge X0 d1_9 (by decide) (pt := 27) (by decide) (pc' := 12) rfl (fun q => absurd q (by decide)) (fun _ => ?_)
  refine F_aloadN X0 d1_12 rfl rfl (pc' := 13) rfl ?_
  refine F_iloadN X0 d1_13 rfl (pc' := 14) rfl ?_
  refine F_dup2 X0 d1_14 rfl rfl (pc' := 15) rfl ?_
  refine F_laload X0 A_o2 (by decide) rfl d1_15 (pc' := 16) rfl ?_
  refine F_aloadN X0 d1_16 rfl rfl (pc' := 17) rfl ?_
  refine F_iloadN X0 d1_17 rfl (pc' := 18) rfl ?_
  refine F_laload X0 A_o1 (by decide) rfl d1_18 (pc' := 19) rfl ?_
  refine F_lor X0 d1_19 rfl (pc' := 20) rfl ?_
  refine F_lastore X0 A_o2 (by decide) (i := 0) (by decide) (Nat.le_of_ble_eq_true rfl) ge_o2 d1_20 (pc' := 21) rfl fun T1 h1 X1 W1 A1 => ?_
  replace A1 : AV Z h1 o2 .long [(.long (i0 ||| s0)), (.long i1), (.long i2)] := A1
  have A1_o1 := A_o1.other W1 ne_o1_o2
  have K2 := (Keep.refl h [o2]).wr W1 (Or.inl (List.mem_of_getElem? (i := 0) rfl))
  refine F_iinc X1 d1_21 rfl (Ls' := #[.val (.ref o1), .val (.ref o2), .val (.int (1 : Int32))]) rfl (pc' := 24) rfl ?_
  refine F_goto X1 d1_24 (by decide) (pc' := 6) (by decide) ?_
  refine F_iloadN X1 d1_6 rfl (pc' := 7) rfl ?_
  refine F_aloadN X1 d1_7 rfl rfl (pc' := 8) rfl ?_
  refine F_arraylength X1 A1_o1 (z := (2 : Int32)) rfl d1_8 (pc' := 9) rfl ?_
  refine F_icmp_ge X1 d1_9 (by decide) (pt := 27) (by decide) (pc' := 12) rfl (fun q => absurd q (by decide)) (fun _ => ?_)
  refine F_aloadN X1 d1_12 rfl rfl (pc' := 13) rfl ?_
  refine F_iloadN X1 d1_13 rfl (pc' := 14) rfl ?_
  refine F_dup2 X1 d1_14 rfl rfl (pc' := 15) rfl ?_
  refine F_laload X1 A1 (by decide) rfl d1_15 (pc' := 16) rfl ?_
  refine F_aloadN X1 d1_16 rfl rfl (pc' := 17) rfl ?_
  refine F_iloadN X1 d1_17 rfl (pc' := 18) rfl ?_
  refine F_laload X1 A1_o1 (by decide) rfl d1_18 (pc' := 19) rfl ?_
  refine F_lor X1 d1_19 rfl (pc' := 20) rfl ?_
  refine F_lastore X1 A1 (by decide) (i := 1) (by decide) (Nat.le_of_ble_eq_true rfl) ge_o2 d1_20 (pc' := 21) rfl fun T3 h3 X3 W3 A3 => ?_
  replace A3 : AV Z h3 o2 .long [(.long (i0 ||| s0)), (.long (i1 ||| s1)), (.long i2)] := A3
  have A3_o1 := A1_o1.other W3 ne_o1_o2
  have K4 := K2.wr W3 (Or.inl (List.mem_of_getElem? (i := 0) rfl))
  refine F_iinc X3 d1_21 rfl (Ls' := #[.val (.ref o1), .val (.ref o2), .val (.int (2 : Int32))]) rfl (pc' := 24) rfl ?_
  refine F_goto X3 d1_24 (by decide) (pc' := 6) (by decide) ?_
  refine F_iloadN X3 d1_6 rfl (pc' := 7) rfl ?_
  refine F_aloadN X3 d1_7 rfl rfl (pc' := 8) rfl ?_
  refine F_arraylength X3 A3_o1 (z := (2 : Int32)) rfl d1_8 (pc' := 9) rfl ?_
  refine F_icmp_ge X3 d1_9 (by decide) (pt := 27) (by decide) (pc' := 12) rfl (fun _ => ?_) (fun q => absurd q (by decide))
  refine F_return X3 d1_27 rfl (by decide) (by decide) ?_
  exact ⟨rfl, K4, A3⟩
theorem pn0 : plainName "com/example/entailment/entailment/BitsAddPinLaw" = true := by first | (simp [plainName, overriddenIn]; done) | decide +kernel
theorem ef_con0 (m : MethodId) (x0 : Int64) (x1 : Int64) (x2 : Int64) (x3 : Int64) (x4 : Int64) (x5 : Int32) : entryFrame m #[(.long x0), (.long x1), (.long x2), (.long x3), (.long x4), (.int x5)] maxLocals = mkF m 0 #[.val (.long x0), .second, .val (.long x1), .second, .val (.long x2), .second, .val (.long x3), .second, .val (.long x4), .second, .val (.int x5), .unset, .unset, .unset, .unset, .unset, .unset, .unset, .unset, .unset, .unset, .unset, .unset] [] := by first | (simp [entryFrame, mkF, argsToLocals, Value.category, maxLocals]; done) | rfl
set_option maxRecDepth 65536 in
set_option maxHeartbeats 40000000 in
theorem con0 (l : Launch) (Z : State) (a0 : Array Value) (hw : ∀ d ∈ tables_1, d.before a0 Z = true) (n0 : Nat) (h : Heap) (hn0 : n0 ≤ h.size) (u1 : Int64) (u2 : Int64) (u3 : Int64) (u4 : Int64) (u5 : Int64) (u6 : Int32) :
    Con l x code maxLocals ret room_1 16 128 Z n0 #[(.long u1), (.long u2), (.long u3), (.long u4), (.long u5), (.int u6)] h (fun v h' => v = some (.int (1 : Int32))) := by
  refine Con.body (own := "com/example/entailment/entailment/BitsAddPinLaw") (nm := "law") rfl rfl (plainFor_of_name pn0) hn0 ?_
  intro p e s m below meth c T0 X0
  rw [ef_con0]
  refine F_iload X0 at_0 rfl (pc' := 2) rfl ?_
  refine F_iconst X0 at_2 (z := (3 : Int32)) (by decide) (pc' := 3) rfl ?_
  obtain ⟨kd, hkd⟩ : ∃ z : Int32, u6 &&& (3 : Int32) = z := ⟨_, rfl⟩
  refine F_iand X0 at_3 (z := kd) hkd (pc' := 4) rfl ?_
  refine F_istore X0 at_4 (Ls' := #[.val (.long u1), .second, .val (.long u2), .second, .val (.long u3), .second, .val (.long u4), .second, .val (.long u5), .second, .val (.int u6), .val (.int kd), .unset, .unset, .unset, .unset, .unset, .unset, .unset, .unset, .unset, .unset, .unset]) rfl (pc' := 6) rfl ?_
  rcases (own_m3 hkd) with rfl | rfl | rfl | rfl
  · refine F_iload X0 at_6 rfl (pc' := 8) rfl ?_
    refine F_if_ne X0 at_8 (by decide) (pt := 15) (by decide) (pc' := 11) rfl (fun q => absurd q (by decide)) (fun _ => ?_)
    refine F_iconst X0 at_11 (z := (0 : Int32)) (by decide) (pc' := 12) rfl ?_
    refine F_goto X0 at_12 (by decide) (pc' := 19) (by decide) ?_
    refine F_istore X0 at_19 (Ls' := #[.val (.long u1), .second, .val (.long u2), .second, .val (.long u3), .second, .val (.long u4), .second, .val (.long u5), .second, .val (.int u6), .val (.int (0 : Int32)), .val (.int (0 : Int32)), .unset, .unset, .unset, .unset, .unset, .unset, .unset, .unset, .unset, .unset]) rfl (pc' := 21) rfl ?_
    refine F_iload X0 at_21 rfl (pc' := 23) rfl ?_
    refine F_iload X0 at_23 rfl (pc' := 25) rfl ?_
    refine F_iconst X0 at_25 (z := (2 : Int32)) (by decide) (pc' := 26) rfl ?_
    refine F_iushr X0 at_26 rfl (pc' := 27) rfl ?_
    refine F_iconst X0 at_27 (z := (1 : Int32)) (by decide) (pc' := 28) rfl ?_
    obtain ⟨e1, he1⟩ : ∃ z : Int32, ((u6.toUInt32 >>> ((2 : Int32) &&& 31).toUInt32).toInt32) &&& (1 : Int32) = z := ⟨_, rfl⟩
    refine F_iand X0 at_28 (z := e1) he1 (pc' := 29) rfl ?_
    rcases (own_m1 he1) with rfl | rfl
    · refine F_iadd X0 at_29 (z := (0 : Int32)) (by decide) (pc' := 30) rfl ?_
      refine F_istore X0 at_30 (Ls' := #[.val (.long u1), .second, .val (.long u2), .second, .val (.long u3), .second, .val (.long u4), .second, .val (.long u5), .second, .val (.int u6), .val (.int (0 : Int32)), .val (.int (0 : Int32)), .val (.int (0 : Int32)), .unset, .unset, .unset, .unset, .unset, .unset, .unset, .unset, .unset]) rfl (pc' := 32) rfl ?_
      refine F_iload X0 at_32 rfl (pc' := 34) rfl ?_
      refine F_if_ne X0 at_34 (by decide) (pt := 41) (by decide) (pc' := 37) rfl (fun q => absurd q (by decide)) (fun _ => ?_)
      refine F_aconst_null X0 at_37 (pc' := 38) rfl ?_
      refine F_goto X0 at_38 (by decide) (pc' := 45) (by decide) ?_
      refine F_astore X0 at_45 rfl (Ls' := #[.val (.long u1), .second, .val (.long u2), .second, .val (.long u3), .second, .val (.long u4), .second, .val (.long u5), .second, .val (.int u6), .val (.int (0 : Int32)), .val (.int (0 : Int32)), .val (.int (0 : Int32)), .val .null, .unset, .unset, .unset, .unset, .unset, .unset, .unset, .unset]) rfl (pc' := 47) rfl ?_
      refine F_iload X0 at_47 rfl (pc' := 49) rfl ?_
      refine F_if_le X0 at_49 (by decide) (pt := 57) (by decide) (pc' := 52) rfl (fun _ => ?_) (fun q => absurd q (by decide))
      refine F_iload X0 at_57 rfl (pc' := 59) rfl ?_
      refine F_iconst X0 at_59 (z := (1 : Int32)) (by decide) (pc' := 60) rfl ?_
      refine F_icmp_le X0 at_60 (by decide) (pt := 68) (by decide) (pc' := 63) rfl (fun _ => ?_) (fun q => absurd q (by decide))
      refine F_iload X0 at_68 rfl (pc' := 70) rfl ?_
      refine F_newarray X0 (aty := .long) (wd0 hw) (by decide) (cap := 0) (by decide) (by decide) (by decide) (by decide) (ad := "[J") rfl at_70 (pc' := 72) rfl fun T1 h1 b1 X1 Ex1 g1 ge1 E_b1 A1 => ?_
      replace A1 : AV Z h1 b1 .long [] := A1
      replace X1 := X1.more (cells' := 1) (slots' := 0) (by decide) (by decide)
      refine F_astore X1 at_72 rfl (Ls' := #[.val (.long u1), .second, .val (.long u2), .second, .val (.long u3), .second, .val (.long u4), .second, .val (.long u5), .second, .val (.int u6), .val (.int (0 : Int32)), .val (.int (0 : Int32)), .val (.int (0 : Int32)), .val .null, .val (.ref b1), .unset, .unset, .unset, .unset, .unset, .unset, .unset]) rfl (pc' := 74) rfl ?_
      refine F_iload X1 at_74 rfl (pc' := 76) rfl ?_
      refine F_if_le X1 at_76 (by decide) (pt := 85) (by decide) (pc' := 79) rfl (fun _ => ?_) (fun q => absurd q (by decide))
      refine F_iload X1 at_85 rfl (pc' := 87) rfl ?_
      refine F_iconst X1 at_87 (z := (1 : Int32)) (by decide) (pc' := 88) rfl ?_
      refine F_icmp_le X1 at_88 (by decide) (pt := 97) (by decide) (pc' := 91) rfl (fun _ => ?_) (fun q => absurd q (by decide))
      refine F_iload X1 at_97 rfl (pc' := 99) rfl ?_
      refine F_iconst X1 at_99 (z := (2 : Int32)) (by decide) (pc' := 100) rfl ?_
      refine F_icmp_le X1 at_100 (by decide) (pt := 109) (by decide) (pc' := 103) rfl (fun _ => ?_) (fun q => absurd q (by decide))
      refine F_aload X1 at_109 rfl rfl (pc' := 111) rfl ?_
      refine F_aload X1 at_111 rfl rfl (pc' := 113) rfl ?_
      refine F_callS X1 (y := (⟨"com/example/entailment/entailment/Bits", "add", "([J[J)V"⟩ : MethodName)) (stk := []) (wd1 hw) (wd2 hw) (wd3 hw) (wd4 hw) (by decide) (argsL := [.null, (.ref b1)]) (conN0 l Z a0 hw n0 h1 X1.size b1) (by decide) (W := 0) (Nat.le_of_ble_eq_true rfl) (by decide) (by decide) (by decide) rfl (lenOf pd0 rfl) rfl at_113 (pc' := 116) rfl fun T2 v2 h2 X2 q2 => ?_
      obtain ⟨rfl, rfl⟩ := q2
      replace X2 := X2.more (cells' := 1) (slots' := 0) (by decide) (by decide)
      show Jvm.OwnKit.Ends p e below s n0 16 128 _ T2 (mkF m 116 #[.val (.long u1), .second, .val (.long u2), .second, .val (.long u3), .second, .val (.long u4), .second, .val (.long u5), .second, .val (.int u6), .val (.int (0 : Int32)), .val (.int (0 : Int32)), .val (.int (0 : Int32)), .val .null, .val (.ref b1), .unset, .unset, .unset, .unset, .unset, .unset, .unset] [])
      refine F_iload X2 at_116 rfl (pc' := 118) rfl ?_
      refine F_if_le X2 at_118 (by decide) (pt := 128) (by decide) (pc' := 121) rfl (fun _ => ?_) (fun q => absurd q (by decide))
      refine F_lload X2 at_128 rfl (pc' := 130) rfl ?_
      refine F_lstore X2 at_130 (Ls' := #[.val (.long u1), .second, .val (.long u2), .second, .val (.long u3), .second, .val (.long u4), .second, .val (.long u5), .second, .val (.int u6), .val (.int (0 : Int32)), .val (.int (0 : Int32)), .val (.int (0 : Int32)), .val .null, .val (.ref b1), .val (.long u3), .second, .unset, .unset, .unset, .unset, .unset]) rfl (pc' := 132) rfl ?_
      refine F_iload X2 at_132 rfl (pc' := 134) rfl ?_
      refine F_iconst X2 at_134 (z := (1 : Int32)) (by decide) (pc' := 135) rfl ?_
      refine F_icmp_le X2 at_135 (by decide) (pt := 145) (by decide) (pc' := 138) rfl (fun _ => ?_) (fun q => absurd q (by decide))
      refine F_lload X2 at_145 rfl (pc' := 147) rfl ?_
      refine F_lstore X2 at_147 (Ls' := #[.val (.long u1), .second, .val (.long u2), .second, .val (.long u3), .second, .val (.long u4), .second, .val (.long u5), .second, .val (.int u6), .val (.int (0 : Int32)), .val (.int (0 : Int32)), .val (.int (0 : Int32)), .val .null, .val (.ref b1), .val (.long u3), .second, .val (.long u4), .second, .unset, .unset, .unset]) rfl (pc' := 149) rfl ?_
      refine F_lload X2 at_149 rfl (pc' := 151) rfl ?_
      refine F_lstore X2 at_151 (Ls' := #[.val (.long u1), .second, .val (.long u2), .second, .val (.long u3), .second, .val (.long u4), .second, .val (.long u5), .second, .val (.int u6), .val (.int (0 : Int32)), .val (.int (0 : Int32)), .val (.int (0 : Int32)), .val .null, .val (.ref b1), .val (.long u3), .second, .val (.long u4), .second, .val (.long u5), .second, .unset]) rfl (pc' := 153) rfl ?_
      refine F_aload X2 at_153 rfl rfl (pc' := 155) rfl ?_
      refine F_arraylength X2 A1 (z := (0 : Int32)) rfl at_155 (pc' := 156) rfl ?_
      refine F_iload X2 at_156 rfl (pc' := 158) rfl ?_
      refine F_icmp_ne X2 at_158 (by decide) (pt := 165) (by decide) (pc' := 161) rfl (fun q => absurd q (by decide)) (fun _ => ?_)
      refine F_iconst X2 at_161 (z := (1 : Int32)) (by decide) (pc' := 162) rfl ?_
      refine F_goto X2 at_162 (by decide) (pc' := 166) (by decide) ?_
      refine F_istore X2 at_166 (Ls' := #[.val (.long u1), .second, .val (.long u2), .second, .val (.long u3), .second, .val (.long u4), .second, .val (.long u5), .second, .val (.int u6), .val (.int (0 : Int32)), .val (.int (0 : Int32)), .val (.int (0 : Int32)), .val .null, .val (.ref b1), .val (.long u3), .second, .val (.long u4), .second, .val (.long u5), .second, .val (.int (1 : Int32))]) rfl (pc' := 168) rfl ?_
      refine F_iload X2 at_168 rfl (pc' := 170) rfl ?_
      refine F_if_eq X2 at_170 (by decide) (pt := 192) (by decide) (pc' := 173) rfl (fun q => absurd q (by decide)) (fun _ => ?_)
      refine F_iload X2 at_173 rfl (pc' := 175) rfl ?_
      refine F_if_le X2 at_175 (by decide) (pt := 188) (by decide) (pc' := 178) rfl (fun _ => ?_) (fun q => absurd q (by decide))
      refine F_iconst X2 at_188 (z := (1 : Int32)) (by decide) (pc' := 189) rfl ?_
      refine F_goto X2 at_189 (by decide) (pc' := 193) (by decide) ?_
      refine F_istore X2 at_193 (Ls' := #[.val (.long u1), .second, .val (.long u2), .second, .val (.long u3), .second, .val (.long u4), .second, .val (.long u5), .second, .val (.int u6), .val (.int (0 : Int32)), .val (.int (0 : Int32)), .val (.int (0 : Int32)), .val .null, .val (.ref b1), .val (.long u3), .second, .val (.long u4), .second, .val (.long u5), .second, .val (.int (1 : Int32))]) rfl (pc' := 195) rfl ?_
      refine F_iload X2 at_195 rfl (pc' := 197) rfl ?_
      refine F_if_eq X2 at_197 (by decide) (pt := 220) (by decide) (pc' := 200) rfl (fun q => absurd q (by decide)) (fun _ => ?_)
      refine F_iload X2 at_200 rfl (pc' := 202) rfl ?_
      refine F_iconst X2 at_202 (z := (1 : Int32)) (by decide) (pc' := 203) rfl ?_
      refine F_icmp_le X2 at_203 (by decide) (pt := 216) (by decide) (pc' := 206) rfl (fun _ => ?_) (fun q => absurd q (by decide))
      refine F_iconst X2 at_216 (z := (1 : Int32)) (by decide) (pc' := 217) rfl ?_
      refine F_goto X2 at_217 (by decide) (pc' := 221) (by decide) ?_
      refine F_istore X2 at_221 (Ls' := #[.val (.long u1), .second, .val (.long u2), .second, .val (.long u3), .second, .val (.long u4), .second, .val (.long u5), .second, .val (.int u6), .val (.int (0 : Int32)), .val (.int (0 : Int32)), .val (.int (0 : Int32)), .val .null, .val (.ref b1), .val (.long u3), .second, .val (.long u4), .second, .val (.long u5), .second, .val (.int (1 : Int32))]) rfl (pc' := 223) rfl ?_
      refine F_iload X2 at_223 rfl (pc' := 225) rfl ?_
      refine F_if_eq X2 at_225 (by decide) (pt := 248) (by decide) (pc' := 228) rfl (fun q => absurd q (by decide)) (fun _ => ?_)
      refine F_iload X2 at_228 rfl (pc' := 230) rfl ?_
      refine F_iconst X2 at_230 (z := (2 : Int32)) (by decide) (pc' := 231) rfl ?_
      refine F_icmp_le X2 at_231 (by decide) (pt := 244) (by decide) (pc' := 234) rfl (fun _ => ?_) (fun q => absurd q (by decide))
      refine F_iconst X2 at_244 (z := (1 : Int32)) (by decide) (pc' := 245) rfl ?_
      refine F_goto X2 at_245 (by decide) (pc' := 249) (by decide) ?_
      refine F_istore X2 at_249 (Ls' := #[.val (.long u1), .second, .val (.long u2), .second, .val (.long u3), .second, .val (.long u4), .second, .val (.long u5), .second, .val (.int u6), .val (.int (0 : Int32)), .val (.int (0 : Int32)), .val (.int (0 : Int32)), .val .null, .val (.ref b1), .val (.long u3), .second, .val (.long u4), .second, .val (.long u5), .second, .val (.int (1 : Int32))]) rfl (pc' := 251) rfl ?_
      refine F_iload X2 at_251 rfl (pc' := 253) rfl ?_
      refine F_if_ne X2 at_253 (by decide) (pt := 276) (by decide) (pc' := 256) rfl (fun q => absurd q (by decide)) (fun _ => ?_)
      refine F_iload X2 at_256 rfl (pc' := 258) rfl ?_
      refine F_if_eq X2 at_258 (by decide) (pt := 270) (by decide) (pc' := 261) rfl (fun q => absurd q (by decide)) (fun _ => ?_)
      refine F_aload X2 at_261 rfl rfl (pc' := 263) rfl ?_
      refine F_ifnonnull_null X2 at_263 (pc' := 266) rfl ?_
      refine F_iconst X2 at_266 (z := (1 : Int32)) (by decide) (pc' := 267) rfl ?_
      refine F_goto X2 at_267 (by decide) (pc' := 271) (by decide) ?_
      refine F_istore X2 at_271 (Ls' := #[.val (.long u1), .second, .val (.long u2), .second, .val (.long u3), .second, .val (.long u4), .second, .val (.long u5), .second, .val (.int u6), .val (.int (0 : Int32)), .val (.int (0 : Int32)), .val (.int (0 : Int32)), .val .null, .val (.ref b1), .val (.long u3), .second, .val (.long u4), .second, .val (.long u5), .second, .val (.int (1 : Int32))]) rfl (pc' := 273) rfl ?_
      refine F_goto X2 at_273 (by decide) (pc' := 354) (by decide) ?_
      refine F_iload X2 at_354 rfl (pc' := 356) rfl ?_
      refine F_ireturn_boolean (z' := (1 : Int32)) X2 (by decide) at_356 rfl (by decide) (by decide) ?_
      exact rfl
    · refine F_iadd X0 at_29 (z := (1 : Int32)) (by decide) (pc' := 30) rfl ?_
      refine F_istore X0 at_30 (Ls' := #[.val (.long u1), .second, .val (.long u2), .second, .val (.long u3), .second, .val (.long u4), .second, .val (.long u5), .second, .val (.int u6), .val (.int (0 : Int32)), .val (.int (0 : Int32)), .val (.int (1 : Int32)), .unset, .unset, .unset, .unset, .unset, .unset, .unset, .unset, .unset]) rfl (pc' := 32) rfl ?_
      refine F_iload X0 at_32 rfl (pc' := 34) rfl ?_
      refine F_if_ne X0 at_34 (by decide) (pt := 41) (by decide) (pc' := 37) rfl (fun q => absurd q (by decide)) (fun _ => ?_)
      refine F_aconst_null X0 at_37 (pc' := 38) rfl ?_
      refine F_goto X0 at_38 (by decide) (pc' := 45) (by decide) ?_
      refine F_astore X0 at_45 rfl (Ls' := #[.val (.long u1), .second, .val (.long u2), .second, .val (.long u3), .second, .val (.long u4), .second, .val (.long u5), .second, .val (.int u6), .val (.int (0 : Int32)), .val (.int (0 : Int32)), .val (.int (1 : Int32)), .val .null, .unset, .unset, .unset, .unset, .unset, .unset, .unset, .unset]) rfl (pc' := 47) rfl ?_
      refine F_iload X0 at_47 rfl (pc' := 49) rfl ?_
      refine F_if_le X0 at_49 (by decide) (pt := 57) (by decide) (pc' := 52) rfl (fun _ => ?_) (fun q => absurd q (by decide))
      refine F_iload X0 at_57 rfl (pc' := 59) rfl ?_
      refine F_iconst X0 at_59 (z := (1 : Int32)) (by decide) (pc' := 60) rfl ?_
      refine F_icmp_le X0 at_60 (by decide) (pt := 68) (by decide) (pc' := 63) rfl (fun _ => ?_) (fun q => absurd q (by decide))
      refine F_iload X0 at_68 rfl (pc' := 70) rfl ?_
      refine F_newarray X0 (aty := .long) (wd0 hw) (by decide) (cap := 1) (by decide) (by decide) (by decide) (by decide) (ad := "[J") rfl at_70 (pc' := 72) rfl fun T3 h3 b3 X3 Ex3 g3 ge3 E_b3 A3 => ?_
      replace A3 : AV Z h3 b3 .long [(.long (0 : Int64))] := A3
      replace X3 := X3.more (cells' := 1) (slots' := 1) (by decide) (by decide)
      refine F_astore X3 at_72 rfl (Ls' := #[.val (.long u1), .second, .val (.long u2), .second, .val (.long u3), .second, .val (.long u4), .second, .val (.long u5), .second, .val (.int u6), .val (.int (0 : Int32)), .val (.int (0 : Int32)), .val (.int (1 : Int32)), .val .null, .val (.ref b3), .unset, .unset, .unset, .unset, .unset, .unset, .unset]) rfl (pc' := 74) rfl ?_
      refine F_iload X3 at_74 rfl (pc' := 76) rfl ?_
      refine F_if_le X3 at_76 (by decide) (pt := 85) (by decide) (pc' := 79) rfl (fun q => absurd q (by decide)) (fun _ => ?_)
      refine F_aload X3 at_79 rfl rfl (pc' := 81) rfl ?_
      refine F_iconst X3 at_81 (z := (0 : Int32)) (by decide) (pc' := 82) rfl ?_
      refine F_lload X3 at_82 rfl (pc' := 84) rfl ?_
      refine F_lastore X3 A3 (by decide) (i := 0) (by decide) (Nat.le_of_ble_eq_true rfl) ge3 at_84 (pc' := 85) rfl fun T4 h4 X4 W4 A4 => ?_
      replace A4 : AV Z h4 b3 .long [(.long u3)] := A4
      have E4_b3 := E_b3.wr W4
      refine F_iload X4 at_85 rfl (pc' := 87) rfl ?_
      refine F_iconst X4 at_87 (z := (1 : Int32)) (by decide) (pc' := 88) rfl ?_
      refine F_icmp_le X4 at_88 (by decide) (pt := 97) (by decide) (pc' := 91) rfl (fun _ => ?_) (fun q => absurd q (by decide))
      refine F_iload X4 at_97 rfl (pc' := 99) rfl ?_
      refine F_iconst X4 at_99 (z := (2 : Int32)) (by decide) (pc' := 100) rfl ?_
      refine F_icmp_le X4 at_100 (by decide) (pt := 109) (by decide) (pc' := 103) rfl (fun _ => ?_) (fun q => absurd q (by decide))
      refine F_aload X4 at_109 rfl rfl (pc' := 111) rfl ?_
      refine F_aload X4 at_111 rfl rfl (pc' := 113) rfl ?_
      refine F_callS X4 (y := (⟨"com/example/entailment/entailment/Bits", "add", "([J[J)V"⟩ : MethodName)) (stk := []) (wd1 hw) (wd2 hw) (wd3 hw) (wd4 hw) (by decide) (argsL := [.null, (.ref b3)]) (conN0 l Z a0 hw n0 h4 X4.size b3) (by decide) (W := 0) (Nat.le_of_ble_eq_true rfl) (by decide) (by decide) (by decide) rfl (lenOf pd0 rfl) rfl at_113 (pc' := 116) rfl fun T5 v5 h5 X5 q5 => ?_
      obtain ⟨rfl, rfl⟩ := q5
      replace X5 := X5.more (cells' := 1) (slots' := 1) (by decide) (by decide)
      show Jvm.OwnKit.Ends p e below s n0 16 128 _ T5 (mkF m 116 #[.val (.long u1), .second, .val (.long u2), .second, .val (.long u3), .second, .val (.long u4), .second, .val (.long u5), .second, .val (.int u6), .val (.int (0 : Int32)), .val (.int (0 : Int32)), .val (.int (1 : Int32)), .val .null, .val (.ref b3), .unset, .unset, .unset, .unset, .unset, .unset, .unset] [])
      refine F_iload X5 at_116 rfl (pc' := 118) rfl ?_
      refine F_if_le X5 at_118 (by decide) (pt := 128) (by decide) (pc' := 121) rfl (fun _ => ?_) (fun q => absurd q (by decide))
      refine F_lload X5 at_128 rfl (pc' := 130) rfl ?_
      refine F_lstore X5 at_130 (Ls' := #[.val (.long u1), .second, .val (.long u2), .second, .val (.long u3), .second, .val (.long u4), .second, .val (.long u5), .second, .val (.int u6), .val (.int (0 : Int32)), .val (.int (0 : Int32)), .val (.int (1 : Int32)), .val .null, .val (.ref b3), .val (.long u3), .second, .unset, .unset, .unset, .unset, .unset]) rfl (pc' := 132) rfl ?_
      refine F_iload X5 at_132 rfl (pc' := 134) rfl ?_
      refine F_iconst X5 at_134 (z := (1 : Int32)) (by decide) (pc' := 135) rfl ?_
      refine F_icmp_le X5 at_135 (by decide) (pt := 145) (by decide) (pc' := 138) rfl (fun _ => ?_) (fun q => absurd q (by decide))
      refine F_lload X5 at_145 rfl (pc' := 147) rfl ?_
      refine F_lstore X5 at_147 (Ls' := #[.val (.long u1), .second, .val (.long u2), .second, .val (.long u3), .second, .val (.long u4), .second, .val (.long u5), .second, .val (.int u6), .val (.int (0 : Int32)), .val (.int (0 : Int32)), .val (.int (1 : Int32)), .val .null, .val (.ref b3), .val (.long u3), .second, .val (.long u4), .second, .unset, .unset, .unset]) rfl (pc' := 149) rfl ?_
      refine F_lload X5 at_149 rfl (pc' := 151) rfl ?_
      refine F_lstore X5 at_151 (Ls' := #[.val (.long u1), .second, .val (.long u2), .second, .val (.long u3), .second, .val (.long u4), .second, .val (.long u5), .second, .val (.int u6), .val (.int (0 : Int32)), .val (.int (0 : Int32)), .val (.int (1 : Int32)), .val .null, .val (.ref b3), .val (.long u3), .second, .val (.long u4), .second, .val (.long u5), .second, .unset]) rfl (pc' := 153) rfl ?_
      refine F_aload X5 at_153 rfl rfl (pc' := 155) rfl ?_
      refine F_arraylength X5 A4 (z := (1 : Int32)) rfl at_155 (pc' := 156) rfl ?_
      refine F_iload X5 at_156 rfl (pc' := 158) rfl ?_
      refine F_icmp_ne X5 at_158 (by decide) (pt := 165) (by decide) (pc' := 161) rfl (fun q => absurd q (by decide)) (fun _ => ?_)
      refine F_iconst X5 at_161 (z := (1 : Int32)) (by decide) (pc' := 162) rfl ?_
      refine F_goto X5 at_162 (by decide) (pc' := 166) (by decide) ?_
      refine F_istore X5 at_166 (Ls' := #[.val (.long u1), .second, .val (.long u2), .second, .val (.long u3), .second, .val (.long u4), .second, .val (.long u5), .second, .val (.int u6), .val (.int (0 : Int32)), .val (.int (0 : Int32)), .val (.int (1 : Int32)), .val .null, .val (.ref b3), .val (.long u3), .second, .val (.long u4), .second, .val (.long u5), .second, .val (.int (1 : Int32))]) rfl (pc' := 168) rfl ?_
      refine F_iload X5 at_168 rfl (pc' := 170) rfl ?_
      refine F_if_eq X5 at_170 (by decide) (pt := 192) (by decide) (pc' := 173) rfl (fun q => absurd q (by decide)) (fun _ => ?_)
      refine F_iload X5 at_173 rfl (pc' := 175) rfl ?_
      refine F_if_le X5 at_175 (by decide) (pt := 188) (by decide) (pc' := 178) rfl (fun q => absurd q (by decide)) (fun _ => ?_)
      refine F_aload X5 at_178 rfl rfl (pc' := 180) rfl ?_
      refine F_iconst X5 at_180 (z := (0 : Int32)) (by decide) (pc' := 181) rfl ?_
      refine F_laload X5 A4 (by decide) rfl at_181 (pc' := 182) rfl ?_
      refine F_lload X5 at_182 rfl (pc' := 184) rfl ?_
      refine F_lcmp X5 at_184 (pc' := 185) rfl ?_
      refine F_lif_ne X5 at_185 (by decide) (pt := 192) (by decide) (pc' := 188) rfl (fun q => absurd rfl q) (fun _ => ?_)
      refine F_iconst X5 at_188 (z := (1 : Int32)) (by decide) (pc' := 189) rfl ?_
      refine F_goto X5 at_189 (by decide) (pc' := 193) (by decide) ?_
      refine F_istore X5 at_193 (Ls' := #[.val (.long u1), .second, .val (.long u2), .second, .val (.long u3), .second, .val (.long u4), .second, .val (.long u5), .second, .val (.int u6), .val (.int (0 : Int32)), .val (.int (0 : Int32)), .val (.int (1 : Int32)), .val .null, .val (.ref b3), .val (.long u3), .second, .val (.long u4), .second, .val (.long u5), .second, .val (.int (1 : Int32))]) rfl (pc' := 195) rfl ?_
      refine F_iload X5 at_195 rfl (pc' := 197) rfl ?_
      refine F_if_eq X5 at_197 (by decide) (pt := 220) (by decide) (pc' := 200) rfl (fun q => absurd q (by decide)) (fun _ => ?_)
      refine F_iload X5 at_200 rfl (pc' := 202) rfl ?_
      refine F_iconst X5 at_202 (z := (1 : Int32)) (by decide) (pc' := 203) rfl ?_
      refine F_icmp_le X5 at_203 (by decide) (pt := 216) (by decide) (pc' := 206) rfl (fun _ => ?_) (fun q => absurd q (by decide))
      refine F_iconst X5 at_216 (z := (1 : Int32)) (by decide) (pc' := 217) rfl ?_
      refine F_goto X5 at_217 (by decide) (pc' := 221) (by decide) ?_
      refine F_istore X5 at_221 (Ls' := #[.val (.long u1), .second, .val (.long u2), .second, .val (.long u3), .second, .val (.long u4), .second, .val (.long u5), .second, .val (.int u6), .val (.int (0 : Int32)), .val (.int (0 : Int32)), .val (.int (1 : Int32)), .val .null, .val (.ref b3), .val (.long u3), .second, .val (.long u4), .second, .val (.long u5), .second, .val (.int (1 : Int32))]) rfl (pc' := 223) rfl ?_
      refine F_iload X5 at_223 rfl (pc' := 225) rfl ?_
      refine F_if_eq X5 at_225 (by decide) (pt := 248) (by decide) (pc' := 228) rfl (fun q => absurd q (by decide)) (fun _ => ?_)
      refine F_iload X5 at_228 rfl (pc' := 230) rfl ?_
      refine F_iconst X5 at_230 (z := (2 : Int32)) (by decide) (pc' := 231) rfl ?_
      refine F_icmp_le X5 at_231 (by decide) (pt := 244) (by decide) (pc' := 234) rfl (fun _ => ?_) (fun q => absurd q (by decide))
      refine F_iconst X5 at_244 (z := (1 : Int32)) (by decide) (pc' := 245) rfl ?_
      refine F_goto X5 at_245 (by decide) (pc' := 249) (by decide) ?_
      refine F_istore X5 at_249 (Ls' := #[.val (.long u1), .second, .val (.long u2), .second, .val (.long u3), .second, .val (.long u4), .second, .val (.long u5), .second, .val (.int u6), .val (.int (0 : Int32)), .val (.int (0 : Int32)), .val (.int (1 : Int32)), .val .null, .val (.ref b3), .val (.long u3), .second, .val (.long u4), .second, .val (.long u5), .second, .val (.int (1 : Int32))]) rfl (pc' := 251) rfl ?_
      refine F_iload X5 at_251 rfl (pc' := 253) rfl ?_
      refine F_if_ne X5 at_253 (by decide) (pt := 276) (by decide) (pc' := 256) rfl (fun q => absurd q (by decide)) (fun _ => ?_)
      refine F_iload X5 at_256 rfl (pc' := 258) rfl ?_
      refine F_if_eq X5 at_258 (by decide) (pt := 270) (by decide) (pc' := 261) rfl (fun q => absurd q (by decide)) (fun _ => ?_)
      refine F_aload X5 at_261 rfl rfl (pc' := 263) rfl ?_
      refine F_ifnonnull_null X5 at_263 (pc' := 266) rfl ?_
      refine F_iconst X5 at_266 (z := (1 : Int32)) (by decide) (pc' := 267) rfl ?_
      refine F_goto X5 at_267 (by decide) (pc' := 271) (by decide) ?_
      refine F_istore X5 at_271 (Ls' := #[.val (.long u1), .second, .val (.long u2), .second, .val (.long u3), .second, .val (.long u4), .second, .val (.long u5), .second, .val (.int u6), .val (.int (0 : Int32)), .val (.int (0 : Int32)), .val (.int (1 : Int32)), .val .null, .val (.ref b3), .val (.long u3), .second, .val (.long u4), .second, .val (.long u5), .second, .val (.int (1 : Int32))]) rfl (pc' := 273) rfl ?_
      refine F_goto X5 at_273 (by decide) (pc' := 354) (by decide) ?_
      refine F_iload X5 at_354 rfl (pc' := 356) rfl ?_
      refine F_ireturn_boolean (z' := (1 : Int32)) X5 (by decide) at_356 rfl (by decide) (by decide) ?_
      exact rfl
  · refine F_iload X0 at_6 rfl (pc' := 8) rfl ?_
    refine F_if_ne X0 at_8 (by decide) (pt := 15) (by decide) (pc' := 11) rfl (fun _ => ?_) (fun q => absurd q (by decide))
    refine F_iload X0 at_15 rfl (pc' := 17) rfl ?_
    refine F_iconst X0 at_17 (z := (1 : Int32)) (by decide) (pc' := 18) rfl ?_
    refine F_isub X0 at_18 (z := (0 : Int32)) (by decide) (pc' := 19) rfl ?_
    refine F_istore X0 at_19 (Ls' := #[.val (.long u1), .second, .val (.long u2), .second, .val (.long u3), .second, .val (.long u4), .second, .val (.long u5), .second, .val (.int u6), .val (.int (1 : Int32)), .val (.int (0 : Int32)), .unset, .unset, .unset, .unset, .unset, .unset, .unset, .unset, .unset, .unset]) rfl (pc' := 21) rfl ?_
    refine F_iload X0 at_21 rfl (pc' := 23) rfl ?_
    refine F_iload X0 at_23 rfl (pc' := 25) rfl ?_
    refine F_iconst X0 at_25 (z := (2 : Int32)) (by decide) (pc' := 26) rfl ?_
    refine F_iushr X0 at_26 rfl (pc' := 27) rfl ?_
    refine F_iconst X0 at_27 (z := (1 : Int32)) (by decide) (pc' := 28) rfl ?_
    obtain ⟨e1, he1⟩ : ∃ z : Int32, ((u6.toUInt32 >>> ((2 : Int32) &&& 31).toUInt32).toInt32) &&& (1 : Int32) = z := ⟨_, rfl⟩
    refine F_iand X0 at_28 (z := e1) he1 (pc' := 29) rfl ?_
    rcases (own_m1 he1) with rfl | rfl
    · refine F_iadd X0 at_29 (z := (0 : Int32)) (by decide) (pc' := 30) rfl ?_
      refine F_istore X0 at_30 (Ls' := #[.val (.long u1), .second, .val (.long u2), .second, .val (.long u3), .second, .val (.long u4), .second, .val (.long u5), .second, .val (.int u6), .val (.int (1 : Int32)), .val (.int (0 : Int32)), .val (.int (0 : Int32)), .unset, .unset, .unset, .unset, .unset, .unset, .unset, .unset, .unset]) rfl (pc' := 32) rfl ?_
      refine F_iload X0 at_32 rfl (pc' := 34) rfl ?_
      refine F_if_ne X0 at_34 (by decide) (pt := 41) (by decide) (pc' := 37) rfl (fun _ => ?_) (fun q => absurd q (by decide))
      refine F_iload X0 at_41 rfl (pc' := 43) rfl ?_
      refine F_newarray X0 (aty := .long) (wd0 hw) (by decide) (cap := 0) (by decide) (by decide) (by decide) (by decide) (ad := "[J") rfl at_43 (pc' := 45) rfl fun T6 h6 b6 X6 Ex6 g6 ge6 E_b6 A6 => ?_
      replace A6 : AV Z h6 b6 .long [] := A6
      replace X6 := X6.more (cells' := 1) (slots' := 0) (by decide) (by decide)
      refine F_astore X6 at_45 rfl (Ls' := #[.val (.long u1), .second, .val (.long u2), .second, .val (.long u3), .second, .val (.long u4), .second, .val (.long u5), .second, .val (.int u6), .val (.int (1 : Int32)), .val (.int (0 : Int32)), .val (.int (0 : Int32)), .val (.ref b6), .unset, .unset, .unset, .unset, .unset, .unset, .unset, .unset]) rfl (pc' := 47) rfl ?_
      refine F_iload X6 at_47 rfl (pc' := 49) rfl ?_
      refine F_if_le X6 at_49 (by decide) (pt := 57) (by decide) (pc' := 52) rfl (fun _ => ?_) (fun q => absurd q (by decide))
      refine F_iload X6 at_57 rfl (pc' := 59) rfl ?_
      refine F_iconst X6 at_59 (z := (1 : Int32)) (by decide) (pc' := 60) rfl ?_
      refine F_icmp_le X6 at_60 (by decide) (pt := 68) (by decide) (pc' := 63) rfl (fun _ => ?_) (fun q => absurd q (by decide))
      refine F_iload X6 at_68 rfl (pc' := 70) rfl ?_
      refine F_newarray X6 (aty := .long) (wd0 hw) (by decide) (cap := 0) (by decide) (by decide) (by decide) (by decide) (ad := "[J") rfl at_70 (pc' := 72) rfl fun T7 h7 b7 X7 Ex7 g7 ge7 E_b7 A7 => ?_
      replace A7 : AV Z h7 b7 .long [] := A7
      have ne_b6_b7 : b6 ≠ b7 := Nat.ne_of_lt (Nat.lt_of_lt_of_le E_b6.lt (Nat.le_of_eq g7.symm))
      have E7_b6 := E_b6.ext Ex7
      have A7_b6 := A6.ext Ex7
      replace X7 := X7.more (cells' := 2) (slots' := 0) (by decide) (by decide)
      refine F_astore X7 at_72 rfl (Ls' := #[.val (.long u1), .second, .val (.long u2), .second, .val (.long u3), .second, .val (.long u4), .second, .val (.long u5), .second, .val (.int u6), .val (.int (1 : Int32)), .val (.int (0 : Int32)), .val (.int (0 : Int32)), .val (.ref b6), .val (.ref b7), .unset, .unset, .unset, .unset, .unset, .unset, .unset]) rfl (pc' := 74) rfl ?_
      refine F_iload X7 at_74 rfl (pc' := 76) rfl ?_
      refine F_if_le X7 at_76 (by decide) (pt := 85) (by decide) (pc' := 79) rfl (fun _ => ?_) (fun q => absurd q (by decide))
      refine F_iload X7 at_85 rfl (pc' := 87) rfl ?_
      refine F_iconst X7 at_87 (z := (1 : Int32)) (by decide) (pc' := 88) rfl ?_
      refine F_icmp_le X7 at_88 (by decide) (pt := 97) (by decide) (pc' := 91) rfl (fun _ => ?_) (fun q => absurd q (by decide))
      refine F_iload X7 at_97 rfl (pc' := 99) rfl ?_
      refine F_iconst X7 at_99 (z := (2 : Int32)) (by decide) (pc' := 100) rfl ?_
      refine F_icmp_le X7 at_100 (by decide) (pt := 109) (by decide) (pc' := 103) rfl (fun _ => ?_) (fun q => absurd q (by decide))
      refine F_aload X7 at_109 rfl rfl (pc' := 111) rfl ?_
      refine F_aload X7 at_111 rfl rfl (pc' := 113) rfl ?_
      refine F_callS X7 (y := (⟨"com/example/entailment/entailment/Bits", "add", "([J[J)V"⟩ : MethodName)) (stk := []) (wd1 hw) (wd2 hw) (wd3 hw) (wd4 hw) (by decide) (argsL := [(.ref b6), (.ref b7)]) (conA0_0 l Z a0 hw n0 h7 X7.size b6 b7 A7_b6 A7 ge7 ne_b6_b7) (by decide) (W := 0) (Nat.le_of_ble_eq_true rfl) (by decide) (by decide) (by decide) rfl (lenOf pd0 rfl) rfl at_113 (pc' := 116) rfl fun T8 v8 h8 X8 q8 => ?_
      obtain ⟨rfl, Kp8, A8_b7⟩ := q8
      have E8k_b6 := E7_b6.keep Kp8
      have E8k_b7 := E_b7.keep Kp8
      have A8k_b6 := A7_b6.keep Kp8 (ninS ne_b6_b7 nin0)
      replace X8 := X8.more (cells' := 2) (slots' := 0) (by decide) (by decide)
      show Jvm.OwnKit.Ends p e below s n0 16 128 _ T8 (mkF m 116 #[.val (.long u1), .second, .val (.long u2), .second, .val (.long u3), .second, .val (.long u4), .second, .val (.long u5), .second, .val (.int u6), .val (.int (1 : Int32)), .val (.int (0 : Int32)), .val (.int (0 : Int32)), .val (.ref b6), .val (.ref b7), .unset, .unset, .unset, .unset, .unset, .unset, .unset] [])
      refine F_iload X8 at_116 rfl (pc' := 118) rfl ?_
      refine F_if_le X8 at_118 (by decide) (pt := 128) (by decide) (pc' := 121) rfl (fun _ => ?_) (fun q => absurd q (by decide))
      refine F_lload X8 at_128 rfl (pc' := 130) rfl ?_
      refine F_lstore X8 at_130 (Ls' := #[.val (.long u1), .second, .val (.long u2), .second, .val (.long u3), .second, .val (.long u4), .second, .val (.long u5), .second, .val (.int u6), .val (.int (1 : Int32)), .val (.int (0 : Int32)), .val (.int (0 : Int32)), .val (.ref b6), .val (.ref b7), .val (.long u3), .second, .unset, .unset, .unset, .unset, .unset]) rfl (pc' := 132) rfl ?_
      refine F_iload X8 at_132 rfl (pc' := 134) rfl ?_
      refine F_iconst X8 at_134 (z := (1 : Int32)) (by decide) (pc' := 135) rfl ?_
      refine F_icmp_le X8 at_135 (by decide) (pt := 145) (by decide) (pc' := 138) rfl (fun _ => ?_) (fun q => absurd q (by decide))
      refine F_lload X8 at_145 rfl (pc' := 147) rfl ?_
      refine F_lstore X8 at_147 (Ls' := #[.val (.long u1), .second, .val (.long u2), .second, .val (.long u3), .second, .val (.long u4), .second, .val (.long u5), .second, .val (.int u6), .val (.int (1 : Int32)), .val (.int (0 : Int32)), .val (.int (0 : Int32)), .val (.ref b6), .val (.ref b7), .val (.long u3), .second, .val (.long u4), .second, .unset, .unset, .unset]) rfl (pc' := 149) rfl ?_
      refine F_lload X8 at_149 rfl (pc' := 151) rfl ?_
      refine F_lstore X8 at_151 (Ls' := #[.val (.long u1), .second, .val (.long u2), .second, .val (.long u3), .second, .val (.long u4), .second, .val (.long u5), .second, .val (.int u6), .val (.int (1 : Int32)), .val (.int (0 : Int32)), .val (.int (0 : Int32)), .val (.ref b6), .val (.ref b7), .val (.long u3), .second, .val (.long u4), .second, .val (.long u5), .second, .unset]) rfl (pc' := 153) rfl ?_
      refine F_aload X8 at_153 rfl rfl (pc' := 155) rfl ?_
      refine F_arraylength X8 A8_b7 (z := (0 : Int32)) rfl at_155 (pc' := 156) rfl ?_
      refine F_iload X8 at_156 rfl (pc' := 158) rfl ?_
      refine F_icmp_ne X8 at_158 (by decide) (pt := 165) (by decide) (pc' := 161) rfl (fun q => absurd q (by decide)) (fun _ => ?_)
      refine F_iconst X8 at_161 (z := (1 : Int32)) (by decide) (pc' := 162) rfl ?_
      refine F_goto X8 at_162 (by decide) (pc' := 166) (by decide) ?_
      refine F_istore X8 at_166 (Ls' := #[.val (.long u1), .second, .val (.long u2), .second, .val (.long u3), .second, .val (.long u4), .second, .val (.long u5), .second, .val (.int u6), .val (.int (1 : Int32)), .val (.int (0 : Int32)), .val (.int (0 : Int32)), .val (.ref b6), .val (.ref b7), .val (.long u3), .second, .val (.long u4), .second, .val (.long u5), .second, .val (.int (1 : Int32))]) rfl (pc' := 168) rfl ?_
      refine F_iload X8 at_168 rfl (pc' := 170) rfl ?_
      refine F_if_eq X8 at_170 (by decide) (pt := 192) (by decide) (pc' := 173) rfl (fun q => absurd q (by decide)) (fun _ => ?_)
      refine F_iload X8 at_173 rfl (pc' := 175) rfl ?_
      refine F_if_le X8 at_175 (by decide) (pt := 188) (by decide) (pc' := 178) rfl (fun _ => ?_) (fun q => absurd q (by decide))
      refine F_iconst X8 at_188 (z := (1 : Int32)) (by decide) (pc' := 189) rfl ?_
      refine F_goto X8 at_189 (by decide) (pc' := 193) (by decide) ?_
      refine F_istore X8 at_193 (Ls' := #[.val (.long u1), .second, .val (.long u2), .second, .val (.long u3), .second, .val (.long u4), .second, .val (.long u5), .second, .val (.int u6), .val (.int (1 : Int32)), .val (.int (0 : Int32)), .val (.int (0 : Int32)), .val (.ref b6), .val (.ref b7), .val (.long u3), .second, .val (.long u4), .second, .val (.long u5), .second, .val (.int (1 : Int32))]) rfl (pc' := 195) rfl ?_
      refine F_iload X8 at_195 rfl (pc' := 197) rfl ?_
      refine F_if_eq X8 at_197 (by decide) (pt := 220) (by decide) (pc' := 200) rfl (fun q => absurd q (by decide)) (fun _ => ?_)
      refine F_iload X8 at_200 rfl (pc' := 202) rfl ?_
      refine F_iconst X8 at_202 (z := (1 : Int32)) (by decide) (pc' := 203) rfl ?_
      refine F_icmp_le X8 at_203 (by decide) (pt := 216) (by decide) (pc' := 206) rfl (fun _ => ?_) (fun q => absurd q (by decide))
      refine F_iconst X8 at_216 (z := (1 : Int32)) (by decide) (pc' := 217) rfl ?_
      refine F_goto X8 at_217 (by decide) (pc' := 221) (by decide) ?_
      refine F_istore X8 at_221 (Ls' := #[.val (.long u1), .second, .val (.long u2), .second, .val (.long u3), .second, .val (.long u4), .second, .val (.long u5), .second, .val (.int u6), .val (.int (1 : Int32)), .val (.int (0 : Int32)), .val (.int (0 : Int32)), .val (.ref b6), .val (.ref b7), .val (.long u3), .second, .val (.long u4), .second, .val (.long u5), .second, .val (.int (1 : Int32))]) rfl (pc' := 223) rfl ?_
      refine F_iload X8 at_223 rfl (pc' := 225) rfl ?_
      refine F_if_eq X8 at_225 (by decide) (pt := 248) (by decide) (pc' := 228) rfl (fun q => absurd q (by decide)) (fun _ => ?_)
      refine F_iload X8 at_228 rfl (pc' := 230) rfl ?_
      refine F_iconst X8 at_230 (z := (2 : Int32)) (by decide) (pc' := 231) rfl ?_
      refine F_icmp_le X8 at_231 (by decide) (pt := 244) (by decide) (pc' := 234) rfl (fun _ => ?_) (fun q => absurd q (by decide))
      refine F_iconst X8 at_244 (z := (1 : Int32)) (by decide) (pc' := 245) rfl ?_
      refine F_goto X8 at_245 (by decide) (pc' := 249) (by decide) ?_
      refine F_istore X8 at_249 (Ls' := #[.val (.long u1), .second, .val (.long u2), .second, .val (.long u3), .second, .val (.long u4), .second, .val (.long u5), .second, .val (.int u6), .val (.int (1 : Int32)), .val (.int (0 : Int32)), .val (.int (0 : Int32)), .val (.ref b6), .val (.ref b7), .val (.long u3), .second, .val (.long u4), .second, .val (.long u5), .second, .val (.int (1 : Int32))]) rfl (pc' := 251) rfl ?_
      refine F_iload X8 at_251 rfl (pc' := 253) rfl ?_
      refine F_if_ne X8 at_253 (by decide) (pt := 276) (by decide) (pc' := 256) rfl (fun _ => ?_) (fun q => absurd q (by decide))
      refine F_iload X8 at_276 rfl (pc' := 278) rfl ?_
      refine F_if_eq X8 at_278 (by decide) (pt := 298) (by decide) (pc' := 281) rfl (fun q => absurd q (by decide)) (fun _ => ?_)
      refine F_aload X8 at_281 rfl rfl (pc' := 283) rfl ?_
      refine F_ifnull_ref X8 at_283 (pc' := 286) rfl ?_
      refine F_aload X8 at_286 rfl rfl (pc' := 288) rfl ?_
      refine F_arraylength X8 A8k_b6 (z := (0 : Int32)) rfl at_288 (pc' := 289) rfl ?_
      refine F_iload X8 at_289 rfl (pc' := 291) rfl ?_
      refine F_icmp_ne X8 at_291 (by decide) (pt := 298) (by decide) (pc' := 294) rfl (fun q => absurd q (by decide)) (fun _ => ?_)
      refine F_iconst X8 at_294 (z := (1 : Int32)) (by decide) (pc' := 295) rfl ?_
      refine F_goto X8 at_295 (by decide) (pc' := 299) (by decide) ?_
      refine F_istore X8 at_299 (Ls' := #[.val (.long u1), .second, .val (.long u2), .second, .val (.long u3), .second, .val (.long u4), .second, .val (.long u5), .second, .val (.int u6), .val (.int (1 : Int32)), .val (.int (0 : Int32)), .val (.int (0 : Int32)), .val (.ref b6), .val (.ref b7), .val (.long u3), .second, .val (.long u4), .second, .val (.long u5), .second, .val (.int (1 : Int32))]) rfl (pc' := 301) rfl ?_
      refine F_iload X8 at_301 rfl (pc' := 303) rfl ?_
      refine F_if_eq X8 at_303 (by decide) (pt := 324) (by decide) (pc' := 306) rfl (fun q => absurd q (by decide)) (fun _ => ?_)
      refine F_iload X8 at_306 rfl (pc' := 308) rfl ?_
      refine F_if_le X8 at_308 (by decide) (pt := 320) (by decide) (pc' := 311) rfl (fun _ => ?_) (fun q => absurd q (by decide))
      refine F_iconst X8 at_320 (z := (1 : Int32)) (by decide) (pc' := 321) rfl ?_
      refine F_goto X8 at_321 (by decide) (pc' := 325) (by decide) ?_
      refine F_istore X8 at_325 (Ls' := #[.val (.long u1), .second, .val (.long u2), .second, .val (.long u3), .second, .val (.long u4), .second, .val (.long u5), .second, .val (.int u6), .val (.int (1 : Int32)), .val (.int (0 : Int32)), .val (.int (0 : Int32)), .val (.ref b6), .val (.ref b7), .val (.long u3), .second, .val (.long u4), .second, .val (.long u5), .second, .val (.int (1 : Int32))]) rfl (pc' := 327) rfl ?_
      refine F_iload X8 at_327 rfl (pc' := 329) rfl ?_
      refine F_if_eq X8 at_329 (by decide) (pt := 351) (by decide) (pc' := 332) rfl (fun q => absurd q (by decide)) (fun _ => ?_)
      refine F_iload X8 at_332 rfl (pc' := 334) rfl ?_
      refine F_iconst X8 at_334 (z := (1 : Int32)) (by decide) (pc' := 335) rfl ?_
      refine F_icmp_le X8 at_335 (by decide) (pt := 347) (by decide) (pc' := 338) rfl (fun _ => ?_) (fun q => absurd q (by decide))
      refine F_iconst X8 at_347 (z := (1 : Int32)) (by decide) (pc' := 348) rfl ?_
      refine F_goto X8 at_348 (by decide) (pc' := 352) (by decide) ?_
      refine F_istore X8 at_352 (Ls' := #[.val (.long u1), .second, .val (.long u2), .second, .val (.long u3), .second, .val (.long u4), .second, .val (.long u5), .second, .val (.int u6), .val (.int (1 : Int32)), .val (.int (0 : Int32)), .val (.int (0 : Int32)), .val (.ref b6), .val (.ref b7), .val (.long u3), .second, .val (.long u4), .second, .val (.long u5), .second, .val (.int (1 : Int32))]) rfl (pc' := 354) rfl ?_
      refine F_iload X8 at_354 rfl (pc' := 356) rfl ?_
      refine F_ireturn_boolean (z' := (1 : Int32)) X8 (by decide) at_356 rfl (by decide) (by decide) ?_
      exact rfl
    · refine F_iadd X0 at_29 (z := (1 : Int32)) (by decide) (pc' := 30) rfl ?_
      refine F_istore X0 at_30 (Ls' := #[.val (.long u1), .second, .val (.long u2), .second, .val (.long u3), .second, .val (.long u4), .second, .val (.long u5), .second, .val (.int u6), .val (.int (1 : Int32)), .val (.int (0 : Int32)), .val (.int (1 : Int32)), .unset, .unset, .unset, .unset, .unset, .unset, .unset, .unset, .unset]) rfl (pc' := 32) rfl ?_
      refine F_iload X0 at_32 rfl (pc' := 34) rfl ?_
      refine F_if_ne X0 at_34 (by decide) (pt := 41) (by decide) (pc' := 37) rfl (fun _ => ?_) (fun q => absurd q (by decide))
      refine F_iload X0 at_41 rfl (pc' := 43) rfl ?_
      refine F_newarray X0 (aty := .long) (wd0 hw) (by decide) (cap := 0) (by decide) (by decide) (by decide) (by decide) (ad := "[J") rfl at_43 (pc' := 45) rfl fun T9 h9 b9 X9 Ex9 g9 ge9 E_b9 A9 => ?_
      replace A9 : AV Z h9 b9 .long [] := A9
      replace X9 := X9.more (cells' := 1) (slots' := 0) (by decide) (by decide)
      refine F_astore X9 at_45 rfl (Ls' := #[.val (.long u1), .second, .val (.long u2), .second, .val (.long u3), .second, .val (.long u4), .second, .val (.long u5), .second, .val (.int u6), .val (.int (1 : Int32)), .val (.int (0 : Int32)), .val (.int (1 : Int32)), .val (.ref b9), .unset, .unset, .unset, .unset, .unset, .unset, .unset, .unset]) rfl (pc' := 47) rfl ?_
      refine F_iload X9 at_47 rfl (pc' := 49) rfl ?_
      refine F_if_le X9 at_49 (by decide) (pt := 57) (by decide) (pc' := 52) rfl (fun _ => ?_) (fun q => absurd q (by decide))
      refine F_iload X9 at_57 rfl (pc' := 59) rfl ?_
      refine F_iconst X9 at_59 (z := (1 : Int32)) (by decide) (pc' := 60) rfl ?_
      refine F_icmp_le X9 at_60 (by decide) (pt := 68) (by decide) (pc' := 63) rfl (fun _ => ?_) (fun q => absurd q (by decide))
      refine F_iload X9 at_68 rfl (pc' := 70) rfl ?_
      refine F_newarray X9 (aty := .long) (wd0 hw) (by decide) (cap := 1) (by decide) (by decide) (by decide) (by decide) (ad := "[J") rfl at_70 (pc' := 72) rfl fun T10 h10 b10 X10 Ex10 g10 ge10 E_b10 A10 => ?_
      replace A10 : AV Z h10 b10 .long [(.long (0 : Int64))] := A10
      have ne_b9_b10 : b9 ≠ b10 := Nat.ne_of_lt (Nat.lt_of_lt_of_le E_b9.lt (Nat.le_of_eq g10.symm))
      have E10_b9 := E_b9.ext Ex10
      have A10_b9 := A9.ext Ex10
      replace X10 := X10.more (cells' := 2) (slots' := 1) (by decide) (by decide)
      refine F_astore X10 at_72 rfl (Ls' := #[.val (.long u1), .second, .val (.long u2), .second, .val (.long u3), .second, .val (.long u4), .second, .val (.long u5), .second, .val (.int u6), .val (.int (1 : Int32)), .val (.int (0 : Int32)), .val (.int (1 : Int32)), .val (.ref b9), .val (.ref b10), .unset, .unset, .unset, .unset, .unset, .unset, .unset]) rfl (pc' := 74) rfl ?_
      refine F_iload X10 at_74 rfl (pc' := 76) rfl ?_
      refine F_if_le X10 at_76 (by decide) (pt := 85) (by decide) (pc' := 79) rfl (fun q => absurd q (by decide)) (fun _ => ?_)
      refine F_aload X10 at_79 rfl rfl (pc' := 81) rfl ?_
      refine F_iconst X10 at_81 (z := (0 : Int32)) (by decide) (pc' := 82) rfl ?_
      refine F_lload X10 at_82 rfl (pc' := 84) rfl ?_
      refine F_lastore X10 A10 (by decide) (i := 0) (by decide) (Nat.le_of_ble_eq_true rfl) ge10 at_84 (pc' := 85) rfl fun T11 h11 X11 W11 A11 => ?_
      replace A11 : AV Z h11 b10 .long [(.long u3)] := A11
      have E11_b9 := E10_b9.wr W11
      have E11_b10 := E_b10.wr W11
      have A11_b9 := A10_b9.other W11 ne_b9_b10
      refine F_iload X11 at_85 rfl (pc' := 87) rfl ?_
      refine F_iconst X11 at_87 (z := (1 : Int32)) (by decide) (pc' := 88) rfl ?_
      refine F_icmp_le X11 at_88 (by decide) (pt := 97) (by decide) (pc' := 91) rfl (fun _ => ?_) (fun q => absurd q (by decide))
      refine F_iload X11 at_97 rfl (pc' := 99) rfl ?_
      refine F_iconst X11 at_99 (z := (2 : Int32)) (by decide) (pc' := 100) rfl ?_
      refine F_icmp_le X11 at_100 (by decide) (pt := 109) (by decide) (pc' := 103) rfl (fun _ => ?_) (fun q => absurd q (by decide))
      refine F_aload X11 at_109 rfl rfl (pc' := 111) rfl ?_
      refine F_aload X11 at_111 rfl rfl (pc' := 113) rfl ?_
      refine F_callS X11 (y := (⟨"com/example/entailment/entailment/Bits", "add", "([J[J)V"⟩ : MethodName)) (stk := []) (wd1 hw) (wd2 hw) (wd3 hw) (wd4 hw) (by decide) (argsL := [(.ref b9), (.ref b10)]) (conA0_1 l Z a0 hw n0 h11 X11.size b9 b10 u3 A11_b9 A11 ge10 ne_b9_b10) (by decide) (W := 0) (Nat.le_of_ble_eq_true rfl) (by decide) (by decide) (by decide) rfl (lenOf pd0 rfl) rfl at_113 (pc' := 116) rfl fun T12 v12 h12 X12 q12 => ?_
      obtain ⟨rfl, Kp12, A12_b10⟩ := q12
      have E12k_b9 := E11_b9.keep Kp12
      have E12k_b10 := E11_b10.keep Kp12
      have A12k_b9 := A11_b9.keep Kp12 (ninS ne_b9_b10 nin0)
      replace X12 := X12.more (cells' := 2) (slots' := 1) (by decide) (by decide)
      show Jvm.OwnKit.Ends p e below s n0 16 128 _ T12 (mkF m 116 #[.val (.long u1), .second, .val (.long u2), .second, .val (.long u3), .second, .val (.long u4), .second, .val (.long u5), .second, .val (.int u6), .val (.int (1 : Int32)), .val (.int (0 : Int32)), .val (.int (1 : Int32)), .val (.ref b9), .val (.ref b10), .unset, .unset, .unset, .unset, .unset, .unset, .unset] [])
      refine F_iload X12 at_116 rfl (pc' := 118) rfl ?_
      refine F_if_le X12 at_118 (by decide) (pt := 128) (by decide) (pc' := 121) rfl (fun _ => ?_) (fun q => absurd q (by decide))
      refine F_lload X12 at_128 rfl (pc' := 130) rfl ?_
      refine F_lstore X12 at_130 (Ls' := #[.val (.long u1), .second, .val (.long u2), .second, .val (.long u3), .second, .val (.long u4), .second, .val (.long u5), .second, .val (.int u6), .val (.int (1 : Int32)), .val (.int (0 : Int32)), .val (.int (1 : Int32)), .val (.ref b9), .val (.ref b10), .val (.long u3), .second, .unset, .unset, .unset, .unset, .unset]) rfl (pc' := 132) rfl ?_
      refine F_iload X12 at_132 rfl (pc' := 134) rfl ?_
      refine F_iconst X12 at_134 (z := (1 : Int32)) (by decide) (pc' := 135) rfl ?_
      refine F_icmp_le X12 at_135 (by decide) (pt := 145) (by decide) (pc' := 138) rfl (fun _ => ?_) (fun q => absurd q (by decide))
      refine F_lload X12 at_145 rfl (pc' := 147) rfl ?_
      refine F_lstore X12 at_147 (Ls' := #[.val (.long u1), .second, .val (.long u2), .second, .val (.long u3), .second, .val (.long u4), .second, .val (.long u5), .second, .val (.int u6), .val (.int (1 : Int32)), .val (.int (0 : Int32)), .val (.int (1 : Int32)), .val (.ref b9), .val (.ref b10), .val (.long u3), .second, .val (.long u4), .second, .unset, .unset, .unset]) rfl (pc' := 149) rfl ?_
      refine F_lload X12 at_149 rfl (pc' := 151) rfl ?_
      refine F_lstore X12 at_151 (Ls' := #[.val (.long u1), .second, .val (.long u2), .second, .val (.long u3), .second, .val (.long u4), .second, .val (.long u5), .second, .val (.int u6), .val (.int (1 : Int32)), .val (.int (0 : Int32)), .val (.int (1 : Int32)), .val (.ref b9), .val (.ref b10), .val (.long u3), .second, .val (.long u4), .second, .val (.long u5), .second, .unset]) rfl (pc' := 153) rfl ?_
      refine F_aload X12 at_153 rfl rfl (pc' := 155) rfl ?_
      refine F_arraylength X12 A12_b10 (z := (1 : Int32)) rfl at_155 (pc' := 156) rfl ?_
      refine F_iload X12 at_156 rfl (pc' := 158) rfl ?_
      refine F_icmp_ne X12 at_158 (by decide) (pt := 165) (by decide) (pc' := 161) rfl (fun q => absurd q (by decide)) (fun _ => ?_)
      refine F_iconst X12 at_161 (z := (1 : Int32)) (by decide) (pc' := 162) rfl ?_
      refine F_goto X12 at_162 (by decide) (pc' := 166) (by decide) ?_
      refine F_istore X12 at_166 (Ls' := #[.val (.long u1), .second, .val (.long u2), .second, .val (.long u3), .second, .val (.long u4), .second, .val (.long u5), .second, .val (.int u6), .val (.int (1 : Int32)), .val (.int (0 : Int32)), .val (.int (1 : Int32)), .val (.ref b9), .val (.ref b10), .val (.long u3), .second, .val (.long u4), .second, .val (.long u5), .second, .val (.int (1 : Int32))]) rfl (pc' := 168) rfl ?_
      refine F_iload X12 at_168 rfl (pc' := 170) rfl ?_
      refine F_if_eq X12 at_170 (by decide) (pt := 192) (by decide) (pc' := 173) rfl (fun q => absurd q (by decide)) (fun _ => ?_)
      refine F_iload X12 at_173 rfl (pc' := 175) rfl ?_
      refine F_if_le X12 at_175 (by decide) (pt := 188) (by decide) (pc' := 178) rfl (fun q => absurd q (by decide)) (fun _ => ?_)
      refine F_aload X12 at_178 rfl rfl (pc' := 180) rfl ?_
      refine F_iconst X12 at_180 (z := (0 : Int32)) (by decide) (pc' := 181) rfl ?_
      refine F_laload X12 A12_b10 (by decide) rfl at_181 (pc' := 182) rfl ?_
      refine F_lload X12 at_182 rfl (pc' := 184) rfl ?_
      refine F_lcmp X12 at_184 (pc' := 185) rfl ?_
      refine F_lif_ne X12 at_185 (by decide) (pt := 192) (by decide) (pc' := 188) rfl (fun q => absurd rfl q) (fun _ => ?_)
      refine F_iconst X12 at_188 (z := (1 : Int32)) (by decide) (pc' := 189) rfl ?_
      refine F_goto X12 at_189 (by decide) (pc' := 193) (by decide) ?_
      refine F_istore X12 at_193 (Ls' := #[.val (.long u1), .second, .val (.long u2), .second, .val (.long u3), .second, .val (.long u4), .second, .val (.long u5), .second, .val (.int u6), .val (.int (1 : Int32)), .val (.int (0 : Int32)), .val (.int (1 : Int32)), .val (.ref b9), .val (.ref b10), .val (.long u3), .second, .val (.long u4), .second, .val (.long u5), .second, .val (.int (1 : Int32))]) rfl (pc' := 195) rfl ?_
      refine F_iload X12 at_195 rfl (pc' := 197) rfl ?_
      refine F_if_eq X12 at_197 (by decide) (pt := 220) (by decide) (pc' := 200) rfl (fun q => absurd q (by decide)) (fun _ => ?_)
      refine F_iload X12 at_200 rfl (pc' := 202) rfl ?_
      refine F_iconst X12 at_202 (z := (1 : Int32)) (by decide) (pc' := 203) rfl ?_
      refine F_icmp_le X12 at_203 (by decide) (pt := 216) (by decide) (pc' := 206) rfl (fun _ => ?_) (fun q => absurd q (by decide))
      refine F_iconst X12 at_216 (z := (1 : Int32)) (by decide) (pc' := 217) rfl ?_
      refine F_goto X12 at_217 (by decide) (pc' := 221) (by decide) ?_
      refine F_istore X12 at_221 (Ls' := #[.val (.long u1), .second, .val (.long u2), .second, .val (.long u3), .second, .val (.long u4), .second, .val (.long u5), .second, .val (.int u6), .val (.int (1 : Int32)), .val (.int (0 : Int32)), .val (.int (1 : Int32)), .val (.ref b9), .val (.ref b10), .val (.long u3), .second, .val (.long u4), .second, .val (.long u5), .second, .val (.int (1 : Int32))]) rfl (pc' := 223) rfl ?_
      refine F_iload X12 at_223 rfl (pc' := 225) rfl ?_
      refine F_if_eq X12 at_225 (by decide) (pt := 248) (by decide) (pc' := 228) rfl (fun q => absurd q (by decide)) (fun _ => ?_)
      refine F_iload X12 at_228 rfl (pc' := 230) rfl ?_
      refine F_iconst X12 at_230 (z := (2 : Int32)) (by decide) (pc' := 231) rfl ?_
      refine F_icmp_le X12 at_231 (by decide) (pt := 244) (by decide) (pc' := 234) rfl (fun _ => ?_) (fun q => absurd q (by decide))
      refine F_iconst X12 at_244 (z := (1 : Int32)) (by decide) (pc' := 245) rfl ?_
      refine F_goto X12 at_245 (by decide) (pc' := 249) (by decide) ?_
      refine F_istore X12 at_249 (Ls' := #[.val (.long u1), .second, .val (.long u2), .second, .val (.long u3), .second, .val (.long u4), .second, .val (.long u5), .second, .val (.int u6), .val (.int (1 : Int32)), .val (.int (0 : Int32)), .val (.int (1 : Int32)), .val (.ref b9), .val (.ref b10), .val (.long u3), .second, .val (.long u4), .second, .val (.long u5), .second, .val (.int (1 : Int32))]) rfl (pc' := 251) rfl ?_
      refine F_iload X12 at_251 rfl (pc' := 253) rfl ?_
      refine F_if_ne X12 at_253 (by decide) (pt := 276) (by decide) (pc' := 256) rfl (fun _ => ?_) (fun q => absurd q (by decide))
      refine F_iload X12 at_276 rfl (pc' := 278) rfl ?_
      refine F_if_eq X12 at_278 (by decide) (pt := 298) (by decide) (pc' := 281) rfl (fun q => absurd q (by decide)) (fun _ => ?_)
      refine F_aload X12 at_281 rfl rfl (pc' := 283) rfl ?_
      refine F_ifnull_ref X12 at_283 (pc' := 286) rfl ?_
      refine F_aload X12 at_286 rfl rfl (pc' := 288) rfl ?_
      refine F_arraylength X12 A12k_b9 (z := (0 : Int32)) rfl at_288 (pc' := 289) rfl ?_
      refine F_iload X12 at_289 rfl (pc' := 291) rfl ?_
      refine F_icmp_ne X12 at_291 (by decide) (pt := 298) (by decide) (pc' := 294) rfl (fun q => absurd q (by decide)) (fun _ => ?_)
      refine F_iconst X12 at_294 (z := (1 : Int32)) (by decide) (pc' := 295) rfl ?_
      refine F_goto X12 at_295 (by decide) (pc' := 299) (by decide) ?_
      refine F_istore X12 at_299 (Ls' := #[.val (.long u1), .second, .val (.long u2), .second, .val (.long u3), .second, .val (.long u4), .second, .val (.long u5), .second, .val (.int u6), .val (.int (1 : Int32)), .val (.int (0 : Int32)), .val (.int (1 : Int32)), .val (.ref b9), .val (.ref b10), .val (.long u3), .second, .val (.long u4), .second, .val (.long u5), .second, .val (.int (1 : Int32))]) rfl (pc' := 301) rfl ?_
      refine F_iload X12 at_301 rfl (pc' := 303) rfl ?_
      refine F_if_eq X12 at_303 (by decide) (pt := 324) (by decide) (pc' := 306) rfl (fun q => absurd q (by decide)) (fun _ => ?_)
      refine F_iload X12 at_306 rfl (pc' := 308) rfl ?_
      refine F_if_le X12 at_308 (by decide) (pt := 320) (by decide) (pc' := 311) rfl (fun _ => ?_) (fun q => absurd q (by decide))
      refine F_iconst X12 at_320 (z := (1 : Int32)) (by decide) (pc' := 321) rfl ?_
      refine F_goto X12 at_321 (by decide) (pc' := 325) (by decide) ?_
      refine F_istore X12 at_325 (Ls' := #[.val (.long u1), .second, .val (.long u2), .second, .val (.long u3), .second, .val (.long u4), .second, .val (.long u5), .second, .val (.int u6), .val (.int (1 : Int32)), .val (.int (0 : Int32)), .val (.int (1 : Int32)), .val (.ref b9), .val (.ref b10), .val (.long u3), .second, .val (.long u4), .second, .val (.long u5), .second, .val (.int (1 : Int32))]) rfl (pc' := 327) rfl ?_
      refine F_iload X12 at_327 rfl (pc' := 329) rfl ?_
      refine F_if_eq X12 at_329 (by decide) (pt := 351) (by decide) (pc' := 332) rfl (fun q => absurd q (by decide)) (fun _ => ?_)
      refine F_iload X12 at_332 rfl (pc' := 334) rfl ?_
      refine F_iconst X12 at_334 (z := (1 : Int32)) (by decide) (pc' := 335) rfl ?_
      refine F_icmp_le X12 at_335 (by decide) (pt := 347) (by decide) (pc' := 338) rfl (fun _ => ?_) (fun q => absurd q (by decide))
      refine F_iconst X12 at_347 (z := (1 : Int32)) (by decide) (pc' := 348) rfl ?_
      refine F_goto X12 at_348 (by decide) (pc' := 352) (by decide) ?_
      refine F_istore X12 at_352 (Ls' := #[.val (.long u1), .second, .val (.long u2), .second, .val (.long u3), .second, .val (.long u4), .second, .val (.long u5), .second, .val (.int u6), .val (.int (1 : Int32)), .val (.int (0 : Int32)), .val (.int (1 : Int32)), .val (.ref b9), .val (.ref b10), .val (.long u3), .second, .val (.long u4), .second, .val (.long u5), .second, .val (.int (1 : Int32))]) rfl (pc' := 354) rfl ?_
      refine F_iload X12 at_354 rfl (pc' := 356) rfl ?_
      refine F_ireturn_boolean (z' := (1 : Int32)) X12 (by decide) at_356 rfl (by decide) (by decide) ?_
      exact rfl
  · refine F_iload X0 at_6 rfl (pc' := 8) rfl ?_
    refine F_if_ne X0 at_8 (by decide) (pt := 15) (by decide) (pc' := 11) rfl (fun _ => ?_) (fun q => absurd q (by decide))
    refine F_iload X0 at_15 rfl (pc' := 17) rfl ?_
    refine F_iconst X0 at_17 (z := (1 : Int32)) (by decide) (pc' := 18) rfl ?_
    refine F_isub X0 at_18 (z := (1 : Int32)) (by decide) (pc' := 19) rfl ?_
    refine F_istore X0 at_19 (Ls' := #[.val (.long u1), .second, .val (.long u2), .second, .val (.long u3), .second, .val (.long u4), .second, .val (.long u5), .second, .val (.int u6), .val (.int (2 : Int32)), .val (.int (1 : Int32)), .unset, .unset, .unset, .unset, .unset, .unset, .unset, .unset, .unset, .unset]) rfl (pc' := 21) rfl ?_
    refine F_iload X0 at_21 rfl (pc' := 23) rfl ?_
    refine F_iload X0 at_23 rfl (pc' := 25) rfl ?_
    refine F_iconst X0 at_25 (z := (2 : Int32)) (by decide) (pc' := 26) rfl ?_
    refine F_iushr X0 at_26 rfl (pc' := 27) rfl ?_
    refine F_iconst X0 at_27 (z := (1 : Int32)) (by decide) (pc' := 28) rfl ?_
    obtain ⟨e1, he1⟩ : ∃ z : Int32, ((u6.toUInt32 >>> ((2 : Int32) &&& 31).toUInt32).toInt32) &&& (1 : Int32) = z := ⟨_, rfl⟩
    refine F_iand X0 at_28 (z := e1) he1 (pc' := 29) rfl ?_
    rcases (own_m1 he1) with rfl | rfl
    · refine F_iadd X0 at_29 (z := (1 : Int32)) (by decide) (pc' := 30) rfl ?_
      refine F_istore X0 at_30 (Ls' := #[.val (.long u1), .second, .val (.long u2), .second, .val (.long u3), .second, .val (.long u4), .second, .val (.long u5), .second, .val (.int u6), .val (.int (2 : Int32)), .val (.int (1 : Int32)), .val (.int (1 : Int32)), .unset, .unset, .unset, .unset, .unset, .unset, .unset, .unset, .unset]) rfl (pc' := 32) rfl ?_
      refine F_iload X0 at_32 rfl (pc' := 34) rfl ?_
      refine F_if_ne X0 at_34 (by decide) (pt := 41) (by decide) (pc' := 37) rfl (fun _ => ?_) (fun q => absurd q (by decide))
      refine F_iload X0 at_41 rfl (pc' := 43) rfl ?_
      refine F_newarray X0 (aty := .long) (wd0 hw) (by decide) (cap := 1) (by decide) (by decide) (by decide) (by decide) (ad := "[J") rfl at_43 (pc' := 45) rfl fun T13 h13 b13 X13 Ex13 g13 ge13 E_b13 A13 => ?_
      replace A13 : AV Z h13 b13 .long [(.long (0 : Int64))] := A13
      replace X13 := X13.more (cells' := 1) (slots' := 1) (by decide) (by decide)
      refine F_astore X13 at_45 rfl (Ls' := #[.val (.long u1), .second, .val (.long u2), .second, .val (.long u3), .second, .val (.long u4), .second, .val (.long u5), .second, .val (.int u6), .val (.int (2 : Int32)), .val (.int (1 : Int32)), .val (.int (1 : Int32)), .val (.ref b13), .unset, .unset, .unset, .unset, .unset, .unset, .unset, .unset]) rfl (pc' := 47) rfl ?_
      refine F_iload X13 at_47 rfl (pc' := 49) rfl ?_
      refine F_if_le X13 at_49 (by decide) (pt := 57) (by decide) (pc' := 52) rfl (fun q => absurd q (by decide)) (fun _ => ?_)
      refine F_aload X13 at_52 rfl rfl (pc' := 54) rfl ?_
      refine F_iconst X13 at_54 (z := (0 : Int32)) (by decide) (pc' := 55) rfl ?_
      refine F_lloadN X13 at_55 rfl (pc' := 56) rfl ?_
      refine F_lastore X13 A13 (by decide) (i := 0) (by decide) (Nat.le_of_ble_eq_true rfl) ge13 at_56 (pc' := 57) rfl fun T14 h14 X14 W14 A14 => ?_
      replace A14 : AV Z h14 b13 .long [(.long u1)] := A14
      have E14_b13 := E_b13.wr W14
      refine F_iload X14 at_57 rfl (pc' := 59) rfl ?_
      refine F_iconst X14 at_59 (z := (1 : Int32)) (by decide) (pc' := 60) rfl ?_
      refine F_icmp_le X14 at_60 (by decide) (pt := 68) (by decide) (pc' := 63) rfl (fun _ => ?_) (fun q => absurd q (by decide))
      refine F_iload X14 at_68 rfl (pc' := 70) rfl ?_
      refine F_newarray X14 (aty := .long) (wd0 hw) (by decide) (cap := 1) (by decide) (by decide) (by decide) (by decide) (ad := "[J") rfl at_70 (pc' := 72) rfl fun T15 h15 b15 X15 Ex15 g15 ge15 E_b15 A15 => ?_
      replace A15 : AV Z h15 b15 .long [(.long (0 : Int64))] := A15
      have ne_b13_b15 : b13 ≠ b15 := Nat.ne_of_lt (Nat.lt_of_lt_of_le E14_b13.lt (Nat.le_of_eq g15.symm))
      have E15_b13 := E14_b13.ext Ex15
      have A15_b13 := A14.ext Ex15
      replace X15 := X15.more (cells' := 2) (slots' := 2) (by decide) (by decide)
      refine F_astore X15 at_72 rfl (Ls' := #[.val (.long u1), .second, .val (.long u2), .second, .val (.long u3), .second, .val (.long u4), .second, .val (.long u5), .second, .val (.int u6), .val (.int (2 : Int32)), .val (.int (1 : Int32)), .val (.int (1 : Int32)), .val (.ref b13), .val (.ref b15), .unset, .unset, .unset, .unset, .unset, .unset, .unset]) rfl (pc' := 74) rfl ?_
      refine F_iload X15 at_74 rfl (pc' := 76) rfl ?_
      refine F_if_le X15 at_76 (by decide) (pt := 85) (by decide) (pc' := 79) rfl (fun q => absurd q (by decide)) (fun _ => ?_)
      refine F_aload X15 at_79 rfl rfl (pc' := 81) rfl ?_
      refine F_iconst X15 at_81 (z := (0 : Int32)) (by decide) (pc' := 82) rfl ?_
      refine F_lload X15 at_82 rfl (pc' := 84) rfl ?_
      refine F_lastore X15 A15 (by decide) (i := 0) (by decide) (Nat.le_of_ble_eq_true rfl) ge15 at_84 (pc' := 85) rfl fun T16 h16 X16 W16 A16 => ?_
      replace A16 : AV Z h16 b15 .long [(.long u3)] := A16
      have E16_b13 := E15_b13.wr W16
      have E16_b15 := E_b15.wr W16
      have A16_b13 := A15_b13.other W16 ne_b13_b15
      refine F_iload X16 at_85 rfl (pc' := 87) rfl ?_
      refine F_iconst X16 at_87 (z := (1 : Int32)) (by decide) (pc' := 88) rfl ?_
      refine F_icmp_le X16 at_88 (by decide) (pt := 97) (by decide) (pc' := 91) rfl (fun _ => ?_) (fun q => absurd q (by decide))
      refine F_iload X16 at_97 rfl (pc' := 99) rfl ?_
      refine F_iconst X16 at_99 (z := (2 : Int32)) (by decide) (pc' := 100) rfl ?_
      refine F_icmp_le X16 at_100 (by decide) (pt := 109) (by decide) (pc' := 103) rfl (fun _ => ?_) (fun q => absurd q (by decide))
      refine F_aload X16 at_109 rfl rfl (pc' := 111) rfl ?_
      refine F_aload X16 at_111 rfl rfl (pc' := 113) rfl ?_
      refine F_callS X16 (y := (⟨"com/example/entailment/entailment/Bits", "add", "([J[J)V"⟩ : MethodName)) (stk := []) (wd1 hw) (wd2 hw) (wd3 hw) (wd4 hw) (by decide) (argsL := [(.ref b13), (.ref b15)]) (conA1_1 l Z a0 hw n0 h16 X16.size b13 b15 u1 u3 A16_b13 A16 ge15 ne_b13_b15) (by decide) (W := 0) (Nat.le_of_ble_eq_true rfl) (by decide) (by decide) (by decide) rfl (lenOf pd0 rfl) rfl at_113 (pc' := 116) rfl fun T17 v17 h17 X17 q17 => ?_
      obtain ⟨rfl, Kp17, A17_b15⟩ := q17
      have E17k_b13 := E16_b13.keep Kp17
      have E17k_b15 := E16_b15.keep Kp17
      have A17k_b13 := A16_b13.keep Kp17 (ninS ne_b13_b15 nin0)
      replace X17 := X17.more (cells' := 2) (slots' := 2) (by decide) (by decide)
      show Jvm.OwnKit.Ends p e below s n0 16 128 _ T17 (mkF m 116 #[.val (.long u1), .second, .val (.long u2), .second, .val (.long u3), .second, .val (.long u4), .second, .val (.long u5), .second, .val (.int u6), .val (.int (2 : Int32)), .val (.int (1 : Int32)), .val (.int (1 : Int32)), .val (.ref b13), .val (.ref b15), .unset, .unset, .unset, .unset, .unset, .unset, .unset] [])
      refine F_iload X17 at_116 rfl (pc' := 118) rfl ?_
      refine F_if_le X17 at_118 (by decide) (pt := 128) (by decide) (pc' := 121) rfl (fun q => absurd q (by decide)) (fun _ => ?_)
      refine F_lload X17 at_121 rfl (pc' := 123) rfl ?_
      refine F_lloadN X17 at_123 rfl (pc' := 124) rfl ?_
      refine F_lor X17 at_124 rfl (pc' := 125) rfl ?_
      refine F_goto X17 at_125 (by decide) (pc' := 130) (by decide) ?_
      refine F_lstore X17 at_130 (Ls' := #[.val (.long u1), .second, .val (.long u2), .second, .val (.long u3), .second, .val (.long u4), .second, .val (.long u5), .second, .val (.int u6), .val (.int (2 : Int32)), .val (.int (1 : Int32)), .val (.int (1 : Int32)), .val (.ref b13), .val (.ref b15), .val (.long (u3 ||| u1)), .second, .unset, .unset, .unset, .unset, .unset]) rfl (pc' := 132) rfl ?_
      refine F_iload X17 at_132 rfl (pc' := 134) rfl ?_
      refine F_iconst X17 at_134 (z := (1 : Int32)) (by decide) (pc' := 135) rfl ?_
      refine F_icmp_le X17 at_135 (by decide) (pt := 145) (by decide) (pc' := 138) rfl (fun _ => ?_) (fun q => absurd q (by decide))
      refine F_lload X17 at_145 rfl (pc' := 147) rfl ?_
      refine F_lstore X17 at_147 (Ls' := #[.val (.long u1), .second, .val (.long u2), .second, .val (.long u3), .second, .val (.long u4), .second, .val (.long u5), .second, .val (.int u6), .val (.int (2 : Int32)), .val (.int (1 : Int32)), .val (.int (1 : Int32)), .val (.ref b13), .val (.ref b15), .val (.long (u3 ||| u1)), .second, .val (.long u4), .second, .unset, .unset, .unset]) rfl (pc' := 149) rfl ?_
      refine F_lload X17 at_149 rfl (pc' := 151) rfl ?_
      refine F_lstore X17 at_151 (Ls' := #[.val (.long u1), .second, .val (.long u2), .second, .val (.long u3), .second, .val (.long u4), .second, .val (.long u5), .second, .val (.int u6), .val (.int (2 : Int32)), .val (.int (1 : Int32)), .val (.int (1 : Int32)), .val (.ref b13), .val (.ref b15), .val (.long (u3 ||| u1)), .second, .val (.long u4), .second, .val (.long u5), .second, .unset]) rfl (pc' := 153) rfl ?_
      refine F_aload X17 at_153 rfl rfl (pc' := 155) rfl ?_
      refine F_arraylength X17 A17_b15 (z := (1 : Int32)) rfl at_155 (pc' := 156) rfl ?_
      refine F_iload X17 at_156 rfl (pc' := 158) rfl ?_
      refine F_icmp_ne X17 at_158 (by decide) (pt := 165) (by decide) (pc' := 161) rfl (fun q => absurd q (by decide)) (fun _ => ?_)
      refine F_iconst X17 at_161 (z := (1 : Int32)) (by decide) (pc' := 162) rfl ?_
      refine F_goto X17 at_162 (by decide) (pc' := 166) (by decide) ?_
      refine F_istore X17 at_166 (Ls' := #[.val (.long u1), .second, .val (.long u2), .second, .val (.long u3), .second, .val (.long u4), .second, .val (.long u5), .second, .val (.int u6), .val (.int (2 : Int32)), .val (.int (1 : Int32)), .val (.int (1 : Int32)), .val (.ref b13), .val (.ref b15), .val (.long (u3 ||| u1)), .second, .val (.long u4), .second, .val (.long u5), .second, .val (.int (1 : Int32))]) rfl (pc' := 168) rfl ?_
      refine F_iload X17 at_168 rfl (pc' := 170) rfl ?_
      refine F_if_eq X17 at_170 (by decide) (pt := 192) (by decide) (pc' := 173) rfl (fun q => absurd q (by decide)) (fun _ => ?_)
      refine F_iload X17 at_173 rfl (pc' := 175) rfl ?_
      refine F_if_le X17 at_175 (by decide) (pt := 188) (by decide) (pc' := 178) rfl (fun q => absurd q (by decide)) (fun _ => ?_)
      refine F_aload X17 at_178 rfl rfl (pc' := 180) rfl ?_
      refine F_iconst X17 at_180 (z := (0 : Int32)) (by decide) (pc' := 181) rfl ?_
      refine F_laload X17 A17_b15 (by decide) rfl at_181 (pc' := 182) rfl ?_
      refine F_lload X17 at_182 rfl (pc' := 184) rfl ?_
      refine F_lcmp X17 at_184 (pc' := 185) rfl ?_
      refine F_lif_ne X17 at_185 (by decide) (pt := 192) (by decide) (pc' := 188) rfl (fun q => absurd rfl q) (fun _ => ?_)
      refine F_iconst X17 at_188 (z := (1 : Int32)) (by decide) (pc' := 189) rfl ?_
      refine F_goto X17 at_189 (by decide) (pc' := 193) (by decide) ?_
      refine F_istore X17 at_193 (Ls' := #[.val (.long u1), .second, .val (.long u2), .second, .val (.long u3), .second, .val (.long u4), .second, .val (.long u5), .second, .val (.int u6), .val (.int (2 : Int32)), .val (.int (1 : Int32)), .val (.int (1 : Int32)), .val (.ref b13), .val (.ref b15), .val (.long (u3 ||| u1)), .second, .val (.long u4), .second, .val (.long u5), .second, .val (.int (1 : Int32))]) rfl (pc' := 195) rfl ?_
      refine F_iload X17 at_195 rfl (pc' := 197) rfl ?_
      refine F_if_eq X17 at_197 (by decide) (pt := 220) (by decide) (pc' := 200) rfl (fun q => absurd q (by decide)) (fun _ => ?_)
      refine F_iload X17 at_200 rfl (pc' := 202) rfl ?_
      refine F_iconst X17 at_202 (z := (1 : Int32)) (by decide) (pc' := 203) rfl ?_
      refine F_icmp_le X17 at_203 (by decide) (pt := 216) (by decide) (pc' := 206) rfl (fun _ => ?_) (fun q => absurd q (by decide))
      refine F_iconst X17 at_216 (z := (1 : Int32)) (by decide) (pc' := 217) rfl ?_
      refine F_goto X17 at_217 (by decide) (pc' := 221) (by decide) ?_
      refine F_istore X17 at_221 (Ls' := #[.val (.long u1), .second, .val (.long u2), .second, .val (.long u3), .second, .val (.long u4), .second, .val (.long u5), .second, .val (.int u6), .val (.int (2 : Int32)), .val (.int (1 : Int32)), .val (.int (1 : Int32)), .val (.ref b13), .val (.ref b15), .val (.long (u3 ||| u1)), .second, .val (.long u4), .second, .val (.long u5), .second, .val (.int (1 : Int32))]) rfl (pc' := 223) rfl ?_
      refine F_iload X17 at_223 rfl (pc' := 225) rfl ?_
      refine F_if_eq X17 at_225 (by decide) (pt := 248) (by decide) (pc' := 228) rfl (fun q => absurd q (by decide)) (fun _ => ?_)
      refine F_iload X17 at_228 rfl (pc' := 230) rfl ?_
      refine F_iconst X17 at_230 (z := (2 : Int32)) (by decide) (pc' := 231) rfl ?_
      refine F_icmp_le X17 at_231 (by decide) (pt := 244) (by decide) (pc' := 234) rfl (fun _ => ?_) (fun q => absurd q (by decide))
      refine F_iconst X17 at_244 (z := (1 : Int32)) (by decide) (pc' := 245) rfl ?_
      refine F_goto X17 at_245 (by decide) (pc' := 249) (by decide) ?_
      refine F_istore X17 at_249 (Ls' := #[.val (.long u1), .second, .val (.long u2), .second, .val (.long u3), .second, .val (.long u4), .second, .val (.long u5), .second, .val (.int u6), .val (.int (2 : Int32)), .val (.int (1 : Int32)), .val (.int (1 : Int32)), .val (.ref b13), .val (.ref b15), .val (.long (u3 ||| u1)), .second, .val (.long u4), .second, .val (.long u5), .second, .val (.int (1 : Int32))]) rfl (pc' := 251) rfl ?_
      refine F_iload X17 at_251 rfl (pc' := 253) rfl ?_
      refine F_if_ne X17 at_253 (by decide) (pt := 276) (by decide) (pc' := 256) rfl (fun _ => ?_) (fun q => absurd q (by decide))
      refine F_iload X17 at_276 rfl (pc' := 278) rfl ?_
      refine F_if_eq X17 at_278 (by decide) (pt := 298) (by decide) (pc' := 281) rfl (fun q => absurd q (by decide)) (fun _ => ?_)
      refine F_aload X17 at_281 rfl rfl (pc' := 283) rfl ?_
      refine F_ifnull_ref X17 at_283 (pc' := 286) rfl ?_
      refine F_aload X17 at_286 rfl rfl (pc' := 288) rfl ?_
      refine F_arraylength X17 A17k_b13 (z := (1 : Int32)) rfl at_288 (pc' := 289) rfl ?_
      refine F_iload X17 at_289 rfl (pc' := 291) rfl ?_
      refine F_icmp_ne X17 at_291 (by decide) (pt := 298) (by decide) (pc' := 294) rfl (fun q => absurd q (by decide)) (fun _ => ?_)
      refine F_iconst X17 at_294 (z := (1 : Int32)) (by decide) (pc' := 295) rfl ?_
      refine F_goto X17 at_295 (by decide) (pc' := 299) (by decide) ?_
      refine F_istore X17 at_299 (Ls' := #[.val (.long u1), .second, .val (.long u2), .second, .val (.long u3), .second, .val (.long u4), .second, .val (.long u5), .second, .val (.int u6), .val (.int (2 : Int32)), .val (.int (1 : Int32)), .val (.int (1 : Int32)), .val (.ref b13), .val (.ref b15), .val (.long (u3 ||| u1)), .second, .val (.long u4), .second, .val (.long u5), .second, .val (.int (1 : Int32))]) rfl (pc' := 301) rfl ?_
      refine F_iload X17 at_301 rfl (pc' := 303) rfl ?_
      refine F_if_eq X17 at_303 (by decide) (pt := 324) (by decide) (pc' := 306) rfl (fun q => absurd q (by decide)) (fun _ => ?_)
      refine F_iload X17 at_306 rfl (pc' := 308) rfl ?_
      refine F_if_le X17 at_308 (by decide) (pt := 320) (by decide) (pc' := 311) rfl (fun q => absurd q (by decide)) (fun _ => ?_)
      refine F_aload X17 at_311 rfl rfl (pc' := 313) rfl ?_
      refine F_iconst X17 at_313 (z := (0 : Int32)) (by decide) (pc' := 314) rfl ?_
      refine F_laload X17 A17k_b13 (by decide) rfl at_314 (pc' := 315) rfl ?_
      refine F_lloadN X17 at_315 rfl (pc' := 316) rfl ?_
      refine F_lcmp X17 at_316 (pc' := 317) rfl ?_
      refine F_lif_ne X17 at_317 (by decide) (pt := 324) (by decide) (pc' := 320) rfl (fun q => absurd rfl q) (fun _ => ?_)
      refine F_iconst X17 at_320 (z := (1 : Int32)) (by decide) (pc' := 321) rfl ?_
      refine F_goto X17 at_321 (by decide) (pc' := 325) (by decide) ?_
      refine F_istore X17 at_325 (Ls' := #[.val (.long u1), .second, .val (.long u2), .second, .val (.long u3), .second, .val (.long u4), .second, .val (.long u5), .second, .val (.int u6), .val (.int (2 : Int32)), .val (.int (1 : Int32)), .val (.int (1 : Int32)), .val (.ref b13), .val (.ref b15), .val (.long (u3 ||| u1)), .second, .val (.long u4), .second, .val (.long u5), .second, .val (.int (1 : Int32))]) rfl (pc' := 327) rfl ?_
      refine F_iload X17 at_327 rfl (pc' := 329) rfl ?_
      refine F_if_eq X17 at_329 (by decide) (pt := 351) (by decide) (pc' := 332) rfl (fun q => absurd q (by decide)) (fun _ => ?_)
      refine F_iload X17 at_332 rfl (pc' := 334) rfl ?_
      refine F_iconst X17 at_334 (z := (1 : Int32)) (by decide) (pc' := 335) rfl ?_
      refine F_icmp_le X17 at_335 (by decide) (pt := 347) (by decide) (pc' := 338) rfl (fun _ => ?_) (fun q => absurd q (by decide))
      refine F_iconst X17 at_347 (z := (1 : Int32)) (by decide) (pc' := 348) rfl ?_
      refine F_goto X17 at_348 (by decide) (pc' := 352) (by decide) ?_
      refine F_istore X17 at_352 (Ls' := #[.val (.long u1), .second, .val (.long u2), .second, .val (.long u3), .second, .val (.long u4), .second, .val (.long u5), .second, .val (.int u6), .val (.int (2 : Int32)), .val (.int (1 : Int32)), .val (.int (1 : Int32)), .val (.ref b13), .val (.ref b15), .val (.long (u3 ||| u1)), .second, .val (.long u4), .second, .val (.long u5), .second, .val (.int (1 : Int32))]) rfl (pc' := 354) rfl ?_
      refine F_iload X17 at_354 rfl (pc' := 356) rfl ?_
      refine F_ireturn_boolean (z' := (1 : Int32)) X17 (by decide) at_356 rfl (by decide) (by decide) ?_
      exact rfl
    · refine F_iadd X0 at_29 (z := (2 : Int32)) (by decide) (pc' := 30) rfl ?_
      refine F_istore X0 at_30 (Ls' := #[.val (.long u1), .second, .val (.long u2), .second, .val (.long u3), .second, .val (.long u4), .second, .val (.long u5), .second, .val (.int u6), .val (.int (2 : Int32)), .val (.int (1 : Int32)), .val (.int (2 : Int32)), .unset, .unset, .unset, .unset, .unset, .unset, .unset, .unset, .unset]) rfl (pc' := 32) rfl ?_
      refine F_iload X0 at_32 rfl (pc' := 34) rfl ?_
      refine F_if_ne X0 at_34 (by decide) (pt := 41) (by decide) (pc' := 37) rfl (fun _ => ?_) (fun q => absurd q (by decide))
      refine F_iload X0 at_41 rfl (pc' := 43) rfl ?_
      refine F_newarray X0 (aty := .long) (wd0 hw) (by decide) (cap := 1) (by decide) (by decide) (by decide) (by decide) (ad := "[J") rfl at_43 (pc' := 45) rfl fun T18 h18 b18 X18 Ex18 g18 ge18 E_b18 A18 => ?_
      replace A18 : AV Z h18 b18 .long [(.long (0 : Int64))] := A18
      replace X18 := X18.more (cells' := 1) (slots' := 1) (by decide) (by decide)
      refine F_astore X18 at_45 rfl (Ls' := #[.val (.long u1), .second, .val (.long u2), .second, .val (.long u3), .second, .val (.long u4), .second, .val (.long u5), .second, .val (.int u6), .val (.int (2 : Int32)), .val (.int (1 : Int32)), .val (.int (2 : Int32)), .val (.ref b18), .unset, .unset, .unset, .unset, .unset, .unset, .unset, .unset]) rfl (pc' := 47) rfl ?_
      refine F_iload X18 at_47 rfl (pc' := 49) rfl ?_
      refine F_if_le X18 at_49 (by decide) (pt := 57) (by decide) (pc' := 52) rfl (fun q => absurd q (by decide)) (fun _ => ?_)
      refine F_aload X18 at_52 rfl rfl (pc' := 54) rfl ?_
      refine F_iconst X18 at_54 (z := (0 : Int32)) (by decide) (pc' := 55) rfl ?_
      refine F_lloadN X18 at_55 rfl (pc' := 56) rfl ?_
      refine F_lastore X18 A18 (by decide) (i := 0) (by decide) (Nat.le_of_ble_eq_true rfl) ge18 at_56 (pc' := 57) rfl fun T19 h19 X19 W19 A19 => ?_
      replace A19 : AV Z h19 b18 .long [(.long u1)] := A19
      have E19_b18 := E_b18.wr W19
      refine F_iload X19 at_57 rfl (pc' := 59) rfl ?_
      refine F_iconst X19 at_59 (z := (1 : Int32)) (by decide) (pc' := 60) rfl ?_
      refine F_icmp_le X19 at_60 (by decide) (pt := 68) (by decide) (pc' := 63) rfl (fun _ => ?_) (fun q => absurd q (by decide))
      refine F_iload X19 at_68 rfl (pc' := 70) rfl ?_
      refine F_newarray X19 (aty := .long) (wd0 hw) (by decide) (cap := 2) (by decide) (by decide) (by decide) (by decide) (ad := "[J") rfl at_70 (pc' := 72) rfl fun T20 h20 b20 X20 Ex20 g20 ge20 E_b20 A20 => ?_
      replace A20 : AV Z h20 b20 .long [(.long (0 : Int64)), (.long (0 : Int64))] := A20
      have ne_b18_b20 : b18 ≠ b20 := Nat.ne_of_lt (Nat.lt_of_lt_of_le E19_b18.lt (Nat.le_of_eq g20.symm))
      have E20_b18 := E19_b18.ext Ex20
      have A20_b18 := A19.ext Ex20
      replace X20 := X20.more (cells' := 2) (slots' := 3) (by decide) (by decide)
      refine F_astore X20 at_72 rfl (Ls' := #[.val (.long u1), .second, .val (.long u2), .second, .val (.long u3), .second, .val (.long u4), .second, .val (.long u5), .second, .val (.int u6), .val (.int (2 : Int32)), .val (.int (1 : Int32)), .val (.int (2 : Int32)), .val (.ref b18), .val (.ref b20), .unset, .unset, .unset, .unset, .unset, .unset, .unset]) rfl (pc' := 74) rfl ?_
      refine F_iload X20 at_74 rfl (pc' := 76) rfl ?_
      refine F_if_le X20 at_76 (by decide) (pt := 85) (by decide) (pc' := 79) rfl (fun q => absurd q (by decide)) (fun _ => ?_)
      refine F_aload X20 at_79 rfl rfl (pc' := 81) rfl ?_
      refine F_iconst X20 at_81 (z := (0 : Int32)) (by decide) (pc' := 82) rfl ?_
      refine F_lload X20 at_82 rfl (pc' := 84) rfl ?_
      refine F_lastore X20 A20 (by decide) (i := 0) (by decide) (Nat.le_of_ble_eq_true rfl) ge20 at_84 (pc' := 85) rfl fun T21 h21 X21 W21 A21 => ?_
      replace A21 : AV Z h21 b20 .long [(.long u3), (.long (0 : Int64))] := A21
      have E21_b18 := E20_b18.wr W21
      have E21_b20 := E_b20.wr W21
      have A21_b18 := A20_b18.other W21 ne_b18_b20
      refine F_iload X21 at_85 rfl (pc' := 87) rfl ?_
      refine F_iconst X21 at_87 (z := (1 : Int32)) (by decide) (pc' := 88) rfl ?_
      refine F_icmp_le X21 at_88 (by decide) (pt := 97) (by decide) (pc' := 91) rfl (fun q => absurd q (by decide)) (fun _ => ?_)
      refine F_aload X21 at_91 rfl rfl (pc' := 93) rfl ?_
      refine F_iconst X21 at_93 (z := (1 : Int32)) (by decide) (pc' := 94) rfl ?_
      refine F_lload X21 at_94 rfl (pc' := 96) rfl ?_
      refine F_lastore X21 A21 (by decide) (i := 1) (by decide) (Nat.le_of_ble_eq_true rfl) ge20 at_96 (pc' := 97) rfl fun T22 h22 X22 W22 A22 => ?_
      replace A22 : AV Z h22 b20 .long [(.long u3), (.long u4)] := A22
      have E22_b18 := E21_b18.wr W22
      have E22_b20 := E21_b20.wr W22
      have A22_b18 := A21_b18.other W22 ne_b18_b20
      refine F_iload X22 at_97 rfl (pc' := 99) rfl ?_
      refine F_iconst X22 at_99 (z := (2 : Int32)) (by decide) (pc' := 100) rfl ?_
      refine F_icmp_le X22 at_100 (by decide) (pt := 109) (by decide) (pc' := 103) rfl (fun _ => ?_) (fun q => absurd q (by decide))
      refine F_aload X22 at_109 rfl rfl (pc' := 111) rfl ?_
      refine F_aload X22 at_111 rfl rfl (pc' := 113) rfl ?_
      refine F_callS X22 (y := (⟨"com/example/entailment/entailment/Bits", "add", "([J[J)V"⟩ : MethodName)) (stk := []) (wd1 hw) (wd2 hw) (wd3 hw) (wd4 hw) (by decide) (argsL := [(.ref b18), (.ref b20)]) (conA1_2 l Z a0 hw n0 h22 X22.size b18 b20 u1 u3 u4 A22_b18 A22 ge20 ne_b18_b20) (by decide) (W := 0) (Nat.le_of_ble_eq_true rfl) (by decide) (by decide) (by decide) rfl (lenOf pd0 rfl) rfl at_113 (pc' := 116) rfl fun T23 v23 h23 X23 q23 => ?_
      obtain ⟨rfl, Kp23, A23_b20⟩ := q23
      have E23k_b18 := E22_b18.keep Kp23
      have E23k_b20 := E22_b20.keep Kp23
      have A23k_b18 := A22_b18.keep Kp23 (ninS ne_b18_b20 nin0)
      replace X23 := X23.more (cells' := 2) (slots' := 3) (by decide) (by decide)
      show Jvm.OwnKit.Ends p e below s n0 16 128 _ T23 (mkF m 116 #[.val (.long u1), .second, .val (.long u2), .second, .val (.long u3), .second, .val (.long u4), .second, .val (.long u5), .second, .val (.int u6), .val (.int (2 : Int32)), .val (.int (1 : Int32)), .val (.int (2 : Int32)), .val (.ref b18), .val (.ref b20), .unset, .unset, .unset, .unset, .unset, .unset, .unset] [])
      refine F_iload X23 at_116 rfl (pc' := 118) rfl ?_
      refine F_if_le X23 at_118 (by decide) (pt := 128) (by decide) (pc' := 121) rfl (fun q => absurd q (by decide)) (fun _ => ?_)
      refine F_lload X23 at_121 rfl (pc' := 123) rfl ?_
      refine F_lloadN X23 at_123 rfl (pc' := 124) rfl ?_
      refine F_lor X23 at_124 rfl (pc' := 125) rfl ?_
      refine F_goto X23 at_125 (by decide) (pc' := 130) (by decide) ?_
      refine F_lstore X23 at_130 (Ls' := #[.val (.long u1), .second, .val (.long u2), .second, .val (.long u3), .second, .val (.long u4), .second, .val (.long u5), .second, .val (.int u6), .val (.int (2 : Int32)), .val (.int (1 : Int32)), .val (.int (2 : Int32)), .val (.ref b18), .val (.ref b20), .val (.long (u3 ||| u1)), .second, .unset, .unset, .unset, .unset, .unset]) rfl (pc' := 132) rfl ?_
      refine F_iload X23 at_132 rfl (pc' := 134) rfl ?_
      refine F_iconst X23 at_134 (z := (1 : Int32)) (by decide) (pc' := 135) rfl ?_
      refine F_icmp_le X23 at_135 (by decide) (pt := 145) (by decide) (pc' := 138) rfl (fun _ => ?_) (fun q => absurd q (by decide))
      refine F_lload X23 at_145 rfl (pc' := 147) rfl ?_
      refine F_lstore X23 at_147 (Ls' := #[.val (.long u1), .second, .val (.long u2), .second, .val (.long u3), .second, .val (.long u4), .second, .val (.long u5), .second, .val (.int u6), .val (.int (2 : Int32)), .val (.int (1 : Int32)), .val (.int (2 : Int32)), .val (.ref b18), .val (.ref b20), .val (.long (u3 ||| u1)), .second, .val (.long u4), .second, .unset, .unset, .unset]) rfl (pc' := 149) rfl ?_
      refine F_lload X23 at_149 rfl (pc' := 151) rfl ?_
      refine F_lstore X23 at_151 (Ls' := #[.val (.long u1), .second, .val (.long u2), .second, .val (.long u3), .second, .val (.long u4), .second, .val (.long u5), .second, .val (.int u6), .val (.int (2 : Int32)), .val (.int (1 : Int32)), .val (.int (2 : Int32)), .val (.ref b18), .val (.ref b20), .val (.long (u3 ||| u1)), .second, .val (.long u4), .second, .val (.long u5), .second, .unset]) rfl (pc' := 153) rfl ?_
      refine F_aload X23 at_153 rfl rfl (pc' := 155) rfl ?_
      refine F_arraylength X23 A23_b20 (z := (2 : Int32)) rfl at_155 (pc' := 156) rfl ?_
      refine F_iload X23 at_156 rfl (pc' := 158) rfl ?_
      refine F_icmp_ne X23 at_158 (by decide) (pt := 165) (by decide) (pc' := 161) rfl (fun q => absurd q (by decide)) (fun _ => ?_)
      refine F_iconst X23 at_161 (z := (1 : Int32)) (by decide) (pc' := 162) rfl ?_
      refine F_goto X23 at_162 (by decide) (pc' := 166) (by decide) ?_
      refine F_istore X23 at_166 (Ls' := #[.val (.long u1), .second, .val (.long u2), .second, .val (.long u3), .second, .val (.long u4), .second, .val (.long u5), .second, .val (.int u6), .val (.int (2 : Int32)), .val (.int (1 : Int32)), .val (.int (2 : Int32)), .val (.ref b18), .val (.ref b20), .val (.long (u3 ||| u1)), .second, .val (.long u4), .second, .val (.long u5), .second, .val (.int (1 : Int32))]) rfl (pc' := 168) rfl ?_
      refine F_iload X23 at_168 rfl (pc' := 170) rfl ?_
      refine F_if_eq X23 at_170 (by decide) (pt := 192) (by decide) (pc' := 173) rfl (fun q => absurd q (by decide)) (fun _ => ?_)
      refine F_iload X23 at_173 rfl (pc' := 175) rfl ?_
      refine F_if_le X23 at_175 (by decide) (pt := 188) (by decide) (pc' := 178) rfl (fun q => absurd q (by decide)) (fun _ => ?_)
      refine F_aload X23 at_178 rfl rfl (pc' := 180) rfl ?_
      refine F_iconst X23 at_180 (z := (0 : Int32)) (by decide) (pc' := 181) rfl ?_
      refine F_laload X23 A23_b20 (by decide) rfl at_181 (pc' := 182) rfl ?_
      refine F_lload X23 at_182 rfl (pc' := 184) rfl ?_
      refine F_lcmp X23 at_184 (pc' := 185) rfl ?_
      refine F_lif_ne X23 at_185 (by decide) (pt := 192) (by decide) (pc' := 188) rfl (fun q => absurd rfl q) (fun _ => ?_)
      refine F_iconst X23 at_188 (z := (1 : Int32)) (by decide) (pc' := 189) rfl ?_
      refine F_goto X23 at_189 (by decide) (pc' := 193) (by decide) ?_
      refine F_istore X23 at_193 (Ls' := #[.val (.long u1), .second, .val (.long u2), .second, .val (.long u3), .second, .val (.long u4), .second, .val (.long u5), .second, .val (.int u6), .val (.int (2 : Int32)), .val (.int (1 : Int32)), .val (.int (2 : Int32)), .val (.ref b18), .val (.ref b20), .val (.long (u3 ||| u1)), .second, .val (.long u4), .second, .val (.long u5), .second, .val (.int (1 : Int32))]) rfl (pc' := 195) rfl ?_
      refine F_iload X23 at_195 rfl (pc' := 197) rfl ?_
      refine F_if_eq X23 at_197 (by decide) (pt := 220) (by decide) (pc' := 200) rfl (fun q => absurd q (by decide)) (fun _ => ?_)
      refine F_iload X23 at_200 rfl (pc' := 202) rfl ?_
      refine F_iconst X23 at_202 (z := (1 : Int32)) (by decide) (pc' := 203) rfl ?_
      refine F_icmp_le X23 at_203 (by decide) (pt := 216) (by decide) (pc' := 206) rfl (fun q => absurd q (by decide)) (fun _ => ?_)
      refine F_aload X23 at_206 rfl rfl (pc' := 208) rfl ?_
      refine F_iconst X23 at_208 (z := (1 : Int32)) (by decide) (pc' := 209) rfl ?_
      refine F_laload X23 A23_b20 (by decide) rfl at_209 (pc' := 210) rfl ?_
      refine F_lload X23 at_210 rfl (pc' := 212) rfl ?_
      refine F_lcmp X23 at_212 (pc' := 213) rfl ?_
      refine F_lif_ne X23 at_213 (by decide) (pt := 220) (by decide) (pc' := 216) rfl (fun q => absurd rfl q) (fun _ => ?_)
      refine F_iconst X23 at_216 (z := (1 : Int32)) (by decide) (pc' := 217) rfl ?_
      refine F_goto X23 at_217 (by decide) (pc' := 221) (by decide) ?_
      refine F_istore X23 at_221 (Ls' := #[.val (.long u1), .second, .val (.long u2), .second, .val (.long u3), .second, .val (.long u4), .second, .val (.long u5), .second, .val (.int u6), .val (.int (2 : Int32)), .val (.int (1 : Int32)), .val (.int (2 : Int32)), .val (.ref b18), .val (.ref b20), .val (.long (u3 ||| u1)), .second, .val (.long u4), .second, .val (.long u5), .second, .val (.int (1 : Int32))]) rfl (pc' := 223) rfl ?_
      refine F_iload X23 at_223 rfl (pc' := 225) rfl ?_
      refine F_if_eq X23 at_225 (by decide) (pt := 248) (by decide) (pc' := 228) rfl (fun q => absurd q (by decide)) (fun _ => ?_)
      refine F_iload X23 at_228 rfl (pc' := 230) rfl ?_
      refine F_iconst X23 at_230 (z := (2 : Int32)) (by decide) (pc' := 231) rfl ?_
      refine F_icmp_le X23 at_231 (by decide) (pt := 244) (by decide) (pc' := 234) rfl (fun _ => ?_) (fun q => absurd q (by decide))
      refine F_iconst X23 at_244 (z := (1 : Int32)) (by decide) (pc' := 245) rfl ?_
      refine F_goto X23 at_245 (by decide) (pc' := 249) (by decide) ?_
      refine F_istore X23 at_249 (Ls' := #[.val (.long u1), .second, .val (.long u2), .second, .val (.long u3), .second, .val (.long u4), .second, .val (.long u5), .second, .val (.int u6), .val (.int (2 : Int32)), .val (.int (1 : Int32)), .val (.int (2 : Int32)), .val (.ref b18), .val (.ref b20), .val (.long (u3 ||| u1)), .second, .val (.long u4), .second, .val (.long u5), .second, .val (.int (1 : Int32))]) rfl (pc' := 251) rfl ?_
      refine F_iload X23 at_251 rfl (pc' := 253) rfl ?_
      refine F_if_ne X23 at_253 (by decide) (pt := 276) (by decide) (pc' := 256) rfl (fun _ => ?_) (fun q => absurd q (by decide))
      refine F_iload X23 at_276 rfl (pc' := 278) rfl ?_
      refine F_if_eq X23 at_278 (by decide) (pt := 298) (by decide) (pc' := 281) rfl (fun q => absurd q (by decide)) (fun _ => ?_)
      refine F_aload X23 at_281 rfl rfl (pc' := 283) rfl ?_
      refine F_ifnull_ref X23 at_283 (pc' := 286) rfl ?_
      refine F_aload X23 at_286 rfl rfl (pc' := 288) rfl ?_
      refine F_arraylength X23 A23k_b18 (z := (1 : Int32)) rfl at_288 (pc' := 289) rfl ?_
      refine F_iload X23 at_289 rfl (pc' := 291) rfl ?_
      refine F_icmp_ne X23 at_291 (by decide) (pt := 298) (by decide) (pc' := 294) rfl (fun q => absurd q (by decide)) (fun _ => ?_)
      refine F_iconst X23 at_294 (z := (1 : Int32)) (by decide) (pc' := 295) rfl ?_
      refine F_goto X23 at_295 (by decide) (pc' := 299) (by decide) ?_
      refine F_istore X23 at_299 (Ls' := #[.val (.long u1), .second, .val (.long u2), .second, .val (.long u3), .second, .val (.long u4), .second, .val (.long u5), .second, .val (.int u6), .val (.int (2 : Int32)), .val (.int (1 : Int32)), .val (.int (2 : Int32)), .val (.ref b18), .val (.ref b20), .val (.long (u3 ||| u1)), .second, .val (.long u4), .second, .val (.long u5), .second, .val (.int (1 : Int32))]) rfl (pc' := 301) rfl ?_
      refine F_iload X23 at_301 rfl (pc' := 303) rfl ?_
      refine F_if_eq X23 at_303 (by decide) (pt := 324) (by decide) (pc' := 306) rfl (fun q => absurd q (by decide)) (fun _ => ?_)
      refine F_iload X23 at_306 rfl (pc' := 308) rfl ?_
      refine F_if_le X23 at_308 (by decide) (pt := 320) (by decide) (pc' := 311) rfl (fun q => absurd q (by decide)) (fun _ => ?_)
      refine F_aload X23 at_311 rfl rfl (pc' := 313) rfl ?_
      refine F_iconst X23 at_313 (z := (0 : Int32)) (by decide) (pc' := 314) rfl ?_
      refine F_laload X23 A23k_b18 (by decide) rfl at_314 (pc' := 315) rfl ?_
      refine F_lloadN X23 at_315 rfl (pc' := 316) rfl ?_
      refine F_lcmp X23 at_316 (pc' := 317) rfl ?_
      refine F_lif_ne X23 at_317 (by decide) (pt := 324) (by decide) (pc' := 320) rfl (fun q => absurd rfl q) (fun _ => ?_)
      refine F_iconst X23 at_320 (z := (1 : Int32)) (by decide) (pc' := 321) rfl ?_
      refine F_goto X23 at_321 (by decide) (pc' := 325) (by decide) ?_
      refine F_istore X23 at_325 (Ls' := #[.val (.long u1), .second, .val (.long u2), .second, .val (.long u3), .second, .val (.long u4), .second, .val (.long u5), .second, .val (.int u6), .val (.int (2 : Int32)), .val (.int (1 : Int32)), .val (.int (2 : Int32)), .val (.ref b18), .val (.ref b20), .val (.long (u3 ||| u1)), .second, .val (.long u4), .second, .val (.long u5), .second, .val (.int (1 : Int32))]) rfl (pc' := 327) rfl ?_
      refine F_iload X23 at_327 rfl (pc' := 329) rfl ?_
      refine F_if_eq X23 at_329 (by decide) (pt := 351) (by decide) (pc' := 332) rfl (fun q => absurd q (by decide)) (fun _ => ?_)
      refine F_iload X23 at_332 rfl (pc' := 334) rfl ?_
      refine F_iconst X23 at_334 (z := (1 : Int32)) (by decide) (pc' := 335) rfl ?_
      refine F_icmp_le X23 at_335 (by decide) (pt := 347) (by decide) (pc' := 338) rfl (fun _ => ?_) (fun q => absurd q (by decide))
      refine F_iconst X23 at_347 (z := (1 : Int32)) (by decide) (pc' := 348) rfl ?_
      refine F_goto X23 at_348 (by decide) (pc' := 352) (by decide) ?_
      refine F_istore X23 at_352 (Ls' := #[.val (.long u1), .second, .val (.long u2), .second, .val (.long u3), .second, .val (.long u4), .second, .val (.long u5), .second, .val (.int u6), .val (.int (2 : Int32)), .val (.int (1 : Int32)), .val (.int (2 : Int32)), .val (.ref b18), .val (.ref b20), .val (.long (u3 ||| u1)), .second, .val (.long u4), .second, .val (.long u5), .second, .val (.int (1 : Int32))]) rfl (pc' := 354) rfl ?_
      refine F_iload X23 at_354 rfl (pc' := 356) rfl ?_
      refine F_ireturn_boolean (z' := (1 : Int32)) X23 (by decide) at_356 rfl (by decide) (by decide) ?_
      exact rfl
  · refine F_iload X0 at_6 rfl (pc' := 8) rfl ?_
    refine F_if_ne X0 at_8 (by decide) (pt := 15) (by decide) (pc' := 11) rfl (fun _ => ?_) (fun q => absurd q (by decide))
    refine F_iload X0 at_15 rfl (pc' := 17) rfl ?_
    refine F_iconst X0 at_17 (z := (1 : Int32)) (by decide) (pc' := 18) rfl ?_
    refine F_isub X0 at_18 (z := (2 : Int32)) (by decide) (pc' := 19) rfl ?_
    refine F_istore X0 at_19 (Ls' := #[.val (.long u1), .second, .val (.long u2), .second, .val (.long u3), .second, .val (.long u4), .second, .val (.long u5), .second, .val (.int u6), .val (.int (3 : Int32)), .val (.int (2 : Int32)), .unset, .unset, .unset, .unset, .unset, .unset, .unset, .unset, .unset, .unset]) rfl (pc' := 21) rfl ?_
    refine F_iload X0 at_21 rfl (pc' := 23) rfl ?_
    refine F_iload X0 at_23 rfl (pc' := 25) rfl ?_
    refine F_iconst X0 at_25 (z := (2 : Int32)) (by decide) (pc' := 26) rfl ?_
    refine F_iushr X0 at_26 rfl (pc' := 27) rfl ?_
    refine F_iconst X0 at_27 (z := (1 : Int32)) (by decide) (pc' := 28) rfl ?_
    obtain ⟨e1, he1⟩ : ∃ z : Int32, ((u6.toUInt32 >>> ((2 : Int32) &&& 31).toUInt32).toInt32) &&& (1 : Int32) = z := ⟨_, rfl⟩
    refine F_iand X0 at_28 (z := e1) he1 (pc' := 29) rfl ?_
    rcases (own_m1 he1) with rfl | rfl
    · refine F_iadd X0 at_29 (z := (2 : Int32)) (by decide) (pc' := 30) rfl ?_
      refine F_istore X0 at_30 (Ls' := #[.val (.long u1), .second, .val (.long u2), .second, .val (.long u3), .second, .val (.long u4), .second, .val (.long u5), .second, .val (.int u6), .val (.int (3 : Int32)), .val (.int (2 : Int32)), .val (.int (2 : Int32)), .unset, .unset, .unset, .unset, .unset, .unset, .unset, .unset, .unset]) rfl (pc' := 32) rfl ?_
      refine F_iload X0 at_32 rfl (pc' := 34) rfl ?_
      refine F_if_ne X0 at_34 (by decide) (pt := 41) (by decide) (pc' := 37) rfl (fun _ => ?_) (fun q => absurd q (by decide))
      refine F_iload X0 at_41 rfl (pc' := 43) rfl ?_
      refine F_newarray X0 (aty := .long) (wd0 hw) (by decide) (cap := 2) (by decide) (by decide) (by decide) (by decide) (ad := "[J") rfl at_43 (pc' := 45) rfl fun T24 h24 b24 X24 Ex24 g24 ge24 E_b24 A24 => ?_
      replace A24 : AV Z h24 b24 .long [(.long (0 : Int64)), (.long (0 : Int64))] := A24
      replace X24 := X24.more (cells' := 1) (slots' := 2) (by decide) (by decide)
      refine F_astore X24 at_45 rfl (Ls' := #[.val (.long u1), .second, .val (.long u2), .second, .val (.long u3), .second, .val (.long u4), .second, .val (.long u5), .second, .val (.int u6), .val (.int (3 : Int32)), .val (.int (2 : Int32)), .val (.int (2 : Int32)), .val (.ref b24), .unset, .unset, .unset, .unset, .unset, .unset, .unset, .unset]) rfl (pc' := 47) rfl ?_
      refine F_iload X24 at_47 rfl (pc' := 49) rfl ?_
      refine F_if_le X24 at_49 (by decide) (pt := 57) (by decide) (pc' := 52) rfl (fun q => absurd q (by decide)) (fun _ => ?_)
      refine F_aload X24 at_52 rfl rfl (pc' := 54) rfl ?_
      refine F_iconst X24 at_54 (z := (0 : Int32)) (by decide) (pc' := 55) rfl ?_
      refine F_lloadN X24 at_55 rfl (pc' := 56) rfl ?_
      refine F_lastore X24 A24 (by decide) (i := 0) (by decide) (Nat.le_of_ble_eq_true rfl) ge24 at_56 (pc' := 57) rfl fun T25 h25 X25 W25 A25 => ?_
      replace A25 : AV Z h25 b24 .long [(.long u1), (.long (0 : Int64))] := A25
      have E25_b24 := E_b24.wr W25
      refine F_iload X25 at_57 rfl (pc' := 59) rfl ?_
      refine F_iconst X25 at_59 (z := (1 : Int32)) (by decide) (pc' := 60) rfl ?_
      refine F_icmp_le X25 at_60 (by decide) (pt := 68) (by decide) (pc' := 63) rfl (fun q => absurd q (by decide)) (fun _ => ?_)
      refine F_aload X25 at_63 rfl rfl (pc' := 65) rfl ?_
      refine F_iconst X25 at_65 (z := (1 : Int32)) (by decide) (pc' := 66) rfl ?_
      refine F_lloadN X25 at_66 rfl (pc' := 67) rfl ?_
      refine F_lastore X25 A25 (by decide) (i := 1) (by decide) (Nat.le_of_ble_eq_true rfl) ge24 at_67 (pc' := 68) rfl fun T26 h26 X26 W26 A26 => ?_
      replace A26 : AV Z h26 b24 .long [(.long u1), (.long u2)] := A26
      have E26_b24 := E25_b24.wr W26
      refine F_iload X26 at_68 rfl (pc' := 70) rfl ?_
      refine F_newarray X26 (aty := .long) (wd0 hw) (by decide) (cap := 2) (by decide) (by decide) (by decide) (by decide) (ad := "[J") rfl at_70 (pc' := 72) rfl fun T27 h27 b27 X27 Ex27 g27 ge27 E_b27 A27 => ?_
      replace A27 : AV Z h27 b27 .long [(.long (0 : Int64)), (.long (0 : Int64))] := A27
      have ne_b24_b27 : b24 ≠ b27 := Nat.ne_of_lt (Nat.lt_of_lt_of_le E26_b24.lt (Nat.le_of_eq g27.symm))
      have E27_b24 := E26_b24.ext Ex27
      have A27_b24 := A26.ext Ex27
      replace X27 := X27.more (cells' := 2) (slots' := 4) (by decide) (by decide)
      refine F_astore X27 at_72 rfl (Ls' := #[.val (.long u1), .second, .val (.long u2), .second, .val (.long u3), .second, .val (.long u4), .second, .val (.long u5), .second, .val (.int u6), .val (.int (3 : Int32)), .val (.int (2 : Int32)), .val (.int (2 : Int32)), .val (.ref b24), .val (.ref b27), .unset, .unset, .unset, .unset, .unset, .unset, .unset]) rfl (pc' := 74) rfl ?_
      refine F_iload X27 at_74 rfl (pc' := 76) rfl ?_
      refine F_if_le X27 at_76 (by decide) (pt := 85) (by decide) (pc' := 79) rfl (fun q => absurd q (by decide)) (fun _ => ?_)
      refine F_aload X27 at_79 rfl rfl (pc' := 81) rfl ?_
      refine F_iconst X27 at_81 (z := (0 : Int32)) (by decide) (pc' := 82) rfl ?_
      refine F_lload X27 at_82 rfl (pc' := 84) rfl ?_
      refine F_lastore X27 A27 (by decide) (i := 0) (by decide) (Nat.le_of_ble_eq_true rfl) ge27 at_84 (pc' := 85) rfl fun T28 h28 X28 W28 A28 => ?_
      replace A28 : AV Z h28 b27 .long [(.long u3), (.long (0 : Int64))] := A28
      have E28_b24 := E27_b24.wr W28
      have E28_b27 := E_b27.wr W28
      have A28_b24 := A27_b24.other W28 ne_b24_b27
      refine F_iload X28 at_85 rfl (pc' := 87) rfl ?_
      refine F_iconst X28 at_87 (z := (1 : Int32)) (by decide) (pc' := 88) rfl ?_
      refine F_icmp_le X28 at_88 (by decide) (pt := 97) (by decide) (pc' := 91) rfl (fun q => absurd q (by decide)) (fun _ => ?_)
      refine F_aload X28 at_91 rfl rfl (pc' := 93) rfl ?_
      refine F_iconst X28 at_93 (z := (1 : Int32)) (by decide) (pc' := 94) rfl ?_
      refine F_lload X28 at_94 rfl (pc' := 96) rfl ?_
      refine F_lastore X28 A28 (by decide) (i := 1) (by decide) (Nat.le_of_ble_eq_true rfl) ge27 at_96 (pc' := 97) rfl fun T29 h29 X29 W29 A29 => ?_
      replace A29 : AV Z h29 b27 .long [(.long u3), (.long u4)] := A29
      have E29_b24 := E28_b24.wr W29
      have E29_b27 := E28_b27.wr W29
      have A29_b24 := A28_b24.other W29 ne_b24_b27
      refine F_iload X29 at_97 rfl (pc' := 99) rfl ?_
      refine F_iconst X29 at_99 (z := (2 : Int32)) (by decide) (pc' := 100) rfl ?_
      refine F_icmp_le X29 at_100 (by decide) (pt := 109) (by decide) (pc' := 103) rfl (fun _ => ?_) (fun q => absurd q (by decide))
      refine F_aload X29 at_109 rfl rfl (pc' := 111) rfl ?_
      refine F_aload X29 at_111 rfl rfl (pc' := 113) rfl ?_
      refine F_callS X29 (y := (⟨"com/example/entailment/entailment/Bits", "add", "([J[J)V"⟩ : MethodName)) (stk := []) (wd1 hw) (wd2 hw) (wd3 hw) (wd4 hw) (by decide) (argsL := [(.ref b24), (.ref b27)]) (conA2_2 l Z a0 hw n0 h29 X29.size b24 b27 u1 u2 u3 u4 A29_b24 A29 ge27 ne_b24_b27) (by decide) (W := 0) (Nat.le_of_ble_eq_true rfl) (by decide) (by decide) (by decide) rfl (lenOf pd0 rfl) rfl at_113 (pc' := 116) rfl fun T30 v30 h30 X30 q30 => ?_
      obtain ⟨rfl, Kp30, A30_b27⟩ := q30
      have E30k_b24 := E29_b24.keep Kp30
      have E30k_b27 := E29_b27.keep Kp30
      have A30k_b24 := A29_b24.keep Kp30 (ninS ne_b24_b27 nin0)
      replace X30 := X30.more (cells' := 2) (slots' := 4) (by decide) (by decide)
      show Jvm.OwnKit.Ends p e below s n0 16 128 _ T30 (mkF m 116 #[.val (.long u1), .second, .val (.long u2), .second, .val (.long u3), .second, .val (.long u4), .second, .val (.long u5), .second, .val (.int u6), .val (.int (3 : Int32)), .val (.int (2 : Int32)), .val (.int (2 : Int32)), .val (.ref b24), .val (.ref b27), .unset, .unset, .unset, .unset, .unset, .unset, .unset] [])
      refine F_iload X30 at_116 rfl (pc' := 118) rfl ?_
      refine F_if_le X30 at_118 (by decide) (pt := 128) (by decide) (pc' := 121) rfl (fun q => absurd q (by decide)) (fun _ => ?_)
      refine F_lload X30 at_121 rfl (pc' := 123) rfl ?_
      refine F_lloadN X30 at_123 rfl (pc' := 124) rfl ?_
      refine F_lor X30 at_124 rfl (pc' := 125) rfl ?_
      refine F_goto X30 at_125 (by decide) (pc' := 130) (by decide) ?_
      refine F_lstore X30 at_130 (Ls' := #[.val (.long u1), .second, .val (.long u2), .second, .val (.long u3), .second, .val (.long u4), .second, .val (.long u5), .second, .val (.int u6), .val (.int (3 : Int32)), .val (.int (2 : Int32)), .val (.int (2 : Int32)), .val (.ref b24), .val (.ref b27), .val (.long (u3 ||| u1)), .second, .unset, .unset, .unset, .unset, .unset]) rfl (pc' := 132) rfl ?_
      refine F_iload X30 at_132 rfl (pc' := 134) rfl ?_
      refine F_iconst X30 at_134 (z := (1 : Int32)) (by decide) (pc' := 135) rfl ?_
      refine F_icmp_le X30 at_135 (by decide) (pt := 145) (by decide) (pc' := 138) rfl (fun q => absurd q (by decide)) (fun _ => ?_)
      refine F_lload X30 at_138 rfl (pc' := 140) rfl ?_
      refine F_lloadN X30 at_140 rfl (pc' := 141) rfl ?_
      refine F_lor X30 at_141 rfl (pc' := 142) rfl ?_
      refine F_goto X30 at_142 (by decide) (pc' := 147) (by decide) ?_
      refine F_lstore X30 at_147 (Ls' := #[.val (.long u1), .second, .val (.long u2), .second, .val (.long u3), .second, .val (.long u4), .second, .val (.long u5), .second, .val (.int u6), .val (.int (3 : Int32)), .val (.int (2 : Int32)), .val (.int (2 : Int32)), .val (.ref b24), .val (.ref b27), .val (.long (u3 ||| u1)), .second, .val (.long (u4 ||| u2)), .second, .unset, .unset, .unset]) rfl (pc' := 149) rfl ?_
      refine F_lload X30 at_149 rfl (pc' := 151) rfl ?_
      refine F_lstore X30 at_151 (Ls' := #[.val (.long u1), .second, .val (.long u2), .second, .val (.long u3), .second, .val (.long u4), .second, .val (.long u5), .second, .val (.int u6), .val (.int (3 : Int32)), .val (.int (2 : Int32)), .val (.int (2 : Int32)), .val (.ref b24), .val (.ref b27), .val (.long (u3 ||| u1)), .second, .val (.long (u4 ||| u2)), .second, .val (.long u5), .second, .unset]) rfl (pc' := 153) rfl ?_
      refine F_aload X30 at_153 rfl rfl (pc' := 155) rfl ?_
      refine F_arraylength X30 A30_b27 (z := (2 : Int32)) rfl at_155 (pc' := 156) rfl ?_
      refine F_iload X30 at_156 rfl (pc' := 158) rfl ?_
      refine F_icmp_ne X30 at_158 (by decide) (pt := 165) (by decide) (pc' := 161) rfl (fun q => absurd q (by decide)) (fun _ => ?_)
      refine F_iconst X30 at_161 (z := (1 : Int32)) (by decide) (pc' := 162) rfl ?_
      refine F_goto X30 at_162 (by decide) (pc' := 166) (by decide) ?_
      refine F_istore X30 at_166 (Ls' := #[.val (.long u1), .second, .val (.long u2), .second, .val (.long u3), .second, .val (.long u4), .second, .val (.long u5), .second, .val (.int u6), .val (.int (3 : Int32)), .val (.int (2 : Int32)), .val (.int (2 : Int32)), .val (.ref b24), .val (.ref b27), .val (.long (u3 ||| u1)), .second, .val (.long (u4 ||| u2)), .second, .val (.long u5), .second, .val (.int (1 : Int32))]) rfl (pc' := 168) rfl ?_
      refine F_iload X30 at_168 rfl (pc' := 170) rfl ?_
      refine F_if_eq X30 at_170 (by decide) (pt := 192) (by decide) (pc' := 173) rfl (fun q => absurd q (by decide)) (fun _ => ?_)
      refine F_iload X30 at_173 rfl (pc' := 175) rfl ?_
      refine F_if_le X30 at_175 (by decide) (pt := 188) (by decide) (pc' := 178) rfl (fun q => absurd q (by decide)) (fun _ => ?_)
      refine F_aload X30 at_178 rfl rfl (pc' := 180) rfl ?_
      refine F_iconst X30 at_180 (z := (0 : Int32)) (by decide) (pc' := 181) rfl ?_
      refine F_laload X30 A30_b27 (by decide) rfl at_181 (pc' := 182) rfl ?_
      refine F_lload X30 at_182 rfl (pc' := 184) rfl ?_
      refine F_lcmp X30 at_184 (pc' := 185) rfl ?_
      refine F_lif_ne X30 at_185 (by decide) (pt := 192) (by decide) (pc' := 188) rfl (fun q => absurd rfl q) (fun _ => ?_)
      refine F_iconst X30 at_188 (z := (1 : Int32)) (by decide) (pc' := 189) rfl ?_
      refine F_goto X30 at_189 (by decide) (pc' := 193) (by decide) ?_
      refine F_istore X30 at_193 (Ls' := #[.val (.long u1), .second, .val (.long u2), .second, .val (.long u3), .second, .val (.long u4), .second, .val (.long u5), .second, .val (.int u6), .val (.int (3 : Int32)), .val (.int (2 : Int32)), .val (.int (2 : Int32)), .val (.ref b24), .val (.ref b27), .val (.long (u3 ||| u1)), .second, .val (.long (u4 ||| u2)), .second, .val (.long u5), .second, .val (.int (1 : Int32))]) rfl (pc' := 195) rfl ?_
      refine F_iload X30 at_195 rfl (pc' := 197) rfl ?_
      refine F_if_eq X30 at_197 (by decide) (pt := 220) (by decide) (pc' := 200) rfl (fun q => absurd q (by decide)) (fun _ => ?_)
      refine F_iload X30 at_200 rfl (pc' := 202) rfl ?_
      refine F_iconst X30 at_202 (z := (1 : Int32)) (by decide) (pc' := 203) rfl ?_
      refine F_icmp_le X30 at_203 (by decide) (pt := 216) (by decide) (pc' := 206) rfl (fun q => absurd q (by decide)) (fun _ => ?_)
      refine F_aload X30 at_206 rfl rfl (pc' := 208) rfl ?_
      refine F_iconst X30 at_208 (z := (1 : Int32)) (by decide) (pc' := 209) rfl ?_
      refine F_laload X30 A30_b27 (by decide) rfl at_209 (pc' := 210) rfl ?_
      refine F_lload X30 at_210 rfl (pc' := 212) rfl ?_
      refine F_lcmp X30 at_212 (pc' := 213) rfl ?_
      refine F_lif_ne X30 at_213 (by decide) (pt := 220) (by decide) (pc' := 216) rfl (fun q => absurd rfl q) (fun _ => ?_)
      refine F_iconst X30 at_216 (z := (1 : Int32)) (by decide) (pc' := 217) rfl ?_
      refine F_goto X30 at_217 (by decide) (pc' := 221) (by decide) ?_
      refine F_istore X30 at_221 (Ls' := #[.val (.long u1), .second, .val (.long u2), .second, .val (.long u3), .second, .val (.long u4), .second, .val (.long u5), .second, .val (.int u6), .val (.int (3 : Int32)), .val (.int (2 : Int32)), .val (.int (2 : Int32)), .val (.ref b24), .val (.ref b27), .val (.long (u3 ||| u1)), .second, .val (.long (u4 ||| u2)), .second, .val (.long u5), .second, .val (.int (1 : Int32))]) rfl (pc' := 223) rfl ?_
      refine F_iload X30 at_223 rfl (pc' := 225) rfl ?_
      refine F_if_eq X30 at_225 (by decide) (pt := 248) (by decide) (pc' := 228) rfl (fun q => absurd q (by decide)) (fun _ => ?_)
      refine F_iload X30 at_228 rfl (pc' := 230) rfl ?_
      refine F_iconst X30 at_230 (z := (2 : Int32)) (by decide) (pc' := 231) rfl ?_
      refine F_icmp_le X30 at_231 (by decide) (pt := 244) (by decide) (pc' := 234) rfl (fun _ => ?_) (fun q => absurd q (by decide))
      refine F_iconst X30 at_244 (z := (1 : Int32)) (by decide) (pc' := 245) rfl ?_
      refine F_goto X30 at_245 (by decide) (pc' := 249) (by decide) ?_
      refine F_istore X30 at_249 (Ls' := #[.val (.long u1), .second, .val (.long u2), .second, .val (.long u3), .second, .val (.long u4), .second, .val (.long u5), .second, .val (.int u6), .val (.int (3 : Int32)), .val (.int (2 : Int32)), .val (.int (2 : Int32)), .val (.ref b24), .val (.ref b27), .val (.long (u3 ||| u1)), .second, .val (.long (u4 ||| u2)), .second, .val (.long u5), .second, .val (.int (1 : Int32))]) rfl (pc' := 251) rfl ?_
      refine F_iload X30 at_251 rfl (pc' := 253) rfl ?_
      refine F_if_ne X30 at_253 (by decide) (pt := 276) (by decide) (pc' := 256) rfl (fun _ => ?_) (fun q => absurd q (by decide))
      refine F_iload X30 at_276 rfl (pc' := 278) rfl ?_
      refine F_if_eq X30 at_278 (by decide) (pt := 298) (by decide) (pc' := 281) rfl (fun q => absurd q (by decide)) (fun _ => ?_)
      refine F_aload X30 at_281 rfl rfl (pc' := 283) rfl ?_
      refine F_ifnull_ref X30 at_283 (pc' := 286) rfl ?_
      refine F_aload X30 at_286 rfl rfl (pc' := 288) rfl ?_
      refine F_arraylength X30 A30k_b24 (z := (2 : Int32)) rfl at_288 (pc' := 289) rfl ?_
      refine F_iload X30 at_289 rfl (pc' := 291) rfl ?_
      refine F_icmp_ne X30 at_291 (by decide) (pt := 298) (by decide) (pc' := 294) rfl (fun q => absurd q (by decide)) (fun _ => ?_)
      refine F_iconst X30 at_294 (z := (1 : Int32)) (by decide) (pc' := 295) rfl ?_
      refine F_goto X30 at_295 (by decide) (pc' := 299) (by decide) ?_
      refine F_istore X30 at_299 (Ls' := #[.val (.long u1), .second, .val (.long u2), .second, .val (.long u3), .second, .val (.long u4), .second, .val (.long u5), .second, .val (.int u6), .val (.int (3 : Int32)), .val (.int (2 : Int32)), .val (.int (2 : Int32)), .val (.ref b24), .val (.ref b27), .val (.long (u3 ||| u1)), .second, .val (.long (u4 ||| u2)), .second, .val (.long u5), .second, .val (.int (1 : Int32))]) rfl (pc' := 301) rfl ?_
      refine F_iload X30 at_301 rfl (pc' := 303) rfl ?_
      refine F_if_eq X30 at_303 (by decide) (pt := 324) (by decide) (pc' := 306) rfl (fun q => absurd q (by decide)) (fun _ => ?_)
      refine F_iload X30 at_306 rfl (pc' := 308) rfl ?_
      refine F_if_le X30 at_308 (by decide) (pt := 320) (by decide) (pc' := 311) rfl (fun q => absurd q (by decide)) (fun _ => ?_)
      refine F_aload X30 at_311 rfl rfl (pc' := 313) rfl ?_
      refine F_iconst X30 at_313 (z := (0 : Int32)) (by decide) (pc' := 314) rfl ?_
      refine F_laload X30 A30k_b24 (by decide) rfl at_314 (pc' := 315) rfl ?_
      refine F_lloadN X30 at_315 rfl (pc' := 316) rfl ?_
      refine F_lcmp X30 at_316 (pc' := 317) rfl ?_
      refine F_lif_ne X30 at_317 (by decide) (pt := 324) (by decide) (pc' := 320) rfl (fun q => absurd rfl q) (fun _ => ?_)
      refine F_iconst X30 at_320 (z := (1 : Int32)) (by decide) (pc' := 321) rfl ?_
      refine F_goto X30 at_321 (by decide) (pc' := 325) (by decide) ?_
      refine F_istore X30 at_325 (Ls' := #[.val (.long u1), .second, .val (.long u2), .second, .val (.long u3), .second, .val (.long u4), .second, .val (.long u5), .second, .val (.int u6), .val (.int (3 : Int32)), .val (.int (2 : Int32)), .val (.int (2 : Int32)), .val (.ref b24), .val (.ref b27), .val (.long (u3 ||| u1)), .second, .val (.long (u4 ||| u2)), .second, .val (.long u5), .second, .val (.int (1 : Int32))]) rfl (pc' := 327) rfl ?_
      refine F_iload X30 at_327 rfl (pc' := 329) rfl ?_
      refine F_if_eq X30 at_329 (by decide) (pt := 351) (by decide) (pc' := 332) rfl (fun q => absurd q (by decide)) (fun _ => ?_)
      refine F_iload X30 at_332 rfl (pc' := 334) rfl ?_
      refine F_iconst X30 at_334 (z := (1 : Int32)) (by decide) (pc' := 335) rfl ?_
      refine F_icmp_le X30 at_335 (by decide) (pt := 347) (by decide) (pc' := 338) rfl (fun q => absurd q (by decide)) (fun _ => ?_)
      refine F_aload X30 at_338 rfl rfl (pc' := 340) rfl ?_
      refine F_iconst X30 at_340 (z := (1 : Int32)) (by decide) (pc' := 341) rfl ?_
      refine F_laload X30 A30k_b24 (by decide) rfl at_341 (pc' := 342) rfl ?_
      refine F_lloadN X30 at_342 rfl (pc' := 343) rfl ?_
      refine F_lcmp X30 at_343 (pc' := 344) rfl ?_
      refine F_lif_ne X30 at_344 (by decide) (pt := 351) (by decide) (pc' := 347) rfl (fun q => absurd rfl q) (fun _ => ?_)
      refine F_iconst X30 at_347 (z := (1 : Int32)) (by decide) (pc' := 348) rfl ?_
      refine F_goto X30 at_348 (by decide) (pc' := 352) (by decide) ?_
      refine F_istore X30 at_352 (Ls' := #[.val (.long u1), .second, .val (.long u2), .second, .val (.long u3), .second, .val (.long u4), .second, .val (.long u5), .second, .val (.int u6), .val (.int (3 : Int32)), .val (.int (2 : Int32)), .val (.int (2 : Int32)), .val (.ref b24), .val (.ref b27), .val (.long (u3 ||| u1)), .second, .val (.long (u4 ||| u2)), .second, .val (.long u5), .second, .val (.int (1 : Int32))]) rfl (pc' := 354) rfl ?_
      refine F_iload X30 at_354 rfl (pc' := 356) rfl ?_
      refine F_ireturn_boolean (z' := (1 : Int32)) X30 (by decide) at_356 rfl (by decide) (by decide) ?_
      exact rfl
    · refine F_iadd X0 at_29 (z := (3 : Int32)) (by decide) (pc' := 30) rfl ?_
      refine F_istore X0 at_30 (Ls' := #[.val (.long u1), .second, .val (.long u2), .second, .val (.long u3), .second, .val (.long u4), .second, .val (.long u5), .second, .val (.int u6), .val (.int (3 : Int32)), .val (.int (2 : Int32)), .val (.int (3 : Int32)), .unset, .unset, .unset, .unset, .unset, .unset, .unset, .unset, .unset]) rfl (pc' := 32) rfl ?_
      refine F_iload X0 at_32 rfl (pc' := 34) rfl ?_
      refine F_if_ne X0 at_34 (by decide) (pt := 41) (by decide) (pc' := 37) rfl (fun _ => ?_) (fun q => absurd q (by decide))
      refine F_iload X0 at_41 rfl (pc' := 43) rfl ?_
      refine F_newarray X0 (aty := .long) (wd0 hw) (by decide) (cap := 2) (by decide) (by decide) (by decide) (by decide) (ad := "[J") rfl at_43 (pc' := 45) rfl fun T31 h31 b31 X31 Ex31 g31 ge31 E_b31 A31 => ?_
      replace A31 : AV Z h31 b31 .long [(.long (0 : Int64)), (.long (0 : Int64))] := A31
      replace X31 := X31.more (cells' := 1) (slots' := 2) (by decide) (by decide)
      refine F_astore X31 at_45 rfl (Ls' := #[.val (.long u1), .second, .val (.long u2), .second, .val (.long u3), .second, .val (.long u4), .second, .val (.long u5), .second, .val (.int u6), .val (.int (3 : Int32)), .val (.int (2 : Int32)), .val (.int (3 : Int32)), .val (.ref b31), .unset, .unset, .unset, .unset, .unset, .unset, .unset, .unset]) rfl (pc' := 47) rfl ?_
      refine F_iload X31 at_47 rfl (pc' := 49) rfl ?_
      refine F_if_le X31 at_49 (by decide) (pt := 57) (by decide) (pc' := 52) rfl (fun q => absurd q (by decide)) (fun _ => ?_)
      refine F_aload X31 at_52 rfl rfl (pc' := 54) rfl ?_
      refine F_iconst X31 at_54 (z := (0 : Int32)) (by decide) (pc' := 55) rfl ?_
      refine F_lloadN X31 at_55 rfl (pc' := 56) rfl ?_
      refine F_lastore X31 A31 (by decide) (i := 0) (by decide) (Nat.le_of_ble_eq_true rfl) ge31 at_56 (pc' := 57) rfl fun T32 h32 X32 W32 A32 => ?_
      replace A32 : AV Z h32 b31 .long [(.long u1), (.long (0 : Int64))] := A32
      have E32_b31 := E_b31.wr W32
      refine F_iload X32 at_57 rfl (pc' := 59) rfl ?_
      refine F_iconst X32 at_59 (z := (1 : Int32)) (by decide) (pc' := 60) rfl ?_
      refine F_icmp_le X32 at_60 (by decide) (pt := 68) (by decide) (pc' := 63) rfl (fun q => absurd q (by decide)) (fun _ => ?_)
      refine F_aload X32 at_63 rfl rfl (pc' := 65) rfl ?_
      refine F_iconst X32 at_65 (z := (1 : Int32)) (by decide) (pc' := 66) rfl ?_
      refine F_lloadN X32 at_66 rfl (pc' := 67) rfl ?_
      refine F_lastore X32 A32 (by decide) (i := 1) (by decide) (Nat.le_of_ble_eq_true rfl) ge31 at_67 (pc' := 68) rfl fun T33 h33 X33 W33 A33 => ?_
      replace A33 : AV Z h33 b31 .long [(.long u1), (.long u2)] := A33
      have E33_b31 := E32_b31.wr W33
      refine F_iload X33 at_68 rfl (pc' := 70) rfl ?_
      refine F_newarray X33 (aty := .long) (wd0 hw) (by decide) (cap := 3) (by decide) (by decide) (by decide) (by decide) (ad := "[J") rfl at_70 (pc' := 72) rfl fun T34 h34 b34 X34 Ex34 g34 ge34 E_b34 A34 => ?_
      replace A34 : AV Z h34 b34 .long [(.long (0 : Int64)), (.long (0 : Int64)), (.long (0 : Int64))] := A34
      have ne_b31_b34 : b31 ≠ b34 := Nat.ne_of_lt (Nat.lt_of_lt_of_le E33_b31.lt (Nat.le_of_eq g34.symm))
      have E34_b31 := E33_b31.ext Ex34
      have A34_b31 := A33.ext Ex34
      replace X34 := X34.more (cells' := 2) (slots' := 5) (by decide) (by decide)
      refine F_astore X34 at_72 rfl (Ls' := #[.val (.long u1), .second, .val (.long u2), .second, .val (.long u3), .second, .val (.long u4), .second, .val (.long u5), .second, .val (.int u6), .val (.int (3 : Int32)), .val (.int (2 : Int32)), .val (.int (3 : Int32)), .val (.ref b31), .val (.ref b34), .unset, .unset, .unset, .unset, .unset, .unset, .unset]) rfl (pc' := 74) rfl ?_
      refine F_iload X34 at_74 rfl (pc' := 76) rfl ?_
      refine F_if_le X34 at_76 (by decide) (pt := 85) (by decide) (pc' := 79) rfl (fun q => absurd q (by decide)) (fun _ => ?_)
      refine F_aload X34 at_79 rfl rfl (pc' := 81) rfl ?_
      refine F_iconst X34 at_81 (z := (0 : Int32)) (by decide) (pc' := 82) rfl ?_
      refine F_lload X34 at_82 rfl (pc' := 84) rfl ?_
      refine F_lastore X34 A34 (by decide) (i := 0) (by decide) (Nat.le_of_ble_eq_true rfl) ge34 at_84 (pc' := 85) rfl fun T35 h35 X35 W35 A35 => ?_
      replace A35 : AV Z h35 b34 .long [(.long u3), (.long (0 : Int64)), (.long (0 : Int64))] := A35
      have E35_b31 := E34_b31.wr W35
      have E35_b34 := E_b34.wr W35
      have A35_b31 := A34_b31.other W35 ne_b31_b34
      refine F_iload X35 at_85 rfl (pc' := 87) rfl ?_
      refine F_iconst X35 at_87 (z := (1 : Int32)) (by decide) (pc' := 88) rfl ?_
      refine F_icmp_le X35 at_88 (by decide) (pt := 97) (by decide) (pc' := 91) rfl (fun q => absurd q (by decide)) (fun _ => ?_)
      refine F_aload X35 at_91 rfl rfl (pc' := 93) rfl ?_
      refine F_iconst X35 at_93 (z := (1 : Int32)) (by decide) (pc' := 94) rfl ?_
      refine F_lload X35 at_94 rfl (pc' := 96) rfl ?_
      refine F_lastore X35 A35 (by decide) (i := 1) (by decide) (Nat.le_of_ble_eq_true rfl) ge34 at_96 (pc' := 97) rfl fun T36 h36 X36 W36 A36 => ?_
      replace A36 : AV Z h36 b34 .long [(.long u3), (.long u4), (.long (0 : Int64))] := A36
      have E36_b31 := E35_b31.wr W36
      have E36_b34 := E35_b34.wr W36
      have A36_b31 := A35_b31.other W36 ne_b31_b34
      refine F_iload X36 at_97 rfl (pc' := 99) rfl ?_
      refine F_iconst X36 at_99 (z := (2 : Int32)) (by decide) (pc' := 100) rfl ?_
      refine F_icmp_le X36 at_100 (by decide) (pt := 109) (by decide) (pc' := 103) rfl (fun q => absurd q (by decide)) (fun _ => ?_)
      refine F_aload X36 at_103 rfl rfl (pc' := 105) rfl ?_
      refine F_iconst X36 at_105 (z := (2 : Int32)) (by decide) (pc' := 106) rfl ?_
      refine F_lload X36 at_106 rfl (pc' := 108) rfl ?_
      refine F_lastore X36 A36 (by decide) (i := 2) (by decide) (Nat.le_of_ble_eq_true rfl) ge34 at_108 (pc' := 109) rfl fun T37 h37 X37 W37 A37 => ?_
      replace A37 : AV Z h37 b34 .long [(.long u3), (.long u4), (.long u5)] := A37
      have E37_b31 := E36_b31.wr W37
      have E37_b34 := E36_b34.wr W37
      have A37_b31 := A36_b31.other W37 ne_b31_b34
      refine F_aload X37 at_109 rfl rfl (pc' := 111) rfl ?_
      refine F_aload X37 at_111 rfl rfl (pc' := 113) rfl ?_
      refine F_callS X37 (y := (⟨"com/example/entailment/entailment/Bits", "add", "([J[J)V"⟩ : MethodName)) (stk := []) (wd1 hw) (wd2 hw) (wd3 hw) (wd4 hw) (by decide) (argsL := [(.ref b31), (.ref b34)]) (conA2_3 l Z a0 hw n0 h37 X37.size b31 b34 u1 u2 u3 u4 u5 A37_b31 A37 ge34 ne_b31_b34) (by decide) (W := 0) (Nat.le_of_ble_eq_true rfl) (by decide) (by decide) (by decide) rfl (lenOf pd0 rfl) rfl at_113 (pc' := 116) rfl fun T38 v38 h38 X38 q38 => ?_
      obtain ⟨rfl, Kp38, A38_b34⟩ := q38
      have E38k_b31 := E37_b31.keep Kp38
      have E38k_b34 := E37_b34.keep Kp38
      have A38k_b31 := A37_b31.keep Kp38 (ninS ne_b31_b34 nin0)
      replace X38 := X38.more (cells' := 2) (slots' := 5) (by decide) (by decide)
      show Jvm.OwnKit.Ends p e below s n0 16 128 _ T38 (mkF m 116 #[.val (.long u1), .second, .val (.long u2), .second, .val (.long u3), .second, .val (.long u4), .second, .val (.long u5), .second, .val (.int u6), .val (.int (3 : Int32)), .val (.int (2 : Int32)), .val (.int (3 : Int32)), .val (.ref b31), .val (.ref b34), .unset, .unset, .unset, .unset, .unset, .unset, .unset] [])
      refine F_iload X38 at_116 rfl (pc' := 118) rfl ?_
      refine F_if_le X38 at_118 (by decide) (pt := 128) (by decide) (pc' := 121) rfl (fun q => absurd q (by decide)) (fun _ => ?_)
      refine F_lload X38 at_121 rfl (pc' := 123) rfl ?_
      refine F_lloadN X38 at_123 rfl (pc' := 124) rfl ?_
      refine F_lor X38 at_124 rfl (pc' := 125) rfl ?_
      refine F_goto X38 at_125 (by decide) (pc' := 130) (by decide) ?_
      refine F_lstore X38 at_130 (Ls' := #[.val (.long u1), .second, .val (.long u2), .second, .val (.long u3), .second, .val (.long u4), .second, .val (.long u5), .second, .val (.int u6), .val (.int (3 : Int32)), .val (.int (2 : Int32)), .val (.int (3 : Int32)), .val (.ref b31), .val (.ref b34), .val (.long (u3 ||| u1)), .second, .unset, .unset, .unset, .unset, .unset]) rfl (pc' := 132) rfl ?_
      refine F_iload X38 at_132 rfl (pc' := 134) rfl ?_
      refine F_iconst X38 at_134 (z := (1 : Int32)) (by decide) (pc' := 135) rfl ?_
      refine F_icmp_le X38 at_135 (by decide) (pt := 145) (by decide) (pc' := 138) rfl (fun q => absurd q (by decide)) (fun _ => ?_)
      refine F_lload X38 at_138 rfl (pc' := 140) rfl ?_
      refine F_lloadN X38 at_140 rfl (pc' := 141) rfl ?_
      refine F_lor X38 at_141 rfl (pc' := 142) rfl ?_
      refine F_goto X38 at_142 (by decide) (pc' := 147) (by decide) ?_
      refine F_lstore X38 at_147 (Ls' := #[.val (.long u1), .second, .val (.long u2), .second, .val (.long u3), .second, .val (.long u4), .second, .val (.long u5), .second, .val (.int u6), .val (.int (3 : Int32)), .val (.int (2 : Int32)), .val (.int (3 : Int32)), .val (.ref b31), .val (.ref b34), .val (.long (u3 ||| u1)), .second, .val (.long (u4 ||| u2)), .second, .unset, .unset, .unset]) rfl (pc' := 149) rfl ?_
      refine F_lload X38 at_149 rfl (pc' := 151) rfl ?_
      refine F_lstore X38 at_151 (Ls' := #[.val (.long u1), .second, .val (.long u2), .second, .val (.long u3), .second, .val (.long u4), .second, .val (.long u5), .second, .val (.int u6), .val (.int (3 : Int32)), .val (.int (2 : Int32)), .val (.int (3 : Int32)), .val (.ref b31), .val (.ref b34), .val (.long (u3 ||| u1)), .second, .val (.long (u4 ||| u2)), .second, .val (.long u5), .second, .unset]) rfl (pc' := 153) rfl ?_
      refine F_aload X38 at_153 rfl rfl (pc' := 155) rfl ?_
      refine F_arraylength X38 A38_b34 (z := (3 : Int32)) rfl at_155 (pc' := 156) rfl ?_
      refine F_iload X38 at_156 rfl (pc' := 158) rfl ?_
      refine F_icmp_ne X38 at_158 (by decide) (pt := 165) (by decide) (pc' := 161) rfl (fun q => absurd q (by decide)) (fun _ => ?_)
      refine F_iconst X38 at_161 (z := (1 : Int32)) (by decide) (pc' := 162) rfl ?_
      refine F_goto X38 at_162 (by decide) (pc' := 166) (by decide) ?_
      refine F_istore X38 at_166 (Ls' := #[.val (.long u1), .second, .val (.long u2), .second, .val (.long u3), .second, .val (.long u4), .second, .val (.long u5), .second, .val (.int u6), .val (.int (3 : Int32)), .val (.int (2 : Int32)), .val (.int (3 : Int32)), .val (.ref b31), .val (.ref b34), .val (.long (u3 ||| u1)), .second, .val (.long (u4 ||| u2)), .second, .val (.long u5), .second, .val (.int (1 : Int32))]) rfl (pc' := 168) rfl ?_
      refine F_iload X38 at_168 rfl (pc' := 170) rfl ?_
      refine F_if_eq X38 at_170 (by decide) (pt := 192) (by decide) (pc' := 173) rfl (fun q => absurd q (by decide)) (fun _ => ?_)
      refine F_iload X38 at_173 rfl (pc' := 175) rfl ?_
      refine F_if_le X38 at_175 (by decide) (pt := 188) (by decide) (pc' := 178) rfl (fun q => absurd q (by decide)) (fun _ => ?_)
      refine F_aload X38 at_178 rfl rfl (pc' := 180) rfl ?_
      refine F_iconst X38 at_180 (z := (0 : Int32)) (by decide) (pc' := 181) rfl ?_
      refine F_laload X38 A38_b34 (by decide) rfl at_181 (pc' := 182) rfl ?_
      refine F_lload X38 at_182 rfl (pc' := 184) rfl ?_
      refine F_lcmp X38 at_184 (pc' := 185) rfl ?_
      refine F_lif_ne X38 at_185 (by decide) (pt := 192) (by decide) (pc' := 188) rfl (fun q => absurd rfl q) (fun _ => ?_)
      refine F_iconst X38 at_188 (z := (1 : Int32)) (by decide) (pc' := 189) rfl ?_
      refine F_goto X38 at_189 (by decide) (pc' := 193) (by decide) ?_
      refine F_istore X38 at_193 (Ls' := #[.val (.long u1), .second, .val (.long u2), .second, .val (.long u3), .second, .val (.long u4), .second, .val (.long u5), .second, .val (.int u6), .val (.int (3 : Int32)), .val (.int (2 : Int32)), .val (.int (3 : Int32)), .val (.ref b31), .val (.ref b34), .val (.long (u3 ||| u1)), .second, .val (.long (u4 ||| u2)), .second, .val (.long u5), .second, .val (.int (1 : Int32))]) rfl (pc' := 195) rfl ?_
      refine F_iload X38 at_195 rfl (pc' := 197) rfl ?_
      refine F_if_eq X38 at_197 (by decide) (pt := 220) (by decide) (pc' := 200) rfl (fun q => absurd q (by decide)) (fun _ => ?_)
      refine F_iload X38 at_200 rfl (pc' := 202) rfl ?_
      refine F_iconst X38 at_202 (z := (1 : Int32)) (by decide) (pc' := 203) rfl ?_
      refine F_icmp_le X38 at_203 (by decide) (pt := 216) (by decide) (pc' := 206) rfl (fun q => absurd q (by decide)) (fun _ => ?_)
      refine F_aload X38 at_206 rfl rfl (pc' := 208) rfl ?_
      refine F_iconst X38 at_208 (z := (1 : Int32)) (by decide) (pc' := 209) rfl ?_
      refine F_laload X38 A38_b34 (by decide) rfl at_209 (pc' := 210) rfl ?_
      refine F_lload X38 at_210 rfl (pc' := 212) rfl ?_
      refine F_lcmp X38 at_212 (pc' := 213) rfl ?_
      refine F_lif_ne X38 at_213 (by decide) (pt := 220) (by decide) (pc' := 216) rfl (fun q => absurd rfl q) (fun _ => ?_)
      refine F_iconst X38 at_216 (z := (1 : Int32)) (by decide) (pc' := 217) rfl ?_
      refine F_goto X38 at_217 (by decide) (pc' := 221) (by decide) ?_
      refine F_istore X38 at_221 (Ls' := #[.val (.long u1), .second, .val (.long u2), .second, .val (.long u3), .second, .val (.long u4), .second, .val (.long u5), .second, .val (.int u6), .val (.int (3 : Int32)), .val (.int (2 : Int32)), .val (.int (3 : Int32)), .val (.ref b31), .val (.ref b34), .val (.long (u3 ||| u1)), .second, .val (.long (u4 ||| u2)), .second, .val (.long u5), .second, .val (.int (1 : Int32))]) rfl (pc' := 223) rfl ?_
      refine F_iload X38 at_223 rfl (pc' := 225) rfl ?_
      refine F_if_eq X38 at_225 (by decide) (pt := 248) (by decide) (pc' := 228) rfl (fun q => absurd q (by decide)) (fun _ => ?_)
      refine F_iload X38 at_228 rfl (pc' := 230) rfl ?_
      refine F_iconst X38 at_230 (z := (2 : Int32)) (by decide) (pc' := 231) rfl ?_
      refine F_icmp_le X38 at_231 (by decide) (pt := 244) (by decide) (pc' := 234) rfl (fun q => absurd q (by decide)) (fun _ => ?_)
      refine F_aload X38 at_234 rfl rfl (pc' := 236) rfl ?_
      refine F_iconst X38 at_236 (z := (2 : Int32)) (by decide) (pc' := 237) rfl ?_
      refine F_laload X38 A38_b34 (by decide) rfl at_237 (pc' := 238) rfl ?_
      refine F_lload X38 at_238 rfl (pc' := 240) rfl ?_
      refine F_lcmp X38 at_240 (pc' := 241) rfl ?_
      refine F_lif_ne X38 at_241 (by decide) (pt := 248) (by decide) (pc' := 244) rfl (fun q => absurd rfl q) (fun _ => ?_)
      refine F_iconst X38 at_244 (z := (1 : Int32)) (by decide) (pc' := 245) rfl ?_
      refine F_goto X38 at_245 (by decide) (pc' := 249) (by decide) ?_
      refine F_istore X38 at_249 (Ls' := #[.val (.long u1), .second, .val (.long u2), .second, .val (.long u3), .second, .val (.long u4), .second, .val (.long u5), .second, .val (.int u6), .val (.int (3 : Int32)), .val (.int (2 : Int32)), .val (.int (3 : Int32)), .val (.ref b31), .val (.ref b34), .val (.long (u3 ||| u1)), .second, .val (.long (u4 ||| u2)), .second, .val (.long u5), .second, .val (.int (1 : Int32))]) rfl (pc' := 251) rfl ?_
      refine F_iload X38 at_251 rfl (pc' := 253) rfl ?_
      refine F_if_ne X38 at_253 (by decide) (pt := 276) (by decide) (pc' := 256) rfl (fun _ => ?_) (fun q => absurd q (by decide))
      refine F_iload X38 at_276 rfl (pc' := 278) rfl ?_
      refine F_if_eq X38 at_278 (by decide) (pt := 298) (by decide) (pc' := 281) rfl (fun q => absurd q (by decide)) (fun _ => ?_)
      refine F_aload X38 at_281 rfl rfl (pc' := 283) rfl ?_
      refine F_ifnull_ref X38 at_283 (pc' := 286) rfl ?_
      refine F_aload X38 at_286 rfl rfl (pc' := 288) rfl ?_
      refine F_arraylength X38 A38k_b31 (z := (2 : Int32)) rfl at_288 (pc' := 289) rfl ?_
      refine F_iload X38 at_289 rfl (pc' := 291) rfl ?_
      refine F_icmp_ne X38 at_291 (by decide) (pt := 298) (by decide) (pc' := 294) rfl (fun q => absurd q (by decide)) (fun _ => ?_)
      refine F_iconst X38 at_294 (z := (1 : Int32)) (by decide) (pc' := 295) rfl ?_
      refine F_goto X38 at_295 (by decide) (pc' := 299) (by decide) ?_
      refine F_istore X38 at_299 (Ls' := #[.val (.long u1), .second, .val (.long u2), .second, .val (.long u3), .second, .val (.long u4), .second, .val (.long u5), .second, .val (.int u6), .val (.int (3 : Int32)), .val (.int (2 : Int32)), .val (.int (3 : Int32)), .val (.ref b31), .val (.ref b34), .val (.long (u3 ||| u1)), .second, .val (.long (u4 ||| u2)), .second, .val (.long u5), .second, .val (.int (1 : Int32))]) rfl (pc' := 301) rfl ?_
      refine F_iload X38 at_301 rfl (pc' := 303) rfl ?_
      refine F_if_eq X38 at_303 (by decide) (pt := 324) (by decide) (pc' := 306) rfl (fun q => absurd q (by decide)) (fun _ => ?_)
      refine F_iload X38 at_306 rfl (pc' := 308) rfl ?_
      refine F_if_le X38 at_308 (by decide) (pt := 320) (by decide) (pc' := 311) rfl (fun q => absurd q (by decide)) (fun _ => ?_)
      refine F_aload X38 at_311 rfl rfl (pc' := 313) rfl ?_
      refine F_iconst X38 at_313 (z := (0 : Int32)) (by decide) (pc' := 314) rfl ?_
      refine F_laload X38 A38k_b31 (by decide) rfl at_314 (pc' := 315) rfl ?_
      refine F_lloadN X38 at_315 rfl (pc' := 316) rfl ?_
      refine F_lcmp X38 at_316 (pc' := 317) rfl ?_
      refine F_lif_ne X38 at_317 (by decide) (pt := 324) (by decide) (pc' := 320) rfl (fun q => absurd rfl q) (fun _ => ?_)
      refine F_iconst X38 at_320 (z := (1 : Int32)) (by decide) (pc' := 321) rfl ?_
      refine F_goto X38 at_321 (by decide) (pc' := 325) (by decide) ?_
      refine F_istore X38 at_325 (Ls' := #[.val (.long u1), .second, .val (.long u2), .second, .val (.long u3), .second, .val (.long u4), .second, .val (.long u5), .second, .val (.int u6), .val (.int (3 : Int32)), .val (.int (2 : Int32)), .val (.int (3 : Int32)), .val (.ref b31), .val (.ref b34), .val (.long (u3 ||| u1)), .second, .val (.long (u4 ||| u2)), .second, .val (.long u5), .second, .val (.int (1 : Int32))]) rfl (pc' := 327) rfl ?_
      refine F_iload X38 at_327 rfl (pc' := 329) rfl ?_
      refine F_if_eq X38 at_329 (by decide) (pt := 351) (by decide) (pc' := 332) rfl (fun q => absurd q (by decide)) (fun _ => ?_)
      refine F_iload X38 at_332 rfl (pc' := 334) rfl ?_
      refine F_iconst X38 at_334 (z := (1 : Int32)) (by decide) (pc' := 335) rfl ?_
      refine F_icmp_le X38 at_335 (by decide) (pt := 347) (by decide) (pc' := 338) rfl (fun q => absurd q (by decide)) (fun _ => ?_)
      refine F_aload X38 at_338 rfl rfl (pc' := 340) rfl ?_
      refine F_iconst X38 at_340 (z := (1 : Int32)) (by decide) (pc' := 341) rfl ?_
      refine F_laload X38 A38k_b31 (by decide) rfl at_341 (pc' := 342) rfl ?_
      refine F_lloadN X38 at_342 rfl (pc' := 343) rfl ?_
      refine F_lcmp X38 at_343 (pc' := 344) rfl ?_
      refine F_lif_ne X38 at_344 (by decide) (pt := 351) (by decide) (pc' := 347) rfl (fun q => absurd rfl q) (fun _ => ?_)
      refine F_iconst X38 at_347 (z := (1 : Int32)) (by decide) (pc' := 348) rfl ?_
      refine F_goto X38 at_348 (by decide) (pc' := 352) (by decide) ?_
      refine F_istore X38 at_352 (Ls' := #[.val (.long u1), .second, .val (.long u2), .second, .val (.long u3), .second, .val (.long u4), .second, .val (.long u5), .second, .val (.int u6), .val (.int (3 : Int32)), .val (.int (2 : Int32)), .val (.int (3 : Int32)), .val (.ref b31), .val (.ref b34), .val (.long (u3 ||| u1)), .second, .val (.long (u4 ||| u2)), .second, .val (.long u5), .second, .val (.int (1 : Int32))]) rfl (pc' := 354) rfl ?_
      refine F_iload X38 at_354 rfl (pc' := 356) rfl ?_
      refine F_ireturn_boolean (z' := (1 : Int32)) X38 (by decide) at_356 rfl (by decide) (by decide) ?_
      exact rfl
set_option maxRecDepth 65536 in
set_option maxHeartbeats 40000000 in
theorem comes_1 {Post : Tables → Env → Array Value → State → Outcome → State → Prop} (hpost : ∀ tb e args s v u, (limb_1_1.after args s (.returned v) u = true ∧ limb_1_2.after args s (.returned v) u = true ∧ True) → FrameEnd s (.returned v) u (Jvm.fieldLocs frame_1_writes args s ++ Jvm.arrayLocs frame_1_arrays args s ++ Jvm.staticLocs frame_1_statics s) 16 128 → Post tb e args s (.returned v) u) :
    ArmFor flags0 classFile x code maxLocals ret World_1 tables_1 room_1 Calls_1 rest_1 Pre_1 Post := by
  intro l hfl _ _ p e ha hc hk s m args below hf hA hF happ hP
  obtain ⟨hcalls, hrest, hpre⟩ := hP
  obtain ⟨-, -, -, hnamed, -, -, -, hat⟩ := (Spec.applies_iff hf).mp happ
  obtain ⟨hg, hn⟩ := and_e (Cond.before_iff.mp (show (Jvm.Cond.and given_1 narrow_1).before args s = true from hpre))
  obtain ⟨g0, r0⟩ := and_e hg
  obtain ⟨v0, r1⟩ := and_e r0
  obtain ⟨v1, r2⟩ := and_e r1
  obtain ⟨v2, r3⟩ := and_e r2
  obtain ⟨v3, r4⟩ := and_e r3
  obtain ⟨v4, r5⟩ := and_e r4
  obtain ⟨w0, w1, w2, w3, w4, w5, rfl⟩ : ∃ w0 w1 w2 w3 w4 w5 : Value, args = #[w0, w1, w2, w3, w4, w5] := by
    have hs : args.size = 6 := by simpa [Cond.value, given_1] using g0
    obtain ⟨L⟩ := args
    match L, hs with
    | [w0, w1, w2, w3, w4, w5], _ => exact ⟨w0, w1, w2, w3, w4, w5, rfl⟩
  have hw := fun d (hd : d ∈ tables_1) => atoms_spec (ws := Jvm.Cond.code x code maxLocals ret :: tables_1) hat d (List.mem_cons_of_mem _ hd)
  obtain ⟨i0, ei0⟩ := isL_v v0
  obtain rfl : w0 = (.long i0) := Option.some.inj ei0
  obtain ⟨i1, ei1⟩ := isL_v v1
  obtain rfl : w1 = (.long i1) := Option.some.inj ei1
  obtain ⟨i2, ei2⟩ := isL_v v2
  obtain rfl : w2 = (.long i2) := Option.some.inj ei2
  obtain ⟨i3, ei3⟩ := isL_v v3
  obtain rfl : w3 = (.long i3) := Option.some.inj ei3
  obtain ⟨i4, ei4⟩ := isL_v v4
  obtain rfl : w4 = (.long i4) := Option.some.inj ei4
  obtain ⟨i5, ei5⟩ := is_v r5
  obtain rfl : w5 = (.int i5) := Option.some.inj ei5
  obtain ⟨n, o, h1, h2, h3, _, L, rfl, ⟨rfl, N⟩, hq⟩ := con0 l s _ hw s.heap.size s.heap (Nat.le_refl _) i0 i1 i2 i3 i4 i5 tables_1 p e ha hc hk s m _ below hf ((Spec.applies_iff_loose hf).mp happ).1 ⟨rfl, State.Warmed39.refl s, rfl⟩ trivial
  refine ⟨n, _, h1, h2, h3, hpost _ _ _ _ _ _ ⟨Cond.after_iff.mpr rfl, Cond.after_iff.mpr (eq_i res_at (Term.int_eval (1)) rfl), trivial⟩ ⟨hq.1, hq.2.1, (hq.2.2.sift fun y hy => Or.inr (N y hy)).mono (by decide) (by decide)⟩⟩
theorem main_1_1 : Claimed_1_1 := comes_1 fun _ _ _ _ _ _ h hF => ⟨h.1, hF⟩
theorem main_1_2 : Claimed_1_2 := comes_1 fun _ _ _ _ _ _ h hF => ⟨h.2.1, hF⟩
end Jvm.Pilot.@@N@@
namespace Jvm.Pilot.@@N@@
open Jvm Jvm.ClassFile Sem Op Lib Jvm.Free Jvm.Stand Jvm.Pilot.@@N@@.Jvm.D
/-! MADE BY PROGRAM (witnessworld.py) out of the Statement's table words and the real class files: 11 classes; the members and pool entries that the words name. The judged class is class 1, her method 1. -/
namespace start1
open Jvm.ClassFile
def u (s : String) : CpInfo := .utf8 (stringToUtf16 s)
/-- a pool by its gaps: so many unusable entries, then the entry; so many at the end -/
def gap : Nat → List CpInfo → List CpInfo
  | 0, r => r
  | n + 1, r => .unusable :: gap n r
def poolList (es : List (Nat × CpInfo)) (last : Nat) : List CpInfo := es.foldr (fun e r => gap e.1 (e.2 :: r)) (gap last [])
def pool (es : List (Nat × CpInfo)) (last : Nat) : Array CpInfo := ⟨poolList es last⟩
def fileOf (pool : Array CpInfo) (this : Nat) (attrs : Array Attribute := #[]) (ms : Array MethodInfo := #[]) (fl : Nat := 33) (sup : Nat := 0) (ifs : Array Nat := #[]) (fds : Array FieldInfo := #[]) : ClassFile where
  minorVersion := 0
  majorVersion := 65
  constantPool := pool
  accessFlags := fl
  thisClass := this
  superClass := sup
  interfaces := ifs
  fields := fds
  methods := ms
  attributes := attrs
def plain (name : String) (sup : Option ClassId) : Class where
  name := name
  kind := .ordinary
  loader := none
  accessFlags := 33
  super := sup
  interfaces := #[]
  cf := none
  fields := #[]
  methods := #[]
  instanceTypes := #[]
  staticTypes := #[]
  resolved := #[]
  callSites := []
  init := .initialized
  statics := none
  mirror := none

def pool0 : Array CpInfo := pool [(5, u "<init>"), (0, u "()V"), (1, .class_ 10), (1, u "java/lang/Object")] 113

def k0m0 : Method := { name := "<init>", desc := "()V", sig := { parameters := [], returnType := none }, accessFlags := 1, code := none }
/-- java/lang/Object -/
def k0 : Class := { plain "java/lang/Object" none with
  accessFlags := 33
  interfaces := #[]
  cf := some (fileOf pool0 8 #[] #[{ accessFlags := 1, nameIndex := 5, descriptorIndex := 6, attributes := #[] }] 33 0 #[] #[])
  fields := #[]
  methods := #[k0m0]
  instanceTypes := #[]
  staticTypes := #[]
  resolved := Array.replicate 124 none
  statics := none }

def pool1 : Array CpInfo := pool [(2, .class_ 4), (1, u "java/lang/Object"), (0, u "<init>"), (0, u "()V"), (0, .methodref 8 9), (0, .class_ 10), (0, .nameAndType 11 12), (0, u "com/example/entailment/entailment/Bits"), (0, u "add"), (0, u "([J[J)V"), (0, .class_ 14), (0, u "com/example/entailment/entailment/BitsAddPinLaw"), (2, u "law"), (0, u "(JJJJJI)Z")] 5

def k1m0 : Method := { name := "<init>", desc := "()V", sig := { parameters := [], returnType := none }, accessFlags := 2, code := none }
def k1c1 : Code := { maxStack := 4, maxLocals := 23, code := code, exceptionTable := #[], attributes := #[] }
def k1m1 : Method := { name := "law", desc := "(JJJJJI)Z", sig := { parameters := [.long, .long, .long, .long, .long, .int], returnType := some .boolean }, accessFlags := 9, code := some k1c1 }
/-- com/example/entailment/entailment/BitsAddPinLaw -/
def k1 : Class := { plain "com/example/entailment/entailment/BitsAddPinLaw" (some 0) with
  accessFlags := 49
  interfaces := #[]
  cf := some (fileOf pool1 13 #[] #[{ accessFlags := 2, nameIndex := 5, descriptorIndex := 6, attributes := #[] }, { accessFlags := 9, nameIndex := 17, descriptorIndex := 18, attributes := #[] }] 49 2 #[] #[])
  fields := #[]
  methods := #[k1m0, k1m1]
  instanceTypes := #[]
  staticTypes := #[]
  resolved := Array.replicate 24 none
  statics := none }

def pool2 : Array CpInfo := pool [(2, .class_ 4), (1, u "java/lang/Object"), (0, u "<init>"), (0, u "()V"), (1, .class_ 10), (1, u "com/example/entailment/entailment/Bits"), (0, u "LOWEST"), (0, u "[I"), (16, u "DE_BRUIJN"), (0, u "J"), (11, u "add"), (0, u "([J[J)V")] 3

def k2m0 : Method := { name := "<init>", desc := "()V", sig := { parameters := [], returnType := none }, accessFlags := 2, code := none }
def k2c1 : Code := { maxStack := 6, maxLocals := 3, code := prog_1_method_6_code, exceptionTable := #[], attributes := #[] }
def k2m1 : Method := { name := "add", desc := "([J[J)V", sig := { parameters := [(.array .long), (.array .long)], returnType := none }, accessFlags := 8, code := some k2c1 }
/-- com/example/entailment/entailment/Bits -/
def k2 : Class := { plain "com/example/entailment/entailment/Bits" (some 0) with
  accessFlags := 48
  interfaces := #[]
  cf := some (fileOf pool2 8 #[] #[{ accessFlags := 2, nameIndex := 5, descriptorIndex := 6, attributes := #[] }, { accessFlags := 8, nameIndex := 42, descriptorIndex := 43, attributes := #[] }] 48 2 #[] #[{ accessFlags := 26, nameIndex := 29, descriptorIndex := 30, attributes := #[] }, { accessFlags := 26, nameIndex := 11, descriptorIndex := 12, attributes := #[] }])
  fields := #[{ name := "DE_BRUIJN", type := .long, accessFlags := 26, slot := 0, constantValue := 0 }, { name := "LOWEST", type := (.array .int), accessFlags := 26, slot := 1, constantValue := 0 }]
  methods := #[k2m0, k2m1]
  instanceTypes := #[]
  staticTypes := #[.long, (.array .int)]
  resolved := Array.replicate 47 none
  statics := none }

def pool3 : Array CpInfo := pool [(1, u "java/lang/Cloneable"), (0, .class_ 1), (0, u "java/lang/Object"), (0, .class_ 3)] 3

/-- java/lang/Cloneable -/
def k3 : Class := { plain "java/lang/Cloneable" (some 0) with
  accessFlags := 1537
  interfaces := #[]
  cf := some (fileOf pool3 2 #[] #[] 1537 4 #[] #[])
  fields := #[]
  methods := #[]
  instanceTypes := #[]
  staticTypes := #[]
  resolved := Array.replicate 8 none
  statics := none }

def pool4 : Array CpInfo := pool [(1, u "java/io/Serializable"), (0, .class_ 1), (0, u "java/lang/Object"), (0, .class_ 3)] 3

/-- java/io/Serializable -/
def k4 : Class := { plain "java/io/Serializable" (some 0) with
  accessFlags := 1537
  interfaces := #[]
  cf := some (fileOf pool4 2 #[] #[] 1537 4 #[] #[])
  fields := #[]
  methods := #[]
  instanceTypes := #[]
  staticTypes := #[]
  resolved := Array.replicate 8 none
  statics := none }

/-- the primitive byte -/
def k5 : Class := { plain "byte" none with kind := .primitive 'B', accessFlags := 0x411 }
/-- [B -/
def k6 : Class := { plain "[B" (some 0) with kind := .array 5 .byte, interfaces := #[3, 4], accessFlags := 1041 }

/-- the primitive int -/
def k7 : Class := { plain "int" none with kind := .primitive 'I', accessFlags := 0x411 }
/-- [I -/
def k8 : Class := { plain "[I" (some 0) with kind := .array 7 .int, interfaces := #[3, 4], accessFlags := 1041 }

/-- the primitive long -/
def k9 : Class := { plain "long" none with kind := .primitive 'J', accessFlags := 0x411 }
/-- [J -/
def k10 : Class := { plain "[J" (some 0) with kind := .array 9 .long, interfaces := #[3, 4], accessFlags := 1041 }

def heap : Heap := #[]
def classes : Array Class := #[k0, k1, k2, k3, k4, k5, k6, k7, k8, k9, k10]
def interned : List (Array UInt16 × Addr) := []
def slotsUsed : Nat := 0
def theMethod : MethodId := ⟨1, 1⟩
def args0 : Array Value := #[.long 5, .long 6, .long 7, .long 8, .long 9, .int 6]
def aboutOver (below : List Frame) : State where
  vm := { classes := classes, interned := interned.toArray }
  heap := heap
  slotsUsed := slotsUsed
  threads := #[{ frames := .invoking theMethod args0 :: below }]
def below0 : List Frame := [.native { method := ⟨0, 0⟩, args := #[] }]
def about1 : State := aboutOver below0
def p0 : Program := .bare "" "" ""
def e0 : Env := launch0.env 0 0 0
theorem w_frames : about1.frames = Frame.invoking theMethod args0 :: below0 := rfl
set_option maxRecDepth 65536 in
theorem w_args : argsFit about1.vm theMethod args0 = true := by decide +kernel
set_option maxRecDepth 65536 in
theorem w_heap : heapFits about1 = true := by decide +kernel
set_option maxRecDepth 65536 in
theorem w_runnable : about1.curStatus? = some .runnable := by decide +kernel
set_option maxRecDepth 65536 in
theorem w_alone : about1.alone = true := by decide +kernel
set_option maxRecDepth 65536 in
theorem w_named : about1.methodNamed? x = some theMethod := by decide +kernel
set_option maxRecDepth 65536 in
theorem w_hears : about1.hears theMethod below0 = true := by decide +kernel
set_option maxRecDepth 65536 in
theorem w_ripe : about1.ripe theMethod args0 below0 = true := by decide +kernel
theorem w_running : about1.status = .running := rfl
set_option maxRecDepth 65536 in
theorem w_room : about1.hasRoom e0.platform room_1 = true :=
  launch0.hasRoom_least _ room_1 (by decide +kernel) (by decide +kernel) (by decide +kernel) (by decide +kernel) (by decide +kernel) (by decide +kernel)
theorem allAtoms_all (ts : List Jvm.Cond) (a : Array Jvm.Value) (st : Jvm.State) : (allAtoms ts).before a st = ts.all (fun c => c.before a st) := by
  induction ts with
  | nil => rfl
  | cons c t ih =>
    show (Jvm.Cond.and c (allAtoms t)).before a st = _
    rw [Jvm.Cond.before_and, ih, List.all_cons]
def words1 : List Jvm.Cond := Jvm.Cond.code x code maxLocals ret :: tables_1
/-- a 'code' word, met by the world's own term for the bytes: nothing is compared byte by byte -/
theorem code_word {y : MethodName} {bytes : ByteArray} {mx : Nat} {rt : Option FieldType} {a : Array Value} {s : State} {m : MethodId} {meth : Method} {c : Code} (h1 : s.methodNamed? y = some m) (h2 : s.vm.method? m = some meth) (h3 : meth.code = some c) (h4 : c.code = bytes)
    (h5 : (c.maxLocals == mx && c.exceptionTable.isEmpty && decide (c.maxStack ≤ mostOperands) && decide (meth.sig.returnType = rt) && !meth.locks && decide (parseMethodDescriptor y.desc = some meth.sig)) = true) : (Jvm.Cond.code y bytes mx rt).before a s = true := by
  simp only [Bool.and_eq_true, beq_iff_eq, Bool.not_eq_true', decide_eq_true_eq] at h5
  obtain ⟨⟨⟨⟨⟨g1, g2⟩, g3⟩, g4⟩, g5⟩, g6⟩ := h5
  simp [Cond.before, Cond.holds, Cond.value, h1, h2, h3, h4, g1, g2, g3, g4, g5, g6]
def isCode : Jvm.Cond → Bool
  | .code _ _ _ _ => true
  | _ => false
theorem all_split {L : List Jvm.Cond} {P : Jvm.Cond → Bool} (h1 : L.all (fun c => isCode c || P c) = true) (h2 : ∀ c ∈ L.filter isCode, P c = true) : L.all P = true := by
  refine List.all_eq_true.mpr fun c hc => ?_
  have h := List.all_eq_true.mp h1 c hc
  rcases Bool.eq_false_or_eq_true (isCode c) with hi | hi
  · exact h2 c (List.mem_filter.mpr ⟨hc, hi⟩)
  · simpa [hi] using h
set_option maxRecDepth 65536 in
theorem w_c0 : (Jvm.Cond.code x code maxLocals ret).before args0 about1 = true := code_word (m := ⟨1, 1⟩) (meth := k1m1) (c := k1c1) (by decide +kernel) rfl rfl rfl (by decide +kernel)
set_option maxRecDepth 65536 in
theorem w_c1 : (Jvm.Cond.code ({ cls := "com/example/entailment/entailment/Bits", name := "add", desc := "([J[J)V" } : Jvm.MethodName) prog_1_method_6_code (3 : Nat) (Option.none : Option Jvm.ClassFile.FieldType)).before args0 about1 = true := code_word (m := ⟨2, 1⟩) (meth := k2m1) (c := k2c1) (by decide +kernel) rfl rfl rfl (by decide +kernel)
def codes1 : List Jvm.Cond := [Jvm.Cond.code x code maxLocals ret, Jvm.Cond.code ({ cls := "com/example/entailment/entailment/Bits", name := "add", desc := "([J[J)V" } : Jvm.MethodName) prog_1_method_6_code (3 : Nat) (Option.none : Option Jvm.ClassFile.FieldType)]
set_option maxRecDepth 65536 in
theorem codes_eq : words1.filter isCode = codes1 := rfl
theorem w_codes : ∀ c ∈ words1.filter isCode, c.before args0 about1 = true := by
  rw [codes_eq]
  intro c hc
  simp only [codes1, List.mem_cons, List.not_mem_nil, or_false] at hc
  rcases hc with rfl | rfl
  · exact w_c0
  · exact w_c1
set_option maxRecDepth 65536 in
theorem w_t1 : words1.all (fun c => isCode c || c.before args0 about1) = true := by decide +kernel
theorem w_tables : (allAtoms (Jvm.Cond.code x code maxLocals ret :: tables_1)).before args0 about1 = true := by
  rw [allAtoms_all]
  show words1.all (fun c => c.before args0 about1) = true
  refine all_split ?_ w_codes
  rw [w_t1]
set_option maxRecDepth 65536 in
theorem w_case : (Jvm.Cond.and given_1 narrow_1).before args0 about1 = true := by decide +kernel
theorem w_applies : (headSpec (Jvm.Cond.code x code maxLocals ret :: tables_1) room_1).applies x e0.platform about1 = true :=
  (Spec.applies_iff w_frames).mpr ⟨w_running, w_runnable, w_alone, w_named, w_hears, w_ripe, w_room, w_tables⟩
theorem atStart : AtStart classFile x code maxLocals ret World_1 tables_1 room_1 Calls_1 rest_1 Pre_1 launch0 p0 e0 about1 theMethod args0 below0 :=
  ⟨lists_1, trivial, launch0.admits_env _ _ _, launch0.least_env, fairChoices_fair.cas, fairChoices_fair.clock, w_frames, w_args, w_heap, w_applies, trivial, trivial, w_case⟩
end start1
theorem witness_1 : WitnessClaimed_1 := ⟨start1.p0, start1.e0, start1.about1, start1.theMethod, start1.args0, start1.below0, start1.atStart⟩
end Jvm.Pilot.@@N@@

import JvmDerived
import JvmDerived.Pilot.@@N@@Statement
import JvmDerived.Pilot.@@N@@Code
set_option linter.unusedVariables false
set_option linter.unusedSimpArgs false
@@BLOCK:NumsL.lean.txt@@

namespace Jvm.OwnKit
open Sem ClassFile Op Lib Jvm.Stand Jvm.Free Jvm.LawKit Jvm.RoadKit
/-- where the run of one body stands: the heap h, cells and slots used at the most; nothing below n0 was written -/
def St (p : Program) (l : Launch) (e : Env) (R : Room) (s : State) (m : MethodId) (args : Array Value) (below : List Frame) (meth : Method) (c : Code) (Z : State) (code : ByteArray) (own : String) (ret : Option FieldType) (ml : Nat) (nm : String) (n0 : Nat) (T : State) (h : Heap) (cells slots : Nat) : Prop :=
  ∃ locs, Stand p l e R s m args below meth c T locs cells slots ∧ p.tables.exec = Jvm.exec ∧ Z.Warmed39 s.vm ∧ c.code = code ∧ s.vm.findClass own = some m.cls ∧ meth.sig.returnType = ret ∧ c.maxLocals = ml ∧ meth.name = nm ∧ meth.locks = false ∧ T.heap = h ∧ Fr n0 locs ∧ n0 ≤ s.heap.size
/-- the run from T with the top frame f ends, and returns as Q says -/
def Ends (p : Program) (e : Env) (below : List Frame) (s : State) (n0 C S : Nat) (Q : Option Value → Heap → Prop) (T : State) (f : JFrame) : Prop :=
  ∃ s₂ o, Steps p.tables e below (T.setTop f) s₂ ∧ s₂.status = .running ∧ Ended s₂ below o ∧ ∃ v L, o = .returned v ∧ (Q v s₂.heap ∧ Fr n0 L) ∧ FrameEnd s o s₂ L C S
/-- the contract of a body: called with 'as' at the heap h it returns as Q says -/
def Con (l : Launch) (y : MethodName) (bytes : ByteArray) (maxL : Nat) (ret : Option FieldType) (rm : Room) (C S : Nat) (Z : State) (n0 : Nat) (as : Array Value) (h : Heap) (Q : Option Value → Heap → Prop) : Prop :=
  ∀ ws, MetFree l y (head1 (Cond.code y bytes maxL ret :: ws) rm) (fun a U => a = as ∧ Z.Warmed39 U.vm ∧ U.heap = h) (fun _ _ _ _ _ => True) (fun _ U o U' => ∃ v L, o = .returned v ∧ (Q v U'.heap ∧ Fr n0 L) ∧ FrameEnd U o U' L C S)
theorem Ends.by {p : Program} {e : Env} {below : List Frame} {s : State} {n0 C S : Nat} {Q : Option Value → Heap → Prop} {T T' : State} {f f' : JFrame} (st : ∀ target, Steps p.tables e below (T'.setTop f') target → Steps p.tables e below (T.setTop f) target) (k : Ends p e below s n0 C S Q T' f') : Ends p e below s n0 C S Q T f := by
  obtain ⟨s₂, o, h1, r⟩ := k
  exact ⟨s₂, o, st _ h1, r⟩
theorem Con.body {l : Launch} {y : MethodName} {bytes : ByteArray} {maxL : Nat} {ret : Option FieldType} {rm : Room} {C S : Nat} {Z : State} {n0 : Nat} {as : Array Value} {h : Heap} {Q : Option Value → Heap → Prop} {own nm : String} (ho : y.cls = own) (hnm0 : y.name = nm) (hpl : plainFor y = true) (hn : n0 ≤ h.size)
    (B : ∀ (p : Program) (e : Env) (s : State) (m : MethodId) (below : List Frame) (meth : Method) (c : Code) (T : State), St p l e rm s m as below meth c Z bytes own ret maxL nm n0 T h 0 0 → Ends p e below s n0 C S Q T (entryFrame m as maxL)) : Con l y bytes maxL ret rm C S Z n0 as h Q := by
  subst ho hnm0
  intro ws
  refine MetFree.of_bodySF hpl hisR ?_
  intro p e s m args below meth c s₁ Bd hml0 hP hK
  obtain ⟨rfl, hZ, hh⟩ := hP
  have hnm := (name_of_methodNamed Bd.named Bd.method).1
  exact B p e s m below meth c s₁ ⟨[], Stand.of_body Bd, Bd.exec, hZ, Bd.bytes, findClass_of_methodNamed Bd.named, Bd.returns, hml0, hnm, Bd.notSynchronized, by rw [← hh, Bd.state]; rfl, Fr.nil n0, hh ▸ hn⟩

/-! plain facts on numbers -/
theorem own_len32 {n : Nat} (h : n < 2147483648) : n.toInt32.toNatClampNeg = n := by
  have e1 : (n.toInt32).toInt = n := len_toInt (by omega)
  simp only [Int32.toNatClampNeg, e1]; omega
theorem own_ofNat {n : Nat} (h : n < 2147483648) : (Int32.ofNat n).toInt = n := Int32.toInt_ofNat_of_lt (by omega)
theorem own_natOf {x : Int32} (h : 0 ≤ x.toInt) : x = Int32.ofNat x.toInt.toNat := by
  have r := rng32 x
  apply Int32.toInt_inj.mp
  rw [own_ofNat (by omega)]; omega
theorem own_maskN (x m : Int32) (k : Nat) (hk : k < 32) (hm : m.toBitVec.toNat = 2 ^ k - 1) : ∃ n : Nat, n < 2 ^ k ∧ (x &&& m) = Int32.ofNat n := by
  have e := Jvm.Kit.i32_mask x m (k := k) hk hm
  have p : (0 : Int) < 2 ^ k := Int.pow_pos (by decide)
  have a := Int.emod_nonneg x.toInt (Int.ne_of_gt p)
  have b := Int.emod_lt_of_pos x.toInt p
  refine ⟨(x &&& m).toInt.toNat, ?_, own_natOf (by omega)⟩
  rw [e]
  have c : ((x.toInt % 2 ^ k).toNat : Int) < ((2 ^ k : Nat) : Int) := by rw [Int.toNat_of_nonneg a]; simpa using b
  exact_mod_cast c
theorem own_rem (x m : Int32) (q : Nat) (hm : m.toInt = q) (h1 : 0 < q) : ∃ n : Nat, n < q ∧ (x &&& 2147483647) % m = Int32.ofNat n := by
  have e := Jvm.Kit.i32_mask x 2147483647 (k := 31) (by decide) (by decide)
  have p : 0 ≤ (x &&& 2147483647).toInt := by omega
  have e2 := Jvm.Kit.i32_rem_nonneg (y := m) p
  have hp : (0 : Int) < m.toInt := by omega
  have a := Int.emod_nonneg (x &&& 2147483647).toInt (Int.ne_of_gt hp)
  have b := Int.emod_lt_of_pos (x &&& 2147483647).toInt hp
  exact ⟨((x &&& 2147483647) % m).toInt.toNat, by omega, own_natOf (by omega)⟩
theorem own_m3 {x z : Int32} (h : x &&& (3 : Int32) = z) : z = 0 ∨ z = 1 ∨ z = 2 ∨ z = 3 := by
  obtain ⟨n, hn, e⟩ := own_maskN x 3 2 (by decide) (by decide)
  rw [← h, e]
  have : ∀ i : Fin 4, Int32.ofNat i = 0 ∨ Int32.ofNat i = 1 ∨ Int32.ofNat i = 2 ∨ Int32.ofNat i = 3 := by decide +kernel
  exact this ⟨n, hn⟩
theorem own_m1 {x z : Int32} (h : x &&& (1 : Int32) = z) : z = 0 ∨ z = 1 := by
  obtain ⟨n, hn, e⟩ := own_maskN x 1 1 (by decide) (by decide)
  rw [← h, e]
  have : ∀ i : Fin 2, Int32.ofNat i = 0 ∨ Int32.ofNat i = 1 := by decide +kernel
  exact this ⟨n, hn⟩
section Laws
variable {p : Program} {l : Launch} {e : Env} {R : Room} {s : State} {m : MethodId} {args : Array Value} {below : List Frame} {meth : Method} {c : Code} {Z : State} {code : ByteArray} {own : String} {ret : Option FieldType} {ml : Nat} {nm : String} {n0 : Nat} {T : State} {h : Heap} {cells slots : Nat} {C S : Nat} {Q : Option Value → Heap → Prop} {pc pc' : Nat} {Ls : Array Slot} {stk : List Value}
theorem St.more (X : St p l e R s m args below meth c Z code own ret ml nm n0 T h cells slots) {cells' slots' : Nat} (h1 : cells ≤ cells') (h2 : slots ≤ slots') : St p l e R s m args below meth c Z code own ret ml nm n0 T h cells' slots' := by
  obtain ⟨locs, Y, r⟩ := X
  exact ⟨locs, Y.more h1 h2, r⟩
theorem St.size (X : St p l e R s m args below meth c Z code own ret ml nm n0 T h cells slots) : n0 ≤ h.size := by
  obtain ⟨locs, Y, hx, hZ, hc, ho, hr, hm, hn, hk, rfl, hF, h0⟩ := X
  exact Nat.le_trans h0 (Y.same.2.1 : s.heap.size ≤ T.heap.size)

theorem F_iloadN (X : St p l e R s m args below meth c Z code own ret ml nm n0 T h cells slots) {k : Fin 4} {v : Int32} (hd : decode code pc = .ok (.iload_n k, 1)) (hl : Ls[k.val]? = some (.val (.int v))) (hp : pc + 1 = pc') (k : Ends p e below s n0 C S Q T (mkF m pc' Ls (.int v :: stk))) : Ends p e below s n0 C S Q T (mkF m pc Ls stk) := by
  obtain ⟨locs, Y, hx, hZ, hc, ho, hr, hm, hn, hk, hh, hF, h0⟩ := X
  subst hp
  exact k.by fun _ kt => XS.iloadN Y.here hx rfl (hb hc hd) hl kt
theorem F_iload (X : St p l e R s m args below meth c Z code own ret ml nm n0 T h cells slots) {k : Nat} {v : Int32} (hd : decode code pc = .ok (.iload k, 2)) (hl : Ls[k]? = some (.val (.int v))) (hp : pc + 2 = pc') (k : Ends p e below s n0 C S Q T (mkF m pc' Ls (.int v :: stk))) : Ends p e below s n0 C S Q T (mkF m pc Ls stk) := by
  obtain ⟨locs, Y, hx, hZ, hc, ho, hr, hm, hn, hk, hh, hF, h0⟩ := X
  subst hp
  exact k.by fun _ kt => XS.iload Y.here hx rfl (hb hc hd) hl kt
theorem F_istoreN (X : St p l e R s m args below meth c Z code own ret ml nm n0 T h cells slots) {k : Fin 4} {v : Int32} {Ls' : Array Slot} (hd : decode code pc = .ok (.istore_n k, 1)) (hl : storeLocals Ls k.val (.int v) = some Ls') (hp : pc + 1 = pc') (k : Ends p e below s n0 C S Q T (mkF m pc' Ls' stk)) : Ends p e below s n0 C S Q T (mkF m pc Ls (.int v :: stk)) := by
  obtain ⟨locs, Y, hx, hZ, hc, ho, hr, hm, hn, hk, hh, hF, h0⟩ := X
  subst hp
  exact k.by fun _ kt => XS.istoreN Y.here hx rfl (hb hc hd) rfl hl kt
theorem F_istore (X : St p l e R s m args below meth c Z code own ret ml nm n0 T h cells slots) {k : Nat} {v : Int32} {Ls' : Array Slot} (hd : decode code pc = .ok (.istore k, 2)) (hl : storeLocals Ls k (.int v) = some Ls') (hp : pc + 2 = pc') (k : Ends p e below s n0 C S Q T (mkF m pc' Ls' stk)) : Ends p e below s n0 C S Q T (mkF m pc Ls (.int v :: stk)) := by
  obtain ⟨locs, Y, hx, hZ, hc, ho, hr, hm, hn, hk, hh, hF, h0⟩ := X
  subst hp
  exact k.by fun _ kt => XS.istore Y.here hx rfl (hb hc hd) rfl hl kt
theorem F_lloadN (X : St p l e R s m args below meth c Z code own ret ml nm n0 T h cells slots) {k : Fin 4} {v : Int64} (hd : decode code pc = .ok (.lload_n k, 1)) (hl : Ls[k.val]? = some (.val (.long v))) (hp : pc + 1 = pc') (k : Ends p e below s n0 C S Q T (mkF m pc' Ls (.long v :: stk))) : Ends p e below s n0 C S Q T (mkF m pc Ls stk) := by
  obtain ⟨locs, Y, hx, hZ, hc, ho, hr, hm, hn, hk, hh, hF, h0⟩ := X
  subst hp
  exact k.by fun _ kt => XS.lloadN Y.here hx rfl (hb hc hd) hl kt
theorem F_lload (X : St p l e R s m args below meth c Z code own ret ml nm n0 T h cells slots) {k : Nat} {v : Int64} (hd : decode code pc = .ok (.lload k, 2)) (hl : Ls[k]? = some (.val (.long v))) (hp : pc + 2 = pc') (k : Ends p e below s n0 C S Q T (mkF m pc' Ls (.long v :: stk))) : Ends p e below s n0 C S Q T (mkF m pc Ls stk) := by
  obtain ⟨locs, Y, hx, hZ, hc, ho, hr, hm, hn, hk, hh, hF, h0⟩ := X
  subst hp
  exact k.by fun _ kt => XS.lload Y.here hx rfl (hb hc hd) hl kt
theorem F_lstoreN (X : St p l e R s m args below meth c Z code own ret ml nm n0 T h cells slots) {k : Fin 4} {v : Int64} {Ls' : Array Slot} (hd : decode code pc = .ok (.lstore_n k, 1)) (hl : storeLocals Ls k.val (.long v) = some Ls') (hp : pc + 1 = pc') (k : Ends p e below s n0 C S Q T (mkF m pc' Ls' stk)) : Ends p e below s n0 C S Q T (mkF m pc Ls (.long v :: stk)) := by
  obtain ⟨locs, Y, hx, hZ, hc, ho, hr, hm, hn, hk, hh, hF, h0⟩ := X
  subst hp
  exact k.by fun _ kt => XS.lstoreN Y.here hx rfl (hb hc hd) rfl hl kt
theorem F_lstore (X : St p l e R s m args below meth c Z code own ret ml nm n0 T h cells slots) {k : Nat} {v : Int64} {Ls' : Array Slot} (hd : decode code pc = .ok (.lstore k, 2)) (hl : storeLocals Ls k (.long v) = some Ls') (hp : pc + 2 = pc') (k : Ends p e below s n0 C S Q T (mkF m pc' Ls' stk)) : Ends p e below s n0 C S Q T (mkF m pc Ls (.long v :: stk)) := by
  obtain ⟨locs, Y, hx, hZ, hc, ho, hr, hm, hn, hk, hh, hF, h0⟩ := X
  subst hp
  exact k.by fun _ kt => XS.lstore Y.here hx rfl (hb hc hd) rfl hl kt
theorem F_aloadN (X : St p l e R s m args below meth c Z code own ret ml nm n0 T h cells slots) {k : Fin 4} {v : Value} (hd : decode code pc = .ok (.aload_n k, 1)) (hl : Ls[k.val]? = some (.val v)) (hv : v.isRef = true) (hp : pc + 1 = pc') (k : Ends p e below s n0 C S Q T (mkF m pc' Ls (v :: stk))) : Ends p e below s n0 C S Q T (mkF m pc Ls stk) := by
  obtain ⟨locs, Y, hx, hZ, hc, ho, hr, hm, hn, hk, hh, hF, h0⟩ := X
  subst hp
  exact k.by fun _ kt => XS.aloadN Y.here hx rfl (hb hc hd) hl hv kt
theorem F_aload (X : St p l e R s m args below meth c Z code own ret ml nm n0 T h cells slots) {k : Nat} {v : Value} (hd : decode code pc = .ok (.aload k, 2)) (hl : Ls[k]? = some (.val v)) (hv : v.isRef = true) (hp : pc + 2 = pc') (k : Ends p e below s n0 C S Q T (mkF m pc' Ls (v :: stk))) : Ends p e below s n0 C S Q T (mkF m pc Ls stk) := by
  obtain ⟨locs, Y, hx, hZ, hc, ho, hr, hm, hn, hk, hh, hF, h0⟩ := X
  subst hp
  exact k.by fun _ kt => XS.aload Y.here hx rfl (hb hc hd) hl hv kt
theorem F_astoreN (X : St p l e R s m args below meth c Z code own ret ml nm n0 T h cells slots) {k : Fin 4} {v : Value} {Ls' : Array Slot} (hd : decode code pc = .ok (.astore_n k, 1)) (hv : v.isRef = true) (hl : storeLocals Ls k.val v = some Ls') (hp : pc + 1 = pc') (k : Ends p e below s n0 C S Q T (mkF m pc' Ls' stk)) : Ends p e below s n0 C S Q T (mkF m pc Ls (v :: stk)) := by
  obtain ⟨locs, Y, hx, hZ, hc, ho, hr, hm, hn, hk, hh, hF, h0⟩ := X
  subst hp
  exact k.by fun _ kt => XS.astoreN Y.here hx rfl (hb hc hd) rfl hv hl kt
theorem F_astore (X : St p l e R s m args below meth c Z code own ret ml nm n0 T h cells slots) {k : Nat} {v : Value} {Ls' : Array Slot} (hd : decode code pc = .ok (.astore k, 2)) (hv : v.isRef = true) (hl : storeLocals Ls k v = some Ls') (hp : pc + 2 = pc') (k : Ends p e below s n0 C S Q T (mkF m pc' Ls' stk)) : Ends p e below s n0 C S Q T (mkF m pc Ls (v :: stk)) := by
  obtain ⟨locs, Y, hx, hZ, hc, ho, hr, hm, hn, hk, hh, hF, h0⟩ := X
  subst hp
  exact k.by fun _ kt => XS.astore Y.here hx rfl (hb hc hd) rfl hv hl kt
theorem F_iconst (X : St p l e R s m args below meth c Z code own ret ml nm n0 T h cells slots) {i : Int} {z : Int32} (hd : decode code pc = .ok (.iconst i, 1)) (hz : Int32.ofInt i = z) (hp : pc + 1 = pc') (k : Ends p e below s n0 C S Q T (mkF m pc' Ls (.int z :: stk))) : Ends p e below s n0 C S Q T (mkF m pc Ls stk) := by
  obtain ⟨locs, Y, hx, hZ, hc, ho, hr, hm, hn, hk, hh, hF, h0⟩ := X
  subst hp
  exact k.by fun _ kt => XS.iconst Y.here hx rfl (hb hc hd) (hz ▸ kt)
theorem F_bipush (X : St p l e R s m args below meth c Z code own ret ml nm n0 T h cells slots) {i : Int} {z : Int32} (hd : decode code pc = .ok (.bipush i, 2)) (hz : (Int8.ofInt i).toInt32 = z) (hp : pc + 2 = pc') (k : Ends p e below s n0 C S Q T (mkF m pc' Ls (.int z :: stk))) : Ends p e below s n0 C S Q T (mkF m pc Ls stk) := by
  obtain ⟨locs, Y, hx, hZ, hc, ho, hr, hm, hn, hk, hh, hF, h0⟩ := X
  subst hp
  exact k.by fun _ kt => XS.bipush Y.here hx rfl (hb hc hd) (hz ▸ kt)
theorem F_sipush (X : St p l e R s m args below meth c Z code own ret ml nm n0 T h cells slots) {i : Int} {z : Int32} (hd : decode code pc = .ok (.sipush i, 3)) (hz : (Int16.ofInt i).toInt32 = z) (hp : pc + 3 = pc') (k : Ends p e below s n0 C S Q T (mkF m pc' Ls (.int z :: stk))) : Ends p e below s n0 C S Q T (mkF m pc Ls stk) := by
  obtain ⟨locs, Y, hx, hZ, hc, ho, hr, hm, hn, hk, hh, hF, h0⟩ := X
  subst hp
  exact k.by fun _ kt => XS.sipush Y.here hx rfl (hb hc hd) (hz ▸ kt)
theorem F_lconst (X : St p l e R s m args below meth c Z code own ret ml nm n0 T h cells slots) {i : Fin 2} {z : Int64} (hd : decode code pc = .ok (.lconst i, 1)) (hz : Int64.ofNat i = z) (hp : pc + 1 = pc') (k : Ends p e below s n0 C S Q T (mkF m pc' Ls (.long z :: stk))) : Ends p e below s n0 C S Q T (mkF m pc Ls stk) := by
  obtain ⟨locs, Y, hx, hZ, hc, ho, hr, hm, hn, hk, hh, hF, h0⟩ := X
  subst hp
  exact k.by fun _ kt => XS.lconst Y.here hx rfl (hb hc hd) (hz ▸ kt)
theorem F_aconst_null (X : St p l e R s m args below meth c Z code own ret ml nm n0 T h cells slots)  (hd : decode code pc = .ok (.aconst_null, 1)) (hp : pc + 1 = pc') (k : Ends p e below s n0 C S Q T (mkF m pc' Ls (.null :: stk))) : Ends p e below s n0 C S Q T (mkF m pc Ls stk) := by
  obtain ⟨locs, Y, hx, hZ, hc, ho, hr, hm, hn, hk, hh, hF, h0⟩ := X
  subst hp
  exact k.by fun _ kt => XS.aconstNull Y.here hx rfl (hb hc hd) kt
theorem F_iadd (X : St p l e R s m args below meth c Z code own ret ml nm n0 T h cells slots) {x y z : Int32} (hd : decode code pc = .ok (.iadd, 1)) (hz : x + y = z) (hp : pc + 1 = pc') (k : Ends p e below s n0 C S Q T (mkF m pc' Ls (.int z :: stk))) : Ends p e below s n0 C S Q T (mkF m pc Ls (.int y :: .int x :: stk)) := by
  obtain ⟨locs, Y, hx, hZ, hc, ho, hr, hm, hn, hk, hh, hF, h0⟩ := X
  subst hp
  exact k.by fun _ kt => XS.iadd Y.here hx rfl (hb hc hd) rfl (hz ▸ kt)
theorem F_isub (X : St p l e R s m args below meth c Z code own ret ml nm n0 T h cells slots) {x y z : Int32} (hd : decode code pc = .ok (.isub, 1)) (hz : x - y = z) (hp : pc + 1 = pc') (k : Ends p e below s n0 C S Q T (mkF m pc' Ls (.int z :: stk))) : Ends p e below s n0 C S Q T (mkF m pc Ls (.int y :: .int x :: stk)) := by
  obtain ⟨locs, Y, hx, hZ, hc, ho, hr, hm, hn, hk, hh, hF, h0⟩ := X
  subst hp
  exact k.by fun _ kt => XS.isub Y.here hx rfl (hb hc hd) rfl (hz ▸ kt)
theorem F_imul (X : St p l e R s m args below meth c Z code own ret ml nm n0 T h cells slots) {x y z : Int32} (hd : decode code pc = .ok (.imul, 1)) (hz : x * y = z) (hp : pc + 1 = pc') (k : Ends p e below s n0 C S Q T (mkF m pc' Ls (.int z :: stk))) : Ends p e below s n0 C S Q T (mkF m pc Ls (.int y :: .int x :: stk)) := by
  obtain ⟨locs, Y, hx, hZ, hc, ho, hr, hm, hn, hk, hh, hF, h0⟩ := X
  subst hp
  exact k.by fun _ kt => XS.imul Y.here hx rfl (hb hc hd) rfl (hz ▸ kt)
theorem F_iand (X : St p l e R s m args below meth c Z code own ret ml nm n0 T h cells slots) {x y z : Int32} (hd : decode code pc = .ok (.iand, 1)) (hz : x &&& y = z) (hp : pc + 1 = pc') (k : Ends p e below s n0 C S Q T (mkF m pc' Ls (.int z :: stk))) : Ends p e below s n0 C S Q T (mkF m pc Ls (.int y :: .int x :: stk)) := by
  obtain ⟨locs, Y, hx, hZ, hc, ho, hr, hm, hn, hk, hh, hF, h0⟩ := X
  subst hp
  exact k.by fun _ kt => XS.iand Y.here hx rfl (hb hc hd) rfl (hz ▸ kt)
theorem F_ior (X : St p l e R s m args below meth c Z code own ret ml nm n0 T h cells slots) {x y z : Int32} (hd : decode code pc = .ok (.ior, 1)) (hz : x ||| y = z) (hp : pc + 1 = pc') (k : Ends p e below s n0 C S Q T (mkF m pc' Ls (.int z :: stk))) : Ends p e below s n0 C S Q T (mkF m pc Ls (.int y :: .int x :: stk)) := by
  obtain ⟨locs, Y, hx, hZ, hc, ho, hr, hm, hn, hk, hh, hF, h0⟩ := X
  subst hp
  exact k.by fun _ kt => XS.ior Y.here hx rfl (hb hc hd) rfl (hz ▸ kt)
theorem F_ixor (X : St p l e R s m args below meth c Z code own ret ml nm n0 T h cells slots) {x y z : Int32} (hd : decode code pc = .ok (.ixor, 1)) (hz : x ^^^ y = z) (hp : pc + 1 = pc') (k : Ends p e below s n0 C S Q T (mkF m pc' Ls (.int z :: stk))) : Ends p e below s n0 C S Q T (mkF m pc Ls (.int y :: .int x :: stk)) := by
  obtain ⟨locs, Y, hx, hZ, hc, ho, hr, hm, hn, hk, hh, hF, h0⟩ := X
  subst hp
  exact k.by fun _ kt => XS.ixor Y.here hx rfl (hb hc hd) rfl (hz ▸ kt)
theorem F_ishl (X : St p l e R s m args below meth c Z code own ret ml nm n0 T h cells slots) {x y z : Int32} (hd : decode code pc = .ok (.ishl, 1)) (hz : x <<< (y &&& 31) = z) (hp : pc + 1 = pc') (k : Ends p e below s n0 C S Q T (mkF m pc' Ls (.int z :: stk))) : Ends p e below s n0 C S Q T (mkF m pc Ls (.int y :: .int x :: stk)) := by
  obtain ⟨locs, Y, hx, hZ, hc, ho, hr, hm, hn, hk, hh, hF, h0⟩ := X
  subst hp
  exact k.by fun _ kt => XS.ishl Y.here hx rfl (hb hc hd) rfl (hz ▸ kt)
theorem F_ishr (X : St p l e R s m args below meth c Z code own ret ml nm n0 T h cells slots) {x y z : Int32} (hd : decode code pc = .ok (.ishr, 1)) (hz : x >>> (y &&& 31) = z) (hp : pc + 1 = pc') (k : Ends p e below s n0 C S Q T (mkF m pc' Ls (.int z :: stk))) : Ends p e below s n0 C S Q T (mkF m pc Ls (.int y :: .int x :: stk)) := by
  obtain ⟨locs, Y, hx, hZ, hc, ho, hr, hm, hn, hk, hh, hF, h0⟩ := X
  subst hp
  exact k.by fun _ kt => XS.ishr Y.here hx rfl (hb hc hd) rfl (hz ▸ kt)
theorem F_iushr (X : St p l e R s m args below meth c Z code own ret ml nm n0 T h cells slots) {x y z : Int32} (hd : decode code pc = .ok (.iushr, 1)) (hz : (x.toUInt32 >>> (y &&& 31).toUInt32).toInt32 = z) (hp : pc + 1 = pc') (k : Ends p e below s n0 C S Q T (mkF m pc' Ls (.int z :: stk))) : Ends p e below s n0 C S Q T (mkF m pc Ls (.int y :: .int x :: stk)) := by
  obtain ⟨locs, Y, hx, hZ, hc, ho, hr, hm, hn, hk, hh, hF, h0⟩ := X
  subst hp
  exact k.by fun _ kt => XS.iushr Y.here hx rfl (hb hc hd) rfl (hz ▸ kt)
theorem F_idiv (X : St p l e R s m args below meth c Z code own ret ml nm n0 T h cells slots) {x y z : Int32} (hd : decode code pc = .ok (.idiv, 1)) (hy : y ≠ 0) (hz : x / y = z) (hp : pc + 1 = pc') (k : Ends p e below s n0 C S Q T (mkF m pc' Ls (.int z :: stk))) : Ends p e below s n0 C S Q T (mkF m pc Ls (.int y :: .int x :: stk)) := by
  obtain ⟨locs, Y, hx, hZ, hc, ho, hr, hm, hn, hk, hh, hF, h0⟩ := X
  subst hp
  exact k.by fun _ kt => XS.idiv Y.here hx rfl (hb hc hd) rfl hy (hz ▸ kt)
theorem F_irem (X : St p l e R s m args below meth c Z code own ret ml nm n0 T h cells slots) {x y z : Int32} (hd : decode code pc = .ok (.irem, 1)) (hy : y ≠ 0) (hz : x % y = z) (hp : pc + 1 = pc') (k : Ends p e below s n0 C S Q T (mkF m pc' Ls (.int z :: stk))) : Ends p e below s n0 C S Q T (mkF m pc Ls (.int y :: .int x :: stk)) := by
  obtain ⟨locs, Y, hx, hZ, hc, ho, hr, hm, hn, hk, hh, hF, h0⟩ := X
  subst hp
  exact k.by fun _ kt => iremM Y hx rfl (hb hc hd) rfl hy (hz ▸ kt)
theorem F_ineg (X : St p l e R s m args below meth c Z code own ret ml nm n0 T h cells slots) {x z : Int32} (hd : decode code pc = .ok (.ineg, 1)) (hz : -x = z) (hp : pc + 1 = pc') (k : Ends p e below s n0 C S Q T (mkF m pc' Ls (.int z :: stk))) : Ends p e below s n0 C S Q T (mkF m pc Ls (.int x :: stk)) := by
  obtain ⟨locs, Y, hx, hZ, hc, ho, hr, hm, hn, hk, hh, hF, h0⟩ := X
  subst hp
  exact k.by fun _ kt => XS.ineg Y.here hx rfl (hb hc hd) rfl (hz ▸ kt)
theorem F_ladd (X : St p l e R s m args below meth c Z code own ret ml nm n0 T h cells slots) {x y z : Int64} (hd : decode code pc = .ok (.ladd, 1)) (hz : x + y = z) (hp : pc + 1 = pc') (k : Ends p e below s n0 C S Q T (mkF m pc' Ls (.long z :: stk))) : Ends p e below s n0 C S Q T (mkF m pc Ls (.long y :: .long x :: stk)) := by
  obtain ⟨locs, Y, hx, hZ, hc, ho, hr, hm, hn, hk, hh, hF, h0⟩ := X
  subst hp
  exact k.by fun _ kt => XS.ladd Y.here hx rfl (hb hc hd) rfl (hz ▸ kt)
theorem F_lsub (X : St p l e R s m args below meth c Z code own ret ml nm n0 T h cells slots) {x y z : Int64} (hd : decode code pc = .ok (.lsub, 1)) (hz : x - y = z) (hp : pc + 1 = pc') (k : Ends p e below s n0 C S Q T (mkF m pc' Ls (.long z :: stk))) : Ends p e below s n0 C S Q T (mkF m pc Ls (.long y :: .long x :: stk)) := by
  obtain ⟨locs, Y, hx, hZ, hc, ho, hr, hm, hn, hk, hh, hF, h0⟩ := X
  subst hp
  exact k.by fun _ kt => XS.lsub Y.here hx rfl (hb hc hd) rfl (hz ▸ kt)
theorem F_lmul (X : St p l e R s m args below meth c Z code own ret ml nm n0 T h cells slots) {x y z : Int64} (hd : decode code pc = .ok (.lmul, 1)) (hz : x * y = z) (hp : pc + 1 = pc') (k : Ends p e below s n0 C S Q T (mkF m pc' Ls (.long z :: stk))) : Ends p e below s n0 C S Q T (mkF m pc Ls (.long y :: .long x :: stk)) := by
  obtain ⟨locs, Y, hx, hZ, hc, ho, hr, hm, hn, hk, hh, hF, h0⟩ := X
  subst hp
  exact k.by fun _ kt => XS.lmul Y.here hx rfl (hb hc hd) rfl (hz ▸ kt)
theorem F_land (X : St p l e R s m args below meth c Z code own ret ml nm n0 T h cells slots) {x y z : Int64} (hd : decode code pc = .ok (.land, 1)) (hz : x &&& y = z) (hp : pc + 1 = pc') (k : Ends p e below s n0 C S Q T (mkF m pc' Ls (.long z :: stk))) : Ends p e below s n0 C S Q T (mkF m pc Ls (.long y :: .long x :: stk)) := by
  obtain ⟨locs, Y, hx, hZ, hc, ho, hr, hm, hn, hk, hh, hF, h0⟩ := X
  subst hp
  exact k.by fun _ kt => XS.land Y.here hx rfl (hb hc hd) rfl (hz ▸ kt)
theorem F_lor (X : St p l e R s m args below meth c Z code own ret ml nm n0 T h cells slots) {x y z : Int64} (hd : decode code pc = .ok (.lor, 1)) (hz : x ||| y = z) (hp : pc + 1 = pc') (k : Ends p e below s n0 C S Q T (mkF m pc' Ls (.long z :: stk))) : Ends p e below s n0 C S Q T (mkF m pc Ls (.long y :: .long x :: stk)) := by
  obtain ⟨locs, Y, hx, hZ, hc, ho, hr, hm, hn, hk, hh, hF, h0⟩ := X
  subst hp
  exact k.by fun _ kt => XS.lor Y.here hx rfl (hb hc hd) rfl (hz ▸ kt)
theorem F_lxor (X : St p l e R s m args below meth c Z code own ret ml nm n0 T h cells slots) {x y z : Int64} (hd : decode code pc = .ok (.lxor, 1)) (hz : x ^^^ y = z) (hp : pc + 1 = pc') (k : Ends p e below s n0 C S Q T (mkF m pc' Ls (.long z :: stk))) : Ends p e below s n0 C S Q T (mkF m pc Ls (.long y :: .long x :: stk)) := by
  obtain ⟨locs, Y, hx, hZ, hc, ho, hr, hm, hn, hk, hh, hF, h0⟩ := X
  subst hp
  exact k.by fun _ kt => XS.lxor Y.here hx rfl (hb hc hd) rfl (hz ▸ kt)
theorem F_lshl (X : St p l e R s m args below meth c Z code own ret ml nm n0 T h cells slots) {x z : Int64} {y : Int32} (hd : decode code pc = .ok (.lshl, 1)) (hz : x <<< (y &&& 0x3f).toInt64 = z) (hp : pc + 1 = pc') (k : Ends p e below s n0 C S Q T (mkF m pc' Ls (.long z :: stk))) : Ends p e below s n0 C S Q T (mkF m pc Ls (.int y :: .long x :: stk)) := by
  obtain ⟨locs, Y, hx, hZ, hc, ho, hr, hm, hn, hk, hh, hF, h0⟩ := X
  subst hp
  exact k.by fun _ kt => XS.lshl Y.here hx rfl (hb hc hd) rfl (hz ▸ kt)
theorem F_lshr (X : St p l e R s m args below meth c Z code own ret ml nm n0 T h cells slots) {x z : Int64} {y : Int32} (hd : decode code pc = .ok (.lshr, 1)) (hz : x >>> (y &&& 0x3f).toInt64 = z) (hp : pc + 1 = pc') (k : Ends p e below s n0 C S Q T (mkF m pc' Ls (.long z :: stk))) : Ends p e below s n0 C S Q T (mkF m pc Ls (.int y :: .long x :: stk)) := by
  obtain ⟨locs, Y, hx, hZ, hc, ho, hr, hm, hn, hk, hh, hF, h0⟩ := X
  subst hp
  exact k.by fun _ kt => XS.lshr Y.here hx rfl (hb hc hd) rfl (hz ▸ kt)
theorem F_lushr (X : St p l e R s m args below meth c Z code own ret ml nm n0 T h cells slots) {x z : Int64} {y : Int32} (hd : decode code pc = .ok (.lushr, 1)) (hz : (x.toUInt64 >>> (y &&& 0x3f).toInt64.toUInt64).toInt64 = z) (hp : pc + 1 = pc') (k : Ends p e below s n0 C S Q T (mkF m pc' Ls (.long z :: stk))) : Ends p e below s n0 C S Q T (mkF m pc Ls (.int y :: .long x :: stk)) := by
  obtain ⟨locs, Y, hx, hZ, hc, ho, hr, hm, hn, hk, hh, hF, h0⟩ := X
  subst hp
  exact k.by fun _ kt => XS.lushr Y.here hx rfl (hb hc hd) rfl (hz ▸ kt)
theorem F_ldiv (X : St p l e R s m args below meth c Z code own ret ml nm n0 T h cells slots) {x y z : Int64} (hd : decode code pc = .ok (.ldiv, 1)) (hy : y ≠ 0) (hz : x / y = z) (hp : pc + 1 = pc') (k : Ends p e below s n0 C S Q T (mkF m pc' Ls (.long z :: stk))) : Ends p e below s n0 C S Q T (mkF m pc Ls (.long y :: .long x :: stk)) := by
  obtain ⟨locs, Y, hx, hZ, hc, ho, hr, hm, hn, hk, hh, hF, h0⟩ := X
  subst hp
  exact k.by fun _ kt => XS.ldiv Y.here hx rfl (hb hc hd) rfl hy (hz ▸ kt)
theorem F_lrem (X : St p l e R s m args below meth c Z code own ret ml nm n0 T h cells slots) {x y z : Int64} (hd : decode code pc = .ok (.lrem, 1)) (hy : y ≠ 0) (hz : x - (x / y) * y = z) (hp : pc + 1 = pc') (k : Ends p e below s n0 C S Q T (mkF m pc' Ls (.long z :: stk))) : Ends p e below s n0 C S Q T (mkF m pc Ls (.long y :: .long x :: stk)) := by
  obtain ⟨locs, Y, hx, hZ, hc, ho, hr, hm, hn, hk, hh, hF, h0⟩ := X
  subst hp
  exact k.by fun _ kt => XS.lrem Y.here hx rfl (hb hc hd) rfl hy (hz ▸ kt)
theorem F_i2l (X : St p l e R s m args below meth c Z code own ret ml nm n0 T h cells slots) {x : Int32} {z : Int64} (hd : decode code pc = .ok (.i2l, 1)) (hz : x.toInt64 = z) (hp : pc + 1 = pc') (k : Ends p e below s n0 C S Q T (mkF m pc' Ls (.long z :: stk))) : Ends p e below s n0 C S Q T (mkF m pc Ls (.int x :: stk)) := by
  obtain ⟨locs, Y, hx, hZ, hc, ho, hr, hm, hn, hk, hh, hF, h0⟩ := X
  subst hp
  exact k.by fun _ kt => XS.i2l Y.here hx rfl (hb hc hd) rfl (hz ▸ kt)
theorem F_l2i (X : St p l e R s m args below meth c Z code own ret ml nm n0 T h cells slots) {x : Int64} {z : Int32} (hd : decode code pc = .ok (.l2i, 1)) (hz : x.toInt32 = z) (hp : pc + 1 = pc') (k : Ends p e below s n0 C S Q T (mkF m pc' Ls (.int z :: stk))) : Ends p e below s n0 C S Q T (mkF m pc Ls (.long x :: stk)) := by
  obtain ⟨locs, Y, hx, hZ, hc, ho, hr, hm, hn, hk, hh, hF, h0⟩ := X
  subst hp
  exact k.by fun _ kt => XS.l2i Y.here hx rfl (hb hc hd) rfl (hz ▸ kt)
theorem F_i2b (X : St p l e R s m args below meth c Z code own ret ml nm n0 T h cells slots) {x : Int32} {z : Int32} (hd : decode code pc = .ok (.i2b, 1)) (hz : x.toInt8.toInt32 = z) (hp : pc + 1 = pc') (k : Ends p e below s n0 C S Q T (mkF m pc' Ls (.int z :: stk))) : Ends p e below s n0 C S Q T (mkF m pc Ls (.int x :: stk)) := by
  obtain ⟨locs, Y, hx, hZ, hc, ho, hr, hm, hn, hk, hh, hF, h0⟩ := X
  subst hp
  exact k.by fun _ kt => XS.i2b Y.here hx rfl (hb hc hd) rfl (hz ▸ kt)
theorem F_i2c (X : St p l e R s m args below meth c Z code own ret ml nm n0 T h cells slots) {x : Int32} {z : Int32} (hd : decode code pc = .ok (.i2c, 1)) (hz : x.toUInt32.toUInt16.toUInt32.toInt32 = z) (hp : pc + 1 = pc') (k : Ends p e below s n0 C S Q T (mkF m pc' Ls (.int z :: stk))) : Ends p e below s n0 C S Q T (mkF m pc Ls (.int x :: stk)) := by
  obtain ⟨locs, Y, hx, hZ, hc, ho, hr, hm, hn, hk, hh, hF, h0⟩ := X
  subst hp
  exact k.by fun _ kt => XS.i2c Y.here hx rfl (hb hc hd) rfl (hz ▸ kt)
theorem F_i2s (X : St p l e R s m args below meth c Z code own ret ml nm n0 T h cells slots) {x : Int32} {z : Int32} (hd : decode code pc = .ok (.i2s, 1)) (hz : x.toInt16.toInt32 = z) (hp : pc + 1 = pc') (k : Ends p e below s n0 C S Q T (mkF m pc' Ls (.int z :: stk))) : Ends p e below s n0 C S Q T (mkF m pc Ls (.int x :: stk)) := by
  obtain ⟨locs, Y, hx, hZ, hc, ho, hr, hm, hn, hk, hh, hF, h0⟩ := X
  subst hp
  exact k.by fun _ kt => XS.i2s Y.here hx rfl (hb hc hd) rfl (hz ▸ kt)
theorem F_iinc (X : St p l e R s m args below meth c Z code own ret ml nm n0 T h cells slots) {k : Nat} {i : Int} {v : Int32} {Ls' : Array Slot} (hd : decode code pc = .ok (.iinc k i, 3)) (hl : Ls[k]? = some (.val (.int v))) (hl' : storeLocals Ls k (.int (v + Int32.ofInt i)) = some Ls') (hp : pc + 3 = pc') (k : Ends p e below s n0 C S Q T (mkF m pc' Ls' stk)) : Ends p e below s n0 C S Q T (mkF m pc Ls stk) := by
  obtain ⟨locs, Y, hx, hZ, hc, ho, hr, hm, hn, hk, hh, hF, h0⟩ := X
  subst hp
  exact k.by fun _ kt => XS.iinc Y.here hx rfl (hb hc hd) hl hl' kt
theorem F_dup (X : St p l e R s m args below meth c Z code own ret ml nm n0 T h cells slots) {v : Value} (hd : decode code pc = .ok (.dup, 1)) (hv : v.category = 1) (hp : pc + 1 = pc') (k : Ends p e below s n0 C S Q T (mkF m pc' Ls (v :: v :: stk))) : Ends p e below s n0 C S Q T (mkF m pc Ls (v :: stk)) := by
  obtain ⟨locs, Y, hx, hZ, hc, ho, hr, hm, hn, hk, hh, hF, h0⟩ := X
  subst hp
  exact k.by fun _ kt => XS.dup Y.here hx rfl (hb hc hd) rfl hv kt
theorem F_dup_x1 (X : St p l e R s m args below meth c Z code own ret ml nm n0 T h cells slots) {v w : Value} (hd : decode code pc = .ok (.dup_x1, 1)) (hv : v.category = 1) (hw : w.category = 1) (hp : pc + 1 = pc') (k : Ends p e below s n0 C S Q T (mkF m pc' Ls (v :: w :: v :: stk))) : Ends p e below s n0 C S Q T (mkF m pc Ls (v :: w :: stk)) := by
  obtain ⟨locs, Y, hx, hZ, hc, ho, hr, hm, hn, hk, hh, hF, h0⟩ := X
  subst hp
  exact k.by fun _ kt => XS.dupX1 Y.here hx rfl (hb hc hd) rfl hv hw kt
theorem F_dup2 (X : St p l e R s m args below meth c Z code own ret ml nm n0 T h cells slots) {v w : Value} (hd : decode code pc = .ok (.dup2, 1)) (hv : v.category = 1) (hw : w.category = 1) (hp : pc + 1 = pc') (k : Ends p e below s n0 C S Q T (mkF m pc' Ls (v :: w :: v :: w :: stk))) : Ends p e below s n0 C S Q T (mkF m pc Ls (v :: w :: stk)) := by
  obtain ⟨locs, Y, hx, hZ, hc, ho, hr, hm, hn, hk, hh, hF, h0⟩ := X
  subst hp
  exact k.by fun _ kt => XT.dup2 Y.here hx rfl (hb hc hd) rfl hv hw kt
theorem F_pop (X : St p l e R s m args below meth c Z code own ret ml nm n0 T h cells slots) {v : Value} (hd : decode code pc = .ok (.pop, 1)) (hv : v.category = 1) (hp : pc + 1 = pc') (k : Ends p e below s n0 C S Q T (mkF m pc' Ls stk)) : Ends p e below s n0 C S Q T (mkF m pc Ls (v :: stk)) := by
  obtain ⟨locs, Y, hx, hZ, hc, ho, hr, hm, hn, hk, hh, hF, h0⟩ := X
  subst hp
  exact k.by fun _ kt => XS.pop Y.here hx rfl (hb hc hd) rfl hv kt
theorem F_lcmp (X : St p l e R s m args below meth c Z code own ret ml nm n0 T h cells slots) {x y : Int64} (hd : decode code pc = .ok (.lcmp, 1)) (hp : pc + 1 = pc') (k : Ends p e below s n0 C S Q T (mkF m pc' Ls (.int (lcmpW x y) :: stk))) : Ends p e below s n0 C S Q T (mkF m pc Ls (.long y :: .long x :: stk)) := by
  obtain ⟨locs, Y, hx, hZ, hc, ho, hr, hm, hn, hk, hh, hF, h0⟩ := X
  subst hp
  exact k.by fun _ kt => XS.lcmp Y.here hx rfl (hb hc hd) rfl kt
theorem F_goto (X : St p l e R s m args below meth c Z code own ret ml nm n0 T h cells slots) {o : Int} (hd : decode code pc = .ok (.goto o, 3)) (hof : 0 ≤ (pc : Int) + o) (hp : ((pc : Int) + o).toNat = pc') (k : Ends p e below s n0 C S Q T (mkF m pc' Ls stk)) : Ends p e below s n0 C S Q T (mkF m pc Ls stk) := by
  obtain ⟨locs, Y, hx, hZ, hc, ho, hr, hm, hn, hk, hh, hF, h0⟩ := X
  exact k.by fun _ kt => XS.goto Y.here hx rfl rfl (hb hc hd) hof hp kt
theorem F_icmp_lt (X : St p l e R s m args below meth c Z code own ret ml nm n0 T h cells slots) {x y : Int32} {o : Int} {pt : Nat} (hd : decode code pc = .ok (.if_icmp .lt o, 3)) (hof : 0 ≤ (pc : Int) + o) (hp : ((pc : Int) + o).toNat = pt) (hq : pc + 3 = pc') (kt : (x < y) → Ends p e below s n0 C S Q T (mkF m pt Ls stk)) (kf : ¬ (x < y) → Ends p e below s n0 C S Q T (mkF m pc' Ls stk)) : Ends p e below s n0 C S Q T (mkF m pc Ls (.int y :: .int x :: stk)) := by
  obtain ⟨locs, Y, hx, hZ, hc, ho, hr, hm, hn, hk, hh, hF, h0⟩ := X
  subst hq
  by_cases q : x < y
  · exact (kt q).by fun _ z => XS.icmpYes Y.here hx rfl rfl (hb hc hd) rfl (tlt q).1 hof hp z
  · exact (kf q).by fun _ z => XS.icmpNo Y.here hx rfl (hb hc hd) rfl (flt q).1 z
theorem F_if_lt (X : St p l e R s m args below meth c Z code own ret ml nm n0 T h cells slots) {x : Int32} {o : Int} {pt : Nat} (hd : decode code pc = .ok (.ifCond .lt o, 3)) (hof : 0 ≤ (pc : Int) + o) (hp : ((pc : Int) + o).toNat = pt) (hq : pc + 3 = pc') (kt : (x < 0) → Ends p e below s n0 C S Q T (mkF m pt Ls stk)) (kf : ¬ (x < 0) → Ends p e below s n0 C S Q T (mkF m pc' Ls stk)) : Ends p e below s n0 C S Q T (mkF m pc Ls (.int x :: stk)) := by
  obtain ⟨locs, Y, hx, hZ, hc, ho, hr, hm, hn, hk, hh, hF, h0⟩ := X
  subst hq
  by_cases q : x < 0
  · exact (kt q).by fun _ z => XS.ifYes Y.here hx rfl rfl (hb hc hd) rfl ((if0 _ _).trans (tlt q).1) hof hp z
  · exact (kf q).by fun _ z => XS.ifNo Y.here hx rfl (hb hc hd) rfl ((if0 _ _).trans (flt q).1) z
theorem F_lif_lt (X : St p l e R s m args below meth c Z code own ret ml nm n0 T h cells slots) {x y : Int64} {o : Int} {pt : Nat} (hd : decode code pc = .ok (.ifCond .lt o, 3)) (hof : 0 ≤ (pc : Int) + o) (hp : ((pc : Int) + o).toNat = pt) (hq : pc + 3 = pc') (kt : (x < y) → Ends p e below s n0 C S Q T (mkF m pt Ls stk)) (kf : ¬ (x < y) → Ends p e below s n0 C S Q T (mkF m pc' Ls stk)) : Ends p e below s n0 C S Q T (mkF m pc Ls (.int (lcmpW x y) :: stk)) := by
  obtain ⟨locs, Y, hx, hZ, hc, ho, hr, hm, hn, hk, hh, hF, h0⟩ := X
  subst hq
  by_cases q : x < y
  · exact (kt q).by fun _ z => XS.ifYes Y.here hx rfl rfl (hb hc hd) rfl ((if0 _ _).trans (tlt ((lw_lt _ _).mpr q)).1) hof hp z
  · exact (kf q).by fun _ z => XS.ifNo Y.here hx rfl (hb hc hd) rfl ((if0 _ _).trans (flt (fun z => q ((lw_lt _ _).mp z))).1) z
theorem F_icmp_ge (X : St p l e R s m args below meth c Z code own ret ml nm n0 T h cells slots) {x y : Int32} {o : Int} {pt : Nat} (hd : decode code pc = .ok (.if_icmp .ge o, 3)) (hof : 0 ≤ (pc : Int) + o) (hp : ((pc : Int) + o).toNat = pt) (hq : pc + 3 = pc') (kt : ¬ (x < y) → Ends p e below s n0 C S Q T (mkF m pt Ls stk)) (kf : (x < y) → Ends p e below s n0 C S Q T (mkF m pc' Ls stk)) : Ends p e below s n0 C S Q T (mkF m pc Ls (.int y :: .int x :: stk)) := by
  obtain ⟨locs, Y, hx, hZ, hc, ho, hr, hm, hn, hk, hh, hF, h0⟩ := X
  subst hq
  by_cases q : x < y
  · exact (kf q).by fun _ z => XS.icmpNo Y.here hx rfl (hb hc hd) rfl (tlt q).2.1 z
  · exact (kt q).by fun _ z => XS.icmpYes Y.here hx rfl rfl (hb hc hd) rfl (flt q).2.1 hof hp z
theorem F_if_ge (X : St p l e R s m args below meth c Z code own ret ml nm n0 T h cells slots) {x : Int32} {o : Int} {pt : Nat} (hd : decode code pc = .ok (.ifCond .ge o, 3)) (hof : 0 ≤ (pc : Int) + o) (hp : ((pc : Int) + o).toNat = pt) (hq : pc + 3 = pc') (kt : ¬ (x < 0) → Ends p e below s n0 C S Q T (mkF m pt Ls stk)) (kf : (x < 0) → Ends p e below s n0 C S Q T (mkF m pc' Ls stk)) : Ends p e below s n0 C S Q T (mkF m pc Ls (.int x :: stk)) := by
  obtain ⟨locs, Y, hx, hZ, hc, ho, hr, hm, hn, hk, hh, hF, h0⟩ := X
  subst hq
  by_cases q : x < 0
  · exact (kf q).by fun _ z => XS.ifNo Y.here hx rfl (hb hc hd) rfl ((if0 _ _).trans (tlt q).2.1) z
  · exact (kt q).by fun _ z => XS.ifYes Y.here hx rfl rfl (hb hc hd) rfl ((if0 _ _).trans (flt q).2.1) hof hp z
theorem F_lif_ge (X : St p l e R s m args below meth c Z code own ret ml nm n0 T h cells slots) {x y : Int64} {o : Int} {pt : Nat} (hd : decode code pc = .ok (.ifCond .ge o, 3)) (hof : 0 ≤ (pc : Int) + o) (hp : ((pc : Int) + o).toNat = pt) (hq : pc + 3 = pc') (kt : ¬ (x < y) → Ends p e below s n0 C S Q T (mkF m pt Ls stk)) (kf : (x < y) → Ends p e below s n0 C S Q T (mkF m pc' Ls stk)) : Ends p e below s n0 C S Q T (mkF m pc Ls (.int (lcmpW x y) :: stk)) := by
  obtain ⟨locs, Y, hx, hZ, hc, ho, hr, hm, hn, hk, hh, hF, h0⟩ := X
  subst hq
  by_cases q : x < y
  · exact (kf q).by fun _ z => XS.ifNo Y.here hx rfl (hb hc hd) rfl ((if0 _ _).trans (tlt ((lw_lt _ _).mpr q)).2.1) z
  · exact (kt q).by fun _ z => XS.ifYes Y.here hx rfl rfl (hb hc hd) rfl ((if0 _ _).trans (flt (fun z => q ((lw_lt _ _).mp z))).2.1) hof hp z
theorem F_icmp_gt (X : St p l e R s m args below meth c Z code own ret ml nm n0 T h cells slots) {x y : Int32} {o : Int} {pt : Nat} (hd : decode code pc = .ok (.if_icmp .gt o, 3)) (hof : 0 ≤ (pc : Int) + o) (hp : ((pc : Int) + o).toNat = pt) (hq : pc + 3 = pc') (kt : (y < x) → Ends p e below s n0 C S Q T (mkF m pt Ls stk)) (kf : ¬ (y < x) → Ends p e below s n0 C S Q T (mkF m pc' Ls stk)) : Ends p e below s n0 C S Q T (mkF m pc Ls (.int y :: .int x :: stk)) := by
  obtain ⟨locs, Y, hx, hZ, hc, ho, hr, hm, hn, hk, hh, hF, h0⟩ := X
  subst hq
  by_cases q : y < x
  · exact (kt q).by fun _ z => XS.icmpYes Y.here hx rfl rfl (hb hc hd) rfl (tlt q).2.2.1 hof hp z
  · exact (kf q).by fun _ z => XS.icmpNo Y.here hx rfl (hb hc hd) rfl (flt q).2.2.1 z
theorem F_if_gt (X : St p l e R s m args below meth c Z code own ret ml nm n0 T h cells slots) {x : Int32} {o : Int} {pt : Nat} (hd : decode code pc = .ok (.ifCond .gt o, 3)) (hof : 0 ≤ (pc : Int) + o) (hp : ((pc : Int) + o).toNat = pt) (hq : pc + 3 = pc') (kt : (0 < x) → Ends p e below s n0 C S Q T (mkF m pt Ls stk)) (kf : ¬ (0 < x) → Ends p e below s n0 C S Q T (mkF m pc' Ls stk)) : Ends p e below s n0 C S Q T (mkF m pc Ls (.int x :: stk)) := by
  obtain ⟨locs, Y, hx, hZ, hc, ho, hr, hm, hn, hk, hh, hF, h0⟩ := X
  subst hq
  by_cases q : 0 < x
  · exact (kt q).by fun _ z => XS.ifYes Y.here hx rfl rfl (hb hc hd) rfl ((if0 _ _).trans (tlt q).2.2.1) hof hp z
  · exact (kf q).by fun _ z => XS.ifNo Y.here hx rfl (hb hc hd) rfl ((if0 _ _).trans (flt q).2.2.1) z
theorem F_lif_gt (X : St p l e R s m args below meth c Z code own ret ml nm n0 T h cells slots) {x y : Int64} {o : Int} {pt : Nat} (hd : decode code pc = .ok (.ifCond .gt o, 3)) (hof : 0 ≤ (pc : Int) + o) (hp : ((pc : Int) + o).toNat = pt) (hq : pc + 3 = pc') (kt : (y < x) → Ends p e below s n0 C S Q T (mkF m pt Ls stk)) (kf : ¬ (y < x) → Ends p e below s n0 C S Q T (mkF m pc' Ls stk)) : Ends p e below s n0 C S Q T (mkF m pc Ls (.int (lcmpW x y) :: stk)) := by
  obtain ⟨locs, Y, hx, hZ, hc, ho, hr, hm, hn, hk, hh, hF, h0⟩ := X
  subst hq
  by_cases q : y < x
  · exact (kt q).by fun _ z => XS.ifYes Y.here hx rfl rfl (hb hc hd) rfl ((if0 _ _).trans (tlt ((lw_gt _ _).mpr q)).2.2.1) hof hp z
  · exact (kf q).by fun _ z => XS.ifNo Y.here hx rfl (hb hc hd) rfl ((if0 _ _).trans (flt (fun z => q ((lw_gt _ _).mp z))).2.2.1) z
theorem F_icmp_le (X : St p l e R s m args below meth c Z code own ret ml nm n0 T h cells slots) {x y : Int32} {o : Int} {pt : Nat} (hd : decode code pc = .ok (.if_icmp .le o, 3)) (hof : 0 ≤ (pc : Int) + o) (hp : ((pc : Int) + o).toNat = pt) (hq : pc + 3 = pc') (kt : ¬ (y < x) → Ends p e below s n0 C S Q T (mkF m pt Ls stk)) (kf : (y < x) → Ends p e below s n0 C S Q T (mkF m pc' Ls stk)) : Ends p e below s n0 C S Q T (mkF m pc Ls (.int y :: .int x :: stk)) := by
  obtain ⟨locs, Y, hx, hZ, hc, ho, hr, hm, hn, hk, hh, hF, h0⟩ := X
  subst hq
  by_cases q : y < x
  · exact (kf q).by fun _ z => XS.icmpNo Y.here hx rfl (hb hc hd) rfl (tlt q).2.2.2 z
  · exact (kt q).by fun _ z => XS.icmpYes Y.here hx rfl rfl (hb hc hd) rfl (flt q).2.2.2 hof hp z
theorem F_if_le (X : St p l e R s m args below meth c Z code own ret ml nm n0 T h cells slots) {x : Int32} {o : Int} {pt : Nat} (hd : decode code pc = .ok (.ifCond .le o, 3)) (hof : 0 ≤ (pc : Int) + o) (hp : ((pc : Int) + o).toNat = pt) (hq : pc + 3 = pc') (kt : ¬ (0 < x) → Ends p e below s n0 C S Q T (mkF m pt Ls stk)) (kf : (0 < x) → Ends p e below s n0 C S Q T (mkF m pc' Ls stk)) : Ends p e below s n0 C S Q T (mkF m pc Ls (.int x :: stk)) := by
  obtain ⟨locs, Y, hx, hZ, hc, ho, hr, hm, hn, hk, hh, hF, h0⟩ := X
  subst hq
  by_cases q : 0 < x
  · exact (kf q).by fun _ z => XS.ifNo Y.here hx rfl (hb hc hd) rfl ((if0 _ _).trans (tlt q).2.2.2) z
  · exact (kt q).by fun _ z => XS.ifYes Y.here hx rfl rfl (hb hc hd) rfl ((if0 _ _).trans (flt q).2.2.2) hof hp z
theorem F_lif_le (X : St p l e R s m args below meth c Z code own ret ml nm n0 T h cells slots) {x y : Int64} {o : Int} {pt : Nat} (hd : decode code pc = .ok (.ifCond .le o, 3)) (hof : 0 ≤ (pc : Int) + o) (hp : ((pc : Int) + o).toNat = pt) (hq : pc + 3 = pc') (kt : ¬ (y < x) → Ends p e below s n0 C S Q T (mkF m pt Ls stk)) (kf : (y < x) → Ends p e below s n0 C S Q T (mkF m pc' Ls stk)) : Ends p e below s n0 C S Q T (mkF m pc Ls (.int (lcmpW x y) :: stk)) := by
  obtain ⟨locs, Y, hx, hZ, hc, ho, hr, hm, hn, hk, hh, hF, h0⟩ := X
  subst hq
  by_cases q : y < x
  · exact (kf q).by fun _ z => XS.ifNo Y.here hx rfl (hb hc hd) rfl ((if0 _ _).trans (tlt ((lw_gt _ _).mpr q)).2.2.2) z
  · exact (kt q).by fun _ z => XS.ifYes Y.here hx rfl rfl (hb hc hd) rfl ((if0 _ _).trans (flt (fun z => q ((lw_gt _ _).mp z))).2.2.2) hof hp z
theorem F_icmp_eq (X : St p l e R s m args below meth c Z code own ret ml nm n0 T h cells slots) {x y : Int32} {o : Int} {pt : Nat} (hd : decode code pc = .ok (.if_icmp .eq o, 3)) (hof : 0 ≤ (pc : Int) + o) (hp : ((pc : Int) + o).toNat = pt) (hq : pc + 3 = pc') (kt : (x = y) → Ends p e below s n0 C S Q T (mkF m pt Ls stk)) (kf : ¬ (x = y) → Ends p e below s n0 C S Q T (mkF m pc' Ls stk)) : Ends p e below s n0 C S Q T (mkF m pc Ls (.int y :: .int x :: stk)) := by
  obtain ⟨locs, Y, hx, hZ, hc, ho, hr, hm, hn, hk, hh, hF, h0⟩ := X
  subst hq
  by_cases q : x = y
  · exact (kt q).by fun _ z => XS.icmpYes Y.here hx rfl rfl (hb hc hd) rfl (teq q).1 hof hp z
  · exact (kf q).by fun _ z => XS.icmpNo Y.here hx rfl (hb hc hd) rfl (feq q).1 z
theorem F_if_eq (X : St p l e R s m args below meth c Z code own ret ml nm n0 T h cells slots) {x : Int32} {o : Int} {pt : Nat} (hd : decode code pc = .ok (.ifCond .eq o, 3)) (hof : 0 ≤ (pc : Int) + o) (hp : ((pc : Int) + o).toNat = pt) (hq : pc + 3 = pc') (kt : (x = 0) → Ends p e below s n0 C S Q T (mkF m pt Ls stk)) (kf : ¬ (x = 0) → Ends p e below s n0 C S Q T (mkF m pc' Ls stk)) : Ends p e below s n0 C S Q T (mkF m pc Ls (.int x :: stk)) := by
  obtain ⟨locs, Y, hx, hZ, hc, ho, hr, hm, hn, hk, hh, hF, h0⟩ := X
  subst hq
  by_cases q : x = 0
  · exact (kt q).by fun _ z => XS.ifYes Y.here hx rfl rfl (hb hc hd) rfl ((if0 _ _).trans (teq q).1) hof hp z
  · exact (kf q).by fun _ z => XS.ifNo Y.here hx rfl (hb hc hd) rfl ((if0 _ _).trans (feq q).1) z
theorem F_lif_eq (X : St p l e R s m args below meth c Z code own ret ml nm n0 T h cells slots) {x y : Int64} {o : Int} {pt : Nat} (hd : decode code pc = .ok (.ifCond .eq o, 3)) (hof : 0 ≤ (pc : Int) + o) (hp : ((pc : Int) + o).toNat = pt) (hq : pc + 3 = pc') (kt : (x = y) → Ends p e below s n0 C S Q T (mkF m pt Ls stk)) (kf : ¬ (x = y) → Ends p e below s n0 C S Q T (mkF m pc' Ls stk)) : Ends p e below s n0 C S Q T (mkF m pc Ls (.int (lcmpW x y) :: stk)) := by
  obtain ⟨locs, Y, hx, hZ, hc, ho, hr, hm, hn, hk, hh, hF, h0⟩ := X
  subst hq
  by_cases q : x = y
  · exact (kt q).by fun _ z => XS.ifYes Y.here hx rfl rfl (hb hc hd) rfl ((if0 _ _).trans (teq ((lw_eq _ _).mpr q)).1) hof hp z
  · exact (kf q).by fun _ z => XS.ifNo Y.here hx rfl (hb hc hd) rfl ((if0 _ _).trans (feq (fun z => q ((lw_eq _ _).mp z))).1) z
theorem F_icmp_ne (X : St p l e R s m args below meth c Z code own ret ml nm n0 T h cells slots) {x y : Int32} {o : Int} {pt : Nat} (hd : decode code pc = .ok (.if_icmp .ne o, 3)) (hof : 0 ≤ (pc : Int) + o) (hp : ((pc : Int) + o).toNat = pt) (hq : pc + 3 = pc') (kt : ¬ (x = y) → Ends p e below s n0 C S Q T (mkF m pt Ls stk)) (kf : (x = y) → Ends p e below s n0 C S Q T (mkF m pc' Ls stk)) : Ends p e below s n0 C S Q T (mkF m pc Ls (.int y :: .int x :: stk)) := by
  obtain ⟨locs, Y, hx, hZ, hc, ho, hr, hm, hn, hk, hh, hF, h0⟩ := X
  subst hq
  by_cases q : x = y
  · exact (kf q).by fun _ z => XS.icmpNo Y.here hx rfl (hb hc hd) rfl (teq q).2 z
  · exact (kt q).by fun _ z => XS.icmpYes Y.here hx rfl rfl (hb hc hd) rfl (feq q).2 hof hp z
theorem F_if_ne (X : St p l e R s m args below meth c Z code own ret ml nm n0 T h cells slots) {x : Int32} {o : Int} {pt : Nat} (hd : decode code pc = .ok (.ifCond .ne o, 3)) (hof : 0 ≤ (pc : Int) + o) (hp : ((pc : Int) + o).toNat = pt) (hq : pc + 3 = pc') (kt : ¬ (x = 0) → Ends p e below s n0 C S Q T (mkF m pt Ls stk)) (kf : (x = 0) → Ends p e below s n0 C S Q T (mkF m pc' Ls stk)) : Ends p e below s n0 C S Q T (mkF m pc Ls (.int x :: stk)) := by
  obtain ⟨locs, Y, hx, hZ, hc, ho, hr, hm, hn, hk, hh, hF, h0⟩ := X
  subst hq
  by_cases q : x = 0
  · exact (kf q).by fun _ z => XS.ifNo Y.here hx rfl (hb hc hd) rfl ((if0 _ _).trans (teq q).2) z
  · exact (kt q).by fun _ z => XS.ifYes Y.here hx rfl rfl (hb hc hd) rfl ((if0 _ _).trans (feq q).2) hof hp z
theorem F_lif_ne (X : St p l e R s m args below meth c Z code own ret ml nm n0 T h cells slots) {x y : Int64} {o : Int} {pt : Nat} (hd : decode code pc = .ok (.ifCond .ne o, 3)) (hof : 0 ≤ (pc : Int) + o) (hp : ((pc : Int) + o).toNat = pt) (hq : pc + 3 = pc') (kt : ¬ (x = y) → Ends p e below s n0 C S Q T (mkF m pt Ls stk)) (kf : (x = y) → Ends p e below s n0 C S Q T (mkF m pc' Ls stk)) : Ends p e below s n0 C S Q T (mkF m pc Ls (.int (lcmpW x y) :: stk)) := by
  obtain ⟨locs, Y, hx, hZ, hc, ho, hr, hm, hn, hk, hh, hF, h0⟩ := X
  subst hq
  by_cases q : x = y
  · exact (kf q).by fun _ z => XS.ifNo Y.here hx rfl (hb hc hd) rfl ((if0 _ _).trans (teq ((lw_eq _ _).mpr q)).2) z
  · exact (kt q).by fun _ z => XS.ifYes Y.here hx rfl rfl (hb hc hd) rfl ((if0 _ _).trans (feq (fun z => q ((lw_eq _ _).mp z))).2) hof hp z
theorem F_ifnull_null (X : St p l e R s m args below meth c Z code own ret ml nm n0 T h cells slots) {o : Int} {pt : Nat} (hd : decode code pc = .ok (.ifnull o, 3)) (hof : 0 ≤ (pc : Int) + o) (hp : ((pc : Int) + o).toNat = pt) (k : Ends p e below s n0 C S Q T (mkF m pt Ls stk)) : Ends p e below s n0 C S Q T (mkF m pc Ls (.null :: stk)) := by
  obtain ⟨locs, Y, hx, hZ, hc, ho, hr, hm, hn, hk, hh, hF, h0⟩ := X
  exact k.by fun _ z => XS.ifnullYes Y.here hx rfl rfl (hb hc hd) rfl hof hp z
theorem F_ifnull_ref (X : St p l e R s m args below meth c Z code own ret ml nm n0 T h cells slots) {a : Addr} {o : Int} (hd : decode code pc = .ok (.ifnull o, 3)) (hq : pc + 3 = pc') (k : Ends p e below s n0 C S Q T (mkF m pc' Ls stk)) : Ends p e below s n0 C S Q T (mkF m pc Ls (.ref a :: stk)) := by
  obtain ⟨locs, Y, hx, hZ, hc, ho, hr, hm, hn, hk, hh, hF, h0⟩ := X
  subst hq
  exact k.by fun _ z => XS.ifnullNo Y.here hx rfl (hb hc hd) rfl z
theorem F_ifnonnull_null (X : St p l e R s m args below meth c Z code own ret ml nm n0 T h cells slots) {o : Int} (hd : decode code pc = .ok (.ifnonnull o, 3)) (hq : pc + 3 = pc') (k : Ends p e below s n0 C S Q T (mkF m pc' Ls stk)) : Ends p e below s n0 C S Q T (mkF m pc Ls (.null :: stk)) := by
  obtain ⟨locs, Y, hx, hZ, hc, ho, hr, hm, hn, hk, hh, hF, h0⟩ := X
  subst hq
  exact k.by fun _ z => XS.ifnonnullNo Y.here hx rfl (hb hc hd) rfl z
theorem F_ifnonnull_ref (X : St p l e R s m args below meth c Z code own ret ml nm n0 T h cells slots) {a : Addr} {o : Int} {pt : Nat} (hd : decode code pc = .ok (.ifnonnull o, 3)) (hof : 0 ≤ (pc : Int) + o) (hp : ((pc : Int) + o).toNat = pt) (k : Ends p e below s n0 C S Q T (mkF m pt Ls stk)) : Ends p e below s n0 C S Q T (mkF m pc Ls (.ref a :: stk)) := by
  obtain ⟨locs, Y, hx, hZ, hc, ho, hr, hm, hn, hk, hh, hF, h0⟩ := X
  exact k.by fun _ z => XS.ifnonnullYes Y.here hx rfl rfl (hb hc hd) rfl hof hp z
theorem F_acmp (X : St p l e R s m args below meth c Z code own ret ml nm n0 T h cells slots) {cd : ACond} {v w : Value} {o : Int} {same : Bool} (hd : decode code pc = .ok (.if_acmp cd o, 3)) (h1 : v.isRef = true) (h2 : w.isRef = true) (hq : decide (v = w) = same) (hof : 0 ≤ (pc : Int) + o) (hp : pc' = if acV cd same = true then ((pc : Int) + o).toNat else pc + 3) (k : Ends p e below s n0 C S Q T (mkF m pc' Ls stk)) : Ends p e below s n0 C S Q T (mkF m pc Ls (w :: v :: stk)) := by
  obtain ⟨locs, Y, hx, hZ, hc, ho, hr, hm, hn, hk, hh, hF, h0⟩ := X
  exact k.by fun _ z => Jvm.RoadKit.acmp Y hx rfl h1 h2 rfl (hb hc hd) rfl hq hof hp z
variable {a0 : Array Value}
theorem F_ldcInt (X : St p l e R s m args below meth c Z code own ret ml nm n0 T h cells slots) {idx : Nat} {v : Int32} (w : (Cond.constant own idx v).before a0 Z = true) (hd : decode code pc = .ok (.ldc idx, 2)) (hp : pc + 2 = pc') (k : Ends p e below s n0 C S Q T (mkF m pc' Ls (.int v :: stk))) : Ends p e below s n0 C S Q T (mkF m pc Ls stk) := by
  obtain ⟨locs, Y, hx, hZ, hc, ho, hr, hm, hn, hk, hh, hF, h0⟩ := X
  subst hp
  exact k.by (Y.ldcInt hx ho (mvT hZ w) (g := mkF m pc Ls stk) rfl (hb hc hd))
theorem F_ldcwInt (X : St p l e R s m args below meth c Z code own ret ml nm n0 T h cells slots) {idx : Nat} {v : Int32} (w : (Cond.constant own idx v).before a0 Z = true) (hd : decode code pc = .ok (.ldc_w idx, 3)) (hp : pc + 3 = pc') (k : Ends p e below s n0 C S Q T (mkF m pc' Ls (.int v :: stk))) : Ends p e below s n0 C S Q T (mkF m pc Ls stk) := by
  obtain ⟨locs, Y, hx, hZ, hc, ho, hr, hm, hn, hk, hh, hF, h0⟩ := X
  subst hp
  exact k.by (Y.ldcwInt hx ho (mvT hZ w) (g := mkF m pc Ls stk) rfl (hb hc hd))
theorem F_ldc2Long (X : St p l e R s m args below meth c Z code own ret ml nm n0 T h cells slots) {idx : Nat} {v : Int64} (w : (Cond.constantLong own idx v).before a0 Z = true) (hd : decode code pc = .ok (.ldc2_w idx, 3)) (hp : pc + 3 = pc') (k : Ends p e below s n0 C S Q T (mkF m pc' Ls (.long v :: stk))) : Ends p e below s n0 C S Q T (mkF m pc Ls stk) := by
  obtain ⟨locs, Y, hx, hZ, hc, ho, hr, hm, hn, hk, hh, hF, h0⟩ := X
  subst hp
  exact k.by (Y.ldc2Long hx ho (mvT hZ w) (g := mkF m pc Ls stk) rfl (hb hc hd))
theorem F_ldc2Double (X : St p l e R s m args below meth c Z code own ret ml nm n0 T h cells slots) {idx : Nat} {v : UInt64} (w : (Cond.constantDouble own idx v).before a0 Z = true) (hd : decode code pc = .ok (.ldc2_w idx, 3)) (hp : pc + 3 = pc') (k : Ends p e below s n0 C S Q T (mkF m pc' Ls (.double v :: stk))) : Ends p e below s n0 C S Q T (mkF m pc Ls stk) := by
  obtain ⟨locs, Y, hx, hZ, hc, ho, hr, hm, hn, hk, hh, hF, h0⟩ := X
  subst hp
  exact k.by (Y.ldc2DoubleC hx ho (mvT hZ w) (g := mkF m pc Ls stk) rfl (hb hc hd))
theorem F_ireturn (X : St p l e R s m args below meth c Z code own ret ml nm n0 T h cells slots) {z : Int32} (hd : decode code pc = .ok (.ireturn, 1)) (hret : ret = some .int) (hC : cells ≤ C) (hS : slots ≤ S) (hQ : Q (some (.int z)) h) : Ends p e below s n0 C S Q T (mkF m pc Ls (.int z :: stk)) := by
  obtain ⟨locs, Y, hx, hZ, hc, ho, hr, hm, hn, hk, hh, hF, h0⟩ := X
  obtain ⟨fs, hl, hrun, hend, hW, hsame⟩ := Y.leave (v := some (.int z)) (fun z => by rw [hr, hret] at z; cases z) hk
  refine ⟨_, _, retOut Y hx (hr.trans hret) rfl (Or.inl ⟨rfl, Or.inl rfl, _, rfl⟩) (hb hc hd) hl, hrun, hend, _, _, rfl, ⟨?_, hF⟩, ⟨_, rfl⟩, hW, hsame.mono hC hS⟩
  show Q _ T.heap
  rw [hh]; exact hQ
theorem F_ireturn_boolean (X : St p l e R s m args below meth c Z code own ret ml nm n0 T h cells slots) {z z' : Int32} (hz : nar .boolean z = z') (hd : decode code pc = .ok (.ireturn, 1)) (hret : ret = some .boolean) (hC : cells ≤ C) (hS : slots ≤ S) (hQ : Q (some (.int z')) h) : Ends p e below s n0 C S Q T (mkF m pc Ls (.int z :: stk)) := by
  obtain ⟨locs, Y, hx, hZ, hc, ho, hr, hm, hn, hk, hh, hF, h0⟩ := X
  obtain ⟨fs, hl, hrun, hend, hW, hsame⟩ := Y.leave (v := some (.int z')) (fun z => by rw [hr, hret] at z; cases z) hk
  refine ⟨_, _, retN Y hx (t := .boolean) (hr.trans hret) (by simp) (hb hc hd) (hz ▸ hl), hrun, hend, _, _, rfl, ⟨?_, hF⟩, ⟨_, rfl⟩, hW, hsame.mono hC hS⟩
  show Q _ T.heap
  rw [hh]; exact hQ
theorem F_ireturn_byte (X : St p l e R s m args below meth c Z code own ret ml nm n0 T h cells slots) {z z' : Int32} (hz : nar .byte z = z') (hd : decode code pc = .ok (.ireturn, 1)) (hret : ret = some .byte) (hC : cells ≤ C) (hS : slots ≤ S) (hQ : Q (some (.int z')) h) : Ends p e below s n0 C S Q T (mkF m pc Ls (.int z :: stk)) := by
  obtain ⟨locs, Y, hx, hZ, hc, ho, hr, hm, hn, hk, hh, hF, h0⟩ := X
  obtain ⟨fs, hl, hrun, hend, hW, hsame⟩ := Y.leave (v := some (.int z')) (fun z => by rw [hr, hret] at z; cases z) hk
  refine ⟨_, _, retN Y hx (t := .byte) (hr.trans hret) (by simp) (hb hc hd) (hz ▸ hl), hrun, hend, _, _, rfl, ⟨?_, hF⟩, ⟨_, rfl⟩, hW, hsame.mono hC hS⟩
  show Q _ T.heap
  rw [hh]; exact hQ
theorem F_ireturn_char (X : St p l e R s m args below meth c Z code own ret ml nm n0 T h cells slots) {z z' : Int32} (hz : nar .char z = z') (hd : decode code pc = .ok (.ireturn, 1)) (hret : ret = some .char) (hC : cells ≤ C) (hS : slots ≤ S) (hQ : Q (some (.int z')) h) : Ends p e below s n0 C S Q T (mkF m pc Ls (.int z :: stk)) := by
  obtain ⟨locs, Y, hx, hZ, hc, ho, hr, hm, hn, hk, hh, hF, h0⟩ := X
  obtain ⟨fs, hl, hrun, hend, hW, hsame⟩ := Y.leave (v := some (.int z')) (fun z => by rw [hr, hret] at z; cases z) hk
  refine ⟨_, _, retN Y hx (t := .char) (hr.trans hret) (by simp) (hb hc hd) (hz ▸ hl), hrun, hend, _, _, rfl, ⟨?_, hF⟩, ⟨_, rfl⟩, hW, hsame.mono hC hS⟩
  show Q _ T.heap
  rw [hh]; exact hQ
theorem F_ireturn_short (X : St p l e R s m args below meth c Z code own ret ml nm n0 T h cells slots) {z z' : Int32} (hz : nar .short z = z') (hd : decode code pc = .ok (.ireturn, 1)) (hret : ret = some .short) (hC : cells ≤ C) (hS : slots ≤ S) (hQ : Q (some (.int z')) h) : Ends p e below s n0 C S Q T (mkF m pc Ls (.int z :: stk)) := by
  obtain ⟨locs, Y, hx, hZ, hc, ho, hr, hm, hn, hk, hh, hF, h0⟩ := X
  obtain ⟨fs, hl, hrun, hend, hW, hsame⟩ := Y.leave (v := some (.int z')) (fun z => by rw [hr, hret] at z; cases z) hk
  refine ⟨_, _, retN Y hx (t := .short) (hr.trans hret) (by simp) (hb hc hd) (hz ▸ hl), hrun, hend, _, _, rfl, ⟨?_, hF⟩, ⟨_, rfl⟩, hW, hsame.mono hC hS⟩
  show Q _ T.heap
  rw [hh]; exact hQ
theorem F_return (X : St p l e R s m args below meth c Z code own ret ml nm n0 T h cells slots)  (hd : decode code pc = .ok (.return_, 1)) (hret : ret = none) (hC : cells ≤ C) (hS : slots ≤ S) (hQ : Q (none) h) : Ends p e below s n0 C S Q T (mkF m pc Ls ([])) := by
  obtain ⟨locs, Y, hx, hZ, hc, ho, hr, hm, hn, hk, hh, hF, h0⟩ := X
  obtain ⟨fs, hl, hrun, hend, hW, hsame⟩ := Y.leave (v := none) (fun _ => rfl) hk
  refine ⟨_, _, Y.returnOut hx (hr.trans hret) (hb hc hd) hl, hrun, hend, _, _, rfl, ⟨?_, hF⟩, ⟨_, rfl⟩, hW, hsame.mono hC hS⟩
  show Q _ T.heap
  rw [hh]; exact hQ
theorem F_lreturn (X : St p l e R s m args below meth c Z code own ret ml nm n0 T h cells slots) {z : Int64} (hd : decode code pc = .ok (.lreturn, 1)) (hret : ret = some .long) (hC : cells ≤ C) (hS : slots ≤ S) (hQ : Q (some (.long z)) h) : Ends p e below s n0 C S Q T (mkF m pc Ls ([.long z])) := by
  obtain ⟨locs, Y, hx, hZ, hc, ho, hr, hm, hn, hk, hh, hF, h0⟩ := X
  obtain ⟨fs, hl, hrun, hend, hW, hsame⟩ := Y.leave (v := some (.long z)) (fun z => by rw [hr, hret] at z; cases z) hk
  refine ⟨_, _, Y.lreturnOut hx (hr.trans hret) (hb hc hd) hl, hrun, hend, _, _, rfl, ⟨?_, hF⟩, ⟨_, rfl⟩, hW, hsame.mono hC hS⟩
  show Q _ T.heap
  rw [hh]; exact hQ
theorem F_areturn (X : St p l e R s m args below meth c Z code own ret ml nm n0 T h cells slots) {v : Value} {t : FieldType} (ht : t.isReference = true) (hv : v.isRef = true) (hn' : narrow t v = v) (hd : decode code pc = .ok (.areturn, 1)) (hret : ret = some t) (hC : cells ≤ C) (hS : slots ≤ S) (hQ : Q (some v) h) : Ends p e below s n0 C S Q T (mkF m pc Ls (v :: stk)) := by
  obtain ⟨locs, Y, hx, hZ, hc, ho, hr, hm, hn, hk, hh, hF, h0⟩ := X
  obtain ⟨fs, hl, hrun, hend, hW, hsame⟩ := Y.leave (v := some v) (fun z => by rw [hr, hret] at z; cases z) hk
  refine ⟨_, _, retOut Y hx (hr.trans hret) hn' (Or.inr (Or.inr (Or.inr (Or.inr ⟨rfl, ht, hv⟩)))) (hb hc hd) hl, hrun, hend, _, _, rfl, ⟨?_, hF⟩, ⟨_, rfl⟩, hW, hsame.mono hC hS⟩
  show Q _ T.heap
  rw [hh]; exact hQ
theorem F_callS (X : St p l e R s m args below meth c Z code own ret ml nm n0 T h cells slots) {y : MethodName} {bytes : ByteArray} {maxL : Nat} {rt : Option FieldType} {rm : Room} {Q' : Option Value → Heap → Prop} {idx : Nat} (w1 : (Cond.methodLink own idx y).before a0 Z = true) (w2 : (Cond.static y).before a0 Z = true) (w3 : (Cond.initialized y.cls).before a0 Z = true) (w4 : (Cond.code y bytes maxL rt).before a0 Z = true) (hy : y.cls ≠ "java/lang/invoke/MethodHandle" ∧ y.cls ≠ "java/lang/invoke/VarHandle")
    {argsL : List Value} (K : Con l y bytes maxL rt rm rm.cells rm.slots Z n0 argsL.toArray h Q') (r1 : rm.frames + 1 ≤ R.frames) {W : Nat} (hW : (stk.map fun v => v.category).sum ≤ W) (r2 : W + (maxL + 11) + rm.locals ≤ R.locals) (r3 : cells + rm.cells ≤ R.cells) (r4 : slots + rm.slots ≤ R.slots) (hls : Ls.size = ml) (hlen : ∀ sig, parseMethodDescriptor y.desc = some sig → argsL.length = sig.parameters.length) {stk0 : List Value} (hst : stk0 = argsL.reverse ++ stk) (hd : decode code pc = .ok (.invokestatic idx, 3)) (hp : pc + 3 = pc')
    (k : ∀ (T' : State) (v : Option Value) (h' : Heap), St p l e R s m args below meth c Z code own ret ml nm n0 T' h' (cells + rm.cells) (slots + rm.slots) → Q' v h' → Ends p e below s n0 C S Q T' (mkF m pc' Ls (v.toList ++ stk))) : Ends p e below s n0 C S Q T (mkF m pc Ls stk0) := by
  obtain ⟨locs, Y, hx, hZ, hc, ho, hr, hm, hn, hk, hh, hF, h0⟩ := X
  subst hp hst
  obtain ⟨v, vm1, ⟨T', L', k', n'⟩, -, Y', ⟨L, q1, q2, q3, q4⟩, st⟩ := Jvm.LawKit.callS Y hx (y := y) ho (mvT hZ w1) (mvT hZ w2) (mvT hZ w3) (mvT hZ w4) hy (backOf (W := W) (Q := fun v h' L => Q' v h' ∧ Fr n0 L) (K []) hZ w4 w3 r1 r2) (g := mkF m pc Ls (argsL.reverse ++ stk)) rfl (by rw [hm]; exact hls) (argsL := argsL) (rest := stk) hlen rfl (by show 2 * 0 + _ ≤ _; omega) (hb hc hd) (fun _ _ => ⟨rfl, hh, r3, r4⟩)
  dsimp only [Pt.U, Pt.locs, Pt.cells, Pt.slots] at Y' q2 q3 q4 st q1
  subst q2 q3 q4
  obtain ⟨q1, q5⟩ := q1
  exact (k T' v T'.heap ⟨_, Y', hx, hZ, hc, ho, hr, hm, hn, hk, rfl, Fr.app hF q5, h0⟩ q1).by st
theorem F_init (X : St p l e R s m args below meth c Z code own ret ml nm n0 T h cells slots) {y : MethodName} {bytes : ByteArray} {maxL : Nat} {rm : Room} {Q' : Option Value → Heap → Prop} {idx : Nat} (hy1 : y.name = "<init>") (w1 : (Cond.methodLink own idx y).before a0 Z = true) (w2 : (Cond.instanceMethod y).before a0 Z = true) (w3 : (Cond.initialized y.cls).before a0 Z = true) (w4 : (Cond.code y bytes maxL none).before a0 Z = true) (hy : y.cls ≠ "java/lang/invoke/MethodHandle" ∧ y.cls ≠ "java/lang/invoke/VarHandle")
    {a : Addr} {argsL : List Value} (K : Con l y bytes maxL none rm rm.cells rm.slots Z n0 (.ref a :: argsL).toArray h Q') (r1 : rm.frames + 1 ≤ R.frames) {W : Nat} (hW : (stk.map fun v => v.category).sum ≤ W) (r2 : W + (maxL + 11) + rm.locals ≤ R.locals) (r3 : cells + rm.cells ≤ R.cells) (r4 : slots + rm.slots ≤ R.slots) (hls : Ls.size = ml) (hlen : ∀ sig, parseMethodDescriptor y.desc = some sig → argsL.length = sig.parameters.length) {stk0 : List Value} (hst : stk0 = argsL.reverse ++ .ref a :: stk) (hd : decode code pc = .ok (.invokespecial idx, 3)) (hp : pc + 3 = pc')
    (k : ∀ (T' : State) (v : Option Value) (h' : Heap), St p l e R s m args below meth c Z code own ret ml nm n0 T' h' (cells + rm.cells) (slots + rm.slots) → Q' v h' → Ends p e below s n0 C S Q T' (mkF m pc' Ls (v.toList ++ stk))) : Ends p e below s n0 C S Q T (mkF m pc Ls stk0) := by
  obtain ⟨locs, Y, hx, hZ, hc, ho, hr, hm, hn, hk, hh, hF, h0⟩ := X
  subst hp hst
  obtain ⟨v, vm1, ⟨T', L', k', n'⟩, -, Y', ⟨L, q1, q2, q3, q4⟩, st⟩ := Y.specialBack hx (y := y) hy1 ho (mvT hZ w1) (mvT hZ w2) (mvT hZ w4) hy (backOf (W := W) (Q := fun v h' L => Q' v h' ∧ Fr n0 L) (K []) hZ w4 w3 r1 r2) (g := mkF m pc Ls (argsL.reverse ++ .ref a :: stk)) rfl (by rw [hm]; exact hls) (Steps.refl _) (a := a) (argsL := argsL) (rest := stk) hlen rfl (by show 2 * 0 + _ ≤ _; omega) (hb hc hd) (fun _ _ => ⟨rfl, hh, r3, r4⟩)
  dsimp only [Pt.U, Pt.locs, Pt.cells, Pt.slots] at Y' q2 q3 q4 st q1
  subst q2 q3 q4
  obtain ⟨q1, q5⟩ := q1
  exact (k T' v T'.heap ⟨_, Y', hx, hZ, hc, ho, hr, hm, hn, hk, rfl, Fr.app hF q5, h0⟩ q1).by fun _ z => st.trans z
theorem F_callV (X : St p l e R s m args below meth c Z code own ret ml nm n0 T h cells slots) {y : MethodName} {bytes : ByteArray} {maxL : Nat} {rt : Option FieldType} {rm : Room} {Q' : Option Value → Heap → Prop} {idx : Nat} (w1 : (Cond.methodLink own idx y).before a0 Z = true) (w5 : (Cond.declares y).before a0 Z = true) (w6 : (Cond.selects y.cls y y).before a0 Z = true) (w2 : (Cond.instanceMethod y).before a0 Z = true) (w3 : (Cond.initialized y.cls).before a0 Z = true) (w4 : (Cond.code y bytes maxL rt).before a0 Z = true) (hy : y.cls ≠ "java/lang/invoke/MethodHandle" ∧ y.cls ≠ "java/lang/invoke/VarHandle")
    {a : Addr} (E : Exa Z h a y.cls) {argsL : List Value} (K : Con l y bytes maxL rt rm rm.cells rm.slots Z n0 (.ref a :: argsL).toArray h Q') (r1 : rm.frames + 1 ≤ R.frames) {W : Nat} (hW : (stk.map fun v => v.category).sum ≤ W) (r2 : W + (maxL + 11) + rm.locals ≤ R.locals) (r3 : cells + rm.cells ≤ R.cells) (r4 : slots + rm.slots ≤ R.slots) (hls : Ls.size = ml) (hlen : ∀ sig, parseMethodDescriptor y.desc = some sig → argsL.length = sig.parameters.length) {stk0 : List Value} (hst : stk0 = argsL.reverse ++ .ref a :: stk) (hd : decode code pc = .ok (.invokevirtual idx, 3)) (hp : pc + 3 = pc')
    (k : ∀ (T' : State) (v : Option Value) (h' : Heap), St p l e R s m args below meth c Z code own ret ml nm n0 T' h' (cells + rm.cells) (slots + rm.slots) → Q' v h' → Ends p e below s n0 C S Q T' (mkF m pc' Ls (v.toList ++ stk))) : Ends p e below s n0 C S Q T (mkF m pc Ls stk0) := by
  obtain ⟨locs, Y, hx, hZ, hc, ho, hr, hm, hn, hk, hh, hF, h0⟩ := X
  subst hp hst
  obtain ⟨cq, kq, qa, qb, qc⟩ := isOf hZ hh E
  obtain ⟨v, vm1, ⟨T', L', k', n'⟩, -, Y', ⟨L, q1, q2, q3, q4⟩, st⟩ := Y.virtualBack hx (y := y) (z := y) ho (mvT hZ w1) (mvT hZ w5) (notFace_of_selects (args := #[]) (mvT hZ w6)) (mvT hZ w6) (mvT hZ w2) hy (backOf (W := W) (Q := fun v h' L => Q' v h' ∧ Fr n0 L) (K []) hZ w4 w3 r1 r2) qa qc (g := mkF m pc Ls (argsL.reverse ++ .ref a :: stk)) rfl (by rw [hm]; exact hls) (Steps.refl _) (argsL := argsL) (rest := stk) hlen rfl (by show 2 * 0 + _ ≤ _; omega) (hb hc hd) (fun _ _ => ⟨rfl, hh, r3, r4⟩)
  dsimp only [Pt.U, Pt.locs, Pt.cells, Pt.slots] at Y' q2 q3 q4 st q1
  subst q2 q3 q4
  obtain ⟨q1, q5⟩ := q1
  exact (k T' v T'.heap ⟨_, Y', hx, hZ, hc, ho, hr, hm, hn, hk, rfl, Fr.app hF q5, h0⟩ q1).by fun _ z => st.trans z
theorem F_callP (X : St p l e R s m args below meth c Z code own ret ml nm n0 T h cells slots) {y : MethodName} {bytes : ByteArray} {maxL : Nat} {rt : Option FieldType} {rm : Room} {Q' : Option Value → Heap → Prop} {idx : Nat} {kk : Nat} (w1 : (Cond.methodLink own idx y).before a0 Z = true) (wp : (Cond.privateMethod y).before a0 Z = true) (wi : (Cond.instantiable y.cls kk).before a0 Z = true) (w2 : (Cond.instanceMethod y).before a0 Z = true) (w3 : (Cond.initialized y.cls).before a0 Z = true) (w4 : (Cond.code y bytes maxL rt).before a0 Z = true) (hy : y.cls ≠ "java/lang/invoke/MethodHandle" ∧ y.cls ≠ "java/lang/invoke/VarHandle")
    {a : Addr} (E : Exa Z h a y.cls) {argsL : List Value} (K : Con l y bytes maxL rt rm rm.cells rm.slots Z n0 (.ref a :: argsL).toArray h Q') (r1 : rm.frames + 1 ≤ R.frames) {W : Nat} (hW : (stk.map fun v => v.category).sum ≤ W) (r2 : W + (maxL + 11) + rm.locals ≤ R.locals) (r3 : cells + rm.cells ≤ R.cells) (r4 : slots + rm.slots ≤ R.slots) (hls : Ls.size = ml) (hlen : ∀ sig, parseMethodDescriptor y.desc = some sig → argsL.length = sig.parameters.length) {stk0 : List Value} (hst : stk0 = argsL.reverse ++ .ref a :: stk) (hd : decode code pc = .ok (.invokevirtual idx, 3)) (hp : pc + 3 = pc')
    (k : ∀ (T' : State) (v : Option Value) (h' : Heap), St p l e R s m args below meth c Z code own ret ml nm n0 T' h' (cells + rm.cells) (slots + rm.slots) → Q' v h' → Ends p e below s n0 C S Q T' (mkF m pc' Ls (v.toList ++ stk))) : Ends p e below s n0 C S Q T (mkF m pc Ls stk0) := by
  obtain ⟨locs, Y, hx, hZ, hc, ho, hr, hm, hn, hk, hh, hF, h0⟩ := X
  subst hp hst
  obtain ⟨cq, q, q'⟩ := E.cell
  have wi' : (Cond.instantiable y.cls kk).before args s = true := mvT hZ wi
  obtain ⟨c1, k1, i1, i2, -, i4, -⟩ := Cond.instantiable_spec wi'
  have hpr := Cond.privateMethod_at (mvP hZ wp (args := #[]))
  have hsel : (Cond.selects y.cls y y).before args s = true := selects_self_of_private i1 i2 (by simp at i4; exact i4.1) hpr (mvT hZ w2) hy
  obtain ⟨v, vm1, ⟨T', L', k', n'⟩, -, Y', ⟨L, q1, q2, q3, q4⟩, st⟩ := Y.privateBack hx (y := y) ho (mvT hZ w1) (mvT hZ w2) hsel hpr (mvT hZ w4) hy (backOf (W := W) (Q := fun v h' L => Q' v h' ∧ Fr n0 L) (K []) hZ w4 w3 r1 r2) (g := mkF m pc Ls (argsL.reverse ++ .ref a :: stk)) rfl (by rw [hm]; exact hls) (Steps.refl _) (a := a) (by rw [hh]; exact q) q' (argsL := argsL) (rest := stk) hlen rfl (by show 2 * 0 + _ ≤ _; omega) (hb hc hd) (fun _ _ => ⟨rfl, hh, r3, r4⟩)
  dsimp only [Pt.U, Pt.locs, Pt.cells, Pt.slots] at Y' q2 q3 q4 st q1
  subst q2 q3 q4
  obtain ⟨q1, q5⟩ := q1
  exact (k T' v T'.heap ⟨_, Y', hx, hZ, hc, ho, hr, hm, hn, hk, rfl, Fr.app hF q5, h0⟩ q1).by fun _ z => st.trans z
theorem F_objInit (X : St p l e R s m args below meth c Z code own ret ml nm n0 T h cells slots) {idx : Nat} {a : Addr} (w1 : (Cond.methodLink own idx Lib.objectInit).before a0 Z = true) (w2 : (Cond.instanceMethod Lib.objectInit).before a0 Z = true) (w3 : (Cond.code Lib.objectInit ⟨#[0xb1]⟩ 1 none).before a0 Z = true) (r1 : 1 ≤ R.frames) {W : Nat} (hW : (stk.map fun v => v.category).sum ≤ W) (r2 : W + 12 ≤ R.locals) (hls : Ls.size = ml) (hd : decode code pc = .ok (.invokespecial idx, 3)) (hp : pc + 3 = pc')
    (k : ∀ T' : State, St p l e R s m args below meth c Z code own ret ml nm n0 T' h cells slots → Ends p e below s n0 C S Q T' (mkF m pc' Ls stk)) : Ends p e below s n0 C S Q T (mkF m pc Ls (.ref a :: stk)) := by
  obtain ⟨locs, Y, hx, hZ, hc, ho, hr, hm, hn, hk, hh, hF, h0⟩ := X
  subst hp
  obtain ⟨T', Y', e', st⟩ := initO Y hx hZ ho w1 w2 w3 hh (g := mkF m pc Ls (.ref a :: stk)) rfl (by rw [hm]; exact hls) rfl (hb hc hd) r1 (W := W) (by show 2 * 0 + _ ≤ _; omega) r2
  exact (k T' ⟨_, Y', hx, hZ, hc, ho, hr, hm, hn, hk, e', hF, h0⟩).by st
theorem F_new (X : St p l e R s m args below meth c Z code own ret ml nm n0 T h cells slots) {idx n : Nat} {K : String} (w : (Cond.classLink own idx K).before a0 Z = true) (wi : (Cond.instantiable K n).before a0 Z = true) (wz : (Cond.initialized K).before a0 Z = true) (r3 : cells + 1 ≤ R.cells) (r4 : slots + n ≤ R.slots) (hd : decode code pc = .ok (.new idx, 3)) (hp : pc + 3 = pc')
    (k : ∀ (T' : State) (h' : Heap) (a : Addr), St p l e R s m args below meth c Z code own ret ml nm n0 T' h' (cells + 1) (slots + n) → Ext h h' → a = h.size → n0 ≤ a → Exa Z h' a K → (∀ {O nm d : String} {ty : FieldType}, Laid Z a0 K O nm d → parseFieldDescriptor d = some ty → Fld Z h' a O nm d (defaultValue ty)) → Ends p e below s n0 C S Q T' (mkF m pc' Ls (.ref a :: stk))) : Ends p e below s n0 C S Q T (mkF m pc Ls stk) := by
  have hsz := X.size
  obtain ⟨locs, Y, hx, hZ, hc, ho, hr, hm, hn, hk, hh, hF, h0⟩ := X
  subst hp
  obtain ⟨T', h', Y', e', E, A, D, -, st⟩ := newO Y hx hZ ho w wi wz hh (g := mkF m pc Ls stk) rfl (hb hc hd) r3 r4
  exact (k T' h' _ ⟨_, Y', hx, hZ, hc, ho, hr, hm, hn, hk, e', hF, h0⟩ E rfl hsz A D).by st
theorem F_getfield (X : St p l e R s m args below meth c Z code own ret ml nm n0 T h cells slots) {idx : Nat} {K f d : String} {a : Addr} {v : Value} (w : (Cond.fieldLink own idx K f d).before a0 Z = true) (F : Fld Z h a K f d v) (hd : decode code pc = .ok (.getfield idx, 3)) (hp : pc + 3 = pc')
    (k : ∀ T' : State, St p l e R s m args below meth c Z code own ret ml nm n0 T' h cells slots → Ends p e below s n0 C S Q T' (mkF m pc' Ls (v :: stk))) : Ends p e below s n0 C S Q T (mkF m pc Ls (.ref a :: stk)) := by
  obtain ⟨locs, Y, hx, hZ, hc, ho, hr, hm, hn, hk, hh, hF, h0⟩ := X
  subst hp
  obtain ⟨T', Y', e', st⟩ := getF Y hx hZ ho (host := "") (Or.inl w) Via.refl hh F (g := mkF m pc Ls (.ref a :: stk)) rfl rfl (hb hc hd)
  exact (k T' ⟨_, Y', hx, hZ, hc, ho, hr, hm, hn, hk, e', hF, h0⟩).by st
theorem F_putfield (X : St p l e R s m args below meth c Z code own ret ml nm n0 T h cells slots) {idx kk : Nat} {K f d : String} {a : Addr} {v old : Value} {ty : FieldType} (w : (Cond.fieldLink own idx K f d).before a0 Z = true) (F : Fld Z h a K f d old) (E : Exa Z h a K) (L : (Cond.lays K K f d).before a0 Z = true ∨ ((Cond.laysFinal K K f d).before a0 Z = true ∧ own = K ∧ nm = "<init>")) (wi : (Cond.instantiable K kk).before a0 Z = true) (hty : parseFieldDescriptor d = some ty) (hnr : narrow ty v = v) (hft : fits ty v = true) (ge : n0 ≤ a) (hd : decode code pc = .ok (.putfield idx, 3)) (hp : pc + 3 = pc')
    (k : ∀ (T' : State) (h' : Heap), St p l e R s m args below meth c Z code own ret ml nm n0 T' h' cells slots → Wr h h' a (Jvm.RoadKit.slotOf Z K f d) v → Ends p e below s n0 C S Q T' (mkF m pc' Ls stk)) : Ends p e below s n0 C S Q T (mkF m pc Ls (v :: .ref a :: stk)) := by
  obtain ⟨locs, Y, hx, hZ, hc, ho, hr, hm, hn, hk, hh, hF, h0⟩ := X
  subst hp
  obtain ⟨T', h', Y', e', W, st⟩ := putF Y hx hZ ho (host := "") (Or.inl w) Via.refl hh F E (L.imp id fun q => ⟨q.1, q.2.1, hn.trans q.2.2⟩) wi hty hnr hft (g := mkF m pc Ls (v :: .ref a :: stk)) rfl rfl (hb hc hd)
  exact (k T' h' ⟨_, Y', hx, hZ, hc, ho, hr, hm, hn, hk, e', Fr.snoc Y' hF ge, h0⟩ W).by st
theorem F_putfieldN (X : St p l e R s m args below meth c Z code own ret ml nm n0 T h cells slots) {idx kk : Nat} {K f d : String} {a : Addr} {v v' old : Value} {ty : FieldType} (w : (Cond.fieldLink own idx K f d).before a0 Z = true) (F : Fld Z h a K f d old) (E : Exa Z h a K) (L : (Cond.lays K K f d).before a0 Z = true ∨ ((Cond.laysFinal K K f d).before a0 Z = true ∧ own = K ∧ nm = "<init>")) (wi : (Cond.instantiable K kk).before a0 Z = true) (hty : parseFieldDescriptor d = some ty) (hnr : narrow ty v = v') (hft : fits ty v' = true) (ge : n0 ≤ a) (hd : decode code pc = .ok (.putfield idx, 3)) (hp : pc + 3 = pc')
    (k : ∀ (T' : State) (h' : Heap), St p l e R s m args below meth c Z code own ret ml nm n0 T' h' cells slots → Wr h h' a (Jvm.RoadKit.slotOf Z K f d) v' → Ends p e below s n0 C S Q T' (mkF m pc' Ls stk)) : Ends p e below s n0 C S Q T (mkF m pc Ls (v :: .ref a :: stk)) := by
  obtain ⟨locs, Y, hx, hZ, hc, ho, hr, hm, hn, hk, hh, hF, h0⟩ := X
  subst hp
  obtain ⟨T', h', Y', e', W, st⟩ := putFN Y hx hZ ho w Via.refl hh F E (L.imp id fun q => ⟨q.1, q.2.1, hn.trans q.2.2⟩) wi hty hnr hft (g := mkF m pc Ls (v :: .ref a :: stk)) rfl rfl (hb hc hd)
  exact (k T' h' ⟨_, Y', hx, hZ, hc, ho, hr, hm, hn, hk, e', Fr.snoc Y' hF ge, h0⟩ W).by st
/-- the array at a, of the component kind ty, holds just the values vs -/
def AV (Z : State) (h : Heap) (a : Addr) (ty : FieldType) (vs : List Value) : Prop := ∃ cl : Cell, Arr Z h a cl ty ∧ cl.slots.toList = vs ∧ vs.length < 2147483648 ∧ ∀ v ∈ vs, fits ty v = true
theorem AV.lt {a : Addr} {ty : FieldType} {vs : List Value} (A : AV Z h a ty vs) : a < h.size := by obtain ⟨cl, A, -⟩ := A; exact A.lt
theorem AV.ext {h' : Heap} {a : Addr} {ty : FieldType} {vs : List Value} (A : AV Z h a ty vs) (E : Ext h h') : AV Z h' a ty vs := by obtain ⟨cl, A, r⟩ := A; exact ⟨cl, A.ext E, r⟩
theorem AV.other {h' : Heap} {a b : Addr} {sl : Nat} {v : Value} {ty : FieldType} {vs : List Value} (A : AV Z h a ty vs) (W : Wr h h' b sl v) (q : a ≠ b) : AV Z h' a ty vs := by obtain ⟨cl, A, r⟩ := A; exact ⟨cl, A.other W q, r⟩
theorem AV.keep {h' : Heap} {a : Addr} {ws : List Addr} {ty : FieldType} {vs : List Value} (A : AV Z h a ty vs) (K : Keep h h' ws) (q : a ∉ ws) : AV Z h' a ty vs := by obtain ⟨cl, A, r⟩ := A; exact ⟨cl, ⟨K.2.1 a cl A.1 q, A.2⟩, r⟩
theorem AV.same {h' : Heap} {a : Addr} {j : Nat} {v : Value} {ty : FieldType} {vs : List Value} (A : AV Z h a ty vs) (W : Wr h h' a j v) (hf : fits ty v = true) : AV Z h' a ty (vs.set j v) := by
  obtain ⟨cl, A, r1, r2, r3⟩ := A
  refine ⟨cl.setSlot j v, A.same W, ?_, by simpa using r2, fun u hu => ?_⟩
  · rw [← r1]; simp [Cell.setSlot]
  · rcases List.mem_or_eq_of_mem_set hu with q | q
    · exact r3 u q
    · exact q ▸ hf
theorem idx_ok {cl : Cell} {vs : List Value} {v : Value} {j : Int32} (r1 : cl.slots.toList = vs) (hj : ¬ j < 0) (hv : vs[j.toNatClampNeg]? = some v) : ¬ (j < 0 ∨ cl.slots.size ≤ j.toNatClampNeg) ∧ cl.slots[j.toNatClampNeg]? = some v := by
  subst r1
  rw [Array.getElem?_toList] at hv
  exact ⟨fun q => q.elim hj fun q => (by rw [Array.getElem?_eq_none q] at hv; cases hv), hv⟩

theorem F_iaload (X : St p l e R s m args below meth c Z code own ret ml nm n0 T h cells slots) {a : Addr} {vs : List Value} {j : Int32} {v : Int32} (A : AV Z h a .int vs) (hj : ¬ j < 0) (hv : vs[j.toNatClampNeg]? = some (.int v)) (hd : decode code pc = .ok (.iaload, 1)) (hp : pc + 1 = pc') (k : Ends p e below s n0 C S Q T (mkF m pc' Ls (.int v :: stk))) : Ends p e below s n0 C S Q T (mkF m pc Ls (.int j :: .ref a :: stk)) := by
  obtain ⟨locs, Y, hx, hZ, hc, ho, hr, hm, hn, hk, hh, hF, h0⟩ := X
  subst hp
  obtain ⟨cl, A, r1, r2, r3⟩ := A
  obtain ⟨q1, q2⟩ := idx_ok r1 hj hv
  exact k.by fun _ z => Y.iaload hx (j := j) (by rw [hh]; exact A.1) (State.isArrayOf_alike hZ.alike A.2.1) A.2.2 q1 q2 (g := mkF m pc Ls (.int j :: .ref a :: stk)) rfl rfl (hb hc hd) _ z
theorem F_laload (X : St p l e R s m args below meth c Z code own ret ml nm n0 T h cells slots) {a : Addr} {vs : List Value} {j : Int32} {v : Int64} (A : AV Z h a .long vs) (hj : ¬ j < 0) (hv : vs[j.toNatClampNeg]? = some (.long v)) (hd : decode code pc = .ok (.laload, 1)) (hp : pc + 1 = pc') (k : Ends p e below s n0 C S Q T (mkF m pc' Ls (.long v :: stk))) : Ends p e below s n0 C S Q T (mkF m pc Ls (.int j :: .ref a :: stk)) := by
  obtain ⟨locs, Y, hx, hZ, hc, ho, hr, hm, hn, hk, hh, hF, h0⟩ := X
  subst hp
  obtain ⟨cl, A, r1, r2, r3⟩ := A
  obtain ⟨q1, q2⟩ := idx_ok r1 hj hv
  exact k.by fun _ z => Y.laload hx (j := j) (by rw [hh]; exact A.1) (State.isArrayOf_alike hZ.alike A.2.1) A.2.2 q1 q2 (g := mkF m pc Ls (.int j :: .ref a :: stk)) rfl rfl (hb hc hd) _ z
theorem F_baload (X : St p l e R s m args below meth c Z code own ret ml nm n0 T h cells slots) {a : Addr} {vs : List Value} {j : Int32} {v : Int32} (A : AV Z h a .byte vs) (hj : ¬ j < 0) (hv : vs[j.toNatClampNeg]? = some (.int v)) (hd : decode code pc = .ok (.baload, 1)) (hp : pc + 1 = pc') (k : Ends p e below s n0 C S Q T (mkF m pc' Ls (.int v :: stk))) : Ends p e below s n0 C S Q T (mkF m pc Ls (.int j :: .ref a :: stk)) := by
  obtain ⟨locs, Y, hx, hZ, hc, ho, hr, hm, hn, hk, hh, hF, h0⟩ := X
  subst hp
  obtain ⟨cl, A, r1, r2, r3⟩ := A
  obtain ⟨q1, q2⟩ := idx_ok r1 hj hv
  exact k.by fun _ z => Y.baloadBytes hx (j := j) (by rw [hh]; exact A.1) (State.isArrayOf_alike hZ.alike A.2.1) A.2.2 q1 q2 (g := mkF m pc Ls (.int j :: .ref a :: stk)) rfl rfl (hb hc hd) _ z
theorem F_arraylength (X : St p l e R s m args below meth c Z code own ret ml nm n0 T h cells slots) {a : Addr} {ty : FieldType} {vs : List Value} {z : Int32} (A : AV Z h a ty vs) (hz : vs.length.toInt32 = z) (hd : decode code pc = .ok (.arraylength, 1)) (hp : pc + 1 = pc') (k : Ends p e below s n0 C S Q T (mkF m pc' Ls (.int z :: stk))) : Ends p e below s n0 C S Q T (mkF m pc Ls (.ref a :: stk)) := by
  obtain ⟨locs, Y, hx, hZ, hc, ho, hr, hm, hn, hk, hh, hF, h0⟩ := X
  subst hp
  obtain ⟨cl, A, r1, r2, r3⟩ := A
  subst hz r1
  exact k.by fun _ z => Y.arraylength hx (by rw [hh]; exact A.1) (State.isArrayOf_alike hZ.alike A.2.1) (g := mkF m pc Ls (.ref a :: stk)) rfl rfl (hb hc hd) _ (by simpa using z)
theorem F_iastore (X : St p l e R s m args below meth c Z code own ret ml nm n0 T h cells slots) {a : Addr} {vs : List Value} {j : Int32} {x : Int32} {i : Nat} (A : AV Z h a .int vs) (hj : ¬ j < 0) (hi : j.toNatClampNeg = i) (hlt : i < vs.length) (ge : n0 ≤ a) (hd : decode code pc = .ok (.iastore, 1)) (hp : pc + 1 = pc')
    (k : ∀ (T' : State) (h' : Heap), St p l e R s m args below meth c Z code own ret ml nm n0 T' h' cells slots → Wr h h' a i (.int x) → AV Z h' a .int (vs.set i (.int x)) → Ends p e below s n0 C S Q T' (mkF m pc' Ls stk)) : Ends p e below s n0 C S Q T (mkF m pc Ls (.int x :: .int j :: .ref a :: stk)) := by
  obtain ⟨locs, Y, hx, hZ, hc, ho, hr, hm, hn, hk, hh, hF, h0⟩ := X
  subst hp hi
  have A0 := A
  obtain ⟨cl, A, r1, r2, r3⟩ := A
  subst r1
  obtain ⟨T', h', Y', e', W, st⟩ := stI Y hx hZ hh A (j := j) (x := x) (fun q => q.elim hj fun q => by simp at hlt; omega) (g := mkF m pc Ls (.int x :: .int j :: .ref a :: stk)) rfl rfl (hb hc hd)
  exact (k T' h' ⟨_, Y', hx, hZ, hc, ho, hr, hm, hn, hk, e', Fr.snoc Y' hF ge, h0⟩ W (A0.same W rfl)).by st
theorem F_lastore (X : St p l e R s m args below meth c Z code own ret ml nm n0 T h cells slots) {a : Addr} {vs : List Value} {j : Int32} {x : Int64} {i : Nat} (A : AV Z h a .long vs) (hj : ¬ j < 0) (hi : j.toNatClampNeg = i) (hlt : i < vs.length) (ge : n0 ≤ a) (hd : decode code pc = .ok (.lastore, 1)) (hp : pc + 1 = pc')
    (k : ∀ (T' : State) (h' : Heap), St p l e R s m args below meth c Z code own ret ml nm n0 T' h' cells slots → Wr h h' a i (.long x) → AV Z h' a .long (vs.set i (.long x)) → Ends p e below s n0 C S Q T' (mkF m pc' Ls stk)) : Ends p e below s n0 C S Q T (mkF m pc Ls (.long x :: .int j :: .ref a :: stk)) := by
  obtain ⟨locs, Y, hx, hZ, hc, ho, hr, hm, hn, hk, hh, hF, h0⟩ := X
  subst hp hi
  have A0 := A
  obtain ⟨cl, A, r1, r2, r3⟩ := A
  subst r1
  obtain ⟨T', h', Y', e', W, st⟩ := stJ Y hx hZ hh A (j := j) (x := x) (fun q => q.elim hj fun q => by simp at hlt; omega) (g := mkF m pc Ls (.long x :: .int j :: .ref a :: stk)) rfl rfl (hb hc hd)
  exact (k T' h' ⟨_, Y', hx, hZ, hc, ho, hr, hm, hn, hk, e', Fr.snoc Y' hF ge, h0⟩ W (A0.same W rfl)).by st
theorem F_bastore (X : St p l e R s m args below meth c Z code own ret ml nm n0 T h cells slots) {a : Addr} {vs : List Value} {j : Int32} {x : Int32} {i : Nat} (A : AV Z h a .byte vs) (hj : ¬ j < 0) (hi : j.toNatClampNeg = i) (hlt : i < vs.length) (ge : n0 ≤ a) {z : Int32} (hz : x.toInt8.toInt32 = z) (hd : decode code pc = .ok (.bastore, 1)) (hp : pc + 1 = pc')
    (k : ∀ (T' : State) (h' : Heap), St p l e R s m args below meth c Z code own ret ml nm n0 T' h' cells slots → Wr h h' a i (.int z) → AV Z h' a .byte (vs.set i (.int z)) → Ends p e below s n0 C S Q T' (mkF m pc' Ls stk)) : Ends p e below s n0 C S Q T (mkF m pc Ls (.int x :: .int j :: .ref a :: stk)) := by
  obtain ⟨locs, Y, hx, hZ, hc, ho, hr, hm, hn, hk, hh, hF, h0⟩ := X
  subst hp hi
  have A0 := A
  obtain ⟨cl, A, r1, r2, r3⟩ := A
  subst r1
  obtain ⟨T', h', Y', e', W, st⟩ := stB Y hx hZ hh A (j := j) (x := x) (fun q => q.elim hj fun q => by simp at hlt; omega) (g := mkF m pc Ls (.int x :: .int j :: .ref a :: stk)) rfl rfl (hb hc hd)
  subst hz
  exact (k T' h' ⟨_, Y', hx, hZ, hc, ho, hr, hm, hn, hk, e', Fr.snoc Y' hF ge, h0⟩ W (A0.same W (fits_nar_byte _))).by st
theorem F_newarray (X : St p l e R s m args below meth c Z code own ret ml nm n0 T h cells slots) {aty : ArrayType} {n : Int32} {cap : Nat} {ad : String} (w : (Cond.arrayClass (newarray.typeOf aty)).before a0 Z = true) (hn0 : ¬ n < 0) (hcap : n.toNatClampNeg = cap) (hbig : cap * 8 ≤ 536870912) (r3 : cells + 1 ≤ R.cells) (r4 : slots + cap ≤ R.slots) (had : "[" ++ (newarray.typeOf aty).toString = ad) (hd : decode code pc = .ok (.newarray aty, 2)) (hp : pc + 2 = pc')
    (k : ∀ (T' : State) (h' : Heap) (a : Addr), St p l e R s m args below meth c Z code own ret ml nm n0 T' h' (cells + 1) (slots + cap) → Ext h h' → a = h.size → n0 ≤ a → Exa Z h' a ad → AV Z h' a (newarray.typeOf aty) (List.replicate cap (defaultValue (newarray.typeOf aty))) → Ends p e below s n0 C S Q T' (mkF m pc' Ls (.ref a :: stk))) : Ends p e below s n0 C S Q T (mkF m pc Ls (.int n :: stk)) := by
  have hsz := X.size
  obtain ⟨locs, Y, hx, hZ, hc, ho, hr, hm, hn, hk, hh, hF, h0⟩ := X
  subst hp
  obtain ⟨T', h', cA, Y', e', E, A, EX, st⟩ := newPE Y hx hZ w hh (g := mkF m pc Ls (.int n :: stk)) rfl (hb hc hd) rfl hn0 (Nat.le_of_eq hcap) hbig r3 r4 had
  refine (k T' h' _ ⟨_, Y', hx, hZ, hc, ho, hr, hm, hn, hk, e', hF, h0⟩ E rfl hsz EX ⟨_, A, by simp [newA, hcap], by simp; omega, fun v hv => ?_⟩).by st
  rw [(List.mem_replicate.mp hv).2]
  cases aty <;> rfl
theorem AV.arv {a : Addr} {ty : FieldType} {vs : List Value} (A : AV Z h a ty vs) (dv : Value) : ∃ k, Arv Z h a k ty vs.length.toInt32 vs dv := by
  obtain ⟨cl, A, r1, r2, r3⟩ := A
  have e1 : (vs.length.toInt32).toInt = vs.length := len_toInt (by omega)
  have e2 : vs.length.toInt32.toNatClampNeg = vs.length := by simp only [Int32.toNatClampNeg, e1]; omega
  have sz : cl.slots.size = vs.length := by rw [← r1]; simp
  have g : ∀ i, i < vs.length → vs[i]? = some (vs.getD i dv) := fun i hi => by simp [List.getD_eq_getElem?_getD, hi]
  refine ⟨cl.cls, cl, A, rfl, by rw [e2]; exact sz, by simp only [Int32.lt_iff_toInt_lt, e1, Int32.reduceToInt]; omega, fun i hi => ?_, fun i hi => ?_⟩
  · rw [← Array.getElem?_toList, r1]; exact g i (sz ▸ hi)
  · exact r3 _ (List.mem_of_getElem? (g i (sz ▸ hi)))
theorem AV.of_arv {a : Addr} {ty : FieldType} {vs : List Value} {k : ClassId} {z : Int32} {dv : Value} (A : Arv Z h a k ty z vs dv) (hz : z.toNatClampNeg = vs.length) : AV Z h a ty vs := by
  obtain ⟨cl, A, r1, r2, r3, H, G⟩ := A
  have sz : cl.slots.size = vs.length := r2.trans hz
  have e : cl.slots.toList = vs := by
    apply List.ext_getElem?
    intro i
    rw [Array.getElem?_toList]
    by_cases hi : i < vs.length
    · rw [H i (by rw [sz]; exact hi)]; simp [List.getD_eq_getElem?_getD, hi]
    · rw [Array.getElem?_eq_none (by omega), List.getElem?_eq_none (by omega)]
  refine ⟨cl, A, e, by have := (back32 r3).2; omega, fun v hv => ?_⟩
  obtain ⟨i, hi, rfl⟩ := List.getElem_of_mem hv
  have q := G i (by rw [sz]; exact hi)
  simpa [List.getD_eq_getElem?_getD, hi] using q

theorem F_arraycopy (X : St p l e R s m args below meth c Z code own ret ml nm n0 T h cells slots) {idx : Nat} {a b : Addr} {ty : FieldType} {vs vd us vr : List Value} {sp dp nn : Int32} (w1 : (Cond.methodLink own idx Jvm.Stand.acN).before a0 Z = true) (w2 : (Cond.native Jvm.Stand.acN).before a0 Z = true) (w3 : (Cond.static Jvm.Stand.acN).before a0 Z = true) (w4 : (Cond.initialized "java/lang/System").before a0 Z = true)
    (A : AV Z h a ty vs) (B : AV Z h b ty vd) (dv : Value) (hty : refKind ty = false) (h1 : ¬ sp < 0) (h2 : ¬ dp < 0) (h3 : ¬ nn < 0) (h4 : sp.toNatClampNeg + nn.toNatClampNeg ≤ vs.length) (h5 : dp.toNatClampNeg + nn.toNatClampNeg ≤ vd.length)
    (hus : us = (List.range nn.toNatClampNeg).map fun i => vs.getD (sp.toNatClampNeg + i) dv) (hvr : vd.take dp.toNatClampNeg ++ us ++ vd.drop (dp.toNatClampNeg + nn.toNatClampNeg) = vr) (ge : n0 ≤ b) (hls : Ls.size = ml) (r1 : 1 ≤ R.frames) {W : Nat} (hW : (stk.map fun v => v.category).sum ≤ W) (r2 : W + (nativeFrameWords "java/lang/System" "arraycopy" 5 + 11) ≤ R.locals) (hd : decode code pc = .ok (.invokestatic idx, 3)) (hp : pc + 3 = pc')
    (k : ∀ (T' : State) (h' : Heap), St p l e R s m args below meth c Z code own ret ml nm n0 T' h' cells slots → Keep h h' [b] → AV Z h' b ty vr → Ends p e below s n0 C S Q T' (mkF m pc' Ls stk)) : Ends p e below s n0 C S Q T (mkF m pc Ls (.int nn :: .int dp :: .ref b :: .int sp :: .ref a :: stk)) := by
  obtain ⟨locs, Y, hx, hZ, hc, ho, hr, hm, hn, hk, hh, hF, h0⟩ := X
  have hla : vs.length < 2147483648 := by obtain ⟨_, _, _, q, _⟩ := A; exact q
  have hlb : vd.length < 2147483648 := by obtain ⟨_, _, _, q, _⟩ := B; exact q
  subst hp
  obtain ⟨ka, A⟩ := A.arv dv
  obtain ⟨kb, B0⟩ := B.arv dv
  obtain ⟨T', h', L, Y', e', N', K', B', st⟩ := cpA Y hx hZ ho w1 w2 w3 w4 hh A B0 (Or.inl ⟨rfl, hty⟩) h1 h2 h3 (by rw [own_len32 hla]; exact h4) (by rw [own_len32 hlb]; exact h5) hus h5 hF ge (g := mkF m pc Ls (.int nn :: .int dp :: .ref b :: .int sp :: .ref a :: stk)) rfl (by rw [hm]; exact hls) rfl (hb hc hd) r1 (W := W) (by show 2 * 0 + _ ≤ _; omega) r2
  rw [hvr] at B'
  exact (k T' h' ⟨_, Y', hx, hZ, hc, ho, hr, hm, hn, hk, e', N', h0⟩ K' (AV.of_arv B' (by rw [own_len32 hlb, ← hvr, hus]; simp; omega))).by st
theorem F_clone (X : St p l e R s m args below meth c Z code own ret ml nm n0 T h cells slots) {idx : Nat} {a : Addr} {ty : FieldType} {vs : List Value} {ad : String} {cap : Nat} (w1 : (Cond.methodLink own idx ⟨ad, "clone", "()Ljava/lang/Object;"⟩).before a0 Z = true) (w2 : (Cond.sameMethod ad "java/lang/Object" "clone" "()Ljava/lang/Object;").before a0 Z = true) (w3 : (Cond.native ⟨"java/lang/Object", "clone", "()Ljava/lang/Object;"⟩).before a0 Z = true)
    (w4 : (Cond.instanceMethod ⟨"java/lang/Object", "clone", "()Ljava/lang/Object;"⟩).before a0 Z = true) (w5 : (Cond.selects ad ⟨ad, "clone", "()Ljava/lang/Object;"⟩ ⟨"java/lang/Object", "clone", "()Ljava/lang/Object;"⟩).before a0 Z = true) (w6 : (Cond.castable ad "java/lang/Cloneable").before a0 Z = true)
    (A : AV Z h a ty vs) (E : Exa Z h a ad) (hls : Ls.size = ml) (r1 : 1 ≤ R.frames) {W : Nat} (hW : (stk.map fun v => v.category).sum ≤ W) (r2 : W + 14 ≤ R.locals) (hcap : vs.length ≤ cap) (r3 : cells + 1 ≤ R.cells) (r4 : slots + cap ≤ R.slots) (hd : decode code pc = .ok (.invokevirtual idx, 3)) (hp : pc + 3 = pc')
    (k : ∀ (T' : State) (h' : Heap) (b : Addr), St p l e R s m args below meth c Z code own ret ml nm n0 T' h' (cells + 1) (slots + cap) → Ext h h' → b = h.size → n0 ≤ b → Exa Z h' b ad → AV Z h' b ty vs → Ends p e below s n0 C S Q T' (mkF m pc' Ls (.ref b :: stk))) : Ends p e below s n0 C S Q T (mkF m pc Ls (.ref a :: stk)) := by
  have hsz := X.size
  obtain ⟨locs, Y, hx, hZ, hc, ho, hr, hm, hn, hk, hh, hF, h0⟩ := X
  subst hp
  obtain ⟨cl, A, q1, q2, q3⟩ := A
  have FC : FitC Z cl := fitC_of A fun i hi v hv => q3 v (by rw [← q1]; exact List.mem_of_getElem? (i := i) (by rw [Array.getElem?_toList]; exact hv))
  obtain ⟨T', h', Y', e', E', A', EX, st⟩ := cloneA Y hx hZ ho w1 w2 w3 w4 w5 w6 hh A E FC (g := mkF m pc Ls (.ref a :: stk)) rfl (by rw [hm]; exact hls) rfl (hb hc hd) r1 (W := W) (by show 2 * 0 + _ ≤ _; omega) r2 (cap := cap) (by rw [← q1] at hcap; simpa using hcap) r3 r4
  exact (k T' h' _ ⟨_, Y', hx, hZ, hc, ho, hr, hm, hn, hk, e', hF, h0⟩ E' rfl hsz EX ⟨_, A', q1, q2, q3⟩).by st
theorem F_checkcast (X : St p l e R s m args below meth c Z code own ret ml nm n0 T h cells slots) {idx : Nat} {a : Addr} {K : String} (w : (Cond.classLink own idx K).before a0 Z = true) (E : Exa Z h a K) (hd : decode code pc = .ok (.checkcast idx, 3)) (hp : pc + 3 = pc')
    (k : ∀ T' : State, St p l e R s m args below meth c Z code own ret ml nm n0 T' h cells slots → Ends p e below s n0 C S Q T' (mkF m pc' Ls (.ref a :: stk))) : Ends p e below s n0 C S Q T (mkF m pc Ls (.ref a :: stk)) := by
  obtain ⟨locs, Y, hx, hZ, hc, ho, hr, hm, hn, hk, hh, hF, h0⟩ := X
  subst hp
  obtain ⟨T', Y', e', st⟩ := castY Y hx hZ ho w hh (Ins.self E) (g := mkF m pc Ls (.ref a :: stk)) rfl rfl (hb hc hd)
  exact (k T' ⟨_, Y', hx, hZ, hc, ho, hr, hm, hn, hk, e', hF, h0⟩).by st
end Laws
end Jvm.OwnKit

namespace Jvm.Pilot.@@N@@
open Jvm Jvm.ClassFile Sem Op Lib Jvm.Free Jvm.Stand Jvm.LawKit Jvm.RoadKit Jvm.OwnKit Bundle Jvm.Pilot.@@N@@.Jvm.D
theorem wd0 {a0 : Array Value} {Z : State} (hw : ∀ d ∈ tables_1, d.before a0 Z = true) : (Jvm.Cond.methodLink "com/example/dealwright/dealwright/HandRequirementsPointsPinLaw" (7 : Nat) ({ cls := "com/example/dealwright/dealwright/HandRequirements", name := "points", desc := "(I)I" } : Jvm.MethodName)).before a0 Z = true := hw _ (List.mem_of_getElem? (i := 0) rfl)
theorem wd1 {a0 : Array Value} {Z : State} (hw : ∀ d ∈ tables_1, d.before a0 Z = true) : (Jvm.Cond.static ({ cls := "com/example/dealwright/dealwright/HandRequirements", name := "points", desc := "(I)I" } : Jvm.MethodName)).before a0 Z = true := hw _ (List.mem_of_getElem? (i := 1) rfl)
theorem wd2 {a0 : Array Value} {Z : State} (hw : ∀ d ∈ tables_1, d.before a0 Z = true) : (Jvm.Cond.initialized "com/example/dealwright/dealwright/HandRequirements").before a0 Z = true := hw _ (List.mem_of_getElem? (i := 2) rfl)
theorem wd3 {a0 : Array Value} {Z : State} (hw : ∀ d ∈ tables_1, d.before a0 Z = true) : (Jvm.Cond.code ({ cls := "com/example/dealwright/dealwright/HandRequirements", name := "points", desc := "(I)I" } : Jvm.MethodName) prog_13_method_17_code (3 : Nat) (Option.some Jvm.ClassFile.FieldType.int)).before a0 Z = true := hw _ (List.mem_of_getElem? (i := 3) rfl)
theorem wd4 {a0 : Array Value} {Z : State} (hw : ∀ d ∈ tables_1, d.before a0 Z = true) : (Jvm.Cond.methodLink "com/example/dealwright/dealwright/HandRequirements" (163 : Nat) ({ cls := "com/example/dealwright/dealwright/BridgeDeal", name := "cardPoints", desc := "(I)I" } : Jvm.MethodName)).before a0 Z = true := hw _ (List.mem_of_getElem? (i := 4) rfl)
theorem wd5 {a0 : Array Value} {Z : State} (hw : ∀ d ∈ tables_1, d.before a0 Z = true) : (Jvm.Cond.static ({ cls := "com/example/dealwright/dealwright/BridgeDeal", name := "cardPoints", desc := "(I)I" } : Jvm.MethodName)).before a0 Z = true := hw _ (List.mem_of_getElem? (i := 5) rfl)
theorem wd6 {a0 : Array Value} {Z : State} (hw : ∀ d ∈ tables_1, d.before a0 Z = true) : (Jvm.Cond.initialized "com/example/dealwright/dealwright/BridgeDeal").before a0 Z = true := hw _ (List.mem_of_getElem? (i := 6) rfl)
theorem wd7 {a0 : Array Value} {Z : State} (hw : ∀ d ∈ tables_1, d.before a0 Z = true) : (Jvm.Cond.code ({ cls := "com/example/dealwright/dealwright/BridgeDeal", name := "cardPoints", desc := "(I)I" } : Jvm.MethodName) prog_1_method_5_code (2 : Nat) (Option.some Jvm.ClassFile.FieldType.int)).before a0 Z = true := hw _ (List.mem_of_getElem? (i := 7) rfl)
theorem wd8 {a0 : Array Value} {Z : State} (hw : ∀ d ∈ tables_1, d.before a0 Z = true) : (Jvm.Cond.methodLink "com/example/dealwright/dealwright/BridgeDeal" (50 : Nat) ({ cls := "com/example/dealwright/dealwright/StandardDeck", name := "rank", desc := "(I)I" } : Jvm.MethodName)).before a0 Z = true := hw _ (List.mem_of_getElem? (i := 8) rfl)
theorem wd9 {a0 : Array Value} {Z : State} (hw : ∀ d ∈ tables_1, d.before a0 Z = true) : (Jvm.Cond.static ({ cls := "com/example/dealwright/dealwright/StandardDeck", name := "rank", desc := "(I)I" } : Jvm.MethodName)).before a0 Z = true := hw _ (List.mem_of_getElem? (i := 9) rfl)
theorem wd10 {a0 : Array Value} {Z : State} (hw : ∀ d ∈ tables_1, d.before a0 Z = true) : (Jvm.Cond.initialized "com/example/dealwright/dealwright/StandardDeck").before a0 Z = true := hw _ (List.mem_of_getElem? (i := 10) rfl)
theorem wd11 {a0 : Array Value} {Z : State} (hw : ∀ d ∈ tables_1, d.before a0 Z = true) : (Jvm.Cond.code ({ cls := "com/example/dealwright/dealwright/StandardDeck", name := "rank", desc := "(I)I" } : Jvm.MethodName) prog_27_method_3_code (1 : Nat) (Option.some Jvm.ClassFile.FieldType.int)).before a0 Z = true := hw _ (List.mem_of_getElem? (i := 11) rfl)
theorem pd0 : parseMethodDescriptor "(I)I" = some ⟨[.int], some .int⟩ := by decide +kernel
def cp (u : Int32) : Int32 := if (3 : Int32) < u % 13 then 0 else 4 - u % 13
def stp (u a : Int32) (b i : Int32) : Int32 := if u &&& b = 0 then a else a + cp i
def pts (u : Int32) : Int32 := stp u (stp u (stp u (stp u (stp u (stp u (stp u (stp u (stp u (stp u (stp u (stp u (stp u (0) 1 0) 2 1) 4 2) 8 3) 16 4) 32 5) 64 6) 128 7) 256 8) 512 9) 1024 10) 2048 11) 4096 12
theorem own_nop (u a b i : Int32) (h : cp i = 0) : stp u a b i = a := by unfold stp; rw [h]; split <;> simp
def ex1 (u : Int32) : Int32 := if (u &&& (1 : Int32)) = (0 : Int32) then (0 : Int32) else (4 : Int32)
def ex2 (u : Int32) : Int32 := if (u &&& (2 : Int32)) = (0 : Int32) then ex1 u else ex1 u + (3 : Int32)
def ex3 (u : Int32) : Int32 := if (u &&& (4 : Int32)) = (0 : Int32) then ex2 u else ex2 u + (2 : Int32)
def ex (u : Int32) : Int32 := if (u &&& (8 : Int32)) = (0 : Int32) then ex3 u else ex3 u + (1 : Int32)
theorem own_pts (u : Int32) : pts u = ex u := by
  unfold pts
  iterate 9 rw [own_nop _ _ _ _ (by decide)]
  have c0 : (0 : Int32) + cp 0 = 4 := by decide
  have c1 : cp 1 = 3 := by decide
  have c2 : cp 2 = 2 := by decide
  have c3 : cp 3 = 1 := by decide
  simp only [ex, ex1, ex2, ex3, stp, c0, c1, c2, c3]
theorem d3_0 : decode prog_27_method_3_code 0 = .ok (.iload_n 0, 1) := by decide +kernel
theorem d3_1 : decode prog_27_method_3_code 1 = .ok (.bipush 13, 2) := by decide +kernel
theorem d3_3 : decode prog_27_method_3_code 3 = .ok (.irem, 1) := by decide +kernel
theorem d3_4 : decode prog_27_method_3_code 4 = .ok (.ireturn, 1) := by decide +kernel
theorem pn3 : plainName "com/example/dealwright/dealwright/StandardDeck" = true := by first | (simp [plainName, overriddenIn]; done) | decide +kernel
theorem ef_conR (m : MethodId) (x0 : Int32) : entryFrame m #[(.int x0)] 1 = mkF m 0 #[.val (.int x0)] [] := by first | (simp [entryFrame, mkF, argsToLocals, Value.category]; done) | rfl
set_option maxRecDepth 65536 in
set_option maxHeartbeats 40000000 in
theorem conR (l : Launch) (Z : State) (a0 : Array Value) (hw : ∀ d ∈ tables_1, d.before a0 Z = true) (n0 : Nat) (h : Heap) (hn0 : n0 ≤ h.size) (u1 : Int32) :
    Con l (⟨"com/example/dealwright/dealwright/StandardDeck", "rank", "(I)I"⟩ : MethodName) prog_27_method_3_code 1 (some .int) ({ frames := 0, cells := 0, slots := 0, locals := 0 } : Room) 0 0 Z n0 #[(.int u1)] h (fun v h' => v = some (.int (u1 % (13 : Int32))) ∧ h = h') := by
  refine Con.body (own := "com/example/dealwright/dealwright/StandardDeck") (nm := "rank") rfl rfl (plainFor_of_name pn3) hn0 ?_
  intro p e s m below meth c T0 X0
  rw [ef_conR]
  refine F_iloadN X0 d3_0 rfl (pc' := 1) rfl ?_
  refine F_bipush X0 d3_1 (z := (13 : Int32)) (by decide) (pc' := 3) rfl ?_
  refine F_irem X0 d3_3 (by decide) rfl (pc' := 4) rfl ?_
  refine F_ireturn X0 d3_4 rfl (by decide) (by decide) ?_
  exact ⟨rfl, rfl⟩
theorem d2_0 : decode prog_1_method_5_code 0 = .ok (.iload_n 0, 1) := by decide +kernel
theorem d2_1 : decode prog_1_method_5_code 1 = .ok (.invokestatic 50, 3) := by decide +kernel
theorem d2_4 : decode prog_1_method_5_code 4 = .ok (.istore_n 1, 1) := by decide +kernel
theorem d2_5 : decode prog_1_method_5_code 5 = .ok (.iload_n 1, 1) := by decide +kernel
theorem d2_6 : decode prog_1_method_5_code 6 = .ok (.iconst 3, 1) := by decide +kernel
theorem d2_7 : decode prog_1_method_5_code 7 = .ok (.if_icmp .gt 9, 3) := by decide +kernel
theorem d2_10 : decode prog_1_method_5_code 10 = .ok (.iconst 4, 1) := by decide +kernel
theorem d2_11 : decode prog_1_method_5_code 11 = .ok (.iload_n 1, 1) := by decide +kernel
theorem d2_12 : decode prog_1_method_5_code 12 = .ok (.isub, 1) := by decide +kernel
theorem d2_13 : decode prog_1_method_5_code 13 = .ok (.goto 4, 3) := by decide +kernel
theorem d2_16 : decode prog_1_method_5_code 16 = .ok (.iconst 0, 1) := by decide +kernel
theorem d2_17 : decode prog_1_method_5_code 17 = .ok (.ireturn, 1) := by decide +kernel
theorem pn2 : plainName "com/example/dealwright/dealwright/BridgeDeal" = true := by first | (simp [plainName, overriddenIn]; done) | decide +kernel
theorem ef_conC (m : MethodId) (x0 : Int32) : entryFrame m #[(.int x0)] 2 = mkF m 0 #[.val (.int x0), .unset] [] := by first | (simp [entryFrame, mkF, argsToLocals, Value.category]; done) | rfl
set_option maxRecDepth 65536 in
set_option maxHeartbeats 40000000 in
theorem conC (l : Launch) (Z : State) (a0 : Array Value) (hw : ∀ d ∈ tables_1, d.before a0 Z = true) (n0 : Nat) (h : Heap) (hn0 : n0 ≤ h.size) (u1 : Int32) :
    Con l (⟨"com/example/dealwright/dealwright/BridgeDeal", "cardPoints", "(I)I"⟩ : MethodName) prog_1_method_5_code 2 (some .int) ({ frames := 1, cells := 0, slots := 0, locals := 12 } : Room) 0 0 Z n0 #[(.int u1)] h (fun v h' => v = some (.int (cp u1)) ∧ h = h') := by
  refine Con.body (own := "com/example/dealwright/dealwright/BridgeDeal") (nm := "cardPoints") rfl rfl (plainFor_of_name pn2) hn0 ?_
  intro p e s m below meth c T0 X0
  rw [ef_conC]
  refine F_iloadN X0 d2_0 rfl (pc' := 1) rfl ?_
  refine F_callS X0 (y := (⟨"com/example/dealwright/dealwright/StandardDeck", "rank", "(I)I"⟩ : MethodName)) (stk := []) (wd8 hw) (wd9 hw) (wd10 hw) (wd11 hw) (by decide) (argsL := [(.int u1)]) (conR l Z a0 hw n0 h X0.size u1) (by decide) (W := 0) (Nat.le_of_ble_eq_true rfl) (by decide) (by decide) (by decide) rfl (lenOf pd0 rfl) rfl d2_1 (pc' := 4) rfl fun T1 v1 h1 X1 q1 => ?_
  obtain ⟨rfl, rfl⟩ := q1
  replace X1 := X1.more (cells' := 0) (slots' := 0) (by decide) (by decide)
  show Jvm.OwnKit.Ends p e below s n0 0 0 _ T1 (mkF m 4 #[.val (.int u1), .unset] [(.int (u1 % (13 : Int32)))])
  refine F_istoreN X1 d2_4 (Ls' := #[.val (.int u1), .val (.int (u1 % (13 : Int32)))]) rfl (pc' := 5) rfl ?_
  refine F_iloadN X1 d2_5 rfl (pc' := 6) rfl ?_
  refine F_iconst X1 d2_6 (z := (3 : Int32)) (by decide) (pc' := 7) rfl ?_
  refine F_icmp_gt X1 d2_7 (by decide) (pt := 16) (by decide) (pc' := 10) rfl (fun hc7_2 => ?_) (fun hc7_2 => ?_)
  · refine F_iconst X1 d2_16 (z := (0 : Int32)) (by decide) (pc' := 17) rfl ?_
    refine F_ireturn X1 d2_17 rfl (by decide) (by decide) ?_
    exact ⟨by simp [cp, *], rfl⟩
  · refine F_iconst X1 d2_10 (z := (4 : Int32)) (by decide) (pc' := 11) rfl ?_
    refine F_iloadN X1 d2_11 rfl (pc' := 12) rfl ?_
    refine F_isub X1 d2_12 rfl (pc' := 13) rfl ?_
    refine F_goto X1 d2_13 (by decide) (pc' := 17) (by decide) ?_
    refine F_ireturn X1 d2_17 rfl (by decide) (by decide) ?_
    exact ⟨by simp [cp, *], rfl⟩
theorem d1_0 : decode prog_13_method_17_code 0 = .ok (.iconst 0, 1) := by decide +kernel
theorem d1_1 : decode prog_13_method_17_code 1 = .ok (.istore_n 1, 1) := by decide +kernel
theorem d1_2 : decode prog_13_method_17_code 2 = .ok (.iconst 0, 1) := by decide +kernel
theorem d1_3 : decode prog_13_method_17_code 3 = .ok (.istore_n 2, 1) := by decide +kernel
theorem d1_4 : decode prog_13_method_17_code 4 = .ok (.iload_n 2, 1) := by decide +kernel
theorem d1_5 : decode prog_13_method_17_code 5 = .ok (.bipush 13, 2) := by decide +kernel
theorem d1_7 : decode prog_13_method_17_code 7 = .ok (.if_icmp .ge 24, 3) := by decide +kernel
theorem d1_10 : decode prog_13_method_17_code 10 = .ok (.iload_n 0, 1) := by decide +kernel
theorem d1_11 : decode prog_13_method_17_code 11 = .ok (.iconst 1, 1) := by decide +kernel
theorem d1_12 : decode prog_13_method_17_code 12 = .ok (.iload_n 2, 1) := by decide +kernel
theorem d1_13 : decode prog_13_method_17_code 13 = .ok (.ishl, 1) := by decide +kernel
theorem d1_14 : decode prog_13_method_17_code 14 = .ok (.iand, 1) := by decide +kernel
theorem d1_15 : decode prog_13_method_17_code 15 = .ok (.ifCond .eq 10, 3) := by decide +kernel
theorem d1_18 : decode prog_13_method_17_code 18 = .ok (.iload_n 1, 1) := by decide +kernel
theorem d1_19 : decode prog_13_method_17_code 19 = .ok (.iload_n 2, 1) := by decide +kernel
theorem d1_20 : decode prog_13_method_17_code 20 = .ok (.invokestatic 163, 3) := by decide +kernel
theorem d1_23 : decode prog_13_method_17_code 23 = .ok (.iadd, 1) := by decide +kernel
theorem d1_24 : decode prog_13_method_17_code 24 = .ok (.istore_n 1, 1) := by decide +kernel
theorem d1_25 : decode prog_13_method_17_code 25 = .ok (.iinc 2 1, 3) := by decide +kernel
theorem d1_28 : decode prog_13_method_17_code 28 = .ok (.goto (-24), 3) := by decide +kernel
theorem d1_31 : decode prog_13_method_17_code 31 = .ok (.iload_n 1, 1) := by decide +kernel
theorem d1_32 : decode prog_13_method_17_code 32 = .ok (.ireturn, 1) := by decide +kernel
theorem pn1 : plainName "com/example/dealwright/dealwright/HandRequirements" = true := by first | (simp [plainName, overriddenIn]; done) | decide +kernel
theorem ef_conP (m : MethodId) (x0 : Int32) : entryFrame m #[(.int x0)] 3 = mkF m 0 #[.val (.int x0), .unset, .unset] [] := by first | (simp [entryFrame, mkF, argsToLocals, Value.category]; done) | rfl
set_option maxRecDepth 65536 in
set_option maxHeartbeats 40000000 in
theorem conP (l : Launch) (Z : State) (a0 : Array Value) (hw : ∀ d ∈ tables_1, d.before a0 Z = true) (n0 : Nat) (h : Heap) (hn0 : n0 ≤ h.size) (u1 : Int32) :
    Con l (⟨"com/example/dealwright/dealwright/HandRequirements", "points", "(I)I"⟩ : MethodName) prog_13_method_17_code 3 (some .int) ({ frames := 2, cells := 0, slots := 0, locals := 26 } : Room) 0 0 Z n0 #[(.int u1)] h (fun v h' => v = some (.int (pts u1)) ∧ h = h') := by
  refine Con.body (own := "com/example/dealwright/dealwright/HandRequirements") (nm := "points") rfl rfl (plainFor_of_name pn1) hn0 ?_
  intro p e s m below meth c T0 X0
  rw [ef_conP]
  refine F_iconst X0 d1_0 (z := (0 : Int32)) (by decide) (pc' := 1) rfl ?_
  refine F_istoreN X0 d1_1 (Ls' := #[.val (.int u1), .val (.int (0 : Int32)), .unset]) rfl (pc' := 2) rfl ?_
  refine F_iconst X0 d1_2 (z := (0 : Int32)) (by decide) (pc' := 3) rfl ?_
  refine F_istoreN X0 d1_3 (Ls' := #[.val (.int u1), .val (.int (0 : Int32)), .val (.int (0 : Int32))]) rfl (pc' := 4) rfl ?_
  refine F_iloadN X0 d1_4 rfl (pc' := 5) rfl ?_
  refine F_bipush X0 d1_5 (z := (13 : Int32)) (by decide) (pc' := 7) rfl ?_
  refine F_icmp_ge X0 d1_7 (by decide) (pt := 31) (by decide) (pc' := 10) rfl (fun q => absurd q (by decide)) (fun _ => ?_)
  refine F_iloadN X0 d1_10 rfl (pc' := 11) rfl ?_
  refine F_iconst X0 d1_11 (z := (1 : Int32)) (by decide) (pc' := 12) rfl ?_
  refine F_iloadN X0 d1_12 rfl (pc' := 13) rfl ?_
  refine F_ishl X0 d1_13 (z := (1 : Int32)) (by decide) (pc' := 14) rfl ?_
  refine F_iand X0 d1_14 rfl (pc' := 15) rfl ?_
  have Jr3 : ∀ (r3 : Int32) (T4 : State), Jvm.OwnKit.St p l e ({ frames := 2, cells := 0, slots := 0, locals := 26 } : Room) s m #[(.int u1)] below meth c Z prog_13_method_17_code "com/example/dealwright/dealwright/HandRequirements" (some .int) 3 "points" n0 T4 h 0 0 → r3 = (if (u1 &&& (1 : Int32)) = (0 : Int32) then (0 : Int32) else ((0 : Int32) + (cp (0 : Int32)))) → Jvm.OwnKit.Ends p e below s n0 0 0 (fun v h' => v = some (.int (pts u1)) ∧ h = h') T4 (mkF m 25 #[.val (.int u1), .val (.int r3), .val (.int (0 : Int32))] []) := by
    intro r3 T4 X4 hr3
    refine F_iinc X4 d1_25 rfl (Ls' := #[.val (.int u1), .val (.int r3), .val (.int (1 : Int32))]) rfl (pc' := 28) rfl ?_
    refine F_goto X4 d1_28 (by decide) (pc' := 4) (by decide) ?_
    refine F_iloadN X4 d1_4 rfl (pc' := 5) rfl ?_
    refine F_bipush X4 d1_5 (z := (13 : Int32)) (by decide) (pc' := 7) rfl ?_
    refine F_icmp_ge X4 d1_7 (by decide) (pt := 31) (by decide) (pc' := 10) rfl (fun q => absurd q (by decide)) (fun _ => ?_)
    refine F_iloadN X4 d1_10 rfl (pc' := 11) rfl ?_
    refine F_iconst X4 d1_11 (z := (1 : Int32)) (by decide) (pc' := 12) rfl ?_
    refine F_iloadN X4 d1_12 rfl (pc' := 13) rfl ?_
    refine F_ishl X4 d1_13 (z := (2 : Int32)) (by decide) (pc' := 14) rfl ?_
    refine F_iand X4 d1_14 rfl (pc' := 15) rfl ?_
    have Jr7 : ∀ (r7 : Int32) (T8 : State), Jvm.OwnKit.St p l e ({ frames := 2, cells := 0, slots := 0, locals := 26 } : Room) s m #[(.int u1)] below meth c Z prog_13_method_17_code "com/example/dealwright/dealwright/HandRequirements" (some .int) 3 "points" n0 T8 h 0 0 → r7 = (if (u1 &&& (2 : Int32)) = (0 : Int32) then r3 else (r3 + (cp (1 : Int32)))) → Jvm.OwnKit.Ends p e below s n0 0 0 (fun v h' => v = some (.int (pts u1)) ∧ h = h') T8 (mkF m 25 #[.val (.int u1), .val (.int r7), .val (.int (1 : Int32))] []) := by
      intro r7 T8 X8 hr7
      refine F_iinc X8 d1_25 rfl (Ls' := #[.val (.int u1), .val (.int r7), .val (.int (2 : Int32))]) rfl (pc' := 28) rfl ?_
      refine F_goto X8 d1_28 (by decide) (pc' := 4) (by decide) ?_
      refine F_iloadN X8 d1_4 rfl (pc' := 5) rfl ?_
      refine F_bipush X8 d1_5 (z := (13 : Int32)) (by decide) (pc' := 7) rfl ?_
      refine F_icmp_ge X8 d1_7 (by decide) (pt := 31) (by decide) (pc' := 10) rfl (fun q => absurd q (by decide)) (fun _ => ?_)
      refine F_iloadN X8 d1_10 rfl (pc' := 11) rfl ?_
      refine F_iconst X8 d1_11 (z := (1 : Int32)) (by decide) (pc' := 12) rfl ?_
      refine F_iloadN X8 d1_12 rfl (pc' := 13) rfl ?_
      refine F_ishl X8 d1_13 (z := (4 : Int32)) (by decide) (pc' := 14) rfl ?_
      refine F_iand X8 d1_14 rfl (pc' := 15) rfl ?_
      have Jr11 : ∀ (r11 : Int32) (T12 : State), Jvm.OwnKit.St p l e ({ frames := 2, cells := 0, slots := 0, locals := 26 } : Room) s m #[(.int u1)] below meth c Z prog_13_method_17_code "com/example/dealwright/dealwright/HandRequirements" (some .int) 3 "points" n0 T12 h 0 0 → r11 = (if (u1 &&& (4 : Int32)) = (0 : Int32) then r7 else (r7 + (cp (2 : Int32)))) → Jvm.OwnKit.Ends p e below s n0 0 0 (fun v h' => v = some (.int (pts u1)) ∧ h = h') T12 (mkF m 25 #[.val (.int u1), .val (.int r11), .val (.int (2 : Int32))] []) := by
        intro r11 T12 X12 hr11
        refine F_iinc X12 d1_25 rfl (Ls' := #[.val (.int u1), .val (.int r11), .val (.int (3 : Int32))]) rfl (pc' := 28) rfl ?_
        refine F_goto X12 d1_28 (by decide) (pc' := 4) (by decide) ?_
        refine F_iloadN X12 d1_4 rfl (pc' := 5) rfl ?_
        refine F_bipush X12 d1_5 (z := (13 : Int32)) (by decide) (pc' := 7) rfl ?_
        refine F_icmp_ge X12 d1_7 (by decide) (pt := 31) (by decide) (pc' := 10) rfl (fun q => absurd q (by decide)) (fun _ => ?_)
        refine F_iloadN X12 d1_10 rfl (pc' := 11) rfl ?_
        refine F_iconst X12 d1_11 (z := (1 : Int32)) (by decide) (pc' := 12) rfl ?_
        refine F_iloadN X12 d1_12 rfl (pc' := 13) rfl ?_
        refine F_ishl X12 d1_13 (z := (8 : Int32)) (by decide) (pc' := 14) rfl ?_
        refine F_iand X12 d1_14 rfl (pc' := 15) rfl ?_
        have Jr15 : ∀ (r15 : Int32) (T16 : State), Jvm.OwnKit.St p l e ({ frames := 2, cells := 0, slots := 0, locals := 26 } : Room) s m #[(.int u1)] below meth c Z prog_13_method_17_code "com/example/dealwright/dealwright/HandRequirements" (some .int) 3 "points" n0 T16 h 0 0 → r15 = (if (u1 &&& (8 : Int32)) = (0 : Int32) then r11 else (r11 + (cp (3 : Int32)))) → Jvm.OwnKit.Ends p e below s n0 0 0 (fun v h' => v = some (.int (pts u1)) ∧ h = h') T16 (mkF m 25 #[.val (.int u1), .val (.int r15), .val (.int (3 : Int32))] []) := by
          intro r15 T16 X16 hr15
          refine F_iinc X16 d1_25 rfl (Ls' := #[.val (.int u1), .val (.int r15), .val (.int (4 : Int32))]) rfl (pc' := 28) rfl ?_
          refine F_goto X16 d1_28 (by decide) (pc' := 4) (by decide) ?_
          refine F_iloadN X16 d1_4 rfl (pc' := 5) rfl ?_
          refine F_bipush X16 d1_5 (z := (13 : Int32)) (by decide) (pc' := 7) rfl ?_
          refine F_icmp_ge X16 d1_7 (by decide) (pt := 31) (by decide) (pc' := 10) rfl (fun q => absurd q (by decide)) (fun _ => ?_)
          refine F_iloadN X16 d1_10 rfl (pc' := 11) rfl ?_
          refine F_iconst X16 d1_11 (z := (1 : Int32)) (by decide) (pc' := 12) rfl ?_
          refine F_iloadN X16 d1_12 rfl (pc' := 13) rfl ?_
          refine F_ishl X16 d1_13 (z := (16 : Int32)) (by decide) (pc' := 14) rfl ?_
          refine F_iand X16 d1_14 rfl (pc' := 15) rfl ?_
          have Jr19 : ∀ (r19 : Int32) (T20 : State), Jvm.OwnKit.St p l e ({ frames := 2, cells := 0, slots := 0, locals := 26 } : Room) s m #[(.int u1)] below meth c Z prog_13_method_17_code "com/example/dealwright/dealwright/HandRequirements" (some .int) 3 "points" n0 T20 h 0 0 → r19 = (if (u1 &&& (16 : Int32)) = (0 : Int32) then r15 else (r15 + (cp (4 : Int32)))) → Jvm.OwnKit.Ends p e below s n0 0 0 (fun v h' => v = some (.int (pts u1)) ∧ h = h') T20 (mkF m 25 #[.val (.int u1), .val (.int r19), .val (.int (4 : Int32))] []) := by
            intro r19 T20 X20 hr19
            refine F_iinc X20 d1_25 rfl (Ls' := #[.val (.int u1), .val (.int r19), .val (.int (5 : Int32))]) rfl (pc' := 28) rfl ?_
            refine F_goto X20 d1_28 (by decide) (pc' := 4) (by decide) ?_
            refine F_iloadN X20 d1_4 rfl (pc' := 5) rfl ?_
            refine F_bipush X20 d1_5 (z := (13 : Int32)) (by decide) (pc' := 7) rfl ?_
            refine F_icmp_ge X20 d1_7 (by decide) (pt := 31) (by decide) (pc' := 10) rfl (fun q => absurd q (by decide)) (fun _ => ?_)
            refine F_iloadN X20 d1_10 rfl (pc' := 11) rfl ?_
            refine F_iconst X20 d1_11 (z := (1 : Int32)) (by decide) (pc' := 12) rfl ?_
            refine F_iloadN X20 d1_12 rfl (pc' := 13) rfl ?_
            refine F_ishl X20 d1_13 (z := (32 : Int32)) (by decide) (pc' := 14) rfl ?_
            refine F_iand X20 d1_14 rfl (pc' := 15) rfl ?_
            have Jr23 : ∀ (r23 : Int32) (T24 : State), Jvm.OwnKit.St p l e ({ frames := 2, cells := 0, slots := 0, locals := 26 } : Room) s m #[(.int u1)] below meth c Z prog_13_method_17_code "com/example/dealwright/dealwright/HandRequirements" (some .int) 3 "points" n0 T24 h 0 0 → r23 = (if (u1 &&& (32 : Int32)) = (0 : Int32) then r19 else (r19 + (cp (5 : Int32)))) → Jvm.OwnKit.Ends p e below s n0 0 0 (fun v h' => v = some (.int (pts u1)) ∧ h = h') T24 (mkF m 25 #[.val (.int u1), .val (.int r23), .val (.int (5 : Int32))] []) := by
              intro r23 T24 X24 hr23
              refine F_iinc X24 d1_25 rfl (Ls' := #[.val (.int u1), .val (.int r23), .val (.int (6 : Int32))]) rfl (pc' := 28) rfl ?_
              refine F_goto X24 d1_28 (by decide) (pc' := 4) (by decide) ?_
              refine F_iloadN X24 d1_4 rfl (pc' := 5) rfl ?_
              refine F_bipush X24 d1_5 (z := (13 : Int32)) (by decide) (pc' := 7) rfl ?_
              refine F_icmp_ge X24 d1_7 (by decide) (pt := 31) (by decide) (pc' := 10) rfl (fun q => absurd q (by decide)) (fun _ => ?_)
              refine F_iloadN X24 d1_10 rfl (pc' := 11) rfl ?_
              refine F_iconst X24 d1_11 (z := (1 : Int32)) (by decide) (pc' := 12) rfl ?_
              refine F_iloadN X24 d1_12 rfl (pc' := 13) rfl ?_
              refine F_ishl X24 d1_13 (z := (64 : Int32)) (by decide) (pc' := 14) rfl ?_
              refine F_iand X24 d1_14 rfl (pc' := 15) rfl ?_
              have Jr27 : ∀ (r27 : Int32) (T28 : State), Jvm.OwnKit.St p l e ({ frames := 2, cells := 0, slots := 0, locals := 26 } : Room) s m #[(.int u1)] below meth c Z prog_13_method_17_code "com/example/dealwright/dealwright/HandRequirements" (some .int) 3 "points" n0 T28 h 0 0 → r27 = (if (u1 &&& (64 : Int32)) = (0 : Int32) then r23 else (r23 + (cp (6 : Int32)))) → Jvm.OwnKit.Ends p e below s n0 0 0 (fun v h' => v = some (.int (pts u1)) ∧ h = h') T28 (mkF m 25 #[.val (.int u1), .val (.int r27), .val (.int (6 : Int32))] []) := by
                intro r27 T28 X28 hr27
                refine F_iinc X28 d1_25 rfl (Ls' := #[.val (.int u1), .val (.int r27), .val (.int (7 : Int32))]) rfl (pc' := 28) rfl ?_
                refine F_goto X28 d1_28 (by decide) (pc' := 4) (by decide) ?_
                refine F_iloadN X28 d1_4 rfl (pc' := 5) rfl ?_
                refine F_bipush X28 d1_5 (z := (13 : Int32)) (by decide) (pc' := 7) rfl ?_
                refine F_icmp_ge X28 d1_7 (by decide) (pt := 31) (by decide) (pc' := 10) rfl (fun q => absurd q (by decide)) (fun _ => ?_)
                refine F_iloadN X28 d1_10 rfl (pc' := 11) rfl ?_
                refine F_iconst X28 d1_11 (z := (1 : Int32)) (by decide) (pc' := 12) rfl ?_
                refine F_iloadN X28 d1_12 rfl (pc' := 13) rfl ?_
                refine F_ishl X28 d1_13 (z := (128 : Int32)) (by decide) (pc' := 14) rfl ?_
                refine F_iand X28 d1_14 rfl (pc' := 15) rfl ?_
                have Jr31 : ∀ (r31 : Int32) (T32 : State), Jvm.OwnKit.St p l e ({ frames := 2, cells := 0, slots := 0, locals := 26 } : Room) s m #[(.int u1)] below meth c Z prog_13_method_17_code "com/example/dealwright/dealwright/HandRequirements" (some .int) 3 "points" n0 T32 h 0 0 → r31 = (if (u1 &&& (128 : Int32)) = (0 : Int32) then r27 else (r27 + (cp (7 : Int32)))) → Jvm.OwnKit.Ends p e below s n0 0 0 (fun v h' => v = some (.int (pts u1)) ∧ h = h') T32 (mkF m 25 #[.val (.int u1), .val (.int r31), .val (.int (7 : Int32))] []) := by
                  intro r31 T32 X32 hr31
                  refine F_iinc X32 d1_25 rfl (Ls' := #[.val (.int u1), .val (.int r31), .val (.int (8 : Int32))]) rfl (pc' := 28) rfl ?_
                  refine F_goto X32 d1_28 (by decide) (pc' := 4) (by decide) ?_
                  refine F_iloadN X32 d1_4 rfl (pc' := 5) rfl ?_
                  refine F_bipush X32 d1_5 (z := (13 : Int32)) (by decide) (pc' := 7) rfl ?_
                  refine F_icmp_ge X32 d1_7 (by decide) (pt := 31) (by decide) (pc' := 10) rfl (fun q => absurd q (by decide)) (fun _ => ?_)
                  refine F_iloadN X32 d1_10 rfl (pc' := 11) rfl ?_
                  refine F_iconst X32 d1_11 (z := (1 : Int32)) (by decide) (pc' := 12) rfl ?_
                  refine F_iloadN X32 d1_12 rfl (pc' := 13) rfl ?_
                  refine F_ishl X32 d1_13 (z := (256 : Int32)) (by decide) (pc' := 14) rfl ?_
                  refine F_iand X32 d1_14 rfl (pc' := 15) rfl ?_
                  have Jr35 : ∀ (r35 : Int32) (T36 : State), Jvm.OwnKit.St p l e ({ frames := 2, cells := 0, slots := 0, locals := 26 } : Room) s m #[(.int u1)] below meth c Z prog_13_method_17_code "com/example/dealwright/dealwright/HandRequirements" (some .int) 3 "points" n0 T36 h 0 0 → r35 = (if (u1 &&& (256 : Int32)) = (0 : Int32) then r31 else (r31 + (cp (8 : Int32)))) → Jvm.OwnKit.Ends p e below s n0 0 0 (fun v h' => v = some (.int (pts u1)) ∧ h = h') T36 (mkF m 25 #[.val (.int u1), .val (.int r35), .val (.int (8 : Int32))] []) := by
                    intro r35 T36 X36 hr35
                    refine F_iinc X36 d1_25 rfl (Ls' := #[.val (.int u1), .val (.int r35), .val (.int (9 : Int32))]) rfl (pc' := 28) rfl ?_
                    refine F_goto X36 d1_28 (by decide) (pc' := 4) (by decide) ?_
                    refine F_iloadN X36 d1_4 rfl (pc' := 5) rfl ?_
                    refine F_bipush X36 d1_5 (z := (13 : Int32)) (by decide) (pc' := 7) rfl ?_
                    refine F_icmp_ge X36 d1_7 (by decide) (pt := 31) (by decide) (pc' := 10) rfl (fun q => absurd q (by decide)) (fun _ => ?_)
                    refine F_iloadN X36 d1_10 rfl (pc' := 11) rfl ?_
                    refine F_iconst X36 d1_11 (z := (1 : Int32)) (by decide) (pc' := 12) rfl ?_
                    refine F_iloadN X36 d1_12 rfl (pc' := 13) rfl ?_
                    refine F_ishl X36 d1_13 (z := (512 : Int32)) (by decide) (pc' := 14) rfl ?_
                    refine F_iand X36 d1_14 rfl (pc' := 15) rfl ?_
                    have Jr39 : ∀ (r39 : Int32) (T40 : State), Jvm.OwnKit.St p l e ({ frames := 2, cells := 0, slots := 0, locals := 26 } : Room) s m #[(.int u1)] below meth c Z prog_13_method_17_code "com/example/dealwright/dealwright/HandRequirements" (some .int) 3 "points" n0 T40 h 0 0 → r39 = (if (u1 &&& (512 : Int32)) = (0 : Int32) then r35 else (r35 + (cp (9 : Int32)))) → Jvm.OwnKit.Ends p e below s n0 0 0 (fun v h' => v = some (.int (pts u1)) ∧ h = h') T40 (mkF m 25 #[.val (.int u1), .val (.int r39), .val (.int (9 : Int32))] []) := by
                      intro r39 T40 X40 hr39
                      refine F_iinc X40 d1_25 rfl (Ls' := #[.val (.int u1), .val (.int r39), .val (.int (10 : Int32))]) rfl (pc' := 28) rfl ?_
                      refine F_goto X40 d1_28 (by decide) (pc' := 4) (by decide) ?_
                      refine F_iloadN X40 d1_4 rfl (pc' := 5) rfl ?_
                      refine F_bipush X40 d1_5 (z := (13 : Int32)) (by decide) (pc' := 7) rfl ?_
                      refine F_icmp_ge X40 d1_7 (by decide) (pt := 31) (by decide) (pc' := 10) rfl (fun q => absurd q (by decide)) (fun _ => ?_)
                      refine F_iloadN X40 d1_10 rfl (pc' := 11) rfl ?_
                      refine F_iconst X40 d1_11 (z := (1 : Int32)) (by decide) (pc' := 12) rfl ?_
                      refine F_iloadN X40 d1_12 rfl (pc' := 13) rfl ?_
                      refine F_ishl X40 d1_13 (z := (1024 : Int32)) (by decide) (pc' := 14) rfl ?_
                      refine F_iand X40 d1_14 rfl (pc' := 15) rfl ?_
                      have Jr43 : ∀ (r43 : Int32) (T44 : State), Jvm.OwnKit.St p l e ({ frames := 2, cells := 0, slots := 0, locals := 26 } : Room) s m #[(.int u1)] below meth c Z prog_13_method_17_code "com/example/dealwright/dealwright/HandRequirements" (some .int) 3 "points" n0 T44 h 0 0 → r43 = (if (u1 &&& (1024 : Int32)) = (0 : Int32) then r39 else (r39 + (cp (10 : Int32)))) → Jvm.OwnKit.Ends p e below s n0 0 0 (fun v h' => v = some (.int (pts u1)) ∧ h = h') T44 (mkF m 25 #[.val (.int u1), .val (.int r43), .val (.int (10 : Int32))] []) := by
                        intro r43 T44 X44 hr43
                        refine F_iinc X44 d1_25 rfl (Ls' := #[.val (.int u1), .val (.int r43), .val (.int (11 : Int32))]) rfl (pc' := 28) rfl ?_
                        refine F_goto X44 d1_28 (by decide) (pc' := 4) (by decide) ?_
                        refine F_iloadN X44 d1_4 rfl (pc' := 5) rfl ?_
                        refine F_bipush X44 d1_5 (z := (13 : Int32)) (by decide) (pc' := 7) rfl ?_
                        refine F_icmp_ge X44 d1_7 (by decide) (pt := 31) (by decide) (pc' := 10) rfl (fun q => absurd q (by decide)) (fun _ => ?_)
                        refine F_iloadN X44 d1_10 rfl (pc' := 11) rfl ?_
                        refine F_iconst X44 d1_11 (z := (1 : Int32)) (by decide) (pc' := 12) rfl ?_
                        refine F_iloadN X44 d1_12 rfl (pc' := 13) rfl ?_
                        refine F_ishl X44 d1_13 (z := (2048 : Int32)) (by decide) (pc' := 14) rfl ?_
                        refine F_iand X44 d1_14 rfl (pc' := 15) rfl ?_
                        have Jr47 : ∀ (r47 : Int32) (T48 : State), Jvm.OwnKit.St p l e ({ frames := 2, cells := 0, slots := 0, locals := 26 } : Room) s m #[(.int u1)] below meth c Z prog_13_method_17_code "com/example/dealwright/dealwright/HandRequirements" (some .int) 3 "points" n0 T48 h 0 0 → r47 = (if (u1 &&& (2048 : Int32)) = (0 : Int32) then r43 else (r43 + (cp (11 : Int32)))) → Jvm.OwnKit.Ends p e below s n0 0 0 (fun v h' => v = some (.int (pts u1)) ∧ h = h') T48 (mkF m 25 #[.val (.int u1), .val (.int r47), .val (.int (11 : Int32))] []) := by
                          intro r47 T48 X48 hr47
                          refine F_iinc X48 d1_25 rfl (Ls' := #[.val (.int u1), .val (.int r47), .val (.int (12 : Int32))]) rfl (pc' := 28) rfl ?_
                          refine F_goto X48 d1_28 (by decide) (pc' := 4) (by decide) ?_
                          refine F_iloadN X48 d1_4 rfl (pc' := 5) rfl ?_
                          refine F_bipush X48 d1_5 (z := (13 : Int32)) (by decide) (pc' := 7) rfl ?_
                          refine F_icmp_ge X48 d1_7 (by decide) (pt := 31) (by decide) (pc' := 10) rfl (fun q => absurd q (by decide)) (fun _ => ?_)
                          refine F_iloadN X48 d1_10 rfl (pc' := 11) rfl ?_
                          refine F_iconst X48 d1_11 (z := (1 : Int32)) (by decide) (pc' := 12) rfl ?_
                          refine F_iloadN X48 d1_12 rfl (pc' := 13) rfl ?_
                          refine F_ishl X48 d1_13 (z := (4096 : Int32)) (by decide) (pc' := 14) rfl ?_
                          refine F_iand X48 d1_14 rfl (pc' := 15) rfl ?_
                          have Jr51 : ∀ (r51 : Int32) (T52 : State), Jvm.OwnKit.St p l e ({ frames := 2, cells := 0, slots := 0, locals := 26 } : Room) s m #[(.int u1)] below meth c Z prog_13_method_17_code "com/example/dealwright/dealwright/HandRequirements" (some .int) 3 "points" n0 T52 h 0 0 → r51 = (if (u1 &&& (4096 : Int32)) = (0 : Int32) then r47 else (r47 + (cp (12 : Int32)))) → Jvm.OwnKit.Ends p e below s n0 0 0 (fun v h' => v = some (.int (pts u1)) ∧ h = h') T52 (mkF m 25 #[.val (.int u1), .val (.int r51), .val (.int (12 : Int32))] []) := by
                            intro r51 T52 X52 hr51
                            refine F_iinc X52 d1_25 rfl (Ls' := #[.val (.int u1), .val (.int r51), .val (.int (13 : Int32))]) rfl (pc' := 28) rfl ?_
                            refine F_goto X52 d1_28 (by decide) (pc' := 4) (by decide) ?_
                            refine F_iloadN X52 d1_4 rfl (pc' := 5) rfl ?_
                            refine F_bipush X52 d1_5 (z := (13 : Int32)) (by decide) (pc' := 7) rfl ?_
                            refine F_icmp_ge X52 d1_7 (by decide) (pt := 31) (by decide) (pc' := 10) rfl (fun _ => ?_) (fun q => absurd q (by decide))
                            refine F_iloadN X52 d1_31 rfl (pc' := 32) rfl ?_
                            refine F_ireturn X52 d1_32 rfl (by decide) (by decide) ?_
                            exact ⟨by subst hr3 hr7 hr11 hr15 hr19 hr23 hr27 hr31 hr35 hr39 hr43 hr47 hr51; rfl, rfl⟩
                          refine F_if_eq X48 d1_15 (by decide) (pt := 25) (by decide) (pc' := 18) rfl (fun hc15_49 => ?_) (fun hc15_49 => ?_)
                          · exact Jr51 _ _ (X48.more (by decide) (by decide)) (if_pos hc15_49).symm
                          · refine F_iloadN X48 d1_18 rfl (pc' := 19) rfl ?_
                            refine F_iloadN X48 d1_19 rfl (pc' := 20) rfl ?_
                            refine F_callS X48 (y := (⟨"com/example/dealwright/dealwright/BridgeDeal", "cardPoints", "(I)I"⟩ : MethodName)) (stk := [(.int r47)]) (wd4 hw) (wd5 hw) (wd6 hw) (wd7 hw) (by decide) (argsL := [(.int (12 : Int32))]) (conC l Z a0 hw n0 h X48.size (12 : Int32)) (by decide) (W := 1) (Nat.le_of_ble_eq_true rfl) (by decide) (by decide) (by decide) rfl (lenOf pd0 rfl) rfl d1_20 (pc' := 23) rfl fun T53 v53 h53 X53 q53 => ?_
                            obtain ⟨rfl, rfl⟩ := q53
                            replace X53 := X53.more (cells' := 0) (slots' := 0) (by decide) (by decide)
                            show Jvm.OwnKit.Ends p e below s n0 0 0 _ T53 (mkF m 23 #[.val (.int u1), .val (.int r47), .val (.int (12 : Int32))] [(.int (cp (12 : Int32))), (.int r47)])
                            refine F_iadd X53 d1_23 rfl (pc' := 24) rfl ?_
                            refine F_istoreN X53 d1_24 (Ls' := #[.val (.int u1), .val (.int (r47 + (cp (12 : Int32)))), .val (.int (12 : Int32))]) rfl (pc' := 25) rfl ?_
                            exact Jr51 _ _ (X53.more (by decide) (by decide)) (if_neg hc15_49).symm
                        refine F_if_eq X44 d1_15 (by decide) (pt := 25) (by decide) (pc' := 18) rfl (fun hc15_45 => ?_) (fun hc15_45 => ?_)
                        · exact Jr47 _ _ (X44.more (by decide) (by decide)) (if_pos hc15_45).symm
                        · refine F_iloadN X44 d1_18 rfl (pc' := 19) rfl ?_
                          refine F_iloadN X44 d1_19 rfl (pc' := 20) rfl ?_
                          refine F_callS X44 (y := (⟨"com/example/dealwright/dealwright/BridgeDeal", "cardPoints", "(I)I"⟩ : MethodName)) (stk := [(.int r43)]) (wd4 hw) (wd5 hw) (wd6 hw) (wd7 hw) (by decide) (argsL := [(.int (11 : Int32))]) (conC l Z a0 hw n0 h X44.size (11 : Int32)) (by decide) (W := 1) (Nat.le_of_ble_eq_true rfl) (by decide) (by decide) (by decide) rfl (lenOf pd0 rfl) rfl d1_20 (pc' := 23) rfl fun T54 v54 h54 X54 q54 => ?_
                          obtain ⟨rfl, rfl⟩ := q54
                          replace X54 := X54.more (cells' := 0) (slots' := 0) (by decide) (by decide)
                          show Jvm.OwnKit.Ends p e below s n0 0 0 _ T54 (mkF m 23 #[.val (.int u1), .val (.int r43), .val (.int (11 : Int32))] [(.int (cp (11 : Int32))), (.int r43)])
                          refine F_iadd X54 d1_23 rfl (pc' := 24) rfl ?_
                          refine F_istoreN X54 d1_24 (Ls' := #[.val (.int u1), .val (.int (r43 + (cp (11 : Int32)))), .val (.int (11 : Int32))]) rfl (pc' := 25) rfl ?_
                          exact Jr47 _ _ (X54.more (by decide) (by decide)) (if_neg hc15_45).symm
                      refine F_if_eq X40 d1_15 (by decide) (pt := 25) (by decide) (pc' := 18) rfl (fun hc15_41 => ?_) (fun hc15_41 => ?_)
                      · exact Jr43 _ _ (X40.more (by decide) (by decide)) (if_pos hc15_41).symm
                      · refine F_iloadN X40 d1_18 rfl (pc' := 19) rfl ?_
                        refine F_iloadN X40 d1_19 rfl (pc' := 20) rfl ?_
                        refine F_callS X40 (y := (⟨"com/example/dealwright/dealwright/BridgeDeal", "cardPoints", "(I)I"⟩ : MethodName)) (stk := [(.int r39)]) (wd4 hw) (wd5 hw) (wd6 hw) (wd7 hw) (by decide) (argsL := [(.int (10 : Int32))]) (conC l Z a0 hw n0 h X40.size (10 : Int32)) (by decide) (W := 1) (Nat.le_of_ble_eq_true rfl) (by decide) (by decide) (by decide) rfl (lenOf pd0 rfl) rfl d1_20 (pc' := 23) rfl fun T55 v55 h55 X55 q55 => ?_
                        obtain ⟨rfl, rfl⟩ := q55
                        replace X55 := X55.more (cells' := 0) (slots' := 0) (by decide) (by decide)
                        show Jvm.OwnKit.Ends p e below s n0 0 0 _ T55 (mkF m 23 #[.val (.int u1), .val (.int r39), .val (.int (10 : Int32))] [(.int (cp (10 : Int32))), (.int r39)])
                        refine F_iadd X55 d1_23 rfl (pc' := 24) rfl ?_
                        refine F_istoreN X55 d1_24 (Ls' := #[.val (.int u1), .val (.int (r39 + (cp (10 : Int32)))), .val (.int (10 : Int32))]) rfl (pc' := 25) rfl ?_
                        exact Jr43 _ _ (X55.more (by decide) (by decide)) (if_neg hc15_41).symm
                    refine F_if_eq X36 d1_15 (by decide) (pt := 25) (by decide) (pc' := 18) rfl (fun hc15_37 => ?_) (fun hc15_37 => ?_)
                    · exact Jr39 _ _ (X36.more (by decide) (by decide)) (if_pos hc15_37).symm
                    · refine F_iloadN X36 d1_18 rfl (pc' := 19) rfl ?_
                      refine F_iloadN X36 d1_19 rfl (pc' := 20) rfl ?_
                      refine F_callS X36 (y := (⟨"com/example/dealwright/dealwright/BridgeDeal", "cardPoints", "(I)I"⟩ : MethodName)) (stk := [(.int r35)]) (wd4 hw) (wd5 hw) (wd6 hw) (wd7 hw) (by decide) (argsL := [(.int (9 : Int32))]) (conC l Z a0 hw n0 h X36.size (9 : Int32)) (by decide) (W := 1) (Nat.le_of_ble_eq_true rfl) (by decide) (by decide) (by decide) rfl (lenOf pd0 rfl) rfl d1_20 (pc' := 23) rfl fun T56 v56 h56 X56 q56 => ?_
                      obtain ⟨rfl, rfl⟩ := q56
                      replace X56 := X56.more (cells' := 0) (slots' := 0) (by decide) (by decide)
                      show Jvm.OwnKit.Ends p e below s n0 0 0 _ T56 (mkF m 23 #[.val (.int u1), .val (.int r35), .val (.int (9 : Int32))] [(.int (cp (9 : Int32))), (.int r35)])
                      refine F_iadd X56 d1_23 rfl (pc' := 24) rfl ?_
                      refine F_istoreN X56 d1_24 (Ls' := #[.val (.int u1), .val (.int (r35 + (cp (9 : Int32)))), .val (.int (9 : Int32))]) rfl (pc' := 25) rfl ?_
                      exact Jr39 _ _ (X56.more (by decide) (by decide)) (if_neg hc15_37).symm
                  refine F_if_eq X32 d1_15 (by decide) (pt := 25) (by decide) (pc' := 18) rfl (fun hc15_33 => ?_) (fun hc15_33 => ?_)
                  · exact Jr35 _ _ (X32.more (by decide) (by decide)) (if_pos hc15_33).symm
                  · refine F_iloadN X32 d1_18 rfl (pc' := 19) rfl ?_
                    refine F_iloadN X32 d1_19 rfl (pc' := 20) rfl ?_
                    refine F_callS X32 (y := (⟨"com/example/dealwright/dealwright/BridgeDeal", "cardPoints", "(I)I"⟩ : MethodName)) (stk := [(.int r31)]) (wd4 hw) (wd5 hw) (wd6 hw) (wd7 hw) (by decide) (argsL := [(.int (8 : Int32))]) (conC l Z a0 hw n0 h X32.size (8 : Int32)) (by decide) (W := 1) (Nat.le_of_ble_eq_true rfl) (by decide) (by decide) (by decide) rfl (lenOf pd0 rfl) rfl d1_20 (pc' := 23) rfl fun T57 v57 h57 X57 q57 => ?_
                    obtain ⟨rfl, rfl⟩ := q57
                    replace X57 := X57.more (cells' := 0) (slots' := 0) (by decide) (by decide)
                    show Jvm.OwnKit.Ends p e below s n0 0 0 _ T57 (mkF m 23 #[.val (.int u1), .val (.int r31), .val (.int (8 : Int32))] [(.int (cp (8 : Int32))), (.int r31)])
                    refine F_iadd X57 d1_23 rfl (pc' := 24) rfl ?_
                    refine F_istoreN X57 d1_24 (Ls' := #[.val (.int u1), .val (.int (r31 + (cp (8 : Int32)))), .val (.int (8 : Int32))]) rfl (pc' := 25) rfl ?_
                    exact Jr35 _ _ (X57.more (by decide) (by decide)) (if_neg hc15_33).symm
                refine F_if_eq X28 d1_15 (by decide) (pt := 25) (by decide) (pc' := 18) rfl (fun hc15_29 => ?_) (fun hc15_29 => ?_)
                · exact Jr31 _ _ (X28.more (by decide) (by decide)) (if_pos hc15_29).symm
                · refine F_iloadN X28 d1_18 rfl (pc' := 19) rfl ?_
                  refine F_iloadN X28 d1_19 rfl (pc' := 20) rfl ?_
                  refine F_callS X28 (y := (⟨"com/example/dealwright/dealwright/BridgeDeal", "cardPoints", "(I)I"⟩ : MethodName)) (stk := [(.int r27)]) (wd4 hw) (wd5 hw) (wd6 hw) (wd7 hw) (by decide) (argsL := [(.int (7 : Int32))]) (conC l Z a0 hw n0 h X28.size (7 : Int32)) (by decide) (W := 1) (Nat.le_of_ble_eq_true rfl) (by decide) (by decide) (by decide) rfl (lenOf pd0 rfl) rfl d1_20 (pc' := 23) rfl fun T58 v58 h58 X58 q58 => ?_
                  obtain ⟨rfl, rfl⟩ := q58
                  replace X58 := X58.more (cells' := 0) (slots' := 0) (by decide) (by decide)
                  show Jvm.OwnKit.Ends p e below s n0 0 0 _ T58 (mkF m 23 #[.val (.int u1), .val (.int r27), .val (.int (7 : Int32))] [(.int (cp (7 : Int32))), (.int r27)])
                  refine F_iadd X58 d1_23 rfl (pc' := 24) rfl ?_
                  refine F_istoreN X58 d1_24 (Ls' := #[.val (.int u1), .val (.int (r27 + (cp (7 : Int32)))), .val (.int (7 : Int32))]) rfl (pc' := 25) rfl ?_
                  exact Jr31 _ _ (X58.more (by decide) (by decide)) (if_neg hc15_29).symm
              refine F_if_eq X24 d1_15 (by decide) (pt := 25) (by decide) (pc' := 18) rfl (fun hc15_25 => ?_) (fun hc15_25 => ?_)
              · exact Jr27 _ _ (X24.more (by decide) (by decide)) (if_pos hc15_25).symm
              · refine F_iloadN X24 d1_18 rfl (pc' := 19) rfl ?_
                refine F_iloadN X24 d1_19 rfl (pc' := 20) rfl ?_
                refine F_callS X24 (y := (⟨"com/example/dealwright/dealwright/BridgeDeal", "cardPoints", "(I)I"⟩ : MethodName)) (stk := [(.int r23)]) (wd4 hw) (wd5 hw) (wd6 hw) (wd7 hw) (by decide) (argsL := [(.int (6 : Int32))]) (conC l Z a0 hw n0 h X24.size (6 : Int32)) (by decide) (W := 1) (Nat.le_of_ble_eq_true rfl) (by decide) (by decide) (by decide) rfl (lenOf pd0 rfl) rfl d1_20 (pc' := 23) rfl fun T59 v59 h59 X59 q59 => ?_
                obtain ⟨rfl, rfl⟩ := q59
                replace X59 := X59.more (cells' := 0) (slots' := 0) (by decide) (by decide)
                show Jvm.OwnKit.Ends p e below s n0 0 0 _ T59 (mkF m 23 #[.val (.int u1), .val (.int r23), .val (.int (6 : Int32))] [(.int (cp (6 : Int32))), (.int r23)])
                refine F_iadd X59 d1_23 rfl (pc' := 24) rfl ?_
                refine F_istoreN X59 d1_24 (Ls' := #[.val (.int u1), .val (.int (r23 + (cp (6 : Int32)))), .val (.int (6 : Int32))]) rfl (pc' := 25) rfl ?_
                exact Jr27 _ _ (X59.more (by decide) (by decide)) (if_neg hc15_25).symm
            refine F_if_eq X20 d1_15 (by decide) (pt := 25) (by decide) (pc' := 18) rfl (fun hc15_21 => ?_) (fun hc15_21 => ?_)
            · exact Jr23 _ _ (X20.more (by decide) (by decide)) (if_pos hc15_21).symm
            · refine F_iloadN X20 d1_18 rfl (pc' := 19) rfl ?_
              refine F_iloadN X20 d1_19 rfl (pc' := 20) rfl ?_
              refine F_callS X20 (y := (⟨"com/example/dealwright/dealwright/BridgeDeal", "cardPoints", "(I)I"⟩ : MethodName)) (stk := [(.int r19)]) (wd4 hw) (wd5 hw) (wd6 hw) (wd7 hw) (by decide) (argsL := [(.int (5 : Int32))]) (conC l Z a0 hw n0 h X20.size (5 : Int32)) (by decide) (W := 1) (Nat.le_of_ble_eq_true rfl) (by decide) (by decide) (by decide) rfl (lenOf pd0 rfl) rfl d1_20 (pc' := 23) rfl fun T60 v60 h60 X60 q60 => ?_
              obtain ⟨rfl, rfl⟩ := q60
              replace X60 := X60.more (cells' := 0) (slots' := 0) (by decide) (by decide)
              show Jvm.OwnKit.Ends p e below s n0 0 0 _ T60 (mkF m 23 #[.val (.int u1), .val (.int r19), .val (.int (5 : Int32))] [(.int (cp (5 : Int32))), (.int r19)])
              refine F_iadd X60 d1_23 rfl (pc' := 24) rfl ?_
              refine F_istoreN X60 d1_24 (Ls' := #[.val (.int u1), .val (.int (r19 + (cp (5 : Int32)))), .val (.int (5 : Int32))]) rfl (pc' := 25) rfl ?_
              exact Jr23 _ _ (X60.more (by decide) (by decide)) (if_neg hc15_21).symm
          refine F_if_eq X16 d1_15 (by decide) (pt := 25) (by decide) (pc' := 18) rfl (fun hc15_17 => ?_) (fun hc15_17 => ?_)
          · exact Jr19 _ _ (X16.more (by decide) (by decide)) (if_pos hc15_17).symm
          · refine F_iloadN X16 d1_18 rfl (pc' := 19) rfl ?_
            refine F_iloadN X16 d1_19 rfl (pc' := 20) rfl ?_
            refine F_callS X16 (y := (⟨"com/example/dealwright/dealwright/BridgeDeal", "cardPoints", "(I)I"⟩ : MethodName)) (stk := [(.int r15)]) (wd4 hw) (wd5 hw) (wd6 hw) (wd7 hw) (by decide) (argsL := [(.int (4 : Int32))]) (conC l Z a0 hw n0 h X16.size (4 : Int32)) (by decide) (W := 1) (Nat.le_of_ble_eq_true rfl) (by decide) (by decide) (by decide) rfl (lenOf pd0 rfl) rfl d1_20 (pc' := 23) rfl fun T61 v61 h61 X61 q61 => ?_
            obtain ⟨rfl, rfl⟩ := q61
            replace X61 := X61.more (cells' := 0) (slots' := 0) (by decide) (by decide)
            show Jvm.OwnKit.Ends p e below s n0 0 0 _ T61 (mkF m 23 #[.val (.int u1), .val (.int r15), .val (.int (4 : Int32))] [(.int (cp (4 : Int32))), (.int r15)])
            refine F_iadd X61 d1_23 rfl (pc' := 24) rfl ?_
            refine F_istoreN X61 d1_24 (Ls' := #[.val (.int u1), .val (.int (r15 + (cp (4 : Int32)))), .val (.int (4 : Int32))]) rfl (pc' := 25) rfl ?_
            exact Jr19 _ _ (X61.more (by decide) (by decide)) (if_neg hc15_17).symm
        refine F_if_eq X12 d1_15 (by decide) (pt := 25) (by decide) (pc' := 18) rfl (fun hc15_13 => ?_) (fun hc15_13 => ?_)
        · exact Jr15 _ _ (X12.more (by decide) (by decide)) (if_pos hc15_13).symm
        · refine F_iloadN X12 d1_18 rfl (pc' := 19) rfl ?_
          refine F_iloadN X12 d1_19 rfl (pc' := 20) rfl ?_
          refine F_callS X12 (y := (⟨"com/example/dealwright/dealwright/BridgeDeal", "cardPoints", "(I)I"⟩ : MethodName)) (stk := [(.int r11)]) (wd4 hw) (wd5 hw) (wd6 hw) (wd7 hw) (by decide) (argsL := [(.int (3 : Int32))]) (conC l Z a0 hw n0 h X12.size (3 : Int32)) (by decide) (W := 1) (Nat.le_of_ble_eq_true rfl) (by decide) (by decide) (by decide) rfl (lenOf pd0 rfl) rfl d1_20 (pc' := 23) rfl fun T62 v62 h62 X62 q62 => ?_
          obtain ⟨rfl, rfl⟩ := q62
          replace X62 := X62.more (cells' := 0) (slots' := 0) (by decide) (by decide)
          show Jvm.OwnKit.Ends p e below s n0 0 0 _ T62 (mkF m 23 #[.val (.int u1), .val (.int r11), .val (.int (3 : Int32))] [(.int (cp (3 : Int32))), (.int r11)])
          refine F_iadd X62 d1_23 rfl (pc' := 24) rfl ?_
          refine F_istoreN X62 d1_24 (Ls' := #[.val (.int u1), .val (.int (r11 + (cp (3 : Int32)))), .val (.int (3 : Int32))]) rfl (pc' := 25) rfl ?_
          exact Jr15 _ _ (X62.more (by decide) (by decide)) (if_neg hc15_13).symm
      refine F_if_eq X8 d1_15 (by decide) (pt := 25) (by decide) (pc' := 18) rfl (fun hc15_9 => ?_) (fun hc15_9 => ?_)
      · exact Jr11 _ _ (X8.more (by decide) (by decide)) (if_pos hc15_9).symm
      · refine F_iloadN X8 d1_18 rfl (pc' := 19) rfl ?_
        refine F_iloadN X8 d1_19 rfl (pc' := 20) rfl ?_
        refine F_callS X8 (y := (⟨"com/example/dealwright/dealwright/BridgeDeal", "cardPoints", "(I)I"⟩ : MethodName)) (stk := [(.int r7)]) (wd4 hw) (wd5 hw) (wd6 hw) (wd7 hw) (by decide) (argsL := [(.int (2 : Int32))]) (conC l Z a0 hw n0 h X8.size (2 : Int32)) (by decide) (W := 1) (Nat.le_of_ble_eq_true rfl) (by decide) (by decide) (by decide) rfl (lenOf pd0 rfl) rfl d1_20 (pc' := 23) rfl fun T63 v63 h63 X63 q63 => ?_
        obtain ⟨rfl, rfl⟩ := q63
        replace X63 := X63.more (cells' := 0) (slots' := 0) (by decide) (by decide)
        show Jvm.OwnKit.Ends p e below s n0 0 0 _ T63 (mkF m 23 #[.val (.int u1), .val (.int r7), .val (.int (2 : Int32))] [(.int (cp (2 : Int32))), (.int r7)])
        refine F_iadd X63 d1_23 rfl (pc' := 24) rfl ?_
        refine F_istoreN X63 d1_24 (Ls' := #[.val (.int u1), .val (.int (r7 + (cp (2 : Int32)))), .val (.int (2 : Int32))]) rfl (pc' := 25) rfl ?_
        exact Jr11 _ _ (X63.more (by decide) (by decide)) (if_neg hc15_9).symm
    refine F_if_eq X4 d1_15 (by decide) (pt := 25) (by decide) (pc' := 18) rfl (fun hc15_5 => ?_) (fun hc15_5 => ?_)
    · exact Jr7 _ _ (X4.more (by decide) (by decide)) (if_pos hc15_5).symm
    · refine F_iloadN X4 d1_18 rfl (pc' := 19) rfl ?_
      refine F_iloadN X4 d1_19 rfl (pc' := 20) rfl ?_
      refine F_callS X4 (y := (⟨"com/example/dealwright/dealwright/BridgeDeal", "cardPoints", "(I)I"⟩ : MethodName)) (stk := [(.int r3)]) (wd4 hw) (wd5 hw) (wd6 hw) (wd7 hw) (by decide) (argsL := [(.int (1 : Int32))]) (conC l Z a0 hw n0 h X4.size (1 : Int32)) (by decide) (W := 1) (Nat.le_of_ble_eq_true rfl) (by decide) (by decide) (by decide) rfl (lenOf pd0 rfl) rfl d1_20 (pc' := 23) rfl fun T64 v64 h64 X64 q64 => ?_
      obtain ⟨rfl, rfl⟩ := q64
      replace X64 := X64.more (cells' := 0) (slots' := 0) (by decide) (by decide)
      show Jvm.OwnKit.Ends p e below s n0 0 0 _ T64 (mkF m 23 #[.val (.int u1), .val (.int r3), .val (.int (1 : Int32))] [(.int (cp (1 : Int32))), (.int r3)])
      refine F_iadd X64 d1_23 rfl (pc' := 24) rfl ?_
      refine F_istoreN X64 d1_24 (Ls' := #[.val (.int u1), .val (.int (r3 + (cp (1 : Int32)))), .val (.int (1 : Int32))]) rfl (pc' := 25) rfl ?_
      exact Jr7 _ _ (X64.more (by decide) (by decide)) (if_neg hc15_5).symm
  refine F_if_eq X0 d1_15 (by decide) (pt := 25) (by decide) (pc' := 18) rfl (fun hc15_1 => ?_) (fun hc15_1 => ?_)
  · exact Jr3 _ _ (X0.more (by decide) (by decide)) (if_pos hc15_1).symm
  · refine F_iloadN X0 d1_18 rfl (pc' := 19) rfl ?_
    refine F_iloadN X0 d1_19 rfl (pc' := 20) rfl ?_
    refine F_callS X0 (y := (⟨"com/example/dealwright/dealwright/BridgeDeal", "cardPoints", "(I)I"⟩ : MethodName)) (stk := [(.int (0 : Int32))]) (wd4 hw) (wd5 hw) (wd6 hw) (wd7 hw) (by decide) (argsL := [(.int (0 : Int32))]) (conC l Z a0 hw n0 h X0.size (0 : Int32)) (by decide) (W := 1) (Nat.le_of_ble_eq_true rfl) (by decide) (by decide) (by decide) rfl (lenOf pd0 rfl) rfl d1_20 (pc' := 23) rfl fun T65 v65 h65 X65 q65 => ?_
    obtain ⟨rfl, rfl⟩ := q65
    replace X65 := X65.more (cells' := 0) (slots' := 0) (by decide) (by decide)
    show Jvm.OwnKit.Ends p e below s n0 0 0 _ T65 (mkF m 23 #[.val (.int u1), .val (.int (0 : Int32)), .val (.int (0 : Int32))] [(.int (cp (0 : Int32))), (.int (0 : Int32))])
    refine F_iadd X65 d1_23 rfl (pc' := 24) rfl ?_
    refine F_istoreN X65 d1_24 (Ls' := #[.val (.int u1), .val (.int ((0 : Int32) + (cp (0 : Int32)))), .val (.int (0 : Int32))]) rfl (pc' := 25) rfl ?_
    exact Jr3 _ _ (X65.more (by decide) (by decide)) (if_neg hc15_1).symm
theorem pn0 : plainName "com/example/dealwright/dealwright/HandRequirementsPointsPinLaw" = true := by first | (simp [plainName, overriddenIn]; done) | decide +kernel
theorem ef_con0 (m : MethodId) (x0 : Int32) : entryFrame m #[(.int x0)] maxLocals = mkF m 0 #[.val (.int x0), .unset, .unset, .unset] [] := by first | (simp [entryFrame, mkF, argsToLocals, Value.category, maxLocals]; done) | rfl
set_option maxRecDepth 65536 in
set_option maxHeartbeats 40000000 in
theorem con0 (l : Launch) (Z : State) (a0 : Array Value) (hw : ∀ d ∈ tables_1, d.before a0 Z = true) (n0 : Nat) (h : Heap) (hn0 : n0 ≤ h.size) (u1 : Int32) :
    Con l x code maxLocals ret room_1 0 0 Z n0 #[(.int u1)] h (fun v h' => v = some (.int (1 : Int32))) := by
  refine Con.body (own := "com/example/dealwright/dealwright/HandRequirementsPointsPinLaw") (nm := "law") rfl rfl (plainFor_of_name pn0) hn0 ?_
  intro p e s m below meth c T0 X0
  rw [ef_con0]
  refine F_iloadN X0 at_0 rfl (pc' := 1) rfl ?_
  refine F_sipush X0 at_1 (z := (8191 : Int32)) (by decide) (pc' := 4) rfl ?_
  refine F_iand X0 at_4 rfl (pc' := 5) rfl ?_
  refine F_istoreN X0 at_5 (Ls' := #[.val (.int u1), .val (.int (u1 &&& (8191 : Int32))), .unset, .unset]) rfl (pc' := 6) rfl ?_
  refine F_iconst X0 at_6 (z := (0 : Int32)) (by decide) (pc' := 7) rfl ?_
  refine F_istoreN X0 at_7 (Ls' := #[.val (.int u1), .val (.int (u1 &&& (8191 : Int32))), .val (.int (0 : Int32)), .unset]) rfl (pc' := 8) rfl ?_
  refine F_iloadN X0 at_8 rfl (pc' := 9) rfl ?_
  refine F_iconst X0 at_9 (z := (1 : Int32)) (by decide) (pc' := 10) rfl ?_
  refine F_iand X0 at_10 rfl (pc' := 11) rfl ?_
  have Jr2 : ∀ (r2 : Int32), r2 = (if ((u1 &&& (8191 : Int32)) &&& (1 : Int32)) = (0 : Int32) then (0 : Int32) else (4 : Int32)) → Jvm.OwnKit.Ends p e below s n0 0 0 (fun v h' => v = some (.int (1 : Int32))) T0 (mkF m 18 #[.val (.int u1), .val (.int (u1 &&& (8191 : Int32))), .val (.int r2), .unset] []) := by
    intro r2 hr2
    refine F_iloadN X0 at_18 rfl (pc' := 19) rfl ?_
    refine F_iconst X0 at_19 (z := (2 : Int32)) (by decide) (pc' := 20) rfl ?_
    refine F_iand X0 at_20 rfl (pc' := 21) rfl ?_
    have Jr4 : ∀ (r4 : Int32), r4 = (if ((u1 &&& (8191 : Int32)) &&& (2 : Int32)) = (0 : Int32) then r2 else (r2 + (3 : Int32))) → Jvm.OwnKit.Ends p e below s n0 0 0 (fun v h' => v = some (.int (1 : Int32))) T0 (mkF m 28 #[.val (.int u1), .val (.int (u1 &&& (8191 : Int32))), .val (.int r4), .unset] []) := by
      intro r4 hr4
      refine F_iloadN X0 at_28 rfl (pc' := 29) rfl ?_
      refine F_iconst X0 at_29 (z := (4 : Int32)) (by decide) (pc' := 30) rfl ?_
      refine F_iand X0 at_30 rfl (pc' := 31) rfl ?_
      have Jr6 : ∀ (r6 : Int32), r6 = (if ((u1 &&& (8191 : Int32)) &&& (4 : Int32)) = (0 : Int32) then r4 else (r4 + (2 : Int32))) → Jvm.OwnKit.Ends p e below s n0 0 0 (fun v h' => v = some (.int (1 : Int32))) T0 (mkF m 38 #[.val (.int u1), .val (.int (u1 &&& (8191 : Int32))), .val (.int r6), .unset] []) := by
        intro r6 hr6
        refine F_iloadN X0 at_38 rfl (pc' := 39) rfl ?_
        refine F_bipush X0 at_39 (z := (8 : Int32)) (by decide) (pc' := 41) rfl ?_
        refine F_iand X0 at_41 rfl (pc' := 42) rfl ?_
        have Jr8 : ∀ (r8 : Int32), r8 = (if ((u1 &&& (8191 : Int32)) &&& (8 : Int32)) = (0 : Int32) then r6 else (r6 + (1 : Int32))) → Jvm.OwnKit.Ends p e below s n0 0 0 (fun v h' => v = some (.int (1 : Int32))) T0 (mkF m 49 #[.val (.int u1), .val (.int (u1 &&& (8191 : Int32))), .val (.int r8), .unset] []) := by
          intro r8 hr8
          refine F_iloadN X0 at_49 rfl (pc' := 50) rfl ?_
          refine F_callS X0 (y := (⟨"com/example/dealwright/dealwright/HandRequirements", "points", "(I)I"⟩ : MethodName)) (stk := []) (wd0 hw) (wd1 hw) (wd2 hw) (wd3 hw) (by decide) (argsL := [(.int (u1 &&& (8191 : Int32)))]) (conP l Z a0 hw n0 h X0.size (u1 &&& (8191 : Int32))) (by decide) (W := 0) (Nat.le_of_ble_eq_true rfl) (by decide) (by decide) (by decide) rfl (lenOf pd0 rfl) rfl at_50 (pc' := 53) rfl fun T9 v9 h9 X9 q9 => ?_
          obtain ⟨rfl, rfl⟩ := q9
          replace X9 := X9.more (cells' := 0) (slots' := 0) (by decide) (by decide)
          show Jvm.OwnKit.Ends p e below s n0 0 0 _ T9 (mkF m 53 #[.val (.int u1), .val (.int (u1 &&& (8191 : Int32))), .val (.int r8), .unset] [(.int (pts (u1 &&& (8191 : Int32))))])
          refine F_istoreN X9 at_53 (Ls' := #[.val (.int u1), .val (.int (u1 &&& (8191 : Int32))), .val (.int r8), .val (.int (pts (u1 &&& (8191 : Int32))))]) rfl (pc' := 54) rfl ?_
          refine F_iloadN X9 at_54 rfl (pc' := 55) rfl ?_
          refine F_iloadN X9 at_55 rfl (pc' := 56) rfl ?_
          refine F_icmp_ne X9 at_56 (by decide) (pt := 63) (by decide) (pc' := 59) rfl (fun hc56_10 => ?_) (fun hc56_10 => ?_)
          · refine F_iconst X9 at_63 (z := (0 : Int32)) (by decide) (pc' := 64) rfl ?_
            refine F_ireturn_boolean (z' := (0 : Int32)) X9 (by decide) at_64 rfl (by decide) (by decide) ?_
            exfalso; subst hr2 hr4 hr6 hr8; exact hc56_10 (own_pts _)
          · refine F_iconst X9 at_59 (z := (1 : Int32)) (by decide) (pc' := 60) rfl ?_
            refine F_goto X9 at_60 (by decide) (pc' := 64) (by decide) ?_
            refine F_ireturn_boolean (z' := (1 : Int32)) X9 (by decide) at_64 rfl (by decide) (by decide) ?_
            exact rfl
        refine F_if_eq X0 at_42 (by decide) (pt := 49) (by decide) (pc' := 45) rfl (fun hc42_7 => ?_) (fun hc42_7 => ?_)
        · exact Jr8 _ (if_pos hc42_7).symm
        · refine F_iloadN X0 at_45 rfl (pc' := 46) rfl ?_
          refine F_iconst X0 at_46 (z := (1 : Int32)) (by decide) (pc' := 47) rfl ?_
          refine F_iadd X0 at_47 rfl (pc' := 48) rfl ?_
          refine F_istoreN X0 at_48 (Ls' := #[.val (.int u1), .val (.int (u1 &&& (8191 : Int32))), .val (.int (r6 + (1 : Int32))), .unset]) rfl (pc' := 49) rfl ?_
          exact Jr8 _ (if_neg hc42_7).symm
      refine F_if_eq X0 at_31 (by decide) (pt := 38) (by decide) (pc' := 34) rfl (fun hc31_5 => ?_) (fun hc31_5 => ?_)
      · exact Jr6 _ (if_pos hc31_5).symm
      · refine F_iloadN X0 at_34 rfl (pc' := 35) rfl ?_
        refine F_iconst X0 at_35 (z := (2 : Int32)) (by decide) (pc' := 36) rfl ?_
        refine F_iadd X0 at_36 rfl (pc' := 37) rfl ?_
        refine F_istoreN X0 at_37 (Ls' := #[.val (.int u1), .val (.int (u1 &&& (8191 : Int32))), .val (.int (r4 + (2 : Int32))), .unset]) rfl (pc' := 38) rfl ?_
        exact Jr6 _ (if_neg hc31_5).symm
    refine F_if_eq X0 at_21 (by decide) (pt := 28) (by decide) (pc' := 24) rfl (fun hc21_3 => ?_) (fun hc21_3 => ?_)
    · exact Jr4 _ (if_pos hc21_3).symm
    · refine F_iloadN X0 at_24 rfl (pc' := 25) rfl ?_
      refine F_iconst X0 at_25 (z := (3 : Int32)) (by decide) (pc' := 26) rfl ?_
      refine F_iadd X0 at_26 rfl (pc' := 27) rfl ?_
      refine F_istoreN X0 at_27 (Ls' := #[.val (.int u1), .val (.int (u1 &&& (8191 : Int32))), .val (.int (r2 + (3 : Int32))), .unset]) rfl (pc' := 28) rfl ?_
      exact Jr4 _ (if_neg hc21_3).symm
  refine F_if_eq X0 at_11 (by decide) (pt := 18) (by decide) (pc' := 14) rfl (fun hc11_1 => ?_) (fun hc11_1 => ?_)
  · exact Jr2 _ (if_pos hc11_1).symm
  · refine F_iloadN X0 at_14 rfl (pc' := 15) rfl ?_
    refine F_iconst X0 at_15 (z := (4 : Int32)) (by decide) (pc' := 16) rfl ?_
    refine F_iadd X0 at_16 (z := (4 : Int32)) (by decide) (pc' := 17) rfl ?_
    refine F_istoreN X0 at_17 (Ls' := #[.val (.int u1), .val (.int (u1 &&& (8191 : Int32))), .val (.int (4 : Int32)), .unset]) rfl (pc' := 18) rfl ?_
    exact Jr2 _ (if_neg hc11_1).symm
set_option maxRecDepth 65536 in
set_option maxHeartbeats 40000000 in
theorem comes_1 {Post : Tables → Env → Array Value → State → Outcome → State → Prop} (hpost : ∀ tb e args s v u, (limb_1_1.after args s (.returned v) u = true ∧ limb_1_2.after args s (.returned v) u = true ∧ True) → FrameEnd s (.returned v) u (Jvm.fieldLocs frame_1_writes args s ++ Jvm.arrayLocs frame_1_arrays args s ++ Jvm.staticLocs frame_1_statics s) 0 0 → Post tb e args s (.returned v) u) :
    ArmFor flags0 classFile x code maxLocals ret World_1 tables_1 room_1 Calls_1 rest_1 Pre_1 Post := by
  intro l hfl _ _ p e ha hc hk s m args below hf hA hF happ hP
  obtain ⟨hcalls, hrest, hpre⟩ := hP
  obtain ⟨-, -, -, hnamed, -, -, -, hat⟩ := (Spec.applies_iff hf).mp happ
  obtain ⟨hg, hn⟩ := and_e (Cond.before_iff.mp (show (Jvm.Cond.and given_1 narrow_1).before args s = true from hpre))
  obtain ⟨g0, r0⟩ := and_e hg
  obtain ⟨w0, rfl⟩ : ∃ w0 : Value, args = #[w0] := by
    have hs : args.size = 1 := by simpa [Cond.value, given_1] using g0
    obtain ⟨L⟩ := args
    match L, hs with
    | [w0], _ => exact ⟨w0, rfl⟩
  have hw := fun d (hd : d ∈ tables_1) => atoms_spec (ws := Jvm.Cond.code x code maxLocals ret :: tables_1) hat d (List.mem_cons_of_mem _ hd)
  obtain ⟨i0, ei0⟩ := is_v r0
  obtain rfl : w0 = (.int i0) := Option.some.inj ei0
  obtain ⟨n, o, h1, h2, h3, _, L, rfl, ⟨rfl, N⟩, hq⟩ := con0 l s _ hw s.heap.size s.heap (Nat.le_refl _) i0 tables_1 p e ha hc hk s m _ below hf ((Spec.applies_iff_loose hf).mp happ).1 ⟨rfl, State.Warmed39.refl s, rfl⟩ trivial
  refine ⟨n, _, h1, h2, h3, hpost _ _ _ _ _ _ ⟨Cond.after_iff.mpr rfl, Cond.after_iff.mpr (eq_i res_at (Term.int_eval (1)) rfl), trivial⟩ ⟨hq.1, hq.2.1, (hq.2.2.sift fun y hy => Or.inr (N y hy)).mono (by decide) (by decide)⟩⟩
theorem main_1_1 : Claimed_1_1 := comes_1 fun _ _ _ _ _ _ h hF => ⟨h.1, hF⟩
theorem main_1_2 : Claimed_1_2 := comes_1 fun _ _ _ _ _ _ h hF => ⟨h.2.1, hF⟩
end Jvm.Pilot.@@N@@
namespace Jvm.Pilot.@@N@@
open Jvm Jvm.ClassFile Sem Op Lib Jvm.Free Jvm.Stand Jvm.Pilot.@@N@@.Jvm.D
/-! MADE BY PROGRAM (witnessworld.py) out of the Statement's table words and the real class files: 11 classes; the members and pool entries that the words name. The judged class is class 1, her method 1. -/
namespace start1
open Jvm.ClassFile
def u (s : String) : CpInfo := .utf8 (stringToUtf16 s)
/-- a pool by its gaps: so many unusable entries, then the entry; so many at the end -/
def gap : Nat → List CpInfo → List CpInfo
  | 0, r => r
  | n + 1, r => .unusable :: gap n r
def poolList (es : List (Nat × CpInfo)) (last : Nat) : List CpInfo := es.foldr (fun e r => gap e.1 (e.2 :: r)) (gap last [])
def pool (es : List (Nat × CpInfo)) (last : Nat) : Array CpInfo := ⟨poolList es last⟩
def fileOf (pool : Array CpInfo) (this : Nat) (attrs : Array Attribute := #[]) (ms : Array MethodInfo := #[]) (fl : Nat := 33) (sup : Nat := 0) (ifs : Array Nat := #[]) (fds : Array FieldInfo := #[]) : ClassFile where
  minorVersion := 0
  majorVersion := 65
  constantPool := pool
  accessFlags := fl
  thisClass := this
  superClass := sup
  interfaces := ifs
  fields := fds
  methods := ms
  attributes := attrs
def plain (name : String) (sup : Option ClassId) : Class where
  name := name
  kind := .ordinary
  loader := none
  accessFlags := 33
  super := sup
  interfaces := #[]
  cf := none
  fields := #[]
  methods := #[]
  instanceTypes := #[]
  staticTypes := #[]
  resolved := #[]
  callSites := []
  init := .initialized
  statics := none
  mirror := none

def pool0 : Array CpInfo := pool [(5, u "<init>"), (0, u "()V"), (1, .class_ 10), (1, u "java/lang/Object")] 113

def k0m0 : Method := { name := "<init>", desc := "()V", sig := { parameters := [], returnType := none }, accessFlags := 1, code := none }
/-- java/lang/Object -/
def k0 : Class := { plain "java/lang/Object" none with
  accessFlags := 33
  interfaces := #[]
  cf := some (fileOf pool0 8 #[] #[{ accessFlags := 1, nameIndex := 5, descriptorIndex := 6, attributes := #[] }] 33 0 #[] #[])
  fields := #[]
  methods := #[k0m0]
  instanceTypes := #[]
  staticTypes := #[]
  resolved := Array.replicate 124 none
  statics := none }

def pool1 : Array CpInfo := pool [(2, .class_ 4), (1, u "java/lang/Object"), (0, u "<init>"), (0, u "()V"), (0, .methodref 8 9), (0, .class_ 10), (0, .nameAndType 11 12), (0, u "com/example/dealwright/dealwright/HandRequirements"), (0, u "points"), (0, u "(I)I"), (0, .class_ 14), (0, u "com/example/dealwright/dealwright/HandRequirementsPointsPinLaw"), (2, u "law"), (0, u "(I)Z")] 3

def k1m0 : Method := { name := "<init>", desc := "()V", sig := { parameters := [], returnType := none }, accessFlags := 2, code := none }
def k1c1 : Code := { maxStack := 2, maxLocals := 4, code := code, exceptionTable := #[], attributes := #[] }
def k1m1 : Method := { name := "law", desc := "(I)Z", sig := { parameters := [.int], returnType := some .boolean }, accessFlags := 9, code := some k1c1 }
/-- com/example/dealwright/dealwright/HandRequirementsPointsPinLaw -/
def k1 : Class := { plain "com/example/dealwright/dealwright/HandRequirementsPointsPinLaw" (some 0) with
  accessFlags := 49
  interfaces := #[]
  cf := some (fileOf pool1 13 #[] #[{ accessFlags := 2, nameIndex := 5, descriptorIndex := 6, attributes := #[] }, { accessFlags := 9, nameIndex := 17, descriptorIndex := 18, attributes := #[] }] 49 2 #[] #[])
  fields := #[]
  methods := #[k1m0, k1m1]
  instanceTypes := #[]
  staticTypes := #[]
  resolved := Array.replicate 22 none
  statics := none }

def pool2 : Array CpInfo := pool [(4, .class_ 6), (1, u "java/lang/Object"), (6, .class_ 15), (1, u "com/example/dealwright/dealwright/HandRequirements"), (0, u "requirements"), (0, u "Ljava/util/List;"), (2, u "minLength"), (0, u "[I"), (2, u "maxLength"), (2, u "seat"), (0, u "Lcom/example/dealwright/dealwright/BridgeDeal$Seat;"), (70, u "minPoints"), (0, u "I"), (2, u "maxPoints"), (5, u "completions"), (3, u "[[[J"), (24, .class_ 139), (0, u "com/example/dealwright/dealwright/BridgeDeal"), (2, u "SUIT_POINTS"), (2, u "HOLDINGS"), (0, u "[[[I"), (2, u "DECK_POINTS"), (8, u "(I)I"), (2, u "points"), (1, .methodref 138 164), (0, .nameAndType 165 158), (0, u "cardPoints"), (4, u "SUITS")] 25

def k2c0 : Code := { maxStack := 3, maxLocals := 3, code := prog_13_method_17_code, exceptionTable := #[], attributes := #[] }
def k2m0 : Method := { name := "points", desc := "(I)I", sig := { parameters := [.int], returnType := some .int }, accessFlags := 8, code := some k2c0 }
/-- com/example/dealwright/dealwright/HandRequirements -/
def k2 : Class := { plain "com/example/dealwright/dealwright/HandRequirements" (some 0) with
  accessFlags := 48
  interfaces := #[]
  cf := some (fileOf pool2 13 #[] #[{ accessFlags := 8, nameIndex := 161, descriptorIndex := 158, attributes := #[] }] 48 4 #[] #[{ accessFlags := 26, nameIndex := 170, descriptorIndex := 100, attributes := #[] }, { accessFlags := 24, nameIndex := 142, descriptorIndex := 100, attributes := #[] }, { accessFlags := 24, nameIndex := 149, descriptorIndex := 100, attributes := #[] }, { accessFlags := 26, nameIndex := 145, descriptorIndex := 146, attributes := #[] }, { accessFlags := 18, nameIndex := 27, descriptorIndex := 28, attributes := #[] }, { accessFlags := 18, nameIndex := 16, descriptorIndex := 17, attributes := #[] }, { accessFlags := 18, nameIndex := 99, descriptorIndex := 100, attributes := #[] }, { accessFlags := 18, nameIndex := 103, descriptorIndex := 100, attributes := #[] }, { accessFlags := 18, nameIndex := 20, descriptorIndex := 21, attributes := #[] }, { accessFlags := 18, nameIndex := 24, descriptorIndex := 21, attributes := #[] }, { accessFlags := 18, nameIndex := 109, descriptorIndex := 113, attributes := #[] }])
  fields := #[{ name := "SUITS", type := .int, accessFlags := 26, slot := 0, constantValue := 0 }, { name := "SUIT_POINTS", type := .int, accessFlags := 24, slot := 1, constantValue := 0 }, { name := "DECK_POINTS", type := .int, accessFlags := 24, slot := 2, constantValue := 0 }, { name := "HOLDINGS", type := (.array (.array (.array .int))), accessFlags := 26, slot := 3, constantValue := 0 }, { name := "seat", type := (.object "com/example/dealwright/dealwright/BridgeDeal$Seat"), accessFlags := 18, slot := 0, constantValue := 0 }, { name := "requirements", type := (.object "java/util/List"), accessFlags := 18, slot := 1, constantValue := 0 }, { name := "minPoints", type := .int, accessFlags := 18, slot := 2, constantValue := 0 }, { name := "maxPoints", type := .int, accessFlags := 18, slot := 3, constantValue := 0 }, { name := "minLength", type := (.array .int), accessFlags := 18, slot := 4, constantValue := 0 }, { name := "maxLength", type := (.array .int), accessFlags := 18, slot := 5, constantValue := 0 }, { name := "completions", type := (.array (.array (.array .long))), accessFlags := 18, slot := 6, constantValue := 0 }]
  methods := #[k2m0]
  instanceTypes := #[(.object "com/example/dealwright/dealwright/BridgeDeal$Seat"), (.object "java/util/List"), .int, .int, (.array .int), (.array .int), (.array (.array (.array .long)))]
  staticTypes := #[.int, .int, .int, (.array (.array (.array .int)))]
  resolved := Array.replicate 196 none
  statics := none }

def pool3 : Array CpInfo := pool [(1, .class_ 2), (0, u "com/example/dealwright/dealwright/StandardDeck"), (1, .class_ 6), (1, u "java/lang/Object"), (3, .class_ 12), (1, u "com/example/dealwright/dealwright/BridgeDeal"), (0, u "deck"), (0, u "[I"), (35, .methodref 1 51), (0, .nameAndType 52 53), (0, u "rank"), (0, u "(I)I"), (1, .class_ 57), (1, u "com/example/dealwright/dealwright/BridgeDeal$Seat"), (4, u "cardPoints"), (28, u "PURPOSE"), (0, u "Ljava/lang/String;"), (1, u "HAND_SIZE"), (0, u "I"), (1, u "LOWEST_HONOUR")] 36

def k3c0 : Code := { maxStack := 2, maxLocals := 2, code := prog_1_method_5_code, exceptionTable := #[], attributes := #[] }
def k3m0 : Method := { name := "cardPoints", desc := "(I)I", sig := { parameters := [.int], returnType := some .int }, accessFlags := 8, code := some k3c0 }
/-- com/example/dealwright/dealwright/BridgeDeal -/
def k3 : Class := { plain "com/example/dealwright/dealwright/BridgeDeal" (some 0) with
  accessFlags := 48
  interfaces := #[]
  cf := some (fileOf pool3 10 #[.nestMembers #[55]] #[{ accessFlags := 8, nameIndex := 62, descriptorIndex := 53, attributes := #[] }] 48 4 #[] #[{ accessFlags := 26, nameIndex := 91, descriptorIndex := 92, attributes := #[] }, { accessFlags := 24, nameIndex := 94, descriptorIndex := 95, attributes := #[] }, { accessFlags := 26, nameIndex := 97, descriptorIndex := 95, attributes := #[] }, { accessFlags := 18, nameIndex := 13, descriptorIndex := 14, attributes := #[] }])
  fields := #[{ name := "PURPOSE", type := (.object "java/lang/String"), accessFlags := 26, slot := 0, constantValue := 0 }, { name := "HAND_SIZE", type := .int, accessFlags := 24, slot := 1, constantValue := 0 }, { name := "LOWEST_HONOUR", type := .int, accessFlags := 26, slot := 2, constantValue := 0 }, { name := "deck", type := (.array .int), accessFlags := 18, slot := 0, constantValue := 0 }]
  methods := #[k3m0]
  instanceTypes := #[(.array .int)]
  staticTypes := #[(.object "java/lang/String"), .int, .int]
  resolved := Array.replicate 134 none
  statics := none }

def pool4 : Array CpInfo := pool [(1, .class_ 2), (0, u "com/example/dealwright/dealwright/StandardDeck"), (1, .class_ 6), (1, u "java/lang/Object"), (0, u "<init>"), (0, u "()V"), (11, u "(I)I"), (10, u "rank"), (0, u "SIZE"), (0, u "I"), (2, u "RANKS_PER_SUIT"), (1, u "SUIT_COUNT"), (1, u "RANKS"), (0, u "Ljava/lang/String;"), (0, u "SUITS")] 6

def k4m0 : Method := { name := "<init>", desc := "()V", sig := { parameters := [], returnType := none }, accessFlags := 2, code := none }
def k4c1 : Code := { maxStack := 2, maxLocals := 1, code := prog_27_method_3_code, exceptionTable := #[], attributes := #[] }
def k4m1 : Method := { name := "rank", desc := "(I)I", sig := { parameters := [.int], returnType := some .int }, accessFlags := 8, code := some k4c1 }
/-- com/example/dealwright/dealwright/StandardDeck -/
def k4 : Class := { plain "com/example/dealwright/dealwright/StandardDeck" (some 0) with
  accessFlags := 49
  interfaces := #[]
  cf := some (fileOf pool4 1 #[] #[{ accessFlags := 2, nameIndex := 7, descriptorIndex := 8, attributes := #[] }, { accessFlags := 8, nameIndex := 31, descriptorIndex := 20, attributes := #[] }] 49 4 #[] #[{ accessFlags := 25, nameIndex := 32, descriptorIndex := 33, attributes := #[] }, { accessFlags := 24, nameIndex := 36, descriptorIndex := 33, attributes := #[] }, { accessFlags := 24, nameIndex := 38, descriptorIndex := 33, attributes := #[] }, { accessFlags := 26, nameIndex := 40, descriptorIndex := 41, attributes := #[] }, { accessFlags := 26, nameIndex := 42, descriptorIndex := 41, attributes := #[] }])
  fields := #[{ name := "SIZE", type := .int, accessFlags := 25, slot := 0, constantValue := 0 }, { name := "RANKS_PER_SUIT", type := .int, accessFlags := 24, slot := 1, constantValue := 0 }, { name := "SUIT_COUNT", type := .int, accessFlags := 24, slot := 2, constantValue := 0 }, { name := "RANKS", type := (.object "java/lang/String"), accessFlags := 26, slot := 3, constantValue := 0 }, { name := "SUITS", type := (.object "java/lang/String"), accessFlags := 26, slot := 4, constantValue := 0 }]
  methods := #[k4m0, k4m1]
  instanceTypes := #[]
  staticTypes := #[.int, .int, .int, (.object "java/lang/String"), (.object "java/lang/String")]
  resolved := Array.replicate 49 none
  statics := none }

def pool5 : Array CpInfo := pool [(1, u "java/lang/Cloneable"), (0, .class_ 1), (0, u "java/lang/Object"), (0, .class_ 3)] 3

/-- java/lang/Cloneable -/
def k5 : Class := { plain "java/lang/Cloneable" (some 0) with
  accessFlags := 1537
  interfaces := #[]
  cf := some (fileOf pool5 2 #[] #[] 1537 4 #[] #[])
  fields := #[]
  methods := #[]
  instanceTypes := #[]
  staticTypes := #[]
  resolved := Array.replicate 8 none
  statics := none }

def pool6 : Array CpInfo := pool [(1, u "java/io/Serializable"), (0, .class_ 1), (0, u "java/lang/Object"), (0, .class_ 3)] 3

/-- java/io/Serializable -/
def k6 : Class := { plain "java/io/Serializable" (some 0) with
  accessFlags := 1537
  interfaces := #[]
  cf := some (fileOf pool6 2 #[] #[] 1537 4 #[] #[])
  fields := #[]
  methods := #[]
  instanceTypes := #[]
  staticTypes := #[]
  resolved := Array.replicate 8 none
  statics := none }

/-- the primitive byte -/
def k7 : Class := { plain "byte" none with kind := .primitive 'B', accessFlags := 0x411 }
/-- [B -/
def k8 : Class := { plain "[B" (some 0) with kind := .array 7 .byte, interfaces := #[5, 6], accessFlags := 1041 }

/-- the primitive int -/
def k9 : Class := { plain "int" none with kind := .primitive 'I', accessFlags := 0x411 }
/-- [I -/
def k10 : Class := { plain "[I" (some 0) with kind := .array 9 .int, interfaces := #[5, 6], accessFlags := 1041 }

def heap : Heap := #[]
def classes : Array Class := #[k0, k1, k2, k3, k4, k5, k6, k7, k8, k9, k10]
def interned : List (Array UInt16 × Addr) := []
def slotsUsed : Nat := 0
def theMethod : MethodId := ⟨1, 1⟩
def args0 : Array Value := #[.int 5]
def aboutOver (below : List Frame) : State where
  vm := { classes := classes, interned := interned.toArray }
  heap := heap
  slotsUsed := slotsUsed
  threads := #[{ frames := .invoking theMethod args0 :: below }]
def below0 : List Frame := [.native { method := ⟨0, 0⟩, args := #[] }]
def about1 : State := aboutOver below0
def p0 : Program := .bare "" "" ""
def e0 : Env := launch0.env 0 0 0
theorem w_frames : about1.frames = Frame.invoking theMethod args0 :: below0 := rfl
set_option maxRecDepth 65536 in
theorem w_args : argsFit about1.vm theMethod args0 = true := by decide +kernel
set_option maxRecDepth 65536 in
theorem w_heap : heapFits about1 = true := by decide +kernel
set_option maxRecDepth 65536 in
theorem w_runnable : about1.curStatus? = some .runnable := by decide +kernel
set_option maxRecDepth 65536 in
theorem w_alone : about1.alone = true := by decide +kernel
set_option maxRecDepth 65536 in
theorem w_named : about1.methodNamed? x = some theMethod := by decide +kernel
set_option maxRecDepth 65536 in
theorem w_hears : about1.hears theMethod below0 = true := by decide +kernel
set_option maxRecDepth 65536 in
theorem w_ripe : about1.ripe theMethod args0 below0 = true := by decide +kernel
theorem w_running : about1.status = .running := rfl
set_option maxRecDepth 65536 in
theorem w_room : about1.hasRoom e0.platform room_1 = true :=
  launch0.hasRoom_least _ room_1 (by decide +kernel) (by decide +kernel) (by decide +kernel) (by decide +kernel) (by decide +kernel) (by decide +kernel)
theorem allAtoms_all (ts : List Jvm.Cond) (a : Array Jvm.Value) (st : Jvm.State) : (allAtoms ts).before a st = ts.all (fun c => c.before a st) := by
  induction ts with
  | nil => rfl
  | cons c t ih =>
    show (Jvm.Cond.and c (allAtoms t)).before a st = _
    rw [Jvm.Cond.before_and, ih, List.all_cons]
def words1 : List Jvm.Cond := Jvm.Cond.code x code maxLocals ret :: tables_1
/-- a 'code' word, met by the world's own term for the bytes: nothing is compared byte by byte -/
theorem code_word {y : MethodName} {bytes : ByteArray} {mx : Nat} {rt : Option FieldType} {a : Array Value} {s : State} {m : MethodId} {meth : Method} {c : Code} (h1 : s.methodNamed? y = some m) (h2 : s.vm.method? m = some meth) (h3 : meth.code = some c) (h4 : c.code = bytes)
    (h5 : (c.maxLocals == mx && c.exceptionTable.isEmpty && decide (c.maxStack ≤ mostOperands) && decide (meth.sig.returnType = rt) && !meth.locks && decide (parseMethodDescriptor y.desc = some meth.sig)) = true) : (Jvm.Cond.code y bytes mx rt).before a s = true := by
  simp only [Bool.and_eq_true, beq_iff_eq, Bool.not_eq_true', decide_eq_true_eq] at h5
  obtain ⟨⟨⟨⟨⟨g1, g2⟩, g3⟩, g4⟩, g5⟩, g6⟩ := h5
  simp [Cond.before, Cond.holds, Cond.value, h1, h2, h3, h4, g1, g2, g3, g4, g5, g6]
def isCode : Jvm.Cond → Bool
  | .code _ _ _ _ => true
  | _ => false
theorem all_split {L : List Jvm.Cond} {P : Jvm.Cond → Bool} (h1 : L.all (fun c => isCode c || P c) = true) (h2 : ∀ c ∈ L.filter isCode, P c = true) : L.all P = true := by
  refine List.all_eq_true.mpr fun c hc => ?_
  have h := List.all_eq_true.mp h1 c hc
  rcases Bool.eq_false_or_eq_true (isCode c) with hi | hi
  · exact h2 c (List.mem_filter.mpr ⟨hc, hi⟩)
  · simpa [hi] using h
set_option maxRecDepth 65536 in
theorem w_c0 : (Jvm.Cond.code x code maxLocals ret).before args0 about1 = true := code_word (m := ⟨1, 1⟩) (meth := k1m1) (c := k1c1) (by decide +kernel) rfl rfl rfl (by decide +kernel)
set_option maxRecDepth 65536 in
theorem w_c1 : (Jvm.Cond.code ({ cls := "com/example/dealwright/dealwright/HandRequirements", name := "points", desc := "(I)I" } : Jvm.MethodName) prog_13_method_17_code (3 : Nat) (Option.some Jvm.ClassFile.FieldType.int)).before args0 about1 = true := code_word (m := ⟨2, 0⟩) (meth := k2m0) (c := k2c0) (by decide +kernel) rfl rfl rfl (by decide +kernel)
set_option maxRecDepth 65536 in
theorem w_c2 : (Jvm.Cond.code ({ cls := "com/example/dealwright/dealwright/BridgeDeal", name := "cardPoints", desc := "(I)I" } : Jvm.MethodName) prog_1_method_5_code (2 : Nat) (Option.some Jvm.ClassFile.FieldType.int)).before args0 about1 = true := code_word (m := ⟨3, 0⟩) (meth := k3m0) (c := k3c0) (by decide +kernel) rfl rfl rfl (by decide +kernel)
set_option maxRecDepth 65536 in
theorem w_c3 : (Jvm.Cond.code ({ cls := "com/example/dealwright/dealwright/StandardDeck", name := "rank", desc := "(I)I" } : Jvm.MethodName) prog_27_method_3_code (1 : Nat) (Option.some Jvm.ClassFile.FieldType.int)).before args0 about1 = true := code_word (m := ⟨4, 1⟩) (meth := k4m1) (c := k4c1) (by decide +kernel) rfl rfl rfl (by decide +kernel)
def codes1 : List Jvm.Cond := [Jvm.Cond.code x code maxLocals ret, Jvm.Cond.code ({ cls := "com/example/dealwright/dealwright/HandRequirements", name := "points", desc := "(I)I" } : Jvm.MethodName) prog_13_method_17_code (3 : Nat) (Option.some Jvm.ClassFile.FieldType.int), Jvm.Cond.code ({ cls := "com/example/dealwright/dealwright/BridgeDeal", name := "cardPoints", desc := "(I)I" } : Jvm.MethodName) prog_1_method_5_code (2 : Nat) (Option.some Jvm.ClassFile.FieldType.int), Jvm.Cond.code ({ cls := "com/example/dealwright/dealwright/StandardDeck", name := "rank", desc := "(I)I" } : Jvm.MethodName) prog_27_method_3_code (1 : Nat) (Option.some Jvm.ClassFile.FieldType.int)]
set_option maxRecDepth 65536 in
theorem codes_eq : words1.filter isCode = codes1 := rfl
theorem w_codes : ∀ c ∈ words1.filter isCode, c.before args0 about1 = true := by
  rw [codes_eq]
  intro c hc
  simp only [codes1, List.mem_cons, List.not_mem_nil, or_false] at hc
  rcases hc with rfl | rfl | rfl | rfl
  · exact w_c0
  · exact w_c1
  · exact w_c2
  · exact w_c3
set_option maxRecDepth 65536 in
theorem w_t1 : words1.all (fun c => isCode c || c.before args0 about1) = true := by decide +kernel
theorem w_tables : (allAtoms (Jvm.Cond.code x code maxLocals ret :: tables_1)).before args0 about1 = true := by
  rw [allAtoms_all]
  show words1.all (fun c => c.before args0 about1) = true
  refine all_split ?_ w_codes
  rw [w_t1]
set_option maxRecDepth 65536 in
theorem w_case : (Jvm.Cond.and given_1 narrow_1).before args0 about1 = true := by decide +kernel
theorem w_applies : (headSpec (Jvm.Cond.code x code maxLocals ret :: tables_1) room_1).applies x e0.platform about1 = true :=
  (Spec.applies_iff w_frames).mpr ⟨w_running, w_runnable, w_alone, w_named, w_hears, w_ripe, w_room, w_tables⟩
theorem atStart : AtStart classFile x code maxLocals ret World_1 tables_1 room_1 Calls_1 rest_1 Pre_1 launch0 p0 e0 about1 theMethod args0 below0 :=
  ⟨lists_1, trivial, launch0.admits_env _ _ _, launch0.least_env, fairChoices_fair.cas, fairChoices_fair.clock, w_frames, w_args, w_heap, w_applies, trivial, trivial, w_case⟩
end start1
theorem witness_1 : WitnessClaimed_1 := ⟨start1.p0, start1.e0, start1.about1, start1.theMethod, start1.args0, start1.below0, start1.atStart⟩
end Jvm.Pilot.@@N@@
